import JvmDerived
import JvmDerived.Pilot.@@N@@Statement
import JvmDerived.Pilot.@@N@@Code
set_option linter.unusedVariables false
set_option linter.unusedSimpArgs false
namespace Jvm.Pilot.@@N@@
open Jvm Jvm.ClassFile Sem Op Lib Jvm.Free Jvm.Stand Jvm.LawKit Jvm.RoadKit Bundle Jvm.Pilot.@@N@@.Jvm.D
def Go (p : Program) (e : Env) (below : List Frame) (S : State) (P : State → Outcome → Prop) : Prop := ∃ t o, Steps p.tables e below S t ∧ P t o
abbrev Gm (p : Program) (e : Env) (below : List Frame) (T : State) (m : MethodId) (pc : Nat) (ls : Array Slot) (st : List Value) (P : State → Outcome → Prop) : Prop := Go p e below (T.setTop (mkF m pc ls st)) P
abbrev lv (x : Int64) : Slot := .val (.long x)
theorem own_in {p : Program} {e : Env} {below : List Frame} {T : State} {g g' : JFrame} {P : State → Outcome → Prop} (q : g = g') (h : Go p e below (T.setTop g') P) : ∃ s₂ o, Steps p.tables e below (T.setTop g) s₂ ∧ P s₂ o := q ▸ h
theorem own_go {p : Program} {e : Env} {below : List Frame} {S S' : State} {P : State → Outcome → Prop} (k : ∀ t, Steps p.tables e below S' t → Steps p.tables e below S t) (h : Go p e below S' P) : Go p e below S P := by
  obtain ⟨t, o, h1, h2⟩ := h
  exact ⟨t, o, k t h1, h2⟩
section Rets
variable {p : Program} {l : Launch} {e : Env} {R : Room} {s : State} {m : MethodId} {args : Array Value} {below : List Frame} {meth : Method} {c : Code} {T : State} {locs : List Loc} {cells slots : Nat}
theorem own_retI (X : Stand p l e R s m args below meth c T locs cells slots) (hx : p.tables.exec = Jvm.exec) (hlk : meth.locks = false) {pc : Nat} {Ls : Array Slot} {z : Int32} {t : FieldType} {Q : Option Value → Heap → List Loc → Prop} {C N : Nat} (hret : meth.sig.returnType = some t) (hn : narrow t (.int z) = .int z) (ht : t = .int ∨ t = .boolean ∨ t = .byte ∨ t = .char ∨ t = .short)
    (hd : decode c.code pc = .ok (.ireturn, 1)) {h : Heap} (eh : T.heap = h) (hq : Q (some (.int z)) h locs) (hC : cells ≤ C) (hN : slots ≤ N) : Go p e below (T.setTop (mkF m pc Ls [.int z])) (fun t o => t.status = .running ∧ Ended t below o ∧ ∃ v L, o = .returned v ∧ Q v t.heap L ∧ FrameEnd s o t L C N) := by
  subst eh
  obtain ⟨fs, hr, hrun, hended, hW, hsame⟩ := X.leave (v := some (.int z)) (fun h => by rw [hret] at h; cases h) hlk
  exact ⟨_, _, X.ireturnOut hx hret hn ht hd hr, hrun, hended, _, _, rfl, hq, ⟨_, rfl⟩, hW, hsame.mono hC hN⟩
theorem own_retL (X : Stand p l e R s m args below meth c T locs cells slots) (hx : p.tables.exec = Jvm.exec) (hlk : meth.locks = false) {pc : Nat} {Ls : Array Slot} {z : Int64} {Q : Option Value → Heap → List Loc → Prop} {C N : Nat} (hret : meth.sig.returnType = some .long)
    (hd : decode c.code pc = .ok (.lreturn, 1)) {h : Heap} (eh : T.heap = h) (hq : Q (some (.long z)) h locs) (hC : cells ≤ C) (hN : slots ≤ N) : Go p e below (T.setTop (mkF m pc Ls [.long z])) (fun t o => t.status = .running ∧ Ended t below o ∧ ∃ v L, o = .returned v ∧ Q v t.heap L ∧ FrameEnd s o t L C N) := by
  subst eh
  obtain ⟨fs, hr, hrun, hended, hW, hsame⟩ := X.leave (v := some (.long z)) (fun h => by rw [hret] at h; cases h) hlk
  exact ⟨_, _, X.lreturnOut hx hret hd hr, hrun, hended, _, _, rfl, hq, ⟨_, rfl⟩, hW, hsame.mono hC hN⟩
theorem own_retA (X : Stand p l e R s m args below meth c T locs cells slots) (hx : p.tables.exec = Jvm.exec) (hlk : meth.locks = false) {pc : Nat} {Ls : Array Slot} {w : Value} {t : FieldType} {Q : Option Value → Heap → List Loc → Prop} {C N : Nat} (hw : w.isRef = true) (hret : meth.sig.returnType = some t) (ht : t.isReference = true)
    (hd : decode c.code pc = .ok (.areturn, 1)) {h : Heap} (eh : T.heap = h) (hq : Q (some w) h locs) (hC : cells ≤ C) (hN : slots ≤ N) : Go p e below (T.setTop (mkF m pc Ls [w])) (fun t o => t.status = .running ∧ Ended t below o ∧ ∃ v L, o = .returned v ∧ Q v t.heap L ∧ FrameEnd s o t L C N) := by
  subst eh
  obtain ⟨fs, hr, hrun, hended, hW, hsame⟩ := X.leave (v := some w) (fun h => by rw [hret] at h; cases h) hlk
  exact ⟨_, _, X.areturnOut hx hw hret ht hd hr, hrun, hended, _, _, rfl, hq, ⟨_, rfl⟩, hW, hsame.mono hC hN⟩
theorem own_retV (X : Stand p l e R s m args below meth c T locs cells slots) (hx : p.tables.exec = Jvm.exec) (hlk : meth.locks = false) {pc : Nat} {Ls : Array Slot} {Q : Option Value → Heap → List Loc → Prop} {C N : Nat} (hret : meth.sig.returnType = none)
    (hd : decode c.code pc = .ok (.return_, 1)) {h : Heap} (eh : T.heap = h) (hq : Q none h locs) (hC : cells ≤ C) (hN : slots ≤ N) : Go p e below (T.setTop (mkF m pc Ls [])) (fun t o => t.status = .running ∧ Ended t below o ∧ ∃ v L, o = .returned v ∧ Q v t.heap L ∧ FrameEnd s o t L C N) := by
  subst eh
  obtain ⟨fs, hr, hrun, hended, hW, hsame⟩ := X.leave (v := none) (fun _ => rfl) hlk
  exact ⟨_, _, X.returnOut hx hret hd hr, hrun, hended, _, _, rfl, hq, ⟨_, rfl⟩, hW, hsame.mono hC hN⟩
end Rets

def Af (Z : State) (h : Heap) (a : Addr) (ty : FieldType) (n : Nat) (f : Nat → Value) : Prop := n < 2 ^ 31 ∧ ∃ c : Cell, Arr Z h a c ty ∧ c.slots.size = n ∧ ∀ i, i < n → c.slots[i]? = some (f i) ∧ fits ty (f i) = true
section AfS
variable {Z : State} {h h' : Heap} {a b : Addr} {ty : FieldType} {n : Nat} {f : Nat → Value} {v : Value} {sl : Nat} {ws : List Addr}
theorem Af.lt (A : Af Z h a ty n f) : a < h.size := by obtain ⟨-, c, A, -⟩ := A; exact A.lt
theorem Af.ext (A : Af Z h a ty n f) (E : Ext h h') : Af Z h' a ty n f := by obtain ⟨q, c, A, r⟩ := A; exact ⟨q, c, A.ext E, r⟩
theorem Af.other (A : Af Z h b ty n f) (W : Wr h h' a sl v) (q : b ≠ a) : Af Z h' b ty n f := by obtain ⟨q', c, A, r⟩ := A; exact ⟨q', c, A.other W q, r⟩
theorem Af.keep (A : Af Z h a ty n f) (K : Keep h h' ws) (q : a ∉ ws) : Af Z h' a ty n f := by obtain ⟨q', c, A, r⟩ := A; exact ⟨q', c, ⟨K.2.1 a c A.1 q, A.2⟩, r⟩
theorem Af.congr (A : Af Z h a ty n f) {g : Nat → Value} (q : ∀ i, i < n → g i = f i) : Af Z h a ty n g := by obtain ⟨q', c, A, r1, r2⟩ := A; exact ⟨q', c, A, r1, fun i hi => by rw [q i hi]; exact r2 i hi⟩
theorem Af.set (A : Af Z h a ty n f) (W : Wr h h' a sl v) (hv : fits ty v = true) : Af Z h' a ty n (fun i => if i = sl then v else f i) := by
  obtain ⟨q, c, A, r1, r2⟩ := A
  refine ⟨q, c.setSlot sl v, A.same W, by rw [sz_set]; exact r1, fun i hi => ?_⟩
  by_cases e : i = sl
  · subst e
    show _ = some (if i = i then v else f i) ∧ fits ty (if i = i then v else f i) = true
    rw [if_pos rfl]
    refine ⟨?_, hv⟩
    show (c.slots.setIfInBounds i v)[i]? = _
    rw [Array.getElem?_setIfInBounds_self_of_lt (by omega)]
  · show _ = some (if i = sl then v else f i) ∧ fits ty (if i = sl then v else f i) = true
    rw [if_neg e]
    refine ⟨?_, (r2 i hi).2⟩
    show (c.slots.setIfInBounds sl v)[i]? = _
    rw [Array.getElem?_setIfInBounds_ne (Ne.symm e)]
    exact (r2 i hi).1
theorem Af.new {k : ClassId} {z : Int32} (A : Arr Z h a (newA k ty z) ty) (q : ¬ z < 0) {n : Nat} (hn : z.toNatClampNeg = n) (hd : fits ty (defaultValue ty) = true) : Af Z h a ty n (fun _ => defaultValue ty) := by
  subst hn
  refine ⟨(back32 q).2, _, A, sz_new _ _ _, fun i hi => ⟨?_, hd⟩⟩
  simp [newA, hi]
theorem Af.arv (A : Af Z h a ty n f) (dv : Value) : ∃ k, Arv Z h a k ty n.toInt32 ((List.range n).map f) dv := by
  obtain ⟨q, c, A, r1, r2⟩ := A
  have hz : n.toInt32.toNatClampNeg = n := by
    show n.toInt32.toInt.toNat = n
    rw [len_toInt q]; rfl
  have hg : ∀ i, i < n → ((List.range n).map f).getD i dv = f i := fun i hi => by
    rw [List.getD_eq_getElem?_getD]; simp [hi]
  refine ⟨_, c, A, rfl, by rw [hz]; exact r1, ?_, fun i hi => ?_, fun i hi => ?_⟩
  · rw [Int32.lt_iff_toInt_lt, len_toInt q]; simp
  · rw [hg i (r1 ▸ hi)]; exact (r2 i (r1 ▸ hi)).1
  · rw [hg i (r1 ▸ hi)]; exact (r2 i (r1 ▸ hi)).2
theorem Af.ofArv {k : ClassId} {z : Int32} {vs : List Value} {dv : Value} (F : Arv Z h a k ty z vs dv) (hz : z.toNatClampNeg = n) (hf : ∀ i, i < n → f i = vs.getD i dv) : Af Z h a ty n f := by
  obtain ⟨c, A, -, S, q, H, G⟩ := F
  subst hz
  refine ⟨(back32 q).2, c, A, S, fun i hi => ?_⟩
  rw [hf i hi]
  exact ⟨H i (S ▸ hi), G i (S ▸ hi)⟩
theorem nat32 {n : Nat} (q : n < 2 ^ 31) : n.toInt32.toNatClampNeg = n := by
  show n.toInt32.toInt.toNat = n
  rw [len_toInt q]; rfl
theorem nn32 {n : Nat} (q : n < 2 ^ 31) : ¬ n.toInt32 < 0 := by rw [Int32.lt_iff_toInt_lt, len_toInt q]; simp
end AfS
section AfX
variable {p : Program} {l : Launch} {e : Env} {R : Room} {s : State} {m : MethodId} {args : Array Value} {below : List Frame} {meth : Method} {c : Code} {T : State} {locs : List Loc} {cells slots : Nat} {Z : State} {a0 : Array Value} {h : Heap} {a : Addr} {ty : FieldType} {n : Nat} {f : Nat → Value}
theorem own_len (X : Stand p l e R s m args below meth c T locs cells slots) (hx : p.tables.exec = Jvm.exec) (hZ : Z.Warmed39 s.vm) (eT : T.heap = h) (A : Af Z h a ty n f) {z : Int32} (hz : n.toInt32 = z) {g : JFrame} (hg : g.method = m) {rest : List Value} (hs : g.stack = .ref a :: rest) (hd : decode c.code g.pc = .ok (.arraylength, 1)) {target : State}
    (hr : Steps p.tables e below (T.setTop { g with pc := g.pc + 1, stack := .int z :: rest }) target) : Steps p.tables e below (T.setTop g) target := by
  obtain ⟨q, cl, A, r1, r2⟩ := A
  refine X.arraylength hx (by rw [eT]; exact A.1) (State.isArrayOf_alike hZ.alike A.2.1) hg hs hd _ ?_
  rw [r1, hz]; exact hr
theorem own_inb {cl : Cell} {j : Int32} {k : Nat} (r : cl.slots.size = n) (hj : ¬ j < 0) (hk : j.toNatClampNeg = k) (hkn : k < n) : ¬ (j < 0 ∨ cl.slots.size ≤ j.toNatClampNeg) := by
  rw [r, hk]; rintro (q | q)
  · exact hj q
  · omega
theorem own_ldI (X : Stand p l e R s m args below meth c T locs cells slots) (hx : p.tables.exec = Jvm.exec) (hZ : Z.Warmed39 s.vm) (eT : T.heap = h) (A : Af Z h a .int n f) {j : Int32} {k : Nat} (hj : ¬ j < 0) (hk : j.toNatClampNeg = k) (hkn : k < n) {w : Value} (hv : f k = w) {g : JFrame} (hg : g.method = m) {rest : List Value} (hs : g.stack = .int j :: .ref a :: rest) (hd : decode c.code g.pc = .ok (.iaload, 1)) {target : State}
    (hr : Steps p.tables e below (T.setTop { g with pc := g.pc + 1, stack := w :: rest }) target) : Steps p.tables e below (T.setTop g) target := by
  obtain ⟨q, cl, A, r1, r2⟩ := A
  exact X.iaload hx (by rw [eT]; exact A.1) (State.isArrayOf_alike hZ.alike A.2.1) A.2.2 (own_inb r1 hj hk hkn) (by rw [hk, (r2 k hkn).1, hv]) hg hs hd _ hr
theorem own_ldJ (X : Stand p l e R s m args below meth c T locs cells slots) (hx : p.tables.exec = Jvm.exec) (hZ : Z.Warmed39 s.vm) (eT : T.heap = h) (A : Af Z h a .long n f) {j : Int32} {k : Nat} (hj : ¬ j < 0) (hk : j.toNatClampNeg = k) (hkn : k < n) {w : Value} (hv : f k = w) {g : JFrame} (hg : g.method = m) {rest : List Value} (hs : g.stack = .int j :: .ref a :: rest) (hd : decode c.code g.pc = .ok (.laload, 1)) {target : State}
    (hr : Steps p.tables e below (T.setTop { g with pc := g.pc + 1, stack := w :: rest }) target) : Steps p.tables e below (T.setTop g) target := by
  obtain ⟨q, cl, A, r1, r2⟩ := A
  exact X.laload hx (by rw [eT]; exact A.1) (State.isArrayOf_alike hZ.alike A.2.1) A.2.2 (own_inb r1 hj hk hkn) (by rw [hk, (r2 k hkn).1, hv]) hg hs hd _ hr
theorem own_ldB (X : Stand p l e R s m args below meth c T locs cells slots) (hx : p.tables.exec = Jvm.exec) (hZ : Z.Warmed39 s.vm) (eT : T.heap = h) (A : Af Z h a .byte n f) {j : Int32} {k : Nat} (hj : ¬ j < 0) (hk : j.toNatClampNeg = k) (hkn : k < n) {w : Value} (hv : f k = w) {g : JFrame} (hg : g.method = m) {rest : List Value} (hs : g.stack = .int j :: .ref a :: rest) (hd : decode c.code g.pc = .ok (.baload, 1)) {target : State}
    (hr : Steps p.tables e below (T.setTop { g with pc := g.pc + 1, stack := w :: rest }) target) : Steps p.tables e below (T.setTop g) target := by
  obtain ⟨q, cl, A, r1, r2⟩ := A
  exact X.baloadBytes hx (by rw [eT]; exact A.1) (State.isArrayOf_alike hZ.alike A.2.1) A.2.2 (own_inb r1 hj hk hkn) (by rw [hk, (r2 k hkn).1, hv]) hg hs hd _ hr
theorem own_ldZ (X : Stand p l e R s m args below meth c T locs cells slots) (hx : p.tables.exec = Jvm.exec) (hZ : Z.Warmed39 s.vm) (eT : T.heap = h) (A : Af Z h a .boolean n f) {j : Int32} {k : Nat} (hj : ¬ j < 0) (hk : j.toNatClampNeg = k) (hkn : k < n) {w : Value} (hv : f k = w) {g : JFrame} (hg : g.method = m) {rest : List Value} (hs : g.stack = .int j :: .ref a :: rest) (hd : decode c.code g.pc = .ok (.baload, 1)) {target : State}
    (hr : Steps p.tables e below (T.setTop { g with pc := g.pc + 1, stack := w :: rest }) target) : Steps p.tables e below (T.setTop g) target := by
  obtain ⟨q, cl, A, r1, r2⟩ := A
  exact X.baloadBooleans hx (by rw [eT]; exact A.1) (State.isArrayOf_alike hZ.alike A.2.1) A.2.2 (own_inb r1 hj hk hkn) (by rw [hk, (r2 k hkn).1, hv]) hg hs hd _ hr
theorem own_stI (X : Stand p l e R s m args below meth c T locs cells slots) (hx : p.tables.exec = Jvm.exec) (hZ : Z.Warmed39 s.vm) (eT : T.heap = h) (A : Af Z h a .int n f) {j x : Int32} {k : Nat} (hj : ¬ j < 0) (hk : j.toNatClampNeg = k) (hkn : k < n) {g : JFrame} (hg : g.method = m) {rest : List Value} (hs : g.stack = .int x :: .int j :: .ref a :: rest) (hd : decode c.code g.pc = .ok (.iastore, 1)) :
    ∃ T' h', Stand p l e R s m args below meth c T' (locs ++ [⟨a, k⟩]) cells slots ∧ T'.heap = h' ∧ Wr h h' a k (.int x) ∧ Af Z h' a .int n (fun i => if i = k then .int x else f i) ∧ ∀ target, Steps p.tables e below (T'.setTop { g with pc := g.pc + 1, stack := rest }) target → Steps p.tables e below (T.setTop g) target := by
  obtain ⟨q, cl, B, r1, r2⟩ := id A
  obtain ⟨T', h', X', e', W, st⟩ := stI X hx hZ eT B (own_inb r1 hj hk hkn) hg hs hd
  rw [hk] at X' W
  exact ⟨T', h', X', e', W, A.set W rfl, st⟩
theorem own_stJ (X : Stand p l e R s m args below meth c T locs cells slots) (hx : p.tables.exec = Jvm.exec) (hZ : Z.Warmed39 s.vm) (eT : T.heap = h) (A : Af Z h a .long n f) {j : Int32} {x : Int64} {k : Nat} (hj : ¬ j < 0) (hk : j.toNatClampNeg = k) (hkn : k < n) {g : JFrame} (hg : g.method = m) {rest : List Value} (hs : g.stack = .long x :: .int j :: .ref a :: rest) (hd : decode c.code g.pc = .ok (.lastore, 1)) :
    ∃ T' h', Stand p l e R s m args below meth c T' (locs ++ [⟨a, k⟩]) cells slots ∧ T'.heap = h' ∧ Wr h h' a k (.long x) ∧ Af Z h' a .long n (fun i => if i = k then .long x else f i) ∧ ∀ target, Steps p.tables e below (T'.setTop { g with pc := g.pc + 1, stack := rest }) target → Steps p.tables e below (T.setTop g) target := by
  obtain ⟨q, cl, B, r1, r2⟩ := id A
  obtain ⟨T', h', X', e', W, st⟩ := stJ X hx hZ eT B (own_inb r1 hj hk hkn) hg hs hd
  rw [hk] at X' W
  exact ⟨T', h', X', e', W, A.set W rfl, st⟩
theorem own_stD (X : Stand p l e R s m args below meth c T locs cells slots) (hx : p.tables.exec = Jvm.exec) (hZ : Z.Warmed39 s.vm) (eT : T.heap = h) (A : Af Z h a .double n f) {j : Int32} {x : UInt64} {k : Nat} (hj : ¬ j < 0) (hk : j.toNatClampNeg = k) (hkn : k < n) {g : JFrame} (hg : g.method = m) {rest : List Value} (hs : g.stack = .double x :: .int j :: .ref a :: rest) (hd : decode c.code g.pc = .ok (.dastore, 1)) :
    ∃ T' h', Stand p l e R s m args below meth c T' (locs ++ [⟨a, k⟩]) cells slots ∧ T'.heap = h' ∧ Wr h h' a k (.double x) ∧ Af Z h' a .double n (fun i => if i = k then .double x else f i) ∧ ∀ target, Steps p.tables e below (T'.setTop { g with pc := g.pc + 1, stack := rest }) target → Steps p.tables e below (T.setTop g) target := by
  obtain ⟨q, cl, B, r1, r2⟩ := id A
  obtain ⟨T', h', X', e', W, st⟩ := stD X hx hZ eT B (own_inb r1 hj hk hkn) hg hs hd
  rw [hk] at X' W
  exact ⟨T', h', X', e', W, A.set W rfl, st⟩
theorem own_stZ (X : Stand p l e R s m args below meth c T locs cells slots) (hx : p.tables.exec = Jvm.exec) (hZ : Z.Warmed39 s.vm) (eT : T.heap = h) (A : Af Z h a .boolean n f) {j x y : Int32} {k : Nat} (hj : ¬ j < 0) (hk : j.toNatClampNeg = k) (hkn : k < n) (hy : nar .boolean x = y) {g : JFrame} (hg : g.method = m) {rest : List Value} (hs : g.stack = .int x :: .int j :: .ref a :: rest) (hd : decode c.code g.pc = .ok (.bastore, 1)) :
    ∃ T' h', Stand p l e R s m args below meth c T' (locs ++ [⟨a, k⟩]) cells slots ∧ T'.heap = h' ∧ Wr h h' a k (.int y) ∧ Af Z h' a .boolean n (fun i => if i = k then .int y else f i) ∧ ∀ target, Steps p.tables e below (T'.setTop { g with pc := g.pc + 1, stack := rest }) target → Steps p.tables e below (T.setTop g) target := by
  obtain ⟨q, cl, B, r1, r2⟩ := id A
  obtain ⟨T', h', X', e', W, st⟩ := stZ X hx hZ eT B (own_inb r1 hj hk hkn) hg hs hd
  subst hk hy
  exact ⟨T', h', X', e', W, A.set W (fits_nar_bool x), st⟩
theorem own_stB (X : Stand p l e R s m args below meth c T locs cells slots) (hx : p.tables.exec = Jvm.exec) (hZ : Z.Warmed39 s.vm) (eT : T.heap = h) (A : Af Z h a .byte n f) {j x y : Int32} {k : Nat} (hj : ¬ j < 0) (hk : j.toNatClampNeg = k) (hkn : k < n) (hy : nar .byte x = y) {g : JFrame} (hg : g.method = m) {rest : List Value} (hs : g.stack = .int x :: .int j :: .ref a :: rest) (hd : decode c.code g.pc = .ok (.bastore, 1)) :
    ∃ T' h', Stand p l e R s m args below meth c T' (locs ++ [⟨a, k⟩]) cells slots ∧ T'.heap = h' ∧ Wr h h' a k (.int y) ∧ Af Z h' a .byte n (fun i => if i = k then .int y else f i) ∧ ∀ target, Steps p.tables e below (T'.setTop { g with pc := g.pc + 1, stack := rest }) target → Steps p.tables e below (T.setTop g) target := by
  obtain ⟨q, cl, B, r1, r2⟩ := id A
  obtain ⟨T', h', X', e', W, st⟩ := stB X hx hZ eT B (own_inb r1 hj hk hkn) hg hs hd
  subst hk hy
  exact ⟨T', h', X', e', W, A.set W (fits_nar_byte x), st⟩
end AfX
theorem d3_0 : decode jdk_65_method_113_code 0 = .ok (.iconst 0, 1) := by decide +kernel
theorem d3_1 : decode jdk_65_method_113_code 1 = .ok (.istore_n 3, 1) := by decide +kernel
theorem d3_2 : decode jdk_65_method_113_code 2 = .ok (.aload_n 0, 1) := by decide +kernel
theorem d3_3 : decode jdk_65_method_113_code 3 = .ok (.arraylength, 1) := by decide +kernel
theorem d3_4 : decode jdk_65_method_113_code 4 = .ok (.istore 4, 2) := by decide +kernel
theorem d3_6 : decode jdk_65_method_113_code 6 = .ok (.iload_n 3, 1) := by decide +kernel
theorem d3_7 : decode jdk_65_method_113_code 7 = .ok (.iload 4, 2) := by decide +kernel
theorem d3_9 : decode jdk_65_method_113_code 9 = .ok (.if_icmp .ge 13, 3) := by decide +kernel
theorem d3_22 : decode jdk_65_method_113_code 22 = .ok (.return_, 1) := by decide +kernel
theorem own_pn_rm3_0 : plainName "java/util/Arrays" = true := by first | (simp [plainName, overriddenIn]; done) | decide +kernel
theorem own_ef_rm3_0 (m : MethodId) (r0 : Addr) (x1 : UInt64) : entryFrame m #[(.ref r0), (.double x1)] 5 = mkF m 0 #[.val (.ref r0), .val (.double x1), .second, .unset, .unset] [] := by first | (simp [entryFrame, mkF, argsToLocals, Value.category]; done) | rfl
def Q3_0 (Z : State) (r0 : Addr) (x1 : UInt64) (f : Nat → Value) (h0 : Heap) (n0 : Nat) (v : Option Value) (h : Heap) (L : List Loc) : Prop := v = none ∧ Fr n0 L ∧ Keep h0 h [r0] ∧ ∃ f', Af Z h r0 .double 0 f'
set_option maxRecDepth 65536 in
set_option maxHeartbeats 40000000 in
theorem rm3_0 (l : Launch) (Z : State) (a0 : Array Value) (hw : ∀ d ∈ tables_1, d.before a0 Z = true) (ws : List Jvm.Cond) (r0 : Addr) (x1 : UInt64) (f : Nat → Value) (h0 : Heap) (n0 : Nat) (Z0 : n0 ≤ h0.size) (A : Af Z h0 r0 .double 0 f) (g_r0 : n0 ≤ r0) :
    MetFree l (⟨"java/util/Arrays", "fill", "([DD)V"⟩ : MethodName) (head1 (Jvm.Cond.code (⟨"java/util/Arrays", "fill", "([DD)V"⟩ : MethodName) jdk_65_method_113_code 5 none :: ws) ({ frames := 0, cells := 0, slots := 0, locals := 0 } : Room)) (fun a U => a = #[(.ref r0), (.double x1)] ∧ Z.Warmed39 U.vm ∧ U.heap = h0) (fun _ _ _ _ _ => True) (fun _ U o U' => ∃ v L, o = .returned v ∧ Q3_0 Z r0 x1 f h0 n0 v U'.heap L ∧ FrameEnd U o U' L ({ frames := 0, cells := 0, slots := 0, locals := 0 } : Room).cells ({ frames := 0, cells := 0, slots := 0, locals := 0 } : Room).slots) := by
  refine MetFree.of_bodySF (plainFor_of_name own_pn_rm3_0) hisR ?_
  intro p e s m args below meth cO s₁ Bd hml0 hP hK
  obtain ⟨rfl, hZ, hh⟩ := hP
  have hx := Bd.exec
  have hby := Bd.bytes
  have hml : cO.maxLocals = 5 := hml0
  have hown : s.vm.findClass "java/util/Arrays" = some m.cls := findClass_of_methodNamed Bd.named
  have hnm := (name_of_methodNamed Bd.named Bd.method).1
  have hlk : meth.locks = false := BodyLoose.notSynchronized Bd
  have X0 : Stand p l e ({ frames := 0, cells := 0, slots := 0, locals := 0 } : Room) s m #[(.ref r0), (.double x1)] below meth cO s₁ [] 0 0 := Stand.of_body Bd
  have e0 : s₁.heap = h0 := by rw [← hh, Bd.state]; rfl
  have N0 := Fr.nil n0
  refine own_in (own_ef_rm3_0 m r0 x1) ?_
  show Gm p e below s₁ m 0 #[rv r0, .val (.double x1), .second, .unset, .unset] [] _
  refine own_go (fun t₀ k₀ => XS.iconst X0.here hx rfl (Jvm.hb hby d3_0) k₀) ?_
  show Gm p e below s₁ m 1 #[rv r0, .val (.double x1), .second, .unset, .unset] [(.int (0 : Int32))] _
  refine own_go (fun t₀ k₀ => XS.istoreN X0.here hx rfl (Jvm.hb hby d3_1) rfl (l' := #[rv r0, .val (.double x1), .second, iv (0 : Int32), .unset]) rfl k₀) ?_
  show Gm p e below s₁ m 2 #[rv r0, .val (.double x1), .second, iv (0 : Int32), .unset] [] _
  refine own_go (fun t₀ k₀ => XS.aloadN X0.here hx rfl (Jvm.hb hby d3_2) rfl rfl k₀) ?_
  show Gm p e below s₁ m 3 #[rv r0, .val (.double x1), .second, iv (0 : Int32), .unset] [(.ref r0)] _
  refine own_go (fun t₀ k₀ => own_len X0 hx hZ e0 A (z := (0 : Int32)) rfl (g := (mkF m 3 #[rv r0, .val (.double x1), .second, iv (0 : Int32), .unset] [(.ref r0)])) rfl rfl (Jvm.hb hby d3_3) k₀) ?_
  show Gm p e below s₁ m 4 #[rv r0, .val (.double x1), .second, iv (0 : Int32), .unset] [(.int (0 : Int32))] _
  refine own_go (fun t₀ k₀ => XS.istore X0.here hx rfl (Jvm.hb hby d3_4) rfl (l' := #[rv r0, .val (.double x1), .second, iv (0 : Int32), iv (0 : Int32)]) rfl k₀) ?_
  show Gm p e below s₁ m 6 #[rv r0, .val (.double x1), .second, iv (0 : Int32), iv (0 : Int32)] [] _
  refine own_go (fun t₀ k₀ => XS.iloadN X0.here hx rfl (Jvm.hb hby d3_6) rfl k₀) ?_
  show Gm p e below s₁ m 7 #[rv r0, .val (.double x1), .second, iv (0 : Int32), iv (0 : Int32)] [(.int (0 : Int32))] _
  refine own_go (fun t₀ k₀ => XS.iload X0.here hx rfl (Jvm.hb hby d3_7) rfl k₀) ?_
  show Gm p e below s₁ m 9 #[rv r0, .val (.double x1), .second, iv (0 : Int32), iv (0 : Int32)] [(.int (0 : Int32)), (.int (0 : Int32))] _
  refine own_go (fun t₀ k₀ => XS.icmpYes X0.here hx rfl (pc0 := 9) (pc' := 22) rfl (Jvm.hb hby d3_9) rfl (XT.ii_ge_t (by decide)) (by decide) (by decide) k₀) ?_
  show Gm p e below s₁ m 22 #[rv r0, .val (.double x1), .second, iv (0 : Int32), iv (0 : Int32)] [] _
  exact own_retV X0 hx hlk Bd.returns (Jvm.hb hby d3_22) e0 ⟨rfl, N0, (Keep.refl h0 [r0]), _, A⟩ (by decide) (by decide)
theorem d4_0 : decode jdk_65_method_103_code 0 = .ok (.iconst 0, 1) := by decide +kernel
theorem d4_1 : decode jdk_65_method_103_code 1 = .ok (.istore_n 2, 1) := by decide +kernel
theorem d4_2 : decode jdk_65_method_103_code 2 = .ok (.aload_n 0, 1) := by decide +kernel
theorem d4_3 : decode jdk_65_method_103_code 3 = .ok (.arraylength, 1) := by decide +kernel
theorem d4_4 : decode jdk_65_method_103_code 4 = .ok (.istore_n 3, 1) := by decide +kernel
theorem d4_5 : decode jdk_65_method_103_code 5 = .ok (.iload_n 2, 1) := by decide +kernel
theorem d4_6 : decode jdk_65_method_103_code 6 = .ok (.iload_n 3, 1) := by decide +kernel
theorem d4_7 : decode jdk_65_method_103_code 7 = .ok (.if_icmp .ge 13, 3) := by decide +kernel
theorem d4_20 : decode jdk_65_method_103_code 20 = .ok (.return_, 1) := by decide +kernel
theorem own_pn_rm4_0 : plainName "java/util/Arrays" = true := by first | (simp [plainName, overriddenIn]; done) | decide +kernel
theorem own_ef_rm4_0 (m : MethodId) (r0 : Addr) (p1 : Int32) : entryFrame m #[(.ref r0), (.int p1)] 4 = mkF m 0 #[.val (.ref r0), .val (.int p1), .unset, .unset] [] := by first | (simp [entryFrame, mkF, argsToLocals, Value.category]; done) | rfl
def Q4_0 (Z : State) (r0 : Addr) (p1 : Int32) (f : Nat → Value) (h0 : Heap) (n0 : Nat) (v : Option Value) (h : Heap) (L : List Loc) : Prop := v = none ∧ Fr n0 L ∧ Keep h0 h [r0] ∧ Af Z h r0 .int 0 (fun _ => .int p1)
set_option maxRecDepth 65536 in
set_option maxHeartbeats 40000000 in
theorem rm4_0 (l : Launch) (Z : State) (a0 : Array Value) (hw : ∀ d ∈ tables_1, d.before a0 Z = true) (ws : List Jvm.Cond) (r0 : Addr) (p1 : Int32) (f : Nat → Value) (h0 : Heap) (n0 : Nat) (Z0 : n0 ≤ h0.size) (A : Af Z h0 r0 .int 0 f) (g_r0 : n0 ≤ r0) :
    MetFree l (⟨"java/util/Arrays", "fill", "([II)V"⟩ : MethodName) (head1 (Jvm.Cond.code (⟨"java/util/Arrays", "fill", "([II)V"⟩ : MethodName) jdk_65_method_103_code 4 none :: ws) ({ frames := 0, cells := 0, slots := 0, locals := 0 } : Room)) (fun a U => a = #[(.ref r0), (.int p1)] ∧ Z.Warmed39 U.vm ∧ U.heap = h0) (fun _ _ _ _ _ => True) (fun _ U o U' => ∃ v L, o = .returned v ∧ Q4_0 Z r0 p1 f h0 n0 v U'.heap L ∧ FrameEnd U o U' L ({ frames := 0, cells := 0, slots := 0, locals := 0 } : Room).cells ({ frames := 0, cells := 0, slots := 0, locals := 0 } : Room).slots) := by
  refine MetFree.of_bodySF (plainFor_of_name own_pn_rm4_0) hisR ?_
  intro p e s m args below meth cO s₁ Bd hml0 hP hK
  obtain ⟨rfl, hZ, hh⟩ := hP
  have hx := Bd.exec
  have hby := Bd.bytes
  have hml : cO.maxLocals = 4 := hml0
  have hown : s.vm.findClass "java/util/Arrays" = some m.cls := findClass_of_methodNamed Bd.named
  have hnm := (name_of_methodNamed Bd.named Bd.method).1
  have hlk : meth.locks = false := BodyLoose.notSynchronized Bd
  have X0 : Stand p l e ({ frames := 0, cells := 0, slots := 0, locals := 0 } : Room) s m #[(.ref r0), (.int p1)] below meth cO s₁ [] 0 0 := Stand.of_body Bd
  have e0 : s₁.heap = h0 := by rw [← hh, Bd.state]; rfl
  have N0 := Fr.nil n0
  refine own_in (own_ef_rm4_0 m r0 p1) ?_
  show Gm p e below s₁ m 0 #[rv r0, iv p1, .unset, .unset] [] _
  refine own_go (fun t₀ k₀ => XS.iconst X0.here hx rfl (Jvm.hb hby d4_0) k₀) ?_
  show Gm p e below s₁ m 1 #[rv r0, iv p1, .unset, .unset] [(.int (0 : Int32))] _
  refine own_go (fun t₀ k₀ => XS.istoreN X0.here hx rfl (Jvm.hb hby d4_1) rfl (l' := #[rv r0, iv p1, iv (0 : Int32), .unset]) rfl k₀) ?_
  show Gm p e below s₁ m 2 #[rv r0, iv p1, iv (0 : Int32), .unset] [] _
  refine own_go (fun t₀ k₀ => XS.aloadN X0.here hx rfl (Jvm.hb hby d4_2) rfl rfl k₀) ?_
  show Gm p e below s₁ m 3 #[rv r0, iv p1, iv (0 : Int32), .unset] [(.ref r0)] _
  refine own_go (fun t₀ k₀ => own_len X0 hx hZ e0 A (z := (0 : Int32)) rfl (g := (mkF m 3 #[rv r0, iv p1, iv (0 : Int32), .unset] [(.ref r0)])) rfl rfl (Jvm.hb hby d4_3) k₀) ?_
  show Gm p e below s₁ m 4 #[rv r0, iv p1, iv (0 : Int32), .unset] [(.int (0 : Int32))] _
  refine own_go (fun t₀ k₀ => XS.istoreN X0.here hx rfl (Jvm.hb hby d4_4) rfl (l' := #[rv r0, iv p1, iv (0 : Int32), iv (0 : Int32)]) rfl k₀) ?_
  show Gm p e below s₁ m 5 #[rv r0, iv p1, iv (0 : Int32), iv (0 : Int32)] [] _
  refine own_go (fun t₀ k₀ => XS.iloadN X0.here hx rfl (Jvm.hb hby d4_5) rfl k₀) ?_
  show Gm p e below s₁ m 6 #[rv r0, iv p1, iv (0 : Int32), iv (0 : Int32)] [(.int (0 : Int32))] _
  refine own_go (fun t₀ k₀ => XS.iloadN X0.here hx rfl (Jvm.hb hby d4_6) rfl k₀) ?_
  show Gm p e below s₁ m 7 #[rv r0, iv p1, iv (0 : Int32), iv (0 : Int32)] [(.int (0 : Int32)), (.int (0 : Int32))] _
  refine own_go (fun t₀ k₀ => XS.icmpYes X0.here hx rfl (pc0 := 7) (pc' := 20) rfl (Jvm.hb hby d4_7) rfl (XT.ii_ge_t (by decide)) (by decide) (by decide) k₀) ?_
  show Gm p e below s₁ m 20 #[rv r0, iv p1, iv (0 : Int32), iv (0 : Int32)] [] _
  exact own_retV X0 hx hlk Bd.returns (Jvm.hb hby d4_20) e0 ⟨rfl, N0, (Keep.refl h0 [r0]), (Af.congr A (fun i hi => absurd hi (by omega)))⟩ (by decide) (by decide)
theorem d1_0 : decode prog_63_method_1_code 0 = .ok (.aload_n 0, 1) := by decide +kernel
theorem d1_1 : decode prog_63_method_1_code 1 = .ok (.invokespecial 1, 3) := by decide +kernel
theorem d1_4 : decode prog_63_method_1_code 4 = .ok (.aload_n 0, 1) := by decide +kernel
theorem d1_5 : decode prog_63_method_1_code 5 = .ok (.iload_n 1, 1) := by decide +kernel
theorem d1_6 : decode prog_63_method_1_code 6 = .ok (.newarray .int, 2) := by decide +kernel
theorem d1_8 : decode prog_63_method_1_code 8 = .ok (.putfield 7, 3) := by decide +kernel
theorem d1_11 : decode prog_63_method_1_code 11 = .ok (.aload_n 0, 1) := by decide +kernel
theorem d1_12 : decode prog_63_method_1_code 12 = .ok (.iload_n 1, 1) := by decide +kernel
theorem d1_13 : decode prog_63_method_1_code 13 = .ok (.newarray .int, 2) := by decide +kernel
theorem d1_15 : decode prog_63_method_1_code 15 = .ok (.putfield 13, 3) := by decide +kernel
theorem d1_18 : decode prog_63_method_1_code 18 = .ok (.aload_n 0, 1) := by decide +kernel
theorem d1_19 : decode prog_63_method_1_code 19 = .ok (.iload_n 1, 1) := by decide +kernel
theorem d1_20 : decode prog_63_method_1_code 20 = .ok (.newarray .int, 2) := by decide +kernel
theorem d1_22 : decode prog_63_method_1_code 22 = .ok (.putfield 16, 3) := by decide +kernel
theorem d1_25 : decode prog_63_method_1_code 25 = .ok (.aload_n 0, 1) := by decide +kernel
theorem d1_26 : decode prog_63_method_1_code 26 = .ok (.iload_n 1, 1) := by decide +kernel
theorem d1_27 : decode prog_63_method_1_code 27 = .ok (.newarray .double, 2) := by decide +kernel
theorem d1_29 : decode prog_63_method_1_code 29 = .ok (.putfield 19, 3) := by decide +kernel
theorem d1_32 : decode prog_63_method_1_code 32 = .ok (.aload_n 0, 1) := by decide +kernel
theorem d1_33 : decode prog_63_method_1_code 33 = .ok (.iload_n 1, 1) := by decide +kernel
theorem d1_34 : decode prog_63_method_1_code 34 = .ok (.newarray .double, 2) := by decide +kernel
theorem d1_36 : decode prog_63_method_1_code 36 = .ok (.putfield 23, 3) := by decide +kernel
theorem d1_39 : decode prog_63_method_1_code 39 = .ok (.aload_n 0, 1) := by decide +kernel
theorem d1_40 : decode prog_63_method_1_code 40 = .ok (.iload_n 1, 1) := by decide +kernel
theorem d1_41 : decode prog_63_method_1_code 41 = .ok (.newarray .int, 2) := by decide +kernel
theorem d1_43 : decode prog_63_method_1_code 43 = .ok (.putfield 26, 3) := by decide +kernel
theorem d1_46 : decode prog_63_method_1_code 46 = .ok (.aload_n 0, 1) := by decide +kernel
theorem d1_47 : decode prog_63_method_1_code 47 = .ok (.iload_n 1, 1) := by decide +kernel
theorem d1_48 : decode prog_63_method_1_code 48 = .ok (.newarray .double, 2) := by decide +kernel
theorem d1_50 : decode prog_63_method_1_code 50 = .ok (.putfield 29, 3) := by decide +kernel
theorem d1_53 : decode prog_63_method_1_code 53 = .ok (.aload_n 0, 1) := by decide +kernel
theorem d1_54 : decode prog_63_method_1_code 54 = .ok (.getfield 29, 3) := by decide +kernel
theorem d1_57 : decode prog_63_method_1_code 57 = .ok (.ldc2_w 34, 3) := by decide +kernel
theorem d1_60 : decode prog_63_method_1_code 60 = .ok (.invokestatic 36, 3) := by decide +kernel
theorem d1_63 : decode prog_63_method_1_code 63 = .ok (.aload_n 0, 1) := by decide +kernel
theorem d1_64 : decode prog_63_method_1_code 64 = .ok (.iload_n 1, 1) := by decide +kernel
theorem d1_65 : decode prog_63_method_1_code 65 = .ok (.newarray .double, 2) := by decide +kernel
theorem d1_67 : decode prog_63_method_1_code 67 = .ok (.putfield 42, 3) := by decide +kernel
theorem d1_70 : decode prog_63_method_1_code 70 = .ok (.aload_n 0, 1) := by decide +kernel
theorem d1_71 : decode prog_63_method_1_code 71 = .ok (.getfield 42, 3) := by decide +kernel
theorem d1_74 : decode prog_63_method_1_code 74 = .ok (.ldc2_w 45, 3) := by decide +kernel
theorem d1_77 : decode prog_63_method_1_code 77 = .ok (.invokestatic 36, 3) := by decide +kernel
theorem d1_80 : decode prog_63_method_1_code 80 = .ok (.aload_n 0, 1) := by decide +kernel
theorem d1_81 : decode prog_63_method_1_code 81 = .ok (.iload_n 1, 1) := by decide +kernel
theorem d1_82 : decode prog_63_method_1_code 82 = .ok (.newarray .int, 2) := by decide +kernel
theorem d1_84 : decode prog_63_method_1_code 84 = .ok (.putfield 47, 3) := by decide +kernel
theorem d1_87 : decode prog_63_method_1_code 87 = .ok (.aload_n 0, 1) := by decide +kernel
theorem d1_88 : decode prog_63_method_1_code 88 = .ok (.getfield 47, 3) := by decide +kernel
theorem d1_91 : decode prog_63_method_1_code 91 = .ok (.iconst (-1), 1) := by decide +kernel
theorem d1_92 : decode prog_63_method_1_code 92 = .ok (.invokestatic 50, 3) := by decide +kernel
theorem d1_95 : decode prog_63_method_1_code 95 = .ok (.aload_n 0, 1) := by decide +kernel
theorem d1_96 : decode prog_63_method_1_code 96 = .ok (.iload_n 1, 1) := by decide +kernel
theorem d1_97 : decode prog_63_method_1_code 97 = .ok (.newarray .int, 2) := by decide +kernel
theorem d1_99 : decode prog_63_method_1_code 99 = .ok (.putfield 53, 3) := by decide +kernel
theorem d1_102 : decode prog_63_method_1_code 102 = .ok (.aload_n 0, 1) := by decide +kernel
theorem d1_103 : decode prog_63_method_1_code 103 = .ok (.getfield 53, 3) := by decide +kernel
theorem d1_106 : decode prog_63_method_1_code 106 = .ok (.iconst (-1), 1) := by decide +kernel
theorem d1_107 : decode prog_63_method_1_code 107 = .ok (.invokestatic 50, 3) := by decide +kernel
theorem d1_110 : decode prog_63_method_1_code 110 = .ok (.aload_n 0, 1) := by decide +kernel
theorem d1_111 : decode prog_63_method_1_code 111 = .ok (.iload_n 1, 1) := by decide +kernel
theorem d1_112 : decode prog_63_method_1_code 112 = .ok (.newarray .double, 2) := by decide +kernel
theorem d1_114 : decode prog_63_method_1_code 114 = .ok (.putfield 56, 3) := by decide +kernel
theorem d1_117 : decode prog_63_method_1_code 117 = .ok (.return_, 1) := by decide +kernel
theorem own_pd0 : parseMethodDescriptor "([DD)V" = some ⟨[(.array .double), .double], none⟩ := by decide +kernel
theorem own_pd1 : parseMethodDescriptor "([II)V" = some ⟨[(.array .int), .int], none⟩ := by decide +kernel
theorem own_pn_rm1_0 : plainName "com/example/throughfare/throughfare/simulation/Walkers" = true := by first | (simp [plainName, overriddenIn]; done) | decide +kernel
theorem own_ef_rm1_0 (m : MethodId) (r0 : Addr) : entryFrame m #[(.ref r0), (.int (0 : Int32))] 2 = mkF m 0 #[.val (.ref r0), .val (.int (0 : Int32))] [] := by first | (simp [entryFrame, mkF, argsToLocals, Value.category]; done) | rfl
def Q1_0 (Z : State) (r0 : Addr) (h0 : Heap) (n0 : Nat) (v : Option Value) (h : Heap) (L : List Loc) : Prop := ∃ c_exit : Addr, v = none ∧ Fr n0 L ∧ Keep h0 h [r0] ∧ Exa Z h r0 "com/example/throughfare/throughfare/simulation/Walkers" ∧ h0.size ≤ c_exit ∧ Fld Z h r0 "com/example/throughfare/throughfare/simulation/Walkers" "exit" "[I" (.ref c_exit) ∧ Af Z h c_exit .int 0 (fun _ => (.int (-1 : Int32)))
set_option maxRecDepth 65536 in
set_option maxHeartbeats 40000000 in
theorem rm1_0 (l : Launch) (Z : State) (a0 : Array Value) (hw : ∀ d ∈ tables_1, d.before a0 Z = true) (ws : List Jvm.Cond) (r0 : Addr) (h0 : Heap) (n0 : Nat) (Z0 : n0 ≤ h0.size) (E_r0 : Exa Z h0 r0 "com/example/throughfare/throughfare/simulation/Walkers") (F_floor : Fld Z h0 r0 "com/example/throughfare/throughfare/simulation/Walkers" "floor" "[I" .null) (F_startCell : Fld Z h0 r0 "com/example/throughfare/throughfare/simulation/Walkers" "startCell" "[I" .null) (F_cell : Fld Z h0 r0 "com/example/throughfare/throughfare/simulation/Walkers" "cell" "[I" .null) (F_speedMps : Fld Z h0 r0 "com/example/throughfare/throughfare/simulation/Walkers" "speedMps" "[D" .null) (F_reactionS : Fld Z h0 r0 "com/example/throughfare/throughfare/simulation/Walkers" "reactionS" "[D" .null) (F_heading : Fld Z h0 r0 "com/example/throughfare/throughfare/simulation/Walkers" "heading" "[I" .null) (F_heldUpS : Fld Z h0 r0 "com/example/throughfare/throughfare/simulation/Walkers" "heldUpS" "[D" .null) (F_exitTimeS : Fld Z h0 r0 "com/example/throughfare/throughfare/simulation/Walkers" "exitTimeS" "[D" .null) (F_leaving : Fld Z h0 r0 "com/example/throughfare/throughfare/simulation/Walkers" "leaving" "[I" .null) (F_exit : Fld Z h0 r0 "com/example/throughfare/throughfare/simulation/Walkers" "exit" "[I" .null) (F_distanceM : Fld Z h0 r0 "com/example/throughfare/throughfare/simulation/Walkers" "distanceM" "[D" .null) (g_r0 : n0 ≤ r0) :
    MetFree l (⟨"com/example/throughfare/throughfare/simulation/Walkers", "<init>", "(I)V"⟩ : MethodName) (head1 (Jvm.Cond.code (⟨"com/example/throughfare/throughfare/simulation/Walkers", "<init>", "(I)V"⟩ : MethodName) prog_63_method_1_code 2 none :: ws) ({ frames := 1, cells := 11, slots := 0, locals := 20 } : Room)) (fun a U => a = #[(.ref r0), (.int (0 : Int32))] ∧ Z.Warmed39 U.vm ∧ U.heap = h0) (fun _ _ _ _ _ => True) (fun _ U o U' => ∃ v L, o = .returned v ∧ Q1_0 Z r0 h0 n0 v U'.heap L ∧ FrameEnd U o U' L ({ frames := 1, cells := 11, slots := 0, locals := 20 } : Room).cells ({ frames := 1, cells := 11, slots := 0, locals := 20 } : Room).slots) := by
  refine MetFree.of_bodySF (plainFor_of_name own_pn_rm1_0) hisR ?_
  intro p e s m args below meth cO s₁ Bd hml0 hP hK
  obtain ⟨rfl, hZ, hh⟩ := hP
  have hx := Bd.exec
  have hby := Bd.bytes
  have hml : cO.maxLocals = 2 := hml0
  have hown : s.vm.findClass "com/example/throughfare/throughfare/simulation/Walkers" = some m.cls := findClass_of_methodNamed Bd.named
  have hnm := (name_of_methodNamed Bd.named Bd.method).1
  have hlk : meth.locks = false := BodyLoose.notSynchronized Bd
  have X0 : Stand p l e ({ frames := 1, cells := 11, slots := 0, locals := 20 } : Room) s m #[(.ref r0), (.int (0 : Int32))] below meth cO s₁ [] 0 0 := Stand.of_body Bd
  have e0 : s₁.heap = h0 := by rw [← hh, Bd.state]; rfl
  have N0 := Fr.nil n0
  refine own_in (own_ef_rm1_0 m r0) ?_
  show Gm p e below s₁ m 0 #[rv r0, iv (0 : Int32)] [] _
  refine own_go (fun t₀ k₀ => XS.aloadN X0.here hx rfl (Jvm.hb hby d1_0) rfl rfl k₀) ?_
  show Gm p e below s₁ m 1 #[rv r0, iv (0 : Int32)] [(.ref r0)] _
  obtain ⟨T1, X1, e1, st1⟩ := initO X0 hx hZ hown (hw _ (List.mem_of_getElem? (i := 6) rfl)) (hw _ (List.mem_of_getElem? (i := 7) rfl)) (hw _ (List.mem_of_getElem? (i := 8) rfl)) e0 (g := (mkF m 1 #[rv r0, iv (0 : Int32)] [(.ref r0)])) rfl (by rw [hml]; rfl) rfl (Jvm.hb hby d1_1) (by decide) (W := 0) (by show 2 * 0 + _ ≤ _; exact Nat.le_of_eq rfl) (by decide)
  refine own_go st1 ?_
  show Gm p e below T1 m 4 #[rv r0, iv (0 : Int32)] [] _
  refine own_go (fun t₀ k₀ => XS.aloadN X1.here hx rfl (Jvm.hb hby d1_4) rfl rfl k₀) ?_
  show Gm p e below T1 m 5 #[rv r0, iv (0 : Int32)] [(.ref r0)] _
  refine own_go (fun t₀ k₀ => XS.iloadN X1.here hx rfl (Jvm.hb hby d1_5) rfl k₀) ?_
  show Gm p e below T1 m 6 #[rv r0, iv (0 : Int32)] [(.int (0 : Int32)), (.ref r0)] _
  obtain ⟨T2, h2, k2, X2, e2, E2, A2, st2⟩ := newP X1 hx hZ (hw _ (List.mem_of_getElem? (i := 9) rfl)) e1 (g := (mkF m 6 #[rv r0, iv (0 : Int32)] [(.int (0 : Int32)), (.ref r0)])) rfl (Jvm.hb hby d1_6) rfl (by decide) (cap := 0) (by decide) (by decide) (by decide) (by decide)
  obtain ⟨b2, g2⟩ : ∃ z, z = h0.size := ⟨_, rfl⟩
  rw [← g2] at A2 st2
  have g_b2 : n0 ≤ b2 := Nat.le_trans Z0 (Nat.le_of_eq g2.symm)
  have ne_r0_b2 : r0 ≠ b2 := Nat.ne_of_lt (Nat.lt_of_lt_of_le E_r0.lt (Nat.le_of_eq g2.symm))
  have sz_b2 : h0.size ≤ b2 := Nat.le_trans (Keep.refl h0 [r0]).1 (Nat.le_of_eq g2.symm)
  have K2 : Keep h0 h2 [r0] := Keep.ext (Keep.refl h0 [r0]) E2
  have Z2 : n0 ≤ h2.size := Nat.le_trans Z0 E2.1
  have V2 : Af Z h2 b2 .int 0 (fun _ => defaultValue .int) := Af.new A2 (by decide) rfl rfl
  refine own_go st2 ?_
  show Gm p e below T2 m 8 #[rv r0, iv (0 : Int32)] [(.ref b2), (.ref r0)] _
  have f3 := (E_r0.ext E2)
  have f4 := (F_floor.ext E2)
  obtain ⟨T5, h5, X5, e5, W5, st5⟩ := putF X2 hx hZ hown (host := "") (Or.inl (hw _ (List.mem_of_getElem? (i := 10) rfl))) Via.refl e2 f4 f3 (Or.inr ⟨(hw _ (List.mem_of_getElem? (i := 11) rfl)), rfl, hnm⟩) (hw _ (List.mem_of_getElem? (i := 1) rfl)) (ty := (.array .int)) (by decide) rfl rfl (g := (mkF m 8 #[rv r0, iv (0 : Int32)] [(.ref b2), (.ref r0)])) rfl rfl (Jvm.hb hby d1_8)
  have Fw5 := Fld.same W5 f4
  have N5 := Fr.snoc X5 N0 g_r0
  have Z5 : n0 ≤ h5.size := W5.size ▸ Z2
  have K5 : Keep h0 h5 [r0] := Keep.wr K2 W5 (Or.inl (List.mem_of_getElem? (i := 0) rfl))
  refine own_go st5 ?_
  show Gm p e below T5 m 11 #[rv r0, iv (0 : Int32)] [] _
  refine own_go (fun t₀ k₀ => XS.aloadN X5.here hx rfl (Jvm.hb hby d1_11) rfl rfl k₀) ?_
  show Gm p e below T5 m 12 #[rv r0, iv (0 : Int32)] [(.ref r0)] _
  refine own_go (fun t₀ k₀ => XS.iloadN X5.here hx rfl (Jvm.hb hby d1_12) rfl k₀) ?_
  show Gm p e below T5 m 13 #[rv r0, iv (0 : Int32)] [(.int (0 : Int32)), (.ref r0)] _
  obtain ⟨T6, h6, k6, X6, e6, E6, A6, st6⟩ := newP X5 hx hZ (hw _ (List.mem_of_getElem? (i := 9) rfl)) e5 (g := (mkF m 13 #[rv r0, iv (0 : Int32)] [(.int (0 : Int32)), (.ref r0)])) rfl (Jvm.hb hby d1_13) rfl (by decide) (cap := 0) (by decide) (by decide) (by decide) (by decide)
  obtain ⟨b6, g6⟩ : ∃ z, z = h5.size := ⟨_, rfl⟩
  rw [← g6] at A6 st6
  have g_b6 : n0 ≤ b6 := Nat.le_trans Z5 (Nat.le_of_eq g6.symm)
  have f7 := (f3.wr W5)
  have ne_r0_b6 : r0 ≠ b6 := Nat.ne_of_lt (Nat.lt_of_lt_of_le f7.lt (Nat.le_of_eq g6.symm))
  have sz_b6 : h0.size ≤ b6 := Nat.le_trans K5.1 (Nat.le_of_eq g6.symm)
  have K6 : Keep h0 h6 [r0] := Keep.ext K5 E6
  have Z6 : n0 ≤ h6.size := Nat.le_trans Z5 E6.1
  have V6 : Af Z h6 b6 .int 0 (fun _ => defaultValue .int) := Af.new A6 (by decide) rfl rfl
  refine own_go st6 ?_
  show Gm p e below T6 m 15 #[rv r0, iv (0 : Int32)] [(.ref b6), (.ref r0)] _
  have f8 := (f7.ext E6)
  have f9 := ((Fld.other W5 (F_startCell.ext E2) (Or.inr (slot_ne (Or.inr (hw _ (List.mem_of_getElem? (i := 13) rfl))) (Or.inr (hw _ (List.mem_of_getElem? (i := 11) rfl))) (by decide) (t := (.array .int)) (t' := (.array .int)) (by decide) (by decide)))).ext E6)
  obtain ⟨T10, h10, X10, e10, W10, st10⟩ := putF X6 hx hZ hown (host := "") (Or.inl (hw _ (List.mem_of_getElem? (i := 12) rfl))) Via.refl e6 f9 f8 (Or.inr ⟨(hw _ (List.mem_of_getElem? (i := 13) rfl)), rfl, hnm⟩) (hw _ (List.mem_of_getElem? (i := 1) rfl)) (ty := (.array .int)) (by decide) rfl rfl (g := (mkF m 15 #[rv r0, iv (0 : Int32)] [(.ref b6), (.ref r0)])) rfl rfl (Jvm.hb hby d1_15)
  have Fw10 := Fld.same W10 f9
  have N10 := Fr.snoc X10 N5 g_r0
  have Z10 : n0 ≤ h10.size := W10.size ▸ Z6
  have K10 : Keep h0 h10 [r0] := Keep.wr K6 W10 (Or.inl (List.mem_of_getElem? (i := 0) rfl))
  refine own_go st10 ?_
  show Gm p e below T10 m 18 #[rv r0, iv (0 : Int32)] [] _
  refine own_go (fun t₀ k₀ => XS.aloadN X10.here hx rfl (Jvm.hb hby d1_18) rfl rfl k₀) ?_
  show Gm p e below T10 m 19 #[rv r0, iv (0 : Int32)] [(.ref r0)] _
  refine own_go (fun t₀ k₀ => XS.iloadN X10.here hx rfl (Jvm.hb hby d1_19) rfl k₀) ?_
  show Gm p e below T10 m 20 #[rv r0, iv (0 : Int32)] [(.int (0 : Int32)), (.ref r0)] _
  obtain ⟨T11, h11, k11, X11, e11, E11, A11, st11⟩ := newP X10 hx hZ (hw _ (List.mem_of_getElem? (i := 9) rfl)) e10 (g := (mkF m 20 #[rv r0, iv (0 : Int32)] [(.int (0 : Int32)), (.ref r0)])) rfl (Jvm.hb hby d1_20) rfl (by decide) (cap := 0) (by decide) (by decide) (by decide) (by decide)
  obtain ⟨b11, g11⟩ : ∃ z, z = h10.size := ⟨_, rfl⟩
  rw [← g11] at A11 st11
  have g_b11 : n0 ≤ b11 := Nat.le_trans Z10 (Nat.le_of_eq g11.symm)
  have f12 := (f8.wr W10)
  have ne_r0_b11 : r0 ≠ b11 := Nat.ne_of_lt (Nat.lt_of_lt_of_le f12.lt (Nat.le_of_eq g11.symm))
  have sz_b11 : h0.size ≤ b11 := Nat.le_trans K10.1 (Nat.le_of_eq g11.symm)
  have K11 : Keep h0 h11 [r0] := Keep.ext K10 E11
  have Z11 : n0 ≤ h11.size := Nat.le_trans Z10 E11.1
  have V11 : Af Z h11 b11 .int 0 (fun _ => defaultValue .int) := Af.new A11 (by decide) rfl rfl
  refine own_go st11 ?_
  show Gm p e below T11 m 22 #[rv r0, iv (0 : Int32)] [(.ref b11), (.ref r0)] _
  have f13 := (f12.ext E11)
  have f14 := ((Fld.other W10 ((Fld.other W5 (F_cell.ext E2) (Or.inr (slot_ne (Or.inr (hw _ (List.mem_of_getElem? (i := 15) rfl))) (Or.inr (hw _ (List.mem_of_getElem? (i := 11) rfl))) (by decide) (t := (.array .int)) (t' := (.array .int)) (by decide) (by decide)))).ext E6) (Or.inr (slot_ne (Or.inr (hw _ (List.mem_of_getElem? (i := 15) rfl))) (Or.inr (hw _ (List.mem_of_getElem? (i := 13) rfl))) (by decide) (t := (.array .int)) (t' := (.array .int)) (by decide) (by decide)))).ext E11)
  obtain ⟨T15, h15, X15, e15, W15, st15⟩ := putF X11 hx hZ hown (host := "") (Or.inl (hw _ (List.mem_of_getElem? (i := 14) rfl))) Via.refl e11 f14 f13 (Or.inr ⟨(hw _ (List.mem_of_getElem? (i := 15) rfl)), rfl, hnm⟩) (hw _ (List.mem_of_getElem? (i := 1) rfl)) (ty := (.array .int)) (by decide) rfl rfl (g := (mkF m 22 #[rv r0, iv (0 : Int32)] [(.ref b11), (.ref r0)])) rfl rfl (Jvm.hb hby d1_22)
  have Fw15 := Fld.same W15 f14
  have N15 := Fr.snoc X15 N10 g_r0
  have Z15 : n0 ≤ h15.size := W15.size ▸ Z11
  have K15 : Keep h0 h15 [r0] := Keep.wr K11 W15 (Or.inl (List.mem_of_getElem? (i := 0) rfl))
  refine own_go st15 ?_
  show Gm p e below T15 m 25 #[rv r0, iv (0 : Int32)] [] _
  refine own_go (fun t₀ k₀ => XS.aloadN X15.here hx rfl (Jvm.hb hby d1_25) rfl rfl k₀) ?_
  show Gm p e below T15 m 26 #[rv r0, iv (0 : Int32)] [(.ref r0)] _
  refine own_go (fun t₀ k₀ => XS.iloadN X15.here hx rfl (Jvm.hb hby d1_26) rfl k₀) ?_
  show Gm p e below T15 m 27 #[rv r0, iv (0 : Int32)] [(.int (0 : Int32)), (.ref r0)] _
  obtain ⟨T16, h16, k16, X16, e16, E16, A16, st16⟩ := newP X15 hx hZ (hw _ (List.mem_of_getElem? (i := 16) rfl)) e15 (g := (mkF m 27 #[rv r0, iv (0 : Int32)] [(.int (0 : Int32)), (.ref r0)])) rfl (Jvm.hb hby d1_27) rfl (by decide) (cap := 0) (by decide) (by decide) (by decide) (by decide)
  obtain ⟨b16, g16⟩ : ∃ z, z = h15.size := ⟨_, rfl⟩
  rw [← g16] at A16 st16
  have g_b16 : n0 ≤ b16 := Nat.le_trans Z15 (Nat.le_of_eq g16.symm)
  have f17 := (f13.wr W15)
  have ne_r0_b16 : r0 ≠ b16 := Nat.ne_of_lt (Nat.lt_of_lt_of_le f17.lt (Nat.le_of_eq g16.symm))
  have sz_b16 : h0.size ≤ b16 := Nat.le_trans K15.1 (Nat.le_of_eq g16.symm)
  have K16 : Keep h0 h16 [r0] := Keep.ext K15 E16
  have Z16 : n0 ≤ h16.size := Nat.le_trans Z15 E16.1
  have V16 : Af Z h16 b16 .double 0 (fun _ => defaultValue .double) := Af.new A16 (by decide) rfl rfl
  refine own_go st16 ?_
  show Gm p e below T16 m 29 #[rv r0, iv (0 : Int32)] [(.ref b16), (.ref r0)] _
  have f18 := (f17.ext E16)
  have f19 := ((Fld.other W15 ((Fld.other W10 ((Fld.other W5 (F_speedMps.ext E2) (Or.inr (slot_ne (Or.inr (hw _ (List.mem_of_getElem? (i := 18) rfl))) (Or.inr (hw _ (List.mem_of_getElem? (i := 11) rfl))) (by decide) (t := (.array .double)) (t' := (.array .int)) (by decide) (by decide)))).ext E6) (Or.inr (slot_ne (Or.inr (hw _ (List.mem_of_getElem? (i := 18) rfl))) (Or.inr (hw _ (List.mem_of_getElem? (i := 13) rfl))) (by decide) (t := (.array .double)) (t' := (.array .int)) (by decide) (by decide)))).ext E11) (Or.inr (slot_ne (Or.inr (hw _ (List.mem_of_getElem? (i := 18) rfl))) (Or.inr (hw _ (List.mem_of_getElem? (i := 15) rfl))) (by decide) (t := (.array .double)) (t' := (.array .int)) (by decide) (by decide)))).ext E16)
  obtain ⟨T20, h20, X20, e20, W20, st20⟩ := putF X16 hx hZ hown (host := "") (Or.inl (hw _ (List.mem_of_getElem? (i := 17) rfl))) Via.refl e16 f19 f18 (Or.inr ⟨(hw _ (List.mem_of_getElem? (i := 18) rfl)), rfl, hnm⟩) (hw _ (List.mem_of_getElem? (i := 1) rfl)) (ty := (.array .double)) (by decide) rfl rfl (g := (mkF m 29 #[rv r0, iv (0 : Int32)] [(.ref b16), (.ref r0)])) rfl rfl (Jvm.hb hby d1_29)
  have Fw20 := Fld.same W20 f19
  have N20 := Fr.snoc X20 N15 g_r0
  have Z20 : n0 ≤ h20.size := W20.size ▸ Z16
  have K20 : Keep h0 h20 [r0] := Keep.wr K16 W20 (Or.inl (List.mem_of_getElem? (i := 0) rfl))
  refine own_go st20 ?_
  show Gm p e below T20 m 32 #[rv r0, iv (0 : Int32)] [] _
  refine own_go (fun t₀ k₀ => XS.aloadN X20.here hx rfl (Jvm.hb hby d1_32) rfl rfl k₀) ?_
  show Gm p e below T20 m 33 #[rv r0, iv (0 : Int32)] [(.ref r0)] _
  refine own_go (fun t₀ k₀ => XS.iloadN X20.here hx rfl (Jvm.hb hby d1_33) rfl k₀) ?_
  show Gm p e below T20 m 34 #[rv r0, iv (0 : Int32)] [(.int (0 : Int32)), (.ref r0)] _
  obtain ⟨T21, h21, k21, X21, e21, E21, A21, st21⟩ := newP X20 hx hZ (hw _ (List.mem_of_getElem? (i := 16) rfl)) e20 (g := (mkF m 34 #[rv r0, iv (0 : Int32)] [(.int (0 : Int32)), (.ref r0)])) rfl (Jvm.hb hby d1_34) rfl (by decide) (cap := 0) (by decide) (by decide) (by decide) (by decide)
  obtain ⟨b21, g21⟩ : ∃ z, z = h20.size := ⟨_, rfl⟩
  rw [← g21] at A21 st21
  have g_b21 : n0 ≤ b21 := Nat.le_trans Z20 (Nat.le_of_eq g21.symm)
  have f22 := (f18.wr W20)
  have ne_r0_b21 : r0 ≠ b21 := Nat.ne_of_lt (Nat.lt_of_lt_of_le f22.lt (Nat.le_of_eq g21.symm))
  have sz_b21 : h0.size ≤ b21 := Nat.le_trans K20.1 (Nat.le_of_eq g21.symm)
  have K21 : Keep h0 h21 [r0] := Keep.ext K20 E21
  have Z21 : n0 ≤ h21.size := Nat.le_trans Z20 E21.1
  have V21 : Af Z h21 b21 .double 0 (fun _ => defaultValue .double) := Af.new A21 (by decide) rfl rfl
  refine own_go st21 ?_
  show Gm p e below T21 m 36 #[rv r0, iv (0 : Int32)] [(.ref b21), (.ref r0)] _
  have f23 := (f22.ext E21)
  have f24 := ((Fld.other W20 ((Fld.other W15 ((Fld.other W10 ((Fld.other W5 (F_reactionS.ext E2) (Or.inr (slot_ne (Or.inr (hw _ (List.mem_of_getElem? (i := 20) rfl))) (Or.inr (hw _ (List.mem_of_getElem? (i := 11) rfl))) (by decide) (t := (.array .double)) (t' := (.array .int)) (by decide) (by decide)))).ext E6) (Or.inr (slot_ne (Or.inr (hw _ (List.mem_of_getElem? (i := 20) rfl))) (Or.inr (hw _ (List.mem_of_getElem? (i := 13) rfl))) (by decide) (t := (.array .double)) (t' := (.array .int)) (by decide) (by decide)))).ext E11) (Or.inr (slot_ne (Or.inr (hw _ (List.mem_of_getElem? (i := 20) rfl))) (Or.inr (hw _ (List.mem_of_getElem? (i := 15) rfl))) (by decide) (t := (.array .double)) (t' := (.array .int)) (by decide) (by decide)))).ext E16) (Or.inr (slot_ne (Or.inr (hw _ (List.mem_of_getElem? (i := 20) rfl))) (Or.inr (hw _ (List.mem_of_getElem? (i := 18) rfl))) (by decide) (t := (.array .double)) (t' := (.array .double)) (by decide) (by decide)))).ext E21)
  obtain ⟨T25, h25, X25, e25, W25, st25⟩ := putF X21 hx hZ hown (host := "") (Or.inl (hw _ (List.mem_of_getElem? (i := 19) rfl))) Via.refl e21 f24 f23 (Or.inr ⟨(hw _ (List.mem_of_getElem? (i := 20) rfl)), rfl, hnm⟩) (hw _ (List.mem_of_getElem? (i := 1) rfl)) (ty := (.array .double)) (by decide) rfl rfl (g := (mkF m 36 #[rv r0, iv (0 : Int32)] [(.ref b21), (.ref r0)])) rfl rfl (Jvm.hb hby d1_36)
  have Fw25 := Fld.same W25 f24
  have N25 := Fr.snoc X25 N20 g_r0
  have Z25 : n0 ≤ h25.size := W25.size ▸ Z21
  have K25 : Keep h0 h25 [r0] := Keep.wr K21 W25 (Or.inl (List.mem_of_getElem? (i := 0) rfl))
  refine own_go st25 ?_
  show Gm p e below T25 m 39 #[rv r0, iv (0 : Int32)] [] _
  refine own_go (fun t₀ k₀ => XS.aloadN X25.here hx rfl (Jvm.hb hby d1_39) rfl rfl k₀) ?_
  show Gm p e below T25 m 40 #[rv r0, iv (0 : Int32)] [(.ref r0)] _
  refine own_go (fun t₀ k₀ => XS.iloadN X25.here hx rfl (Jvm.hb hby d1_40) rfl k₀) ?_
  show Gm p e below T25 m 41 #[rv r0, iv (0 : Int32)] [(.int (0 : Int32)), (.ref r0)] _
  obtain ⟨T26, h26, k26, X26, e26, E26, A26, st26⟩ := newP X25 hx hZ (hw _ (List.mem_of_getElem? (i := 9) rfl)) e25 (g := (mkF m 41 #[rv r0, iv (0 : Int32)] [(.int (0 : Int32)), (.ref r0)])) rfl (Jvm.hb hby d1_41) rfl (by decide) (cap := 0) (by decide) (by decide) (by decide) (by decide)
  obtain ⟨b26, g26⟩ : ∃ z, z = h25.size := ⟨_, rfl⟩
  rw [← g26] at A26 st26
  have g_b26 : n0 ≤ b26 := Nat.le_trans Z25 (Nat.le_of_eq g26.symm)
  have f27 := (f23.wr W25)
  have ne_r0_b26 : r0 ≠ b26 := Nat.ne_of_lt (Nat.lt_of_lt_of_le f27.lt (Nat.le_of_eq g26.symm))
  have sz_b26 : h0.size ≤ b26 := Nat.le_trans K25.1 (Nat.le_of_eq g26.symm)
  have K26 : Keep h0 h26 [r0] := Keep.ext K25 E26
  have Z26 : n0 ≤ h26.size := Nat.le_trans Z25 E26.1
  have V26 : Af Z h26 b26 .int 0 (fun _ => defaultValue .int) := Af.new A26 (by decide) rfl rfl
  refine own_go st26 ?_
  show Gm p e below T26 m 43 #[rv r0, iv (0 : Int32)] [(.ref b26), (.ref r0)] _
  have f28 := (f27.ext E26)
  have f29 := ((Fld.other W25 ((Fld.other W20 ((Fld.other W15 ((Fld.other W10 ((Fld.other W5 (F_heading.ext E2) (Or.inr (slot_ne (Or.inr (hw _ (List.mem_of_getElem? (i := 22) rfl))) (Or.inr (hw _ (List.mem_of_getElem? (i := 11) rfl))) (by decide) (t := (.array .int)) (t' := (.array .int)) (by decide) (by decide)))).ext E6) (Or.inr (slot_ne (Or.inr (hw _ (List.mem_of_getElem? (i := 22) rfl))) (Or.inr (hw _ (List.mem_of_getElem? (i := 13) rfl))) (by decide) (t := (.array .int)) (t' := (.array .int)) (by decide) (by decide)))).ext E11) (Or.inr (slot_ne (Or.inr (hw _ (List.mem_of_getElem? (i := 22) rfl))) (Or.inr (hw _ (List.mem_of_getElem? (i := 15) rfl))) (by decide) (t := (.array .int)) (t' := (.array .int)) (by decide) (by decide)))).ext E16) (Or.inr (slot_ne (Or.inr (hw _ (List.mem_of_getElem? (i := 22) rfl))) (Or.inr (hw _ (List.mem_of_getElem? (i := 18) rfl))) (by decide) (t := (.array .int)) (t' := (.array .double)) (by decide) (by decide)))).ext E21) (Or.inr (slot_ne (Or.inr (hw _ (List.mem_of_getElem? (i := 22) rfl))) (Or.inr (hw _ (List.mem_of_getElem? (i := 20) rfl))) (by decide) (t := (.array .int)) (t' := (.array .double)) (by decide) (by decide)))).ext E26)
  obtain ⟨T30, h30, X30, e30, W30, st30⟩ := putF X26 hx hZ hown (host := "") (Or.inl (hw _ (List.mem_of_getElem? (i := 21) rfl))) Via.refl e26 f29 f28 (Or.inr ⟨(hw _ (List.mem_of_getElem? (i := 22) rfl)), rfl, hnm⟩) (hw _ (List.mem_of_getElem? (i := 1) rfl)) (ty := (.array .int)) (by decide) rfl rfl (g := (mkF m 43 #[rv r0, iv (0 : Int32)] [(.ref b26), (.ref r0)])) rfl rfl (Jvm.hb hby d1_43)
  have Fw30 := Fld.same W30 f29
  have N30 := Fr.snoc X30 N25 g_r0
  have Z30 : n0 ≤ h30.size := W30.size ▸ Z26
  have K30 : Keep h0 h30 [r0] := Keep.wr K26 W30 (Or.inl (List.mem_of_getElem? (i := 0) rfl))
  refine own_go st30 ?_
  show Gm p e below T30 m 46 #[rv r0, iv (0 : Int32)] [] _
  refine own_go (fun t₀ k₀ => XS.aloadN X30.here hx rfl (Jvm.hb hby d1_46) rfl rfl k₀) ?_
  show Gm p e below T30 m 47 #[rv r0, iv (0 : Int32)] [(.ref r0)] _
  refine own_go (fun t₀ k₀ => XS.iloadN X30.here hx rfl (Jvm.hb hby d1_47) rfl k₀) ?_
  show Gm p e below T30 m 48 #[rv r0, iv (0 : Int32)] [(.int (0 : Int32)), (.ref r0)] _
  obtain ⟨T31, h31, k31, X31, e31, E31, A31, st31⟩ := newP X30 hx hZ (hw _ (List.mem_of_getElem? (i := 16) rfl)) e30 (g := (mkF m 48 #[rv r0, iv (0 : Int32)] [(.int (0 : Int32)), (.ref r0)])) rfl (Jvm.hb hby d1_48) rfl (by decide) (cap := 0) (by decide) (by decide) (by decide) (by decide)
  obtain ⟨b31, g31⟩ : ∃ z, z = h30.size := ⟨_, rfl⟩
  rw [← g31] at A31 st31
  have g_b31 : n0 ≤ b31 := Nat.le_trans Z30 (Nat.le_of_eq g31.symm)
  have f32 := (f28.wr W30)
  have ne_r0_b31 : r0 ≠ b31 := Nat.ne_of_lt (Nat.lt_of_lt_of_le f32.lt (Nat.le_of_eq g31.symm))
  have sz_b31 : h0.size ≤ b31 := Nat.le_trans K30.1 (Nat.le_of_eq g31.symm)
  have K31 : Keep h0 h31 [r0] := Keep.ext K30 E31
  have Z31 : n0 ≤ h31.size := Nat.le_trans Z30 E31.1
  have V31 : Af Z h31 b31 .double 0 (fun _ => defaultValue .double) := Af.new A31 (by decide) rfl rfl
  refine own_go st31 ?_
  show Gm p e below T31 m 50 #[rv r0, iv (0 : Int32)] [(.ref b31), (.ref r0)] _
  have f33 := (f32.ext E31)
  have f34 := ((Fld.other W30 ((Fld.other W25 ((Fld.other W20 ((Fld.other W15 ((Fld.other W10 ((Fld.other W5 (F_heldUpS.ext E2) (Or.inr (slot_ne (Or.inr (hw _ (List.mem_of_getElem? (i := 24) rfl))) (Or.inr (hw _ (List.mem_of_getElem? (i := 11) rfl))) (by decide) (t := (.array .double)) (t' := (.array .int)) (by decide) (by decide)))).ext E6) (Or.inr (slot_ne (Or.inr (hw _ (List.mem_of_getElem? (i := 24) rfl))) (Or.inr (hw _ (List.mem_of_getElem? (i := 13) rfl))) (by decide) (t := (.array .double)) (t' := (.array .int)) (by decide) (by decide)))).ext E11) (Or.inr (slot_ne (Or.inr (hw _ (List.mem_of_getElem? (i := 24) rfl))) (Or.inr (hw _ (List.mem_of_getElem? (i := 15) rfl))) (by decide) (t := (.array .double)) (t' := (.array .int)) (by decide) (by decide)))).ext E16) (Or.inr (slot_ne (Or.inr (hw _ (List.mem_of_getElem? (i := 24) rfl))) (Or.inr (hw _ (List.mem_of_getElem? (i := 18) rfl))) (by decide) (t := (.array .double)) (t' := (.array .double)) (by decide) (by decide)))).ext E21) (Or.inr (slot_ne (Or.inr (hw _ (List.mem_of_getElem? (i := 24) rfl))) (Or.inr (hw _ (List.mem_of_getElem? (i := 20) rfl))) (by decide) (t := (.array .double)) (t' := (.array .double)) (by decide) (by decide)))).ext E26) (Or.inr (slot_ne (Or.inr (hw _ (List.mem_of_getElem? (i := 24) rfl))) (Or.inr (hw _ (List.mem_of_getElem? (i := 22) rfl))) (by decide) (t := (.array .double)) (t' := (.array .int)) (by decide) (by decide)))).ext E31)
  obtain ⟨T35, h35, X35, e35, W35, st35⟩ := putF X31 hx hZ hown (host := "") (Or.inl (hw _ (List.mem_of_getElem? (i := 23) rfl))) Via.refl e31 f34 f33 (Or.inr ⟨(hw _ (List.mem_of_getElem? (i := 24) rfl)), rfl, hnm⟩) (hw _ (List.mem_of_getElem? (i := 1) rfl)) (ty := (.array .double)) (by decide) rfl rfl (g := (mkF m 50 #[rv r0, iv (0 : Int32)] [(.ref b31), (.ref r0)])) rfl rfl (Jvm.hb hby d1_50)
  have Fw35 := Fld.same W35 f34
  have N35 := Fr.snoc X35 N30 g_r0
  have Z35 : n0 ≤ h35.size := W35.size ▸ Z31
  have K35 : Keep h0 h35 [r0] := Keep.wr K31 W35 (Or.inl (List.mem_of_getElem? (i := 0) rfl))
  refine own_go st35 ?_
  show Gm p e below T35 m 53 #[rv r0, iv (0 : Int32)] [] _
  refine own_go (fun t₀ k₀ => XS.aloadN X35.here hx rfl (Jvm.hb hby d1_53) rfl rfl k₀) ?_
  show Gm p e below T35 m 54 #[rv r0, iv (0 : Int32)] [(.ref r0)] _
  obtain ⟨T36, X36, e36, st36⟩ := getF X35 hx hZ hown (host := "") (Or.inl (hw _ (List.mem_of_getElem? (i := 23) rfl))) Via.refl e35 Fw35 (g := (mkF m 54 #[rv r0, iv (0 : Int32)] [(.ref r0)])) rfl rfl (Jvm.hb hby d1_54)
  refine own_go st36 ?_
  show Gm p e below T36 m 57 #[rv r0, iv (0 : Int32)] [(.ref b31)] _
  refine own_go (fun t₀ k₀ => X36.ldc2DoubleC hx hown (mvT hZ (hw _ (List.mem_of_getElem? (i := 25) rfl))) (g := (mkF m 57 #[rv r0, iv (0 : Int32)] [(.ref b31)])) rfl (Jvm.hb hby d1_57) _ k₀) ?_
  show Gm p e below T36 m 60 #[rv r0, iv (0 : Int32)] [(.double (18442240474082181120 : UInt64)), (.ref b31)] _
  have f37 := (V31.other W35 (Ne.symm ne_r0_b31))
  obtain ⟨_, _, ⟨T38, L38, k38, n38⟩, -, X38, ⟨Lc38, hQ38, l38, y38, z38⟩, st38⟩ := Jvm.LawKit.callS X36 hx (y := (⟨"java/util/Arrays", "fill", "([DD)V"⟩ : MethodName)) hown (mvT hZ (hw _ (List.mem_of_getElem? (i := 26) rfl))) (mvT hZ (hw _ (List.mem_of_getElem? (i := 27) rfl))) (mvT hZ (hw _ (List.mem_of_getElem? (i := 28) rfl))) (mvT hZ (hw _ (List.mem_of_getElem? (i := 29) rfl))) (by decide) (backOf (W := 0) (rm3_0 l Z a0 hw [] b31 (18442240474082181120 : UInt64) (fun _ => defaultValue .double) h35 n0 Z35 f37 g_b31) hZ (hw _ (List.mem_of_getElem? (i := 29) rfl)) (hw _ (List.mem_of_getElem? (i := 28) rfl)) (by decide) (by decide)) (g := (mkF m 60 #[rv r0, iv (0 : Int32)] [(.double (18442240474082181120 : UInt64)), (.ref b31)])) rfl (by rw [hml]; rfl) (argsL := [(.ref b31), (.double (18442240474082181120 : UInt64))]) (rest := []) (lenOf own_pd0 rfl) rfl (by show 2 * 0 + _ ≤ _; exact Nat.le_of_eq rfl) (Jvm.hb hby d1_60) (fun _ _ => ⟨rfl, e36, (by decide : 7 + 0 ≤ _), (by decide : 0 + 0 ≤ _)⟩)
  dsimp only [Pt.U, Pt.locs, Pt.cells, Pt.slots] at X38 l38 y38 z38 st38 hQ38
  subst l38 y38 z38
  obtain ⟨rfl, Nq38, Kc38, fd38, Ac38⟩ := hQ38
  have N38 := Fr.app N35 Nq38
  refine own_go st38 ?_
  have Z38 : n0 ≤ T38.heap.size := Nat.le_trans Z35 Kc38.1
  have K38 : Keep h0 T38.heap [r0] := Keep.trans K35 Kc38 (allS (Or.inr sz_b31) all0)
  show Gm p e below T38 m 63 #[rv r0, iv (0 : Int32)] [] _
  refine own_go (fun t₀ k₀ => XS.aloadN X38.here hx rfl (Jvm.hb hby d1_63) rfl rfl k₀) ?_
  show Gm p e below T38 m 64 #[rv r0, iv (0 : Int32)] [(.ref r0)] _
  refine own_go (fun t₀ k₀ => XS.iloadN X38.here hx rfl (Jvm.hb hby d1_64) rfl k₀) ?_
  show Gm p e below T38 m 65 #[rv r0, iv (0 : Int32)] [(.int (0 : Int32)), (.ref r0)] _
  obtain ⟨T39, h39, k39, X39, e39, E39, A39, st39⟩ := newP X38 hx hZ (hw _ (List.mem_of_getElem? (i := 16) rfl)) rfl (g := (mkF m 65 #[rv r0, iv (0 : Int32)] [(.int (0 : Int32)), (.ref r0)])) rfl (Jvm.hb hby d1_65) rfl (by decide) (cap := 0) (by decide) (by decide) (by decide) (by decide)
  obtain ⟨b39, g39⟩ : ∃ z, z = T38.heap.size := ⟨_, rfl⟩
  rw [← g39] at A39 st39
  have g_b39 : n0 ≤ b39 := Nat.le_trans Z38 (Nat.le_of_eq g39.symm)
  have f40 := ((f33.wr W35).keep Kc38)
  have ne_r0_b39 : r0 ≠ b39 := Nat.ne_of_lt (Nat.lt_of_lt_of_le f40.lt (Nat.le_of_eq g39.symm))
  have sz_b39 : h0.size ≤ b39 := Nat.le_trans K38.1 (Nat.le_of_eq g39.symm)
  have K39 : Keep h0 h39 [r0] := Keep.ext K38 E39
  have Z39 : n0 ≤ h39.size := Nat.le_trans Z38 E39.1
  have V39 : Af Z h39 b39 .double 0 (fun _ => defaultValue .double) := Af.new A39 (by decide) rfl rfl
  refine own_go st39 ?_
  show Gm p e below T39 m 67 #[rv r0, iv (0 : Int32)] [(.ref b39), (.ref r0)] _
  have f41 := (f40.ext E39)
  have f42 := (((Fld.other W35 ((Fld.other W30 ((Fld.other W25 ((Fld.other W20 ((Fld.other W15 ((Fld.other W10 ((Fld.other W5 (F_exitTimeS.ext E2) (Or.inr (slot_ne (Or.inr (hw _ (List.mem_of_getElem? (i := 31) rfl))) (Or.inr (hw _ (List.mem_of_getElem? (i := 11) rfl))) (by decide) (t := (.array .double)) (t' := (.array .int)) (by decide) (by decide)))).ext E6) (Or.inr (slot_ne (Or.inr (hw _ (List.mem_of_getElem? (i := 31) rfl))) (Or.inr (hw _ (List.mem_of_getElem? (i := 13) rfl))) (by decide) (t := (.array .double)) (t' := (.array .int)) (by decide) (by decide)))).ext E11) (Or.inr (slot_ne (Or.inr (hw _ (List.mem_of_getElem? (i := 31) rfl))) (Or.inr (hw _ (List.mem_of_getElem? (i := 15) rfl))) (by decide) (t := (.array .double)) (t' := (.array .int)) (by decide) (by decide)))).ext E16) (Or.inr (slot_ne (Or.inr (hw _ (List.mem_of_getElem? (i := 31) rfl))) (Or.inr (hw _ (List.mem_of_getElem? (i := 18) rfl))) (by decide) (t := (.array .double)) (t' := (.array .double)) (by decide) (by decide)))).ext E21) (Or.inr (slot_ne (Or.inr (hw _ (List.mem_of_getElem? (i := 31) rfl))) (Or.inr (hw _ (List.mem_of_getElem? (i := 20) rfl))) (by decide) (t := (.array .double)) (t' := (.array .double)) (by decide) (by decide)))).ext E26) (Or.inr (slot_ne (Or.inr (hw _ (List.mem_of_getElem? (i := 31) rfl))) (Or.inr (hw _ (List.mem_of_getElem? (i := 22) rfl))) (by decide) (t := (.array .double)) (t' := (.array .int)) (by decide) (by decide)))).ext E31) (Or.inr (slot_ne (Or.inr (hw _ (List.mem_of_getElem? (i := 31) rfl))) (Or.inr (hw _ (List.mem_of_getElem? (i := 24) rfl))) (by decide) (t := (.array .double)) (t' := (.array .double)) (by decide) (by decide)))).keep Kc38 (ninS ne_r0_b31 nin0)).ext E39)
  obtain ⟨T43, h43, X43, e43, W43, st43⟩ := putF X39 hx hZ hown (host := "") (Or.inl (hw _ (List.mem_of_getElem? (i := 30) rfl))) Via.refl e39 f42 f41 (Or.inr ⟨(hw _ (List.mem_of_getElem? (i := 31) rfl)), rfl, hnm⟩) (hw _ (List.mem_of_getElem? (i := 1) rfl)) (ty := (.array .double)) (by decide) rfl rfl (g := (mkF m 67 #[rv r0, iv (0 : Int32)] [(.ref b39), (.ref r0)])) rfl rfl (Jvm.hb hby d1_67)
  have Fw43 := Fld.same W43 f42
  have N43 := Fr.snoc X43 N38 g_r0
  have Z43 : n0 ≤ h43.size := W43.size ▸ Z39
  have K43 : Keep h0 h43 [r0] := Keep.wr K39 W43 (Or.inl (List.mem_of_getElem? (i := 0) rfl))
  refine own_go st43 ?_
  show Gm p e below T43 m 70 #[rv r0, iv (0 : Int32)] [] _
  refine own_go (fun t₀ k₀ => XS.aloadN X43.here hx rfl (Jvm.hb hby d1_70) rfl rfl k₀) ?_
  show Gm p e below T43 m 71 #[rv r0, iv (0 : Int32)] [(.ref r0)] _
  obtain ⟨T44, X44, e44, st44⟩ := getF X43 hx hZ hown (host := "") (Or.inl (hw _ (List.mem_of_getElem? (i := 30) rfl))) Via.refl e43 Fw43 (g := (mkF m 71 #[rv r0, iv (0 : Int32)] [(.ref r0)])) rfl rfl (Jvm.hb hby d1_71)
  refine own_go st44 ?_
  show Gm p e below T44 m 74 #[rv r0, iv (0 : Int32)] [(.ref b39)] _
  refine own_go (fun t₀ k₀ => X44.ldc2DoubleC hx hown (mvT hZ (hw _ (List.mem_of_getElem? (i := 32) rfl))) (g := (mkF m 74 #[rv r0, iv (0 : Int32)] [(.ref b39)])) rfl (Jvm.hb hby d1_74) _ k₀) ?_
  show Gm p e below T44 m 77 #[rv r0, iv (0 : Int32)] [(.double (9218868437227405312 : UInt64)), (.ref b39)] _
  have f45 := (V39.other W43 (Ne.symm ne_r0_b39))
  obtain ⟨_, _, ⟨T46, L46, k46, n46⟩, -, X46, ⟨Lc46, hQ46, l46, y46, z46⟩, st46⟩ := Jvm.LawKit.callS X44 hx (y := (⟨"java/util/Arrays", "fill", "([DD)V"⟩ : MethodName)) hown (mvT hZ (hw _ (List.mem_of_getElem? (i := 26) rfl))) (mvT hZ (hw _ (List.mem_of_getElem? (i := 27) rfl))) (mvT hZ (hw _ (List.mem_of_getElem? (i := 28) rfl))) (mvT hZ (hw _ (List.mem_of_getElem? (i := 29) rfl))) (by decide) (backOf (W := 0) (rm3_0 l Z a0 hw [] b39 (9218868437227405312 : UInt64) (fun _ => defaultValue .double) h43 n0 Z43 f45 g_b39) hZ (hw _ (List.mem_of_getElem? (i := 29) rfl)) (hw _ (List.mem_of_getElem? (i := 28) rfl)) (by decide) (by decide)) (g := (mkF m 77 #[rv r0, iv (0 : Int32)] [(.double (9218868437227405312 : UInt64)), (.ref b39)])) rfl (by rw [hml]; rfl) (argsL := [(.ref b39), (.double (9218868437227405312 : UInt64))]) (rest := []) (lenOf own_pd0 rfl) rfl (by show 2 * 0 + _ ≤ _; exact Nat.le_of_eq rfl) (Jvm.hb hby d1_77) (fun _ _ => ⟨rfl, e44, (by decide : 8 + 0 ≤ _), (by decide : 0 + 0 ≤ _)⟩)
  dsimp only [Pt.U, Pt.locs, Pt.cells, Pt.slots] at X46 l46 y46 z46 st46 hQ46
  subst l46 y46 z46
  obtain ⟨rfl, Nq46, Kc46, fd46, Ac46⟩ := hQ46
  have N46 := Fr.app N43 Nq46
  refine own_go st46 ?_
  have Z46 : n0 ≤ T46.heap.size := Nat.le_trans Z43 Kc46.1
  have K46 : Keep h0 T46.heap [r0] := Keep.trans K43 Kc46 (allS (Or.inr sz_b39) all0)
  show Gm p e below T46 m 80 #[rv r0, iv (0 : Int32)] [] _
  refine own_go (fun t₀ k₀ => XS.aloadN X46.here hx rfl (Jvm.hb hby d1_80) rfl rfl k₀) ?_
  show Gm p e below T46 m 81 #[rv r0, iv (0 : Int32)] [(.ref r0)] _
  refine own_go (fun t₀ k₀ => XS.iloadN X46.here hx rfl (Jvm.hb hby d1_81) rfl k₀) ?_
  show Gm p e below T46 m 82 #[rv r0, iv (0 : Int32)] [(.int (0 : Int32)), (.ref r0)] _
  obtain ⟨T47, h47, k47, X47, e47, E47, A47, st47⟩ := newP X46 hx hZ (hw _ (List.mem_of_getElem? (i := 9) rfl)) rfl (g := (mkF m 82 #[rv r0, iv (0 : Int32)] [(.int (0 : Int32)), (.ref r0)])) rfl (Jvm.hb hby d1_82) rfl (by decide) (cap := 0) (by decide) (by decide) (by decide) (by decide)
  obtain ⟨b47, g47⟩ : ∃ z, z = T46.heap.size := ⟨_, rfl⟩
  rw [← g47] at A47 st47
  have g_b47 : n0 ≤ b47 := Nat.le_trans Z46 (Nat.le_of_eq g47.symm)
  have f48 := ((f41.wr W43).keep Kc46)
  have ne_r0_b47 : r0 ≠ b47 := Nat.ne_of_lt (Nat.lt_of_lt_of_le f48.lt (Nat.le_of_eq g47.symm))
  have sz_b47 : h0.size ≤ b47 := Nat.le_trans K46.1 (Nat.le_of_eq g47.symm)
  have K47 : Keep h0 h47 [r0] := Keep.ext K46 E47
  have Z47 : n0 ≤ h47.size := Nat.le_trans Z46 E47.1
  have V47 : Af Z h47 b47 .int 0 (fun _ => defaultValue .int) := Af.new A47 (by decide) rfl rfl
  refine own_go st47 ?_
  show Gm p e below T47 m 84 #[rv r0, iv (0 : Int32)] [(.ref b47), (.ref r0)] _
  have f49 := (f48.ext E47)
  have f50 := (((Fld.other W43 (((Fld.other W35 ((Fld.other W30 ((Fld.other W25 ((Fld.other W20 ((Fld.other W15 ((Fld.other W10 ((Fld.other W5 (F_leaving.ext E2) (Or.inr (slot_ne (Or.inr (hw _ (List.mem_of_getElem? (i := 34) rfl))) (Or.inr (hw _ (List.mem_of_getElem? (i := 11) rfl))) (by decide) (t := (.array .int)) (t' := (.array .int)) (by decide) (by decide)))).ext E6) (Or.inr (slot_ne (Or.inr (hw _ (List.mem_of_getElem? (i := 34) rfl))) (Or.inr (hw _ (List.mem_of_getElem? (i := 13) rfl))) (by decide) (t := (.array .int)) (t' := (.array .int)) (by decide) (by decide)))).ext E11) (Or.inr (slot_ne (Or.inr (hw _ (List.mem_of_getElem? (i := 34) rfl))) (Or.inr (hw _ (List.mem_of_getElem? (i := 15) rfl))) (by decide) (t := (.array .int)) (t' := (.array .int)) (by decide) (by decide)))).ext E16) (Or.inr (slot_ne (Or.inr (hw _ (List.mem_of_getElem? (i := 34) rfl))) (Or.inr (hw _ (List.mem_of_getElem? (i := 18) rfl))) (by decide) (t := (.array .int)) (t' := (.array .double)) (by decide) (by decide)))).ext E21) (Or.inr (slot_ne (Or.inr (hw _ (List.mem_of_getElem? (i := 34) rfl))) (Or.inr (hw _ (List.mem_of_getElem? (i := 20) rfl))) (by decide) (t := (.array .int)) (t' := (.array .double)) (by decide) (by decide)))).ext E26) (Or.inr (slot_ne (Or.inr (hw _ (List.mem_of_getElem? (i := 34) rfl))) (Or.inr (hw _ (List.mem_of_getElem? (i := 22) rfl))) (by decide) (t := (.array .int)) (t' := (.array .int)) (by decide) (by decide)))).ext E31) (Or.inr (slot_ne (Or.inr (hw _ (List.mem_of_getElem? (i := 34) rfl))) (Or.inr (hw _ (List.mem_of_getElem? (i := 24) rfl))) (by decide) (t := (.array .int)) (t' := (.array .double)) (by decide) (by decide)))).keep Kc38 (ninS ne_r0_b31 nin0)).ext E39) (Or.inr (slot_ne (Or.inr (hw _ (List.mem_of_getElem? (i := 34) rfl))) (Or.inr (hw _ (List.mem_of_getElem? (i := 31) rfl))) (by decide) (t := (.array .int)) (t' := (.array .double)) (by decide) (by decide)))).keep Kc46 (ninS ne_r0_b39 nin0)).ext E47)
  obtain ⟨T51, h51, X51, e51, W51, st51⟩ := putF X47 hx hZ hown (host := "") (Or.inl (hw _ (List.mem_of_getElem? (i := 33) rfl))) Via.refl e47 f50 f49 (Or.inr ⟨(hw _ (List.mem_of_getElem? (i := 34) rfl)), rfl, hnm⟩) (hw _ (List.mem_of_getElem? (i := 1) rfl)) (ty := (.array .int)) (by decide) rfl rfl (g := (mkF m 84 #[rv r0, iv (0 : Int32)] [(.ref b47), (.ref r0)])) rfl rfl (Jvm.hb hby d1_84)
  have Fw51 := Fld.same W51 f50
  have N51 := Fr.snoc X51 N46 g_r0
  have Z51 : n0 ≤ h51.size := W51.size ▸ Z47
  have K51 : Keep h0 h51 [r0] := Keep.wr K47 W51 (Or.inl (List.mem_of_getElem? (i := 0) rfl))
  refine own_go st51 ?_
  show Gm p e below T51 m 87 #[rv r0, iv (0 : Int32)] [] _
  refine own_go (fun t₀ k₀ => XS.aloadN X51.here hx rfl (Jvm.hb hby d1_87) rfl rfl k₀) ?_
  show Gm p e below T51 m 88 #[rv r0, iv (0 : Int32)] [(.ref r0)] _
  obtain ⟨T52, X52, e52, st52⟩ := getF X51 hx hZ hown (host := "") (Or.inl (hw _ (List.mem_of_getElem? (i := 33) rfl))) Via.refl e51 Fw51 (g := (mkF m 88 #[rv r0, iv (0 : Int32)] [(.ref r0)])) rfl rfl (Jvm.hb hby d1_88)
  refine own_go st52 ?_
  show Gm p e below T52 m 91 #[rv r0, iv (0 : Int32)] [(.ref b47)] _
  refine own_go (fun t₀ k₀ => XS.iconst X52.here hx rfl (Jvm.hb hby d1_91) k₀) ?_
  show Gm p e below T52 m 92 #[rv r0, iv (0 : Int32)] [(.int (-1 : Int32)), (.ref b47)] _
  have f53 := (V47.other W51 (Ne.symm ne_r0_b47))
  obtain ⟨_, _, ⟨T54, L54, k54, n54⟩, -, X54, ⟨Lc54, hQ54, l54, y54, z54⟩, st54⟩ := Jvm.LawKit.callS X52 hx (y := (⟨"java/util/Arrays", "fill", "([II)V"⟩ : MethodName)) hown (mvT hZ (hw _ (List.mem_of_getElem? (i := 35) rfl))) (mvT hZ (hw _ (List.mem_of_getElem? (i := 36) rfl))) (mvT hZ (hw _ (List.mem_of_getElem? (i := 28) rfl))) (mvT hZ (hw _ (List.mem_of_getElem? (i := 37) rfl))) (by decide) (backOf (W := 0) (rm4_0 l Z a0 hw [] b47 (-1 : Int32) (fun _ => defaultValue .int) h51 n0 Z51 f53 g_b47) hZ (hw _ (List.mem_of_getElem? (i := 37) rfl)) (hw _ (List.mem_of_getElem? (i := 28) rfl)) (by decide) (by decide)) (g := (mkF m 92 #[rv r0, iv (0 : Int32)] [(.int (-1 : Int32)), (.ref b47)])) rfl (by rw [hml]; rfl) (argsL := [(.ref b47), (.int (-1 : Int32))]) (rest := []) (lenOf own_pd1 rfl) rfl (by show 2 * 0 + _ ≤ _; exact Nat.le_of_eq rfl) (Jvm.hb hby d1_92) (fun _ _ => ⟨rfl, e52, (by decide : 9 + 0 ≤ _), (by decide : 0 + 0 ≤ _)⟩)
  dsimp only [Pt.U, Pt.locs, Pt.cells, Pt.slots] at X54 l54 y54 z54 st54 hQ54
  subst l54 y54 z54
  obtain ⟨rfl, Nq54, Kc54, Ac54⟩ := hQ54
  have N54 := Fr.app N51 Nq54
  refine own_go st54 ?_
  have Z54 : n0 ≤ T54.heap.size := Nat.le_trans Z51 Kc54.1
  have K54 : Keep h0 T54.heap [r0] := Keep.trans K51 Kc54 (allS (Or.inr sz_b47) all0)
  show Gm p e below T54 m 95 #[rv r0, iv (0 : Int32)] [] _
  refine own_go (fun t₀ k₀ => XS.aloadN X54.here hx rfl (Jvm.hb hby d1_95) rfl rfl k₀) ?_
  show Gm p e below T54 m 96 #[rv r0, iv (0 : Int32)] [(.ref r0)] _
  refine own_go (fun t₀ k₀ => XS.iloadN X54.here hx rfl (Jvm.hb hby d1_96) rfl k₀) ?_
  show Gm p e below T54 m 97 #[rv r0, iv (0 : Int32)] [(.int (0 : Int32)), (.ref r0)] _
  obtain ⟨T55, h55, k55, X55, e55, E55, A55, st55⟩ := newP X54 hx hZ (hw _ (List.mem_of_getElem? (i := 9) rfl)) rfl (g := (mkF m 97 #[rv r0, iv (0 : Int32)] [(.int (0 : Int32)), (.ref r0)])) rfl (Jvm.hb hby d1_97) rfl (by decide) (cap := 0) (by decide) (by decide) (by decide) (by decide)
  obtain ⟨b55, g55⟩ : ∃ z, z = T54.heap.size := ⟨_, rfl⟩
  rw [← g55] at A55 st55
  have g_b55 : n0 ≤ b55 := Nat.le_trans Z54 (Nat.le_of_eq g55.symm)
  have f56 := ((f49.wr W51).keep Kc54)
  have ne_r0_b55 : r0 ≠ b55 := Nat.ne_of_lt (Nat.lt_of_lt_of_le f56.lt (Nat.le_of_eq g55.symm))
  have sz_b55 : h0.size ≤ b55 := Nat.le_trans K54.1 (Nat.le_of_eq g55.symm)
  have K55 : Keep h0 h55 [r0] := Keep.ext K54 E55
  have Z55 : n0 ≤ h55.size := Nat.le_trans Z54 E55.1
  have V55 : Af Z h55 b55 .int 0 (fun _ => defaultValue .int) := Af.new A55 (by decide) rfl rfl
  refine own_go st55 ?_
  show Gm p e below T55 m 99 #[rv r0, iv (0 : Int32)] [(.ref b55), (.ref r0)] _
  have f57 := (f56.ext E55)
  have f58 := (((Fld.other W51 (((Fld.other W43 (((Fld.other W35 ((Fld.other W30 ((Fld.other W25 ((Fld.other W20 ((Fld.other W15 ((Fld.other W10 ((Fld.other W5 (F_exit.ext E2) (Or.inr (slot_ne (Or.inr (hw _ (List.mem_of_getElem? (i := 39) rfl))) (Or.inr (hw _ (List.mem_of_getElem? (i := 11) rfl))) (by decide) (t := (.array .int)) (t' := (.array .int)) (by decide) (by decide)))).ext E6) (Or.inr (slot_ne (Or.inr (hw _ (List.mem_of_getElem? (i := 39) rfl))) (Or.inr (hw _ (List.mem_of_getElem? (i := 13) rfl))) (by decide) (t := (.array .int)) (t' := (.array .int)) (by decide) (by decide)))).ext E11) (Or.inr (slot_ne (Or.inr (hw _ (List.mem_of_getElem? (i := 39) rfl))) (Or.inr (hw _ (List.mem_of_getElem? (i := 15) rfl))) (by decide) (t := (.array .int)) (t' := (.array .int)) (by decide) (by decide)))).ext E16) (Or.inr (slot_ne (Or.inr (hw _ (List.mem_of_getElem? (i := 39) rfl))) (Or.inr (hw _ (List.mem_of_getElem? (i := 18) rfl))) (by decide) (t := (.array .int)) (t' := (.array .double)) (by decide) (by decide)))).ext E21) (Or.inr (slot_ne (Or.inr (hw _ (List.mem_of_getElem? (i := 39) rfl))) (Or.inr (hw _ (List.mem_of_getElem? (i := 20) rfl))) (by decide) (t := (.array .int)) (t' := (.array .double)) (by decide) (by decide)))).ext E26) (Or.inr (slot_ne (Or.inr (hw _ (List.mem_of_getElem? (i := 39) rfl))) (Or.inr (hw _ (List.mem_of_getElem? (i := 22) rfl))) (by decide) (t := (.array .int)) (t' := (.array .int)) (by decide) (by decide)))).ext E31) (Or.inr (slot_ne (Or.inr (hw _ (List.mem_of_getElem? (i := 39) rfl))) (Or.inr (hw _ (List.mem_of_getElem? (i := 24) rfl))) (by decide) (t := (.array .int)) (t' := (.array .double)) (by decide) (by decide)))).keep Kc38 (ninS ne_r0_b31 nin0)).ext E39) (Or.inr (slot_ne (Or.inr (hw _ (List.mem_of_getElem? (i := 39) rfl))) (Or.inr (hw _ (List.mem_of_getElem? (i := 31) rfl))) (by decide) (t := (.array .int)) (t' := (.array .double)) (by decide) (by decide)))).keep Kc46 (ninS ne_r0_b39 nin0)).ext E47) (Or.inr (slot_ne (Or.inr (hw _ (List.mem_of_getElem? (i := 39) rfl))) (Or.inr (hw _ (List.mem_of_getElem? (i := 34) rfl))) (by decide) (t := (.array .int)) (t' := (.array .int)) (by decide) (by decide)))).keep Kc54 (ninS ne_r0_b47 nin0)).ext E55)
  obtain ⟨T59, h59, X59, e59, W59, st59⟩ := putF X55 hx hZ hown (host := "") (Or.inl (hw _ (List.mem_of_getElem? (i := 38) rfl))) Via.refl e55 f58 f57 (Or.inr ⟨(hw _ (List.mem_of_getElem? (i := 39) rfl)), rfl, hnm⟩) (hw _ (List.mem_of_getElem? (i := 1) rfl)) (ty := (.array .int)) (by decide) rfl rfl (g := (mkF m 99 #[rv r0, iv (0 : Int32)] [(.ref b55), (.ref r0)])) rfl rfl (Jvm.hb hby d1_99)
  have Fw59 := Fld.same W59 f58
  have N59 := Fr.snoc X59 N54 g_r0
  have Z59 : n0 ≤ h59.size := W59.size ▸ Z55
  have K59 : Keep h0 h59 [r0] := Keep.wr K55 W59 (Or.inl (List.mem_of_getElem? (i := 0) rfl))
  refine own_go st59 ?_
  show Gm p e below T59 m 102 #[rv r0, iv (0 : Int32)] [] _
  refine own_go (fun t₀ k₀ => XS.aloadN X59.here hx rfl (Jvm.hb hby d1_102) rfl rfl k₀) ?_
  show Gm p e below T59 m 103 #[rv r0, iv (0 : Int32)] [(.ref r0)] _
  obtain ⟨T60, X60, e60, st60⟩ := getF X59 hx hZ hown (host := "") (Or.inl (hw _ (List.mem_of_getElem? (i := 38) rfl))) Via.refl e59 Fw59 (g := (mkF m 103 #[rv r0, iv (0 : Int32)] [(.ref r0)])) rfl rfl (Jvm.hb hby d1_103)
  refine own_go st60 ?_
  show Gm p e below T60 m 106 #[rv r0, iv (0 : Int32)] [(.ref b55)] _
  refine own_go (fun t₀ k₀ => XS.iconst X60.here hx rfl (Jvm.hb hby d1_106) k₀) ?_
  show Gm p e below T60 m 107 #[rv r0, iv (0 : Int32)] [(.int (-1 : Int32)), (.ref b55)] _
  have f61 := (V55.other W59 (Ne.symm ne_r0_b55))
  obtain ⟨_, _, ⟨T62, L62, k62, n62⟩, -, X62, ⟨Lc62, hQ62, l62, y62, z62⟩, st62⟩ := Jvm.LawKit.callS X60 hx (y := (⟨"java/util/Arrays", "fill", "([II)V"⟩ : MethodName)) hown (mvT hZ (hw _ (List.mem_of_getElem? (i := 35) rfl))) (mvT hZ (hw _ (List.mem_of_getElem? (i := 36) rfl))) (mvT hZ (hw _ (List.mem_of_getElem? (i := 28) rfl))) (mvT hZ (hw _ (List.mem_of_getElem? (i := 37) rfl))) (by decide) (backOf (W := 0) (rm4_0 l Z a0 hw [] b55 (-1 : Int32) (fun _ => defaultValue .int) h59 n0 Z59 f61 g_b55) hZ (hw _ (List.mem_of_getElem? (i := 37) rfl)) (hw _ (List.mem_of_getElem? (i := 28) rfl)) (by decide) (by decide)) (g := (mkF m 107 #[rv r0, iv (0 : Int32)] [(.int (-1 : Int32)), (.ref b55)])) rfl (by rw [hml]; rfl) (argsL := [(.ref b55), (.int (-1 : Int32))]) (rest := []) (lenOf own_pd1 rfl) rfl (by show 2 * 0 + _ ≤ _; exact Nat.le_of_eq rfl) (Jvm.hb hby d1_107) (fun _ _ => ⟨rfl, e60, (by decide : 10 + 0 ≤ _), (by decide : 0 + 0 ≤ _)⟩)
  dsimp only [Pt.U, Pt.locs, Pt.cells, Pt.slots] at X62 l62 y62 z62 st62 hQ62
  subst l62 y62 z62
  obtain ⟨rfl, Nq62, Kc62, Ac62⟩ := hQ62
  have N62 := Fr.app N59 Nq62
  refine own_go st62 ?_
  have Z62 : n0 ≤ T62.heap.size := Nat.le_trans Z59 Kc62.1
  have K62 : Keep h0 T62.heap [r0] := Keep.trans K59 Kc62 (allS (Or.inr sz_b55) all0)
  show Gm p e below T62 m 110 #[rv r0, iv (0 : Int32)] [] _
  refine own_go (fun t₀ k₀ => XS.aloadN X62.here hx rfl (Jvm.hb hby d1_110) rfl rfl k₀) ?_
  show Gm p e below T62 m 111 #[rv r0, iv (0 : Int32)] [(.ref r0)] _
  refine own_go (fun t₀ k₀ => XS.iloadN X62.here hx rfl (Jvm.hb hby d1_111) rfl k₀) ?_
  show Gm p e below T62 m 112 #[rv r0, iv (0 : Int32)] [(.int (0 : Int32)), (.ref r0)] _
  obtain ⟨T63, h63, k63, X63, e63, E63, A63, st63⟩ := newP X62 hx hZ (hw _ (List.mem_of_getElem? (i := 16) rfl)) rfl (g := (mkF m 112 #[rv r0, iv (0 : Int32)] [(.int (0 : Int32)), (.ref r0)])) rfl (Jvm.hb hby d1_112) rfl (by decide) (cap := 0) (by decide) (by decide) (by decide) (by decide)
  obtain ⟨b63, g63⟩ : ∃ z, z = T62.heap.size := ⟨_, rfl⟩
  rw [← g63] at A63 st63
  have g_b63 : n0 ≤ b63 := Nat.le_trans Z62 (Nat.le_of_eq g63.symm)
  have f64 := ((f57.wr W59).keep Kc62)
  have ne_r0_b63 : r0 ≠ b63 := Nat.ne_of_lt (Nat.lt_of_lt_of_le f64.lt (Nat.le_of_eq g63.symm))
  have ne_b55_b63 : b55 ≠ b63 := Nat.ne_of_lt (Nat.lt_of_lt_of_le Ac62.lt (Nat.le_of_eq g63.symm))
  have sz_b63 : h0.size ≤ b63 := Nat.le_trans K62.1 (Nat.le_of_eq g63.symm)
  have K63 : Keep h0 h63 [r0] := Keep.ext K62 E63
  have Z63 : n0 ≤ h63.size := Nat.le_trans Z62 E63.1
  have V63 : Af Z h63 b63 .double 0 (fun _ => defaultValue .double) := Af.new A63 (by decide) rfl rfl
  refine own_go st63 ?_
  show Gm p e below T63 m 114 #[rv r0, iv (0 : Int32)] [(.ref b63), (.ref r0)] _
  have f65 := (f64.ext E63)
  have f66 := (((Fld.other W59 (((Fld.other W51 (((Fld.other W43 (((Fld.other W35 ((Fld.other W30 ((Fld.other W25 ((Fld.other W20 ((Fld.other W15 ((Fld.other W10 ((Fld.other W5 (F_distanceM.ext E2) (Or.inr (slot_ne (Or.inr (hw _ (List.mem_of_getElem? (i := 41) rfl))) (Or.inr (hw _ (List.mem_of_getElem? (i := 11) rfl))) (by decide) (t := (.array .double)) (t' := (.array .int)) (by decide) (by decide)))).ext E6) (Or.inr (slot_ne (Or.inr (hw _ (List.mem_of_getElem? (i := 41) rfl))) (Or.inr (hw _ (List.mem_of_getElem? (i := 13) rfl))) (by decide) (t := (.array .double)) (t' := (.array .int)) (by decide) (by decide)))).ext E11) (Or.inr (slot_ne (Or.inr (hw _ (List.mem_of_getElem? (i := 41) rfl))) (Or.inr (hw _ (List.mem_of_getElem? (i := 15) rfl))) (by decide) (t := (.array .double)) (t' := (.array .int)) (by decide) (by decide)))).ext E16) (Or.inr (slot_ne (Or.inr (hw _ (List.mem_of_getElem? (i := 41) rfl))) (Or.inr (hw _ (List.mem_of_getElem? (i := 18) rfl))) (by decide) (t := (.array .double)) (t' := (.array .double)) (by decide) (by decide)))).ext E21) (Or.inr (slot_ne (Or.inr (hw _ (List.mem_of_getElem? (i := 41) rfl))) (Or.inr (hw _ (List.mem_of_getElem? (i := 20) rfl))) (by decide) (t := (.array .double)) (t' := (.array .double)) (by decide) (by decide)))).ext E26) (Or.inr (slot_ne (Or.inr (hw _ (List.mem_of_getElem? (i := 41) rfl))) (Or.inr (hw _ (List.mem_of_getElem? (i := 22) rfl))) (by decide) (t := (.array .double)) (t' := (.array .int)) (by decide) (by decide)))).ext E31) (Or.inr (slot_ne (Or.inr (hw _ (List.mem_of_getElem? (i := 41) rfl))) (Or.inr (hw _ (List.mem_of_getElem? (i := 24) rfl))) (by decide) (t := (.array .double)) (t' := (.array .double)) (by decide) (by decide)))).keep Kc38 (ninS ne_r0_b31 nin0)).ext E39) (Or.inr (slot_ne (Or.inr (hw _ (List.mem_of_getElem? (i := 41) rfl))) (Or.inr (hw _ (List.mem_of_getElem? (i := 31) rfl))) (by decide) (t := (.array .double)) (t' := (.array .double)) (by decide) (by decide)))).keep Kc46 (ninS ne_r0_b39 nin0)).ext E47) (Or.inr (slot_ne (Or.inr (hw _ (List.mem_of_getElem? (i := 41) rfl))) (Or.inr (hw _ (List.mem_of_getElem? (i := 34) rfl))) (by decide) (t := (.array .double)) (t' := (.array .int)) (by decide) (by decide)))).keep Kc54 (ninS ne_r0_b47 nin0)).ext E55) (Or.inr (slot_ne (Or.inr (hw _ (List.mem_of_getElem? (i := 41) rfl))) (Or.inr (hw _ (List.mem_of_getElem? (i := 39) rfl))) (by decide) (t := (.array .double)) (t' := (.array .int)) (by decide) (by decide)))).keep Kc62 (ninS ne_r0_b55 nin0)).ext E63)
  obtain ⟨T67, h67, X67, e67, W67, st67⟩ := putF X63 hx hZ hown (host := "") (Or.inl (hw _ (List.mem_of_getElem? (i := 40) rfl))) Via.refl e63 f66 f65 (Or.inr ⟨(hw _ (List.mem_of_getElem? (i := 41) rfl)), rfl, hnm⟩) (hw _ (List.mem_of_getElem? (i := 1) rfl)) (ty := (.array .double)) (by decide) rfl rfl (g := (mkF m 114 #[rv r0, iv (0 : Int32)] [(.ref b63), (.ref r0)])) rfl rfl (Jvm.hb hby d1_114)
  have Fw67 := Fld.same W67 f66
  have N67 := Fr.snoc X67 N62 g_r0
  have Z67 : n0 ≤ h67.size := W67.size ▸ Z63
  have K67 : Keep h0 h67 [r0] := Keep.wr K63 W67 (Or.inl (List.mem_of_getElem? (i := 0) rfl))
  refine own_go st67 ?_
  show Gm p e below T67 m 117 #[rv r0, iv (0 : Int32)] [] _
  have f68 := (f65.wr W67)
  have f69 := (Fld.other W67 ((Fw59.keep Kc62 (ninS ne_r0_b55 nin0)).ext E63) (Or.inr (slot_ne (Or.inr (hw _ (List.mem_of_getElem? (i := 39) rfl))) (Or.inr (hw _ (List.mem_of_getElem? (i := 41) rfl))) (by decide) (t := (.array .int)) (t' := (.array .double)) (by decide) (by decide))))
  have f70 := ((Ac62.ext E63).other W67 (Ne.symm ne_r0_b55))
  exact own_retV X67 hx hlk Bd.returns (Jvm.hb hby d1_117) e67 ⟨b55, rfl, N67, K67, f68, sz_b55, f69, f70⟩ (by decide) (by decide)
theorem d5_0 : decode prog_63_method_3_code 0 = .ok (.aload_n 0, 1) := by decide +kernel
theorem d5_1 : decode prog_63_method_3_code 1 = .ok (.getfield 53, 3) := by decide +kernel
theorem d5_4 : decode prog_63_method_3_code 4 = .ok (.astore_n 1, 1) := by decide +kernel
theorem d5_5 : decode prog_63_method_3_code 5 = .ok (.aload_n 1, 1) := by decide +kernel
theorem d5_6 : decode prog_63_method_3_code 6 = .ok (.arraylength, 1) := by decide +kernel
theorem d5_7 : decode prog_63_method_3_code 7 = .ok (.istore_n 2, 1) := by decide +kernel
theorem d5_8 : decode prog_63_method_3_code 8 = .ok (.iconst 0, 1) := by decide +kernel
theorem d5_9 : decode prog_63_method_3_code 9 = .ok (.istore_n 3, 1) := by decide +kernel
theorem d5_10 : decode prog_63_method_3_code 10 = .ok (.iload_n 3, 1) := by decide +kernel
theorem d5_11 : decode prog_63_method_3_code 11 = .ok (.iload_n 2, 1) := by decide +kernel
theorem d5_12 : decode prog_63_method_3_code 12 = .ok (.if_icmp .ge 21, 3) := by decide +kernel
theorem d5_33 : decode prog_63_method_3_code 33 = .ok (.iconst 0, 1) := by decide +kernel
theorem d5_34 : decode prog_63_method_3_code 34 = .ok (.ireturn, 1) := by decide +kernel
theorem own_pn_rm5_0 : plainName "com/example/throughfare/throughfare/simulation/Walkers" = true := by first | (simp [plainName, overriddenIn]; done) | decide +kernel
theorem own_ef_rm5_0 (m : MethodId) (r0 : Addr) : entryFrame m #[(.ref r0)] 5 = mkF m 0 #[.val (.ref r0), .unset, .unset, .unset, .unset] [] := by first | (simp [entryFrame, mkF, argsToLocals, Value.category]; done) | rfl
def fA0  : Int32 := (0 : Int32)
def Q5_0 (Z : State) (r0 : Addr) (c1 : Addr) (f : Nat → Value) (h0 : Heap) (n0 : Nat) (v : Option Value) (h : Heap) (L : List Loc) : Prop := v = some (.int (fA0 )) ∧ Fr n0 L ∧ h = h0
set_option maxRecDepth 65536 in
set_option maxHeartbeats 40000000 in
theorem rm5_0 (l : Launch) (Z : State) (a0 : Array Value) (hw : ∀ d ∈ tables_1, d.before a0 Z = true) (ws : List Jvm.Cond) (r0 : Addr) (c1 : Addr) (f : Nat → Value) (h0 : Heap) (n0 : Nat) (Z0 : n0 ≤ h0.size) (F_e : Fld Z h0 r0 "com/example/throughfare/throughfare/simulation/Walkers" "exit" "[I" (.ref c1)) (A : Af Z h0 c1 .int 0 f) :
    MetFree l (⟨"com/example/throughfare/throughfare/simulation/Walkers", "anyoneInside", "()Z"⟩ : MethodName) (head1 (Jvm.Cond.code (⟨"com/example/throughfare/throughfare/simulation/Walkers", "anyoneInside", "()Z"⟩ : MethodName) prog_63_method_3_code 5 (some .boolean) :: ws) ({ frames := 0, cells := 0, slots := 0, locals := 0 } : Room)) (fun a U => a = #[(.ref r0)] ∧ Z.Warmed39 U.vm ∧ U.heap = h0) (fun _ _ _ _ _ => True) (fun _ U o U' => ∃ v L, o = .returned v ∧ Q5_0 Z r0 c1 f h0 n0 v U'.heap L ∧ FrameEnd U o U' L ({ frames := 0, cells := 0, slots := 0, locals := 0 } : Room).cells ({ frames := 0, cells := 0, slots := 0, locals := 0 } : Room).slots) := by
  refine MetFree.of_bodySF (plainFor_of_name own_pn_rm5_0) hisR ?_
  intro p e s m args below meth cO s₁ Bd hml0 hP hK
  obtain ⟨rfl, hZ, hh⟩ := hP
  have hx := Bd.exec
  have hby := Bd.bytes
  have hml : cO.maxLocals = 5 := hml0
  have hown : s.vm.findClass "com/example/throughfare/throughfare/simulation/Walkers" = some m.cls := findClass_of_methodNamed Bd.named
  have hnm := (name_of_methodNamed Bd.named Bd.method).1
  have hlk : meth.locks = false := BodyLoose.notSynchronized Bd
  have X0 : Stand p l e ({ frames := 0, cells := 0, slots := 0, locals := 0 } : Room) s m #[(.ref r0)] below meth cO s₁ [] 0 0 := Stand.of_body Bd
  have e0 : s₁.heap = h0 := by rw [← hh, Bd.state]; rfl
  have N0 := Fr.nil n0
  refine own_in (own_ef_rm5_0 m r0) ?_
  show Gm p e below s₁ m 0 #[rv r0, .unset, .unset, .unset, .unset] [] _
  refine own_go (fun t₀ k₀ => XS.aloadN X0.here hx rfl (Jvm.hb hby d5_0) rfl rfl k₀) ?_
  show Gm p e below s₁ m 1 #[rv r0, .unset, .unset, .unset, .unset] [(.ref r0)] _
  obtain ⟨T1, X1, e1, st1⟩ := getF X0 hx hZ hown (host := "") (Or.inl (hw _ (List.mem_of_getElem? (i := 38) rfl))) Via.refl e0 F_e (g := (mkF m 1 #[rv r0, .unset, .unset, .unset, .unset] [(.ref r0)])) rfl rfl (Jvm.hb hby d5_1)
  refine own_go st1 ?_
  show Gm p e below T1 m 4 #[rv r0, .unset, .unset, .unset, .unset] [(.ref c1)] _
  refine own_go (fun t₀ k₀ => XS.astoreN X1.here hx rfl (Jvm.hb hby d5_4) rfl rfl (l' := #[rv r0, rv c1, .unset, .unset, .unset]) rfl k₀) ?_
  show Gm p e below T1 m 5 #[rv r0, rv c1, .unset, .unset, .unset] [] _
  refine own_go (fun t₀ k₀ => XS.aloadN X1.here hx rfl (Jvm.hb hby d5_5) rfl rfl k₀) ?_
  show Gm p e below T1 m 6 #[rv r0, rv c1, .unset, .unset, .unset] [(.ref c1)] _
  refine own_go (fun t₀ k₀ => own_len X1 hx hZ e1 A (z := (0 : Int32)) rfl (g := (mkF m 6 #[rv r0, rv c1, .unset, .unset, .unset] [(.ref c1)])) rfl rfl (Jvm.hb hby d5_6) k₀) ?_
  show Gm p e below T1 m 7 #[rv r0, rv c1, .unset, .unset, .unset] [(.int (0 : Int32))] _
  refine own_go (fun t₀ k₀ => XS.istoreN X1.here hx rfl (Jvm.hb hby d5_7) rfl (l' := #[rv r0, rv c1, iv (0 : Int32), .unset, .unset]) rfl k₀) ?_
  show Gm p e below T1 m 8 #[rv r0, rv c1, iv (0 : Int32), .unset, .unset] [] _
  refine own_go (fun t₀ k₀ => XS.iconst X1.here hx rfl (Jvm.hb hby d5_8) k₀) ?_
  show Gm p e below T1 m 9 #[rv r0, rv c1, iv (0 : Int32), .unset, .unset] [(.int (0 : Int32))] _
  refine own_go (fun t₀ k₀ => XS.istoreN X1.here hx rfl (Jvm.hb hby d5_9) rfl (l' := #[rv r0, rv c1, iv (0 : Int32), iv (0 : Int32), .unset]) rfl k₀) ?_
  show Gm p e below T1 m 10 #[rv r0, rv c1, iv (0 : Int32), iv (0 : Int32), .unset] [] _
  refine own_go (fun t₀ k₀ => XS.iloadN X1.here hx rfl (Jvm.hb hby d5_10) rfl k₀) ?_
  show Gm p e below T1 m 11 #[rv r0, rv c1, iv (0 : Int32), iv (0 : Int32), .unset] [(.int (0 : Int32))] _
  refine own_go (fun t₀ k₀ => XS.iloadN X1.here hx rfl (Jvm.hb hby d5_11) rfl k₀) ?_
  show Gm p e below T1 m 12 #[rv r0, rv c1, iv (0 : Int32), iv (0 : Int32), .unset] [(.int (0 : Int32)), (.int (0 : Int32))] _
  refine own_go (fun t₀ k₀ => XS.icmpYes X1.here hx rfl (pc0 := 12) (pc' := 33) rfl (Jvm.hb hby d5_12) rfl (XT.ii_ge_t (by decide)) (by decide) (by decide) k₀) ?_
  show Gm p e below T1 m 33 #[rv r0, rv c1, iv (0 : Int32), iv (0 : Int32), .unset] [] _
  refine own_go (fun t₀ k₀ => XS.iconst X1.here hx rfl (Jvm.hb hby d5_33) k₀) ?_
  show Gm p e below T1 m 34 #[rv r0, rv c1, iv (0 : Int32), iv (0 : Int32), .unset] [(.int (0 : Int32))] _
  exact own_retI X1 hx hlk (t := .boolean) Bd.returns rfl (by simp) (Jvm.hb hby d5_34) e1 ⟨rfl, N0, rfl⟩ (by decide) (by decide)
theorem d3_12 : decode jdk_65_method_113_code 12 = .ok (.aload_n 0, 1) := by decide +kernel
theorem d3_13 : decode jdk_65_method_113_code 13 = .ok (.iload_n 3, 1) := by decide +kernel
theorem d3_14 : decode jdk_65_method_113_code 14 = .ok (.dload_n 1, 1) := by decide +kernel
theorem d3_15 : decode jdk_65_method_113_code 15 = .ok (.dastore, 1) := by decide +kernel
theorem d3_16 : decode jdk_65_method_113_code 16 = .ok (.iinc 3 1, 3) := by decide +kernel
theorem d3_19 : decode jdk_65_method_113_code 19 = .ok (.goto (-13), 3) := by decide +kernel
theorem own_pn_rm3_1 : plainName "java/util/Arrays" = true := by first | (simp [plainName, overriddenIn]; done) | decide +kernel
theorem own_ef_rm3_1 (m : MethodId) (r0 : Addr) (x1 : UInt64) : entryFrame m #[(.ref r0), (.double x1)] 5 = mkF m 0 #[.val (.ref r0), .val (.double x1), .second, .unset, .unset] [] := by first | (simp [entryFrame, mkF, argsToLocals, Value.category]; done) | rfl
def Q3_1 (Z : State) (r0 : Addr) (x1 : UInt64) (f : Nat → Value) (h0 : Heap) (n0 : Nat) (v : Option Value) (h : Heap) (L : List Loc) : Prop := v = none ∧ Fr n0 L ∧ Keep h0 h [r0] ∧ ∃ f', Af Z h r0 .double 1 f'
set_option maxRecDepth 65536 in
set_option maxHeartbeats 40000000 in
theorem rm3_1 (l : Launch) (Z : State) (a0 : Array Value) (hw : ∀ d ∈ tables_1, d.before a0 Z = true) (ws : List Jvm.Cond) (r0 : Addr) (x1 : UInt64) (f : Nat → Value) (h0 : Heap) (n0 : Nat) (Z0 : n0 ≤ h0.size) (A : Af Z h0 r0 .double 1 f) (g_r0 : n0 ≤ r0) :
    MetFree l (⟨"java/util/Arrays", "fill", "([DD)V"⟩ : MethodName) (head1 (Jvm.Cond.code (⟨"java/util/Arrays", "fill", "([DD)V"⟩ : MethodName) jdk_65_method_113_code 5 none :: ws) ({ frames := 0, cells := 0, slots := 0, locals := 0 } : Room)) (fun a U => a = #[(.ref r0), (.double x1)] ∧ Z.Warmed39 U.vm ∧ U.heap = h0) (fun _ _ _ _ _ => True) (fun _ U o U' => ∃ v L, o = .returned v ∧ Q3_1 Z r0 x1 f h0 n0 v U'.heap L ∧ FrameEnd U o U' L ({ frames := 0, cells := 0, slots := 0, locals := 0 } : Room).cells ({ frames := 0, cells := 0, slots := 0, locals := 0 } : Room).slots) := by
  refine MetFree.of_bodySF (plainFor_of_name own_pn_rm3_1) hisR ?_
  intro p e s m args below meth cO s₁ Bd hml0 hP hK
  obtain ⟨rfl, hZ, hh⟩ := hP
  have hx := Bd.exec
  have hby := Bd.bytes
  have hml : cO.maxLocals = 5 := hml0
  have hown : s.vm.findClass "java/util/Arrays" = some m.cls := findClass_of_methodNamed Bd.named
  have hnm := (name_of_methodNamed Bd.named Bd.method).1
  have hlk : meth.locks = false := BodyLoose.notSynchronized Bd
  have X0 : Stand p l e ({ frames := 0, cells := 0, slots := 0, locals := 0 } : Room) s m #[(.ref r0), (.double x1)] below meth cO s₁ [] 0 0 := Stand.of_body Bd
  have e0 : s₁.heap = h0 := by rw [← hh, Bd.state]; rfl
  have N0 := Fr.nil n0
  refine own_in (own_ef_rm3_1 m r0 x1) ?_
  show Gm p e below s₁ m 0 #[rv r0, .val (.double x1), .second, .unset, .unset] [] _
  refine own_go (fun t₀ k₀ => XS.iconst X0.here hx rfl (Jvm.hb hby d3_0) k₀) ?_
  show Gm p e below s₁ m 1 #[rv r0, .val (.double x1), .second, .unset, .unset] [(.int (0 : Int32))] _
  refine own_go (fun t₀ k₀ => XS.istoreN X0.here hx rfl (Jvm.hb hby d3_1) rfl (l' := #[rv r0, .val (.double x1), .second, iv (0 : Int32), .unset]) rfl k₀) ?_
  show Gm p e below s₁ m 2 #[rv r0, .val (.double x1), .second, iv (0 : Int32), .unset] [] _
  refine own_go (fun t₀ k₀ => XS.aloadN X0.here hx rfl (Jvm.hb hby d3_2) rfl rfl k₀) ?_
  show Gm p e below s₁ m 3 #[rv r0, .val (.double x1), .second, iv (0 : Int32), .unset] [(.ref r0)] _
  refine own_go (fun t₀ k₀ => own_len X0 hx hZ e0 A (z := (1 : Int32)) rfl (g := (mkF m 3 #[rv r0, .val (.double x1), .second, iv (0 : Int32), .unset] [(.ref r0)])) rfl rfl (Jvm.hb hby d3_3) k₀) ?_
  show Gm p e below s₁ m 4 #[rv r0, .val (.double x1), .second, iv (0 : Int32), .unset] [(.int (1 : Int32))] _
  refine own_go (fun t₀ k₀ => XS.istore X0.here hx rfl (Jvm.hb hby d3_4) rfl (l' := #[rv r0, .val (.double x1), .second, iv (0 : Int32), iv (1 : Int32)]) rfl k₀) ?_
  show Gm p e below s₁ m 6 #[rv r0, .val (.double x1), .second, iv (0 : Int32), iv (1 : Int32)] [] _
  refine own_go (fun t₀ k₀ => XS.iloadN X0.here hx rfl (Jvm.hb hby d3_6) rfl k₀) ?_
  show Gm p e below s₁ m 7 #[rv r0, .val (.double x1), .second, iv (0 : Int32), iv (1 : Int32)] [(.int (0 : Int32))] _
  refine own_go (fun t₀ k₀ => XS.iload X0.here hx rfl (Jvm.hb hby d3_7) rfl k₀) ?_
  show Gm p e below s₁ m 9 #[rv r0, .val (.double x1), .second, iv (0 : Int32), iv (1 : Int32)] [(.int (1 : Int32)), (.int (0 : Int32))] _
  refine own_go (fun t₀ k₀ => XS.icmpNo X0.here hx rfl (Jvm.hb hby d3_9) rfl (XT.ii_ge_f (by decide)) k₀) ?_
  show Gm p e below s₁ m 12 #[rv r0, .val (.double x1), .second, iv (0 : Int32), iv (1 : Int32)] [] _
  refine own_go (fun t₀ k₀ => XS.aloadN X0.here hx rfl (Jvm.hb hby d3_12) rfl rfl k₀) ?_
  show Gm p e below s₁ m 13 #[rv r0, .val (.double x1), .second, iv (0 : Int32), iv (1 : Int32)] [(.ref r0)] _
  refine own_go (fun t₀ k₀ => XS.iloadN X0.here hx rfl (Jvm.hb hby d3_13) rfl k₀) ?_
  show Gm p e below s₁ m 14 #[rv r0, .val (.double x1), .second, iv (0 : Int32), iv (1 : Int32)] [(.int (0 : Int32)), (.ref r0)] _
  refine own_go (fun t₀ k₀ => XS.dloadN X0.here hx rfl (Jvm.hb hby d3_14) rfl k₀) ?_
  show Gm p e below s₁ m 15 #[rv r0, .val (.double x1), .second, iv (0 : Int32), iv (1 : Int32)] [(.double x1), (.int (0 : Int32)), (.ref r0)] _
  obtain ⟨T1, h1, X1, e1, W1, A1, st1⟩ := own_stD X0 hx hZ e0 A (j := (0 : Int32)) (k := 0) (by decide) rfl (by decide) (g := (mkF m 15 #[rv r0, .val (.double x1), .second, iv (0 : Int32), iv (1 : Int32)] [(.double x1), (.int (0 : Int32)), (.ref r0)])) rfl rfl (Jvm.hb hby d3_15)
  have N1 := Fr.snoc X1 N0 g_r0
  have Z1 : n0 ≤ h1.size := W1.size ▸ Z0
  have K1 : Keep h0 h1 [r0] := Keep.wr (Keep.refl h0 [r0]) W1 (Or.inl (List.mem_of_getElem? (i := 0) rfl))
  refine own_go st1 ?_
  show Gm p e below T1 m 16 #[rv r0, .val (.double x1), .second, iv (0 : Int32), iv (1 : Int32)] [] _
  refine own_go (fun t₀ k₀ => XS.iinc X1.here hx rfl (Jvm.hb hby d3_16) rfl (l' := #[rv r0, .val (.double x1), .second, iv (1 : Int32), iv (1 : Int32)]) rfl k₀) ?_
  show Gm p e below T1 m 19 #[rv r0, .val (.double x1), .second, iv (1 : Int32), iv (1 : Int32)] [] _
  refine own_go (fun t₀ k₀ => XS.goto X1.here hx rfl (pc0 := 19) (pc' := 6) rfl (Jvm.hb hby d3_19) (by decide) (by decide) k₀) ?_
  show Gm p e below T1 m 6 #[rv r0, .val (.double x1), .second, iv (1 : Int32), iv (1 : Int32)] [] _
  refine own_go (fun t₀ k₀ => XS.iloadN X1.here hx rfl (Jvm.hb hby d3_6) rfl k₀) ?_
  show Gm p e below T1 m 7 #[rv r0, .val (.double x1), .second, iv (1 : Int32), iv (1 : Int32)] [(.int (1 : Int32))] _
  refine own_go (fun t₀ k₀ => XS.iload X1.here hx rfl (Jvm.hb hby d3_7) rfl k₀) ?_
  show Gm p e below T1 m 9 #[rv r0, .val (.double x1), .second, iv (1 : Int32), iv (1 : Int32)] [(.int (1 : Int32)), (.int (1 : Int32))] _
  refine own_go (fun t₀ k₀ => XS.icmpYes X1.here hx rfl (pc0 := 9) (pc' := 22) rfl (Jvm.hb hby d3_9) rfl (XT.ii_ge_t (by decide)) (by decide) (by decide) k₀) ?_
  show Gm p e below T1 m 22 #[rv r0, .val (.double x1), .second, iv (1 : Int32), iv (1 : Int32)] [] _
  exact own_retV X1 hx hlk Bd.returns (Jvm.hb hby d3_22) e1 ⟨rfl, N1, K1, _, A1⟩ (by decide) (by decide)
theorem d4_10 : decode jdk_65_method_103_code 10 = .ok (.aload_n 0, 1) := by decide +kernel
theorem d4_11 : decode jdk_65_method_103_code 11 = .ok (.iload_n 2, 1) := by decide +kernel
theorem d4_12 : decode jdk_65_method_103_code 12 = .ok (.iload_n 1, 1) := by decide +kernel
theorem d4_13 : decode jdk_65_method_103_code 13 = .ok (.iastore, 1) := by decide +kernel
theorem d4_14 : decode jdk_65_method_103_code 14 = .ok (.iinc 2 1, 3) := by decide +kernel
theorem d4_17 : decode jdk_65_method_103_code 17 = .ok (.goto (-12), 3) := by decide +kernel
theorem own_pn_rm4_1 : plainName "java/util/Arrays" = true := by first | (simp [plainName, overriddenIn]; done) | decide +kernel
theorem own_ef_rm4_1 (m : MethodId) (r0 : Addr) (p1 : Int32) : entryFrame m #[(.ref r0), (.int p1)] 4 = mkF m 0 #[.val (.ref r0), .val (.int p1), .unset, .unset] [] := by first | (simp [entryFrame, mkF, argsToLocals, Value.category]; done) | rfl
def Q4_1 (Z : State) (r0 : Addr) (p1 : Int32) (f : Nat → Value) (h0 : Heap) (n0 : Nat) (v : Option Value) (h : Heap) (L : List Loc) : Prop := v = none ∧ Fr n0 L ∧ Keep h0 h [r0] ∧ Af Z h r0 .int 1 (fun _ => .int p1)
set_option maxRecDepth 65536 in
set_option maxHeartbeats 40000000 in
theorem rm4_1 (l : Launch) (Z : State) (a0 : Array Value) (hw : ∀ d ∈ tables_1, d.before a0 Z = true) (ws : List Jvm.Cond) (r0 : Addr) (p1 : Int32) (f : Nat → Value) (h0 : Heap) (n0 : Nat) (Z0 : n0 ≤ h0.size) (A : Af Z h0 r0 .int 1 f) (g_r0 : n0 ≤ r0) :
    MetFree l (⟨"java/util/Arrays", "fill", "([II)V"⟩ : MethodName) (head1 (Jvm.Cond.code (⟨"java/util/Arrays", "fill", "([II)V"⟩ : MethodName) jdk_65_method_103_code 4 none :: ws) ({ frames := 0, cells := 0, slots := 0, locals := 0 } : Room)) (fun a U => a = #[(.ref r0), (.int p1)] ∧ Z.Warmed39 U.vm ∧ U.heap = h0) (fun _ _ _ _ _ => True) (fun _ U o U' => ∃ v L, o = .returned v ∧ Q4_1 Z r0 p1 f h0 n0 v U'.heap L ∧ FrameEnd U o U' L ({ frames := 0, cells := 0, slots := 0, locals := 0 } : Room).cells ({ frames := 0, cells := 0, slots := 0, locals := 0 } : Room).slots) := by
  refine MetFree.of_bodySF (plainFor_of_name own_pn_rm4_1) hisR ?_
  intro p e s m args below meth cO s₁ Bd hml0 hP hK
  obtain ⟨rfl, hZ, hh⟩ := hP
  have hx := Bd.exec
  have hby := Bd.bytes
  have hml : cO.maxLocals = 4 := hml0
  have hown : s.vm.findClass "java/util/Arrays" = some m.cls := findClass_of_methodNamed Bd.named
  have hnm := (name_of_methodNamed Bd.named Bd.method).1
  have hlk : meth.locks = false := BodyLoose.notSynchronized Bd
  have X0 : Stand p l e ({ frames := 0, cells := 0, slots := 0, locals := 0 } : Room) s m #[(.ref r0), (.int p1)] below meth cO s₁ [] 0 0 := Stand.of_body Bd
  have e0 : s₁.heap = h0 := by rw [← hh, Bd.state]; rfl
  have N0 := Fr.nil n0
  refine own_in (own_ef_rm4_1 m r0 p1) ?_
  show Gm p e below s₁ m 0 #[rv r0, iv p1, .unset, .unset] [] _
  refine own_go (fun t₀ k₀ => XS.iconst X0.here hx rfl (Jvm.hb hby d4_0) k₀) ?_
  show Gm p e below s₁ m 1 #[rv r0, iv p1, .unset, .unset] [(.int (0 : Int32))] _
  refine own_go (fun t₀ k₀ => XS.istoreN X0.here hx rfl (Jvm.hb hby d4_1) rfl (l' := #[rv r0, iv p1, iv (0 : Int32), .unset]) rfl k₀) ?_
  show Gm p e below s₁ m 2 #[rv r0, iv p1, iv (0 : Int32), .unset] [] _
  refine own_go (fun t₀ k₀ => XS.aloadN X0.here hx rfl (Jvm.hb hby d4_2) rfl rfl k₀) ?_
  show Gm p e below s₁ m 3 #[rv r0, iv p1, iv (0 : Int32), .unset] [(.ref r0)] _
  refine own_go (fun t₀ k₀ => own_len X0 hx hZ e0 A (z := (1 : Int32)) rfl (g := (mkF m 3 #[rv r0, iv p1, iv (0 : Int32), .unset] [(.ref r0)])) rfl rfl (Jvm.hb hby d4_3) k₀) ?_
  show Gm p e below s₁ m 4 #[rv r0, iv p1, iv (0 : Int32), .unset] [(.int (1 : Int32))] _
  refine own_go (fun t₀ k₀ => XS.istoreN X0.here hx rfl (Jvm.hb hby d4_4) rfl (l' := #[rv r0, iv p1, iv (0 : Int32), iv (1 : Int32)]) rfl k₀) ?_
  show Gm p e below s₁ m 5 #[rv r0, iv p1, iv (0 : Int32), iv (1 : Int32)] [] _
  refine own_go (fun t₀ k₀ => XS.iloadN X0.here hx rfl (Jvm.hb hby d4_5) rfl k₀) ?_
  show Gm p e below s₁ m 6 #[rv r0, iv p1, iv (0 : Int32), iv (1 : Int32)] [(.int (0 : Int32))] _
  refine own_go (fun t₀ k₀ => XS.iloadN X0.here hx rfl (Jvm.hb hby d4_6) rfl k₀) ?_
  show Gm p e below s₁ m 7 #[rv r0, iv p1, iv (0 : Int32), iv (1 : Int32)] [(.int (1 : Int32)), (.int (0 : Int32))] _
  refine own_go (fun t₀ k₀ => XS.icmpNo X0.here hx rfl (Jvm.hb hby d4_7) rfl (XT.ii_ge_f (by decide)) k₀) ?_
  show Gm p e below s₁ m 10 #[rv r0, iv p1, iv (0 : Int32), iv (1 : Int32)] [] _
  refine own_go (fun t₀ k₀ => XS.aloadN X0.here hx rfl (Jvm.hb hby d4_10) rfl rfl k₀) ?_
  show Gm p e below s₁ m 11 #[rv r0, iv p1, iv (0 : Int32), iv (1 : Int32)] [(.ref r0)] _
  refine own_go (fun t₀ k₀ => XS.iloadN X0.here hx rfl (Jvm.hb hby d4_11) rfl k₀) ?_
  show Gm p e below s₁ m 12 #[rv r0, iv p1, iv (0 : Int32), iv (1 : Int32)] [(.int (0 : Int32)), (.ref r0)] _
  refine own_go (fun t₀ k₀ => XS.iloadN X0.here hx rfl (Jvm.hb hby d4_12) rfl k₀) ?_
  show Gm p e below s₁ m 13 #[rv r0, iv p1, iv (0 : Int32), iv (1 : Int32)] [(.int p1), (.int (0 : Int32)), (.ref r0)] _
  obtain ⟨T1, h1, X1, e1, W1, A1, st1⟩ := own_stI X0 hx hZ e0 A (j := (0 : Int32)) (k := 0) (by decide) rfl (by decide) (g := (mkF m 13 #[rv r0, iv p1, iv (0 : Int32), iv (1 : Int32)] [(.int p1), (.int (0 : Int32)), (.ref r0)])) rfl rfl (Jvm.hb hby d4_13)
  have N1 := Fr.snoc X1 N0 g_r0
  have Z1 : n0 ≤ h1.size := W1.size ▸ Z0
  have K1 : Keep h0 h1 [r0] := Keep.wr (Keep.refl h0 [r0]) W1 (Or.inl (List.mem_of_getElem? (i := 0) rfl))
  refine own_go st1 ?_
  show Gm p e below T1 m 14 #[rv r0, iv p1, iv (0 : Int32), iv (1 : Int32)] [] _
  refine own_go (fun t₀ k₀ => XS.iinc X1.here hx rfl (Jvm.hb hby d4_14) rfl (l' := #[rv r0, iv p1, iv (1 : Int32), iv (1 : Int32)]) rfl k₀) ?_
  show Gm p e below T1 m 17 #[rv r0, iv p1, iv (1 : Int32), iv (1 : Int32)] [] _
  refine own_go (fun t₀ k₀ => XS.goto X1.here hx rfl (pc0 := 17) (pc' := 5) rfl (Jvm.hb hby d4_17) (by decide) (by decide) k₀) ?_
  show Gm p e below T1 m 5 #[rv r0, iv p1, iv (1 : Int32), iv (1 : Int32)] [] _
  refine own_go (fun t₀ k₀ => XS.iloadN X1.here hx rfl (Jvm.hb hby d4_5) rfl k₀) ?_
  show Gm p e below T1 m 6 #[rv r0, iv p1, iv (1 : Int32), iv (1 : Int32)] [(.int (1 : Int32))] _
  refine own_go (fun t₀ k₀ => XS.iloadN X1.here hx rfl (Jvm.hb hby d4_6) rfl k₀) ?_
  show Gm p e below T1 m 7 #[rv r0, iv p1, iv (1 : Int32), iv (1 : Int32)] [(.int (1 : Int32)), (.int (1 : Int32))] _
  refine own_go (fun t₀ k₀ => XS.icmpYes X1.here hx rfl (pc0 := 7) (pc' := 20) rfl (Jvm.hb hby d4_7) rfl (XT.ii_ge_t (by decide)) (by decide) (by decide) k₀) ?_
  show Gm p e below T1 m 20 #[rv r0, iv p1, iv (1 : Int32), iv (1 : Int32)] [] _
  exact own_retV X1 hx hlk Bd.returns (Jvm.hb hby d4_20) e1 ⟨rfl, N1, K1, (Af.congr A1 (fun i hi => by
      rcases (by omega : i = 0) with rfl <;> rfl))⟩ (by decide) (by decide)
theorem own_pn_rm1_1 : plainName "com/example/throughfare/throughfare/simulation/Walkers" = true := by first | (simp [plainName, overriddenIn]; done) | decide +kernel
theorem own_ef_rm1_1 (m : MethodId) (r0 : Addr) : entryFrame m #[(.ref r0), (.int (1 : Int32))] 2 = mkF m 0 #[.val (.ref r0), .val (.int (1 : Int32))] [] := by first | (simp [entryFrame, mkF, argsToLocals, Value.category]; done) | rfl
def Q1_1 (Z : State) (r0 : Addr) (h0 : Heap) (n0 : Nat) (v : Option Value) (h : Heap) (L : List Loc) : Prop := ∃ c_exit : Addr, v = none ∧ Fr n0 L ∧ Keep h0 h [r0] ∧ Exa Z h r0 "com/example/throughfare/throughfare/simulation/Walkers" ∧ h0.size ≤ c_exit ∧ Fld Z h r0 "com/example/throughfare/throughfare/simulation/Walkers" "exit" "[I" (.ref c_exit) ∧ Af Z h c_exit .int 1 (fun _ => (.int (-1 : Int32)))
set_option maxRecDepth 65536 in
set_option maxHeartbeats 40000000 in
theorem rm1_1 (l : Launch) (Z : State) (a0 : Array Value) (hw : ∀ d ∈ tables_1, d.before a0 Z = true) (ws : List Jvm.Cond) (r0 : Addr) (h0 : Heap) (n0 : Nat) (Z0 : n0 ≤ h0.size) (E_r0 : Exa Z h0 r0 "com/example/throughfare/throughfare/simulation/Walkers") (F_floor : Fld Z h0 r0 "com/example/throughfare/throughfare/simulation/Walkers" "floor" "[I" .null) (F_startCell : Fld Z h0 r0 "com/example/throughfare/throughfare/simulation/Walkers" "startCell" "[I" .null) (F_cell : Fld Z h0 r0 "com/example/throughfare/throughfare/simulation/Walkers" "cell" "[I" .null) (F_speedMps : Fld Z h0 r0 "com/example/throughfare/throughfare/simulation/Walkers" "speedMps" "[D" .null) (F_reactionS : Fld Z h0 r0 "com/example/throughfare/throughfare/simulation/Walkers" "reactionS" "[D" .null) (F_heading : Fld Z h0 r0 "com/example/throughfare/throughfare/simulation/Walkers" "heading" "[I" .null) (F_heldUpS : Fld Z h0 r0 "com/example/throughfare/throughfare/simulation/Walkers" "heldUpS" "[D" .null) (F_exitTimeS : Fld Z h0 r0 "com/example/throughfare/throughfare/simulation/Walkers" "exitTimeS" "[D" .null) (F_leaving : Fld Z h0 r0 "com/example/throughfare/throughfare/simulation/Walkers" "leaving" "[I" .null) (F_exit : Fld Z h0 r0 "com/example/throughfare/throughfare/simulation/Walkers" "exit" "[I" .null) (F_distanceM : Fld Z h0 r0 "com/example/throughfare/throughfare/simulation/Walkers" "distanceM" "[D" .null) (g_r0 : n0 ≤ r0) :
    MetFree l (⟨"com/example/throughfare/throughfare/simulation/Walkers", "<init>", "(I)V"⟩ : MethodName) (head1 (Jvm.Cond.code (⟨"com/example/throughfare/throughfare/simulation/Walkers", "<init>", "(I)V"⟩ : MethodName) prog_63_method_1_code 2 none :: ws) ({ frames := 1, cells := 11, slots := 11, locals := 20 } : Room)) (fun a U => a = #[(.ref r0), (.int (1 : Int32))] ∧ Z.Warmed39 U.vm ∧ U.heap = h0) (fun _ _ _ _ _ => True) (fun _ U o U' => ∃ v L, o = .returned v ∧ Q1_1 Z r0 h0 n0 v U'.heap L ∧ FrameEnd U o U' L ({ frames := 1, cells := 11, slots := 11, locals := 20 } : Room).cells ({ frames := 1, cells := 11, slots := 11, locals := 20 } : Room).slots) := by
  refine MetFree.of_bodySF (plainFor_of_name own_pn_rm1_1) hisR ?_
  intro p e s m args below meth cO s₁ Bd hml0 hP hK
  obtain ⟨rfl, hZ, hh⟩ := hP
  have hx := Bd.exec
  have hby := Bd.bytes
  have hml : cO.maxLocals = 2 := hml0
  have hown : s.vm.findClass "com/example/throughfare/throughfare/simulation/Walkers" = some m.cls := findClass_of_methodNamed Bd.named
  have hnm := (name_of_methodNamed Bd.named Bd.method).1
  have hlk : meth.locks = false := BodyLoose.notSynchronized Bd
  have X0 : Stand p l e ({ frames := 1, cells := 11, slots := 11, locals := 20 } : Room) s m #[(.ref r0), (.int (1 : Int32))] below meth cO s₁ [] 0 0 := Stand.of_body Bd
  have e0 : s₁.heap = h0 := by rw [← hh, Bd.state]; rfl
  have N0 := Fr.nil n0
  refine own_in (own_ef_rm1_1 m r0) ?_
  show Gm p e below s₁ m 0 #[rv r0, iv (1 : Int32)] [] _
  refine own_go (fun t₀ k₀ => XS.aloadN X0.here hx rfl (Jvm.hb hby d1_0) rfl rfl k₀) ?_
  show Gm p e below s₁ m 1 #[rv r0, iv (1 : Int32)] [(.ref r0)] _
  obtain ⟨T1, X1, e1, st1⟩ := initO X0 hx hZ hown (hw _ (List.mem_of_getElem? (i := 6) rfl)) (hw _ (List.mem_of_getElem? (i := 7) rfl)) (hw _ (List.mem_of_getElem? (i := 8) rfl)) e0 (g := (mkF m 1 #[rv r0, iv (1 : Int32)] [(.ref r0)])) rfl (by rw [hml]; rfl) rfl (Jvm.hb hby d1_1) (by decide) (W := 0) (by show 2 * 0 + _ ≤ _; exact Nat.le_of_eq rfl) (by decide)
  refine own_go st1 ?_
  show Gm p e below T1 m 4 #[rv r0, iv (1 : Int32)] [] _
  refine own_go (fun t₀ k₀ => XS.aloadN X1.here hx rfl (Jvm.hb hby d1_4) rfl rfl k₀) ?_
  show Gm p e below T1 m 5 #[rv r0, iv (1 : Int32)] [(.ref r0)] _
  refine own_go (fun t₀ k₀ => XS.iloadN X1.here hx rfl (Jvm.hb hby d1_5) rfl k₀) ?_
  show Gm p e below T1 m 6 #[rv r0, iv (1 : Int32)] [(.int (1 : Int32)), (.ref r0)] _
  obtain ⟨T2, h2, k2, X2, e2, E2, A2, st2⟩ := newP X1 hx hZ (hw _ (List.mem_of_getElem? (i := 9) rfl)) e1 (g := (mkF m 6 #[rv r0, iv (1 : Int32)] [(.int (1 : Int32)), (.ref r0)])) rfl (Jvm.hb hby d1_6) rfl (by decide) (cap := 1) (by decide) (by decide) (by decide) (by decide)
  obtain ⟨b2, g2⟩ : ∃ z, z = h0.size := ⟨_, rfl⟩
  rw [← g2] at A2 st2
  have g_b2 : n0 ≤ b2 := Nat.le_trans Z0 (Nat.le_of_eq g2.symm)
  have ne_r0_b2 : r0 ≠ b2 := Nat.ne_of_lt (Nat.lt_of_lt_of_le E_r0.lt (Nat.le_of_eq g2.symm))
  have sz_b2 : h0.size ≤ b2 := Nat.le_trans (Keep.refl h0 [r0]).1 (Nat.le_of_eq g2.symm)
  have K2 : Keep h0 h2 [r0] := Keep.ext (Keep.refl h0 [r0]) E2
  have Z2 : n0 ≤ h2.size := Nat.le_trans Z0 E2.1
  have V2 : Af Z h2 b2 .int 1 (fun _ => defaultValue .int) := Af.new A2 (by decide) rfl rfl
  refine own_go st2 ?_
  show Gm p e below T2 m 8 #[rv r0, iv (1 : Int32)] [(.ref b2), (.ref r0)] _
  have f3 := (E_r0.ext E2)
  have f4 := (F_floor.ext E2)
  obtain ⟨T5, h5, X5, e5, W5, st5⟩ := putF X2 hx hZ hown (host := "") (Or.inl (hw _ (List.mem_of_getElem? (i := 10) rfl))) Via.refl e2 f4 f3 (Or.inr ⟨(hw _ (List.mem_of_getElem? (i := 11) rfl)), rfl, hnm⟩) (hw _ (List.mem_of_getElem? (i := 1) rfl)) (ty := (.array .int)) (by decide) rfl rfl (g := (mkF m 8 #[rv r0, iv (1 : Int32)] [(.ref b2), (.ref r0)])) rfl rfl (Jvm.hb hby d1_8)
  have Fw5 := Fld.same W5 f4
  have N5 := Fr.snoc X5 N0 g_r0
  have Z5 : n0 ≤ h5.size := W5.size ▸ Z2
  have K5 : Keep h0 h5 [r0] := Keep.wr K2 W5 (Or.inl (List.mem_of_getElem? (i := 0) rfl))
  refine own_go st5 ?_
  show Gm p e below T5 m 11 #[rv r0, iv (1 : Int32)] [] _
  refine own_go (fun t₀ k₀ => XS.aloadN X5.here hx rfl (Jvm.hb hby d1_11) rfl rfl k₀) ?_
  show Gm p e below T5 m 12 #[rv r0, iv (1 : Int32)] [(.ref r0)] _
  refine own_go (fun t₀ k₀ => XS.iloadN X5.here hx rfl (Jvm.hb hby d1_12) rfl k₀) ?_
  show Gm p e below T5 m 13 #[rv r0, iv (1 : Int32)] [(.int (1 : Int32)), (.ref r0)] _
  obtain ⟨T6, h6, k6, X6, e6, E6, A6, st6⟩ := newP X5 hx hZ (hw _ (List.mem_of_getElem? (i := 9) rfl)) e5 (g := (mkF m 13 #[rv r0, iv (1 : Int32)] [(.int (1 : Int32)), (.ref r0)])) rfl (Jvm.hb hby d1_13) rfl (by decide) (cap := 1) (by decide) (by decide) (by decide) (by decide)
  obtain ⟨b6, g6⟩ : ∃ z, z = h5.size := ⟨_, rfl⟩
  rw [← g6] at A6 st6
  have g_b6 : n0 ≤ b6 := Nat.le_trans Z5 (Nat.le_of_eq g6.symm)
  have f7 := (f3.wr W5)
  have ne_r0_b6 : r0 ≠ b6 := Nat.ne_of_lt (Nat.lt_of_lt_of_le f7.lt (Nat.le_of_eq g6.symm))
  have sz_b6 : h0.size ≤ b6 := Nat.le_trans K5.1 (Nat.le_of_eq g6.symm)
  have K6 : Keep h0 h6 [r0] := Keep.ext K5 E6
  have Z6 : n0 ≤ h6.size := Nat.le_trans Z5 E6.1
  have V6 : Af Z h6 b6 .int 1 (fun _ => defaultValue .int) := Af.new A6 (by decide) rfl rfl
  refine own_go st6 ?_
  show Gm p e below T6 m 15 #[rv r0, iv (1 : Int32)] [(.ref b6), (.ref r0)] _
  have f8 := (f7.ext E6)
  have f9 := ((Fld.other W5 (F_startCell.ext E2) (Or.inr (slot_ne (Or.inr (hw _ (List.mem_of_getElem? (i := 13) rfl))) (Or.inr (hw _ (List.mem_of_getElem? (i := 11) rfl))) (by decide) (t := (.array .int)) (t' := (.array .int)) (by decide) (by decide)))).ext E6)
  obtain ⟨T10, h10, X10, e10, W10, st10⟩ := putF X6 hx hZ hown (host := "") (Or.inl (hw _ (List.mem_of_getElem? (i := 12) rfl))) Via.refl e6 f9 f8 (Or.inr ⟨(hw _ (List.mem_of_getElem? (i := 13) rfl)), rfl, hnm⟩) (hw _ (List.mem_of_getElem? (i := 1) rfl)) (ty := (.array .int)) (by decide) rfl rfl (g := (mkF m 15 #[rv r0, iv (1 : Int32)] [(.ref b6), (.ref r0)])) rfl rfl (Jvm.hb hby d1_15)
  have Fw10 := Fld.same W10 f9
  have N10 := Fr.snoc X10 N5 g_r0
  have Z10 : n0 ≤ h10.size := W10.size ▸ Z6
  have K10 : Keep h0 h10 [r0] := Keep.wr K6 W10 (Or.inl (List.mem_of_getElem? (i := 0) rfl))
  refine own_go st10 ?_
  show Gm p e below T10 m 18 #[rv r0, iv (1 : Int32)] [] _
  refine own_go (fun t₀ k₀ => XS.aloadN X10.here hx rfl (Jvm.hb hby d1_18) rfl rfl k₀) ?_
  show Gm p e below T10 m 19 #[rv r0, iv (1 : Int32)] [(.ref r0)] _
  refine own_go (fun t₀ k₀ => XS.iloadN X10.here hx rfl (Jvm.hb hby d1_19) rfl k₀) ?_
  show Gm p e below T10 m 20 #[rv r0, iv (1 : Int32)] [(.int (1 : Int32)), (.ref r0)] _
  obtain ⟨T11, h11, k11, X11, e11, E11, A11, st11⟩ := newP X10 hx hZ (hw _ (List.mem_of_getElem? (i := 9) rfl)) e10 (g := (mkF m 20 #[rv r0, iv (1 : Int32)] [(.int (1 : Int32)), (.ref r0)])) rfl (Jvm.hb hby d1_20) rfl (by decide) (cap := 1) (by decide) (by decide) (by decide) (by decide)
  obtain ⟨b11, g11⟩ : ∃ z, z = h10.size := ⟨_, rfl⟩
  rw [← g11] at A11 st11
  have g_b11 : n0 ≤ b11 := Nat.le_trans Z10 (Nat.le_of_eq g11.symm)
  have f12 := (f8.wr W10)
  have ne_r0_b11 : r0 ≠ b11 := Nat.ne_of_lt (Nat.lt_of_lt_of_le f12.lt (Nat.le_of_eq g11.symm))
  have sz_b11 : h0.size ≤ b11 := Nat.le_trans K10.1 (Nat.le_of_eq g11.symm)
  have K11 : Keep h0 h11 [r0] := Keep.ext K10 E11
  have Z11 : n0 ≤ h11.size := Nat.le_trans Z10 E11.1
  have V11 : Af Z h11 b11 .int 1 (fun _ => defaultValue .int) := Af.new A11 (by decide) rfl rfl
  refine own_go st11 ?_
  show Gm p e below T11 m 22 #[rv r0, iv (1 : Int32)] [(.ref b11), (.ref r0)] _
  have f13 := (f12.ext E11)
  have f14 := ((Fld.other W10 ((Fld.other W5 (F_cell.ext E2) (Or.inr (slot_ne (Or.inr (hw _ (List.mem_of_getElem? (i := 15) rfl))) (Or.inr (hw _ (List.mem_of_getElem? (i := 11) rfl))) (by decide) (t := (.array .int)) (t' := (.array .int)) (by decide) (by decide)))).ext E6) (Or.inr (slot_ne (Or.inr (hw _ (List.mem_of_getElem? (i := 15) rfl))) (Or.inr (hw _ (List.mem_of_getElem? (i := 13) rfl))) (by decide) (t := (.array .int)) (t' := (.array .int)) (by decide) (by decide)))).ext E11)
  obtain ⟨T15, h15, X15, e15, W15, st15⟩ := putF X11 hx hZ hown (host := "") (Or.inl (hw _ (List.mem_of_getElem? (i := 14) rfl))) Via.refl e11 f14 f13 (Or.inr ⟨(hw _ (List.mem_of_getElem? (i := 15) rfl)), rfl, hnm⟩) (hw _ (List.mem_of_getElem? (i := 1) rfl)) (ty := (.array .int)) (by decide) rfl rfl (g := (mkF m 22 #[rv r0, iv (1 : Int32)] [(.ref b11), (.ref r0)])) rfl rfl (Jvm.hb hby d1_22)
  have Fw15 := Fld.same W15 f14
  have N15 := Fr.snoc X15 N10 g_r0
  have Z15 : n0 ≤ h15.size := W15.size ▸ Z11
  have K15 : Keep h0 h15 [r0] := Keep.wr K11 W15 (Or.inl (List.mem_of_getElem? (i := 0) rfl))
  refine own_go st15 ?_
  show Gm p e below T15 m 25 #[rv r0, iv (1 : Int32)] [] _
  refine own_go (fun t₀ k₀ => XS.aloadN X15.here hx rfl (Jvm.hb hby d1_25) rfl rfl k₀) ?_
  show Gm p e below T15 m 26 #[rv r0, iv (1 : Int32)] [(.ref r0)] _
  refine own_go (fun t₀ k₀ => XS.iloadN X15.here hx rfl (Jvm.hb hby d1_26) rfl k₀) ?_
  show Gm p e below T15 m 27 #[rv r0, iv (1 : Int32)] [(.int (1 : Int32)), (.ref r0)] _
  obtain ⟨T16, h16, k16, X16, e16, E16, A16, st16⟩ := newP X15 hx hZ (hw _ (List.mem_of_getElem? (i := 16) rfl)) e15 (g := (mkF m 27 #[rv r0, iv (1 : Int32)] [(.int (1 : Int32)), (.ref r0)])) rfl (Jvm.hb hby d1_27) rfl (by decide) (cap := 1) (by decide) (by decide) (by decide) (by decide)
  obtain ⟨b16, g16⟩ : ∃ z, z = h15.size := ⟨_, rfl⟩
  rw [← g16] at A16 st16
  have g_b16 : n0 ≤ b16 := Nat.le_trans Z15 (Nat.le_of_eq g16.symm)
  have f17 := (f13.wr W15)
  have ne_r0_b16 : r0 ≠ b16 := Nat.ne_of_lt (Nat.lt_of_lt_of_le f17.lt (Nat.le_of_eq g16.symm))
  have sz_b16 : h0.size ≤ b16 := Nat.le_trans K15.1 (Nat.le_of_eq g16.symm)
  have K16 : Keep h0 h16 [r0] := Keep.ext K15 E16
  have Z16 : n0 ≤ h16.size := Nat.le_trans Z15 E16.1
  have V16 : Af Z h16 b16 .double 1 (fun _ => defaultValue .double) := Af.new A16 (by decide) rfl rfl
  refine own_go st16 ?_
  show Gm p e below T16 m 29 #[rv r0, iv (1 : Int32)] [(.ref b16), (.ref r0)] _
  have f18 := (f17.ext E16)
  have f19 := ((Fld.other W15 ((Fld.other W10 ((Fld.other W5 (F_speedMps.ext E2) (Or.inr (slot_ne (Or.inr (hw _ (List.mem_of_getElem? (i := 18) rfl))) (Or.inr (hw _ (List.mem_of_getElem? (i := 11) rfl))) (by decide) (t := (.array .double)) (t' := (.array .int)) (by decide) (by decide)))).ext E6) (Or.inr (slot_ne (Or.inr (hw _ (List.mem_of_getElem? (i := 18) rfl))) (Or.inr (hw _ (List.mem_of_getElem? (i := 13) rfl))) (by decide) (t := (.array .double)) (t' := (.array .int)) (by decide) (by decide)))).ext E11) (Or.inr (slot_ne (Or.inr (hw _ (List.mem_of_getElem? (i := 18) rfl))) (Or.inr (hw _ (List.mem_of_getElem? (i := 15) rfl))) (by decide) (t := (.array .double)) (t' := (.array .int)) (by decide) (by decide)))).ext E16)
  obtain ⟨T20, h20, X20, e20, W20, st20⟩ := putF X16 hx hZ hown (host := "") (Or.inl (hw _ (List.mem_of_getElem? (i := 17) rfl))) Via.refl e16 f19 f18 (Or.inr ⟨(hw _ (List.mem_of_getElem? (i := 18) rfl)), rfl, hnm⟩) (hw _ (List.mem_of_getElem? (i := 1) rfl)) (ty := (.array .double)) (by decide) rfl rfl (g := (mkF m 29 #[rv r0, iv (1 : Int32)] [(.ref b16), (.ref r0)])) rfl rfl (Jvm.hb hby d1_29)
  have Fw20 := Fld.same W20 f19
  have N20 := Fr.snoc X20 N15 g_r0
  have Z20 : n0 ≤ h20.size := W20.size ▸ Z16
  have K20 : Keep h0 h20 [r0] := Keep.wr K16 W20 (Or.inl (List.mem_of_getElem? (i := 0) rfl))
  refine own_go st20 ?_
  show Gm p e below T20 m 32 #[rv r0, iv (1 : Int32)] [] _
  refine own_go (fun t₀ k₀ => XS.aloadN X20.here hx rfl (Jvm.hb hby d1_32) rfl rfl k₀) ?_
  show Gm p e below T20 m 33 #[rv r0, iv (1 : Int32)] [(.ref r0)] _
  refine own_go (fun t₀ k₀ => XS.iloadN X20.here hx rfl (Jvm.hb hby d1_33) rfl k₀) ?_
  show Gm p e below T20 m 34 #[rv r0, iv (1 : Int32)] [(.int (1 : Int32)), (.ref r0)] _
  obtain ⟨T21, h21, k21, X21, e21, E21, A21, st21⟩ := newP X20 hx hZ (hw _ (List.mem_of_getElem? (i := 16) rfl)) e20 (g := (mkF m 34 #[rv r0, iv (1 : Int32)] [(.int (1 : Int32)), (.ref r0)])) rfl (Jvm.hb hby d1_34) rfl (by decide) (cap := 1) (by decide) (by decide) (by decide) (by decide)
  obtain ⟨b21, g21⟩ : ∃ z, z = h20.size := ⟨_, rfl⟩
  rw [← g21] at A21 st21
  have g_b21 : n0 ≤ b21 := Nat.le_trans Z20 (Nat.le_of_eq g21.symm)
  have f22 := (f18.wr W20)
  have ne_r0_b21 : r0 ≠ b21 := Nat.ne_of_lt (Nat.lt_of_lt_of_le f22.lt (Nat.le_of_eq g21.symm))
  have sz_b21 : h0.size ≤ b21 := Nat.le_trans K20.1 (Nat.le_of_eq g21.symm)
  have K21 : Keep h0 h21 [r0] := Keep.ext K20 E21
  have Z21 : n0 ≤ h21.size := Nat.le_trans Z20 E21.1
  have V21 : Af Z h21 b21 .double 1 (fun _ => defaultValue .double) := Af.new A21 (by decide) rfl rfl
  refine own_go st21 ?_
  show Gm p e below T21 m 36 #[rv r0, iv (1 : Int32)] [(.ref b21), (.ref r0)] _
  have f23 := (f22.ext E21)
  have f24 := ((Fld.other W20 ((Fld.other W15 ((Fld.other W10 ((Fld.other W5 (F_reactionS.ext E2) (Or.inr (slot_ne (Or.inr (hw _ (List.mem_of_getElem? (i := 20) rfl))) (Or.inr (hw _ (List.mem_of_getElem? (i := 11) rfl))) (by decide) (t := (.array .double)) (t' := (.array .int)) (by decide) (by decide)))).ext E6) (Or.inr (slot_ne (Or.inr (hw _ (List.mem_of_getElem? (i := 20) rfl))) (Or.inr (hw _ (List.mem_of_getElem? (i := 13) rfl))) (by decide) (t := (.array .double)) (t' := (.array .int)) (by decide) (by decide)))).ext E11) (Or.inr (slot_ne (Or.inr (hw _ (List.mem_of_getElem? (i := 20) rfl))) (Or.inr (hw _ (List.mem_of_getElem? (i := 15) rfl))) (by decide) (t := (.array .double)) (t' := (.array .int)) (by decide) (by decide)))).ext E16) (Or.inr (slot_ne (Or.inr (hw _ (List.mem_of_getElem? (i := 20) rfl))) (Or.inr (hw _ (List.mem_of_getElem? (i := 18) rfl))) (by decide) (t := (.array .double)) (t' := (.array .double)) (by decide) (by decide)))).ext E21)
  obtain ⟨T25, h25, X25, e25, W25, st25⟩ := putF X21 hx hZ hown (host := "") (Or.inl (hw _ (List.mem_of_getElem? (i := 19) rfl))) Via.refl e21 f24 f23 (Or.inr ⟨(hw _ (List.mem_of_getElem? (i := 20) rfl)), rfl, hnm⟩) (hw _ (List.mem_of_getElem? (i := 1) rfl)) (ty := (.array .double)) (by decide) rfl rfl (g := (mkF m 36 #[rv r0, iv (1 : Int32)] [(.ref b21), (.ref r0)])) rfl rfl (Jvm.hb hby d1_36)
  have Fw25 := Fld.same W25 f24
  have N25 := Fr.snoc X25 N20 g_r0
  have Z25 : n0 ≤ h25.size := W25.size ▸ Z21
  have K25 : Keep h0 h25 [r0] := Keep.wr K21 W25 (Or.inl (List.mem_of_getElem? (i := 0) rfl))
  refine own_go st25 ?_
  show Gm p e below T25 m 39 #[rv r0, iv (1 : Int32)] [] _
  refine own_go (fun t₀ k₀ => XS.aloadN X25.here hx rfl (Jvm.hb hby d1_39) rfl rfl k₀) ?_
  show Gm p e below T25 m 40 #[rv r0, iv (1 : Int32)] [(.ref r0)] _
  refine own_go (fun t₀ k₀ => XS.iloadN X25.here hx rfl (Jvm.hb hby d1_40) rfl k₀) ?_
  show Gm p e below T25 m 41 #[rv r0, iv (1 : Int32)] [(.int (1 : Int32)), (.ref r0)] _
  obtain ⟨T26, h26, k26, X26, e26, E26, A26, st26⟩ := newP X25 hx hZ (hw _ (List.mem_of_getElem? (i := 9) rfl)) e25 (g := (mkF m 41 #[rv r0, iv (1 : Int32)] [(.int (1 : Int32)), (.ref r0)])) rfl (Jvm.hb hby d1_41) rfl (by decide) (cap := 1) (by decide) (by decide) (by decide) (by decide)
  obtain ⟨b26, g26⟩ : ∃ z, z = h25.size := ⟨_, rfl⟩
  rw [← g26] at A26 st26
  have g_b26 : n0 ≤ b26 := Nat.le_trans Z25 (Nat.le_of_eq g26.symm)
  have f27 := (f23.wr W25)
  have ne_r0_b26 : r0 ≠ b26 := Nat.ne_of_lt (Nat.lt_of_lt_of_le f27.lt (Nat.le_of_eq g26.symm))
  have sz_b26 : h0.size ≤ b26 := Nat.le_trans K25.1 (Nat.le_of_eq g26.symm)
  have K26 : Keep h0 h26 [r0] := Keep.ext K25 E26
  have Z26 : n0 ≤ h26.size := Nat.le_trans Z25 E26.1
  have V26 : Af Z h26 b26 .int 1 (fun _ => defaultValue .int) := Af.new A26 (by decide) rfl rfl
  refine own_go st26 ?_
  show Gm p e below T26 m 43 #[rv r0, iv (1 : Int32)] [(.ref b26), (.ref r0)] _
  have f28 := (f27.ext E26)
  have f29 := ((Fld.other W25 ((Fld.other W20 ((Fld.other W15 ((Fld.other W10 ((Fld.other W5 (F_heading.ext E2) (Or.inr (slot_ne (Or.inr (hw _ (List.mem_of_getElem? (i := 22) rfl))) (Or.inr (hw _ (List.mem_of_getElem? (i := 11) rfl))) (by decide) (t := (.array .int)) (t' := (.array .int)) (by decide) (by decide)))).ext E6) (Or.inr (slot_ne (Or.inr (hw _ (List.mem_of_getElem? (i := 22) rfl))) (Or.inr (hw _ (List.mem_of_getElem? (i := 13) rfl))) (by decide) (t := (.array .int)) (t' := (.array .int)) (by decide) (by decide)))).ext E11) (Or.inr (slot_ne (Or.inr (hw _ (List.mem_of_getElem? (i := 22) rfl))) (Or.inr (hw _ (List.mem_of_getElem? (i := 15) rfl))) (by decide) (t := (.array .int)) (t' := (.array .int)) (by decide) (by decide)))).ext E16) (Or.inr (slot_ne (Or.inr (hw _ (List.mem_of_getElem? (i := 22) rfl))) (Or.inr (hw _ (List.mem_of_getElem? (i := 18) rfl))) (by decide) (t := (.array .int)) (t' := (.array .double)) (by decide) (by decide)))).ext E21) (Or.inr (slot_ne (Or.inr (hw _ (List.mem_of_getElem? (i := 22) rfl))) (Or.inr (hw _ (List.mem_of_getElem? (i := 20) rfl))) (by decide) (t := (.array .int)) (t' := (.array .double)) (by decide) (by decide)))).ext E26)
  obtain ⟨T30, h30, X30, e30, W30, st30⟩ := putF X26 hx hZ hown (host := "") (Or.inl (hw _ (List.mem_of_getElem? (i := 21) rfl))) Via.refl e26 f29 f28 (Or.inr ⟨(hw _ (List.mem_of_getElem? (i := 22) rfl)), rfl, hnm⟩) (hw _ (List.mem_of_getElem? (i := 1) rfl)) (ty := (.array .int)) (by decide) rfl rfl (g := (mkF m 43 #[rv r0, iv (1 : Int32)] [(.ref b26), (.ref r0)])) rfl rfl (Jvm.hb hby d1_43)
  have Fw30 := Fld.same W30 f29
  have N30 := Fr.snoc X30 N25 g_r0
  have Z30 : n0 ≤ h30.size := W30.size ▸ Z26
  have K30 : Keep h0 h30 [r0] := Keep.wr K26 W30 (Or.inl (List.mem_of_getElem? (i := 0) rfl))
  refine own_go st30 ?_
  show Gm p e below T30 m 46 #[rv r0, iv (1 : Int32)] [] _
  refine own_go (fun t₀ k₀ => XS.aloadN X30.here hx rfl (Jvm.hb hby d1_46) rfl rfl k₀) ?_
  show Gm p e below T30 m 47 #[rv r0, iv (1 : Int32)] [(.ref r0)] _
  refine own_go (fun t₀ k₀ => XS.iloadN X30.here hx rfl (Jvm.hb hby d1_47) rfl k₀) ?_
  show Gm p e below T30 m 48 #[rv r0, iv (1 : Int32)] [(.int (1 : Int32)), (.ref r0)] _
  obtain ⟨T31, h31, k31, X31, e31, E31, A31, st31⟩ := newP X30 hx hZ (hw _ (List.mem_of_getElem? (i := 16) rfl)) e30 (g := (mkF m 48 #[rv r0, iv (1 : Int32)] [(.int (1 : Int32)), (.ref r0)])) rfl (Jvm.hb hby d1_48) rfl (by decide) (cap := 1) (by decide) (by decide) (by decide) (by decide)
  obtain ⟨b31, g31⟩ : ∃ z, z = h30.size := ⟨_, rfl⟩
  rw [← g31] at A31 st31
  have g_b31 : n0 ≤ b31 := Nat.le_trans Z30 (Nat.le_of_eq g31.symm)
  have f32 := (f28.wr W30)
  have ne_r0_b31 : r0 ≠ b31 := Nat.ne_of_lt (Nat.lt_of_lt_of_le f32.lt (Nat.le_of_eq g31.symm))
  have sz_b31 : h0.size ≤ b31 := Nat.le_trans K30.1 (Nat.le_of_eq g31.symm)
  have K31 : Keep h0 h31 [r0] := Keep.ext K30 E31
  have Z31 : n0 ≤ h31.size := Nat.le_trans Z30 E31.1
  have V31 : Af Z h31 b31 .double 1 (fun _ => defaultValue .double) := Af.new A31 (by decide) rfl rfl
  refine own_go st31 ?_
  show Gm p e below T31 m 50 #[rv r0, iv (1 : Int32)] [(.ref b31), (.ref r0)] _
  have f33 := (f32.ext E31)
  have f34 := ((Fld.other W30 ((Fld.other W25 ((Fld.other W20 ((Fld.other W15 ((Fld.other W10 ((Fld.other W5 (F_heldUpS.ext E2) (Or.inr (slot_ne (Or.inr (hw _ (List.mem_of_getElem? (i := 24) rfl))) (Or.inr (hw _ (List.mem_of_getElem? (i := 11) rfl))) (by decide) (t := (.array .double)) (t' := (.array .int)) (by decide) (by decide)))).ext E6) (Or.inr (slot_ne (Or.inr (hw _ (List.mem_of_getElem? (i := 24) rfl))) (Or.inr (hw _ (List.mem_of_getElem? (i := 13) rfl))) (by decide) (t := (.array .double)) (t' := (.array .int)) (by decide) (by decide)))).ext E11) (Or.inr (slot_ne (Or.inr (hw _ (List.mem_of_getElem? (i := 24) rfl))) (Or.inr (hw _ (List.mem_of_getElem? (i := 15) rfl))) (by decide) (t := (.array .double)) (t' := (.array .int)) (by decide) (by decide)))).ext E16) (Or.inr (slot_ne (Or.inr (hw _ (List.mem_of_getElem? (i := 24) rfl))) (Or.inr (hw _ (List.mem_of_getElem? (i := 18) rfl))) (by decide) (t := (.array .double)) (t' := (.array .double)) (by decide) (by decide)))).ext E21) (Or.inr (slot_ne (Or.inr (hw _ (List.mem_of_getElem? (i := 24) rfl))) (Or.inr (hw _ (List.mem_of_getElem? (i := 20) rfl))) (by decide) (t := (.array .double)) (t' := (.array .double)) (by decide) (by decide)))).ext E26) (Or.inr (slot_ne (Or.inr (hw _ (List.mem_of_getElem? (i := 24) rfl))) (Or.inr (hw _ (List.mem_of_getElem? (i := 22) rfl))) (by decide) (t := (.array .double)) (t' := (.array .int)) (by decide) (by decide)))).ext E31)
  obtain ⟨T35, h35, X35, e35, W35, st35⟩ := putF X31 hx hZ hown (host := "") (Or.inl (hw _ (List.mem_of_getElem? (i := 23) rfl))) Via.refl e31 f34 f33 (Or.inr ⟨(hw _ (List.mem_of_getElem? (i := 24) rfl)), rfl, hnm⟩) (hw _ (List.mem_of_getElem? (i := 1) rfl)) (ty := (.array .double)) (by decide) rfl rfl (g := (mkF m 50 #[rv r0, iv (1 : Int32)] [(.ref b31), (.ref r0)])) rfl rfl (Jvm.hb hby d1_50)
  have Fw35 := Fld.same W35 f34
  have N35 := Fr.snoc X35 N30 g_r0
  have Z35 : n0 ≤ h35.size := W35.size ▸ Z31
  have K35 : Keep h0 h35 [r0] := Keep.wr K31 W35 (Or.inl (List.mem_of_getElem? (i := 0) rfl))
  refine own_go st35 ?_
  show Gm p e below T35 m 53 #[rv r0, iv (1 : Int32)] [] _
  refine own_go (fun t₀ k₀ => XS.aloadN X35.here hx rfl (Jvm.hb hby d1_53) rfl rfl k₀) ?_
  show Gm p e below T35 m 54 #[rv r0, iv (1 : Int32)] [(.ref r0)] _
  obtain ⟨T36, X36, e36, st36⟩ := getF X35 hx hZ hown (host := "") (Or.inl (hw _ (List.mem_of_getElem? (i := 23) rfl))) Via.refl e35 Fw35 (g := (mkF m 54 #[rv r0, iv (1 : Int32)] [(.ref r0)])) rfl rfl (Jvm.hb hby d1_54)
  refine own_go st36 ?_
  show Gm p e below T36 m 57 #[rv r0, iv (1 : Int32)] [(.ref b31)] _
  refine own_go (fun t₀ k₀ => X36.ldc2DoubleC hx hown (mvT hZ (hw _ (List.mem_of_getElem? (i := 25) rfl))) (g := (mkF m 57 #[rv r0, iv (1 : Int32)] [(.ref b31)])) rfl (Jvm.hb hby d1_57) _ k₀) ?_
  show Gm p e below T36 m 60 #[rv r0, iv (1 : Int32)] [(.double (18442240474082181120 : UInt64)), (.ref b31)] _
  have f37 := (V31.other W35 (Ne.symm ne_r0_b31))
  obtain ⟨_, _, ⟨T38, L38, k38, n38⟩, -, X38, ⟨Lc38, hQ38, l38, y38, z38⟩, st38⟩ := Jvm.LawKit.callS X36 hx (y := (⟨"java/util/Arrays", "fill", "([DD)V"⟩ : MethodName)) hown (mvT hZ (hw _ (List.mem_of_getElem? (i := 26) rfl))) (mvT hZ (hw _ (List.mem_of_getElem? (i := 27) rfl))) (mvT hZ (hw _ (List.mem_of_getElem? (i := 28) rfl))) (mvT hZ (hw _ (List.mem_of_getElem? (i := 29) rfl))) (by decide) (backOf (W := 0) (rm3_1 l Z a0 hw [] b31 (18442240474082181120 : UInt64) (fun _ => defaultValue .double) h35 n0 Z35 f37 g_b31) hZ (hw _ (List.mem_of_getElem? (i := 29) rfl)) (hw _ (List.mem_of_getElem? (i := 28) rfl)) (by decide) (by decide)) (g := (mkF m 60 #[rv r0, iv (1 : Int32)] [(.double (18442240474082181120 : UInt64)), (.ref b31)])) rfl (by rw [hml]; rfl) (argsL := [(.ref b31), (.double (18442240474082181120 : UInt64))]) (rest := []) (lenOf own_pd0 rfl) rfl (by show 2 * 0 + _ ≤ _; exact Nat.le_of_eq rfl) (Jvm.hb hby d1_60) (fun _ _ => ⟨rfl, e36, (by decide : 7 + 0 ≤ _), (by decide : 7 + 0 ≤ _)⟩)
  dsimp only [Pt.U, Pt.locs, Pt.cells, Pt.slots] at X38 l38 y38 z38 st38 hQ38
  subst l38 y38 z38
  obtain ⟨rfl, Nq38, Kc38, fd38, Ac38⟩ := hQ38
  have N38 := Fr.app N35 Nq38
  refine own_go st38 ?_
  have Z38 : n0 ≤ T38.heap.size := Nat.le_trans Z35 Kc38.1
  have K38 : Keep h0 T38.heap [r0] := Keep.trans K35 Kc38 (allS (Or.inr sz_b31) all0)
  show Gm p e below T38 m 63 #[rv r0, iv (1 : Int32)] [] _
  refine own_go (fun t₀ k₀ => XS.aloadN X38.here hx rfl (Jvm.hb hby d1_63) rfl rfl k₀) ?_
  show Gm p e below T38 m 64 #[rv r0, iv (1 : Int32)] [(.ref r0)] _
  refine own_go (fun t₀ k₀ => XS.iloadN X38.here hx rfl (Jvm.hb hby d1_64) rfl k₀) ?_
  show Gm p e below T38 m 65 #[rv r0, iv (1 : Int32)] [(.int (1 : Int32)), (.ref r0)] _
  obtain ⟨T39, h39, k39, X39, e39, E39, A39, st39⟩ := newP X38 hx hZ (hw _ (List.mem_of_getElem? (i := 16) rfl)) rfl (g := (mkF m 65 #[rv r0, iv (1 : Int32)] [(.int (1 : Int32)), (.ref r0)])) rfl (Jvm.hb hby d1_65) rfl (by decide) (cap := 1) (by decide) (by decide) (by decide) (by decide)
  obtain ⟨b39, g39⟩ : ∃ z, z = T38.heap.size := ⟨_, rfl⟩
  rw [← g39] at A39 st39
  have g_b39 : n0 ≤ b39 := Nat.le_trans Z38 (Nat.le_of_eq g39.symm)
  have f40 := ((f33.wr W35).keep Kc38)
  have ne_r0_b39 : r0 ≠ b39 := Nat.ne_of_lt (Nat.lt_of_lt_of_le f40.lt (Nat.le_of_eq g39.symm))
  have sz_b39 : h0.size ≤ b39 := Nat.le_trans K38.1 (Nat.le_of_eq g39.symm)
  have K39 : Keep h0 h39 [r0] := Keep.ext K38 E39
  have Z39 : n0 ≤ h39.size := Nat.le_trans Z38 E39.1
  have V39 : Af Z h39 b39 .double 1 (fun _ => defaultValue .double) := Af.new A39 (by decide) rfl rfl
  refine own_go st39 ?_
  show Gm p e below T39 m 67 #[rv r0, iv (1 : Int32)] [(.ref b39), (.ref r0)] _
  have f41 := (f40.ext E39)
  have f42 := (((Fld.other W35 ((Fld.other W30 ((Fld.other W25 ((Fld.other W20 ((Fld.other W15 ((Fld.other W10 ((Fld.other W5 (F_exitTimeS.ext E2) (Or.inr (slot_ne (Or.inr (hw _ (List.mem_of_getElem? (i := 31) rfl))) (Or.inr (hw _ (List.mem_of_getElem? (i := 11) rfl))) (by decide) (t := (.array .double)) (t' := (.array .int)) (by decide) (by decide)))).ext E6) (Or.inr (slot_ne (Or.inr (hw _ (List.mem_of_getElem? (i := 31) rfl))) (Or.inr (hw _ (List.mem_of_getElem? (i := 13) rfl))) (by decide) (t := (.array .double)) (t' := (.array .int)) (by decide) (by decide)))).ext E11) (Or.inr (slot_ne (Or.inr (hw _ (List.mem_of_getElem? (i := 31) rfl))) (Or.inr (hw _ (List.mem_of_getElem? (i := 15) rfl))) (by decide) (t := (.array .double)) (t' := (.array .int)) (by decide) (by decide)))).ext E16) (Or.inr (slot_ne (Or.inr (hw _ (List.mem_of_getElem? (i := 31) rfl))) (Or.inr (hw _ (List.mem_of_getElem? (i := 18) rfl))) (by decide) (t := (.array .double)) (t' := (.array .double)) (by decide) (by decide)))).ext E21) (Or.inr (slot_ne (Or.inr (hw _ (List.mem_of_getElem? (i := 31) rfl))) (Or.inr (hw _ (List.mem_of_getElem? (i := 20) rfl))) (by decide) (t := (.array .double)) (t' := (.array .double)) (by decide) (by decide)))).ext E26) (Or.inr (slot_ne (Or.inr (hw _ (List.mem_of_getElem? (i := 31) rfl))) (Or.inr (hw _ (List.mem_of_getElem? (i := 22) rfl))) (by decide) (t := (.array .double)) (t' := (.array .int)) (by decide) (by decide)))).ext E31) (Or.inr (slot_ne (Or.inr (hw _ (List.mem_of_getElem? (i := 31) rfl))) (Or.inr (hw _ (List.mem_of_getElem? (i := 24) rfl))) (by decide) (t := (.array .double)) (t' := (.array .double)) (by decide) (by decide)))).keep Kc38 (ninS ne_r0_b31 nin0)).ext E39)
  obtain ⟨T43, h43, X43, e43, W43, st43⟩ := putF X39 hx hZ hown (host := "") (Or.inl (hw _ (List.mem_of_getElem? (i := 30) rfl))) Via.refl e39 f42 f41 (Or.inr ⟨(hw _ (List.mem_of_getElem? (i := 31) rfl)), rfl, hnm⟩) (hw _ (List.mem_of_getElem? (i := 1) rfl)) (ty := (.array .double)) (by decide) rfl rfl (g := (mkF m 67 #[rv r0, iv (1 : Int32)] [(.ref b39), (.ref r0)])) rfl rfl (Jvm.hb hby d1_67)
  have Fw43 := Fld.same W43 f42
  have N43 := Fr.snoc X43 N38 g_r0
  have Z43 : n0 ≤ h43.size := W43.size ▸ Z39
  have K43 : Keep h0 h43 [r0] := Keep.wr K39 W43 (Or.inl (List.mem_of_getElem? (i := 0) rfl))
  refine own_go st43 ?_
  show Gm p e below T43 m 70 #[rv r0, iv (1 : Int32)] [] _
  refine own_go (fun t₀ k₀ => XS.aloadN X43.here hx rfl (Jvm.hb hby d1_70) rfl rfl k₀) ?_
  show Gm p e below T43 m 71 #[rv r0, iv (1 : Int32)] [(.ref r0)] _
  obtain ⟨T44, X44, e44, st44⟩ := getF X43 hx hZ hown (host := "") (Or.inl (hw _ (List.mem_of_getElem? (i := 30) rfl))) Via.refl e43 Fw43 (g := (mkF m 71 #[rv r0, iv (1 : Int32)] [(.ref r0)])) rfl rfl (Jvm.hb hby d1_71)
  refine own_go st44 ?_
  show Gm p e below T44 m 74 #[rv r0, iv (1 : Int32)] [(.ref b39)] _
  refine own_go (fun t₀ k₀ => X44.ldc2DoubleC hx hown (mvT hZ (hw _ (List.mem_of_getElem? (i := 32) rfl))) (g := (mkF m 74 #[rv r0, iv (1 : Int32)] [(.ref b39)])) rfl (Jvm.hb hby d1_74) _ k₀) ?_
  show Gm p e below T44 m 77 #[rv r0, iv (1 : Int32)] [(.double (9218868437227405312 : UInt64)), (.ref b39)] _
  have f45 := (V39.other W43 (Ne.symm ne_r0_b39))
  obtain ⟨_, _, ⟨T46, L46, k46, n46⟩, -, X46, ⟨Lc46, hQ46, l46, y46, z46⟩, st46⟩ := Jvm.LawKit.callS X44 hx (y := (⟨"java/util/Arrays", "fill", "([DD)V"⟩ : MethodName)) hown (mvT hZ (hw _ (List.mem_of_getElem? (i := 26) rfl))) (mvT hZ (hw _ (List.mem_of_getElem? (i := 27) rfl))) (mvT hZ (hw _ (List.mem_of_getElem? (i := 28) rfl))) (mvT hZ (hw _ (List.mem_of_getElem? (i := 29) rfl))) (by decide) (backOf (W := 0) (rm3_1 l Z a0 hw [] b39 (9218868437227405312 : UInt64) (fun _ => defaultValue .double) h43 n0 Z43 f45 g_b39) hZ (hw _ (List.mem_of_getElem? (i := 29) rfl)) (hw _ (List.mem_of_getElem? (i := 28) rfl)) (by decide) (by decide)) (g := (mkF m 77 #[rv r0, iv (1 : Int32)] [(.double (9218868437227405312 : UInt64)), (.ref b39)])) rfl (by rw [hml]; rfl) (argsL := [(.ref b39), (.double (9218868437227405312 : UInt64))]) (rest := []) (lenOf own_pd0 rfl) rfl (by show 2 * 0 + _ ≤ _; exact Nat.le_of_eq rfl) (Jvm.hb hby d1_77) (fun _ _ => ⟨rfl, e44, (by decide : 8 + 0 ≤ _), (by decide : 8 + 0 ≤ _)⟩)
  dsimp only [Pt.U, Pt.locs, Pt.cells, Pt.slots] at X46 l46 y46 z46 st46 hQ46
  subst l46 y46 z46
  obtain ⟨rfl, Nq46, Kc46, fd46, Ac46⟩ := hQ46
  have N46 := Fr.app N43 Nq46
  refine own_go st46 ?_
  have Z46 : n0 ≤ T46.heap.size := Nat.le_trans Z43 Kc46.1
  have K46 : Keep h0 T46.heap [r0] := Keep.trans K43 Kc46 (allS (Or.inr sz_b39) all0)
  show Gm p e below T46 m 80 #[rv r0, iv (1 : Int32)] [] _
  refine own_go (fun t₀ k₀ => XS.aloadN X46.here hx rfl (Jvm.hb hby d1_80) rfl rfl k₀) ?_
  show Gm p e below T46 m 81 #[rv r0, iv (1 : Int32)] [(.ref r0)] _
  refine own_go (fun t₀ k₀ => XS.iloadN X46.here hx rfl (Jvm.hb hby d1_81) rfl k₀) ?_
  show Gm p e below T46 m 82 #[rv r0, iv (1 : Int32)] [(.int (1 : Int32)), (.ref r0)] _
  obtain ⟨T47, h47, k47, X47, e47, E47, A47, st47⟩ := newP X46 hx hZ (hw _ (List.mem_of_getElem? (i := 9) rfl)) rfl (g := (mkF m 82 #[rv r0, iv (1 : Int32)] [(.int (1 : Int32)), (.ref r0)])) rfl (Jvm.hb hby d1_82) rfl (by decide) (cap := 1) (by decide) (by decide) (by decide) (by decide)
  obtain ⟨b47, g47⟩ : ∃ z, z = T46.heap.size := ⟨_, rfl⟩
  rw [← g47] at A47 st47
  have g_b47 : n0 ≤ b47 := Nat.le_trans Z46 (Nat.le_of_eq g47.symm)
  have f48 := ((f41.wr W43).keep Kc46)
  have ne_r0_b47 : r0 ≠ b47 := Nat.ne_of_lt (Nat.lt_of_lt_of_le f48.lt (Nat.le_of_eq g47.symm))
  have sz_b47 : h0.size ≤ b47 := Nat.le_trans K46.1 (Nat.le_of_eq g47.symm)
  have K47 : Keep h0 h47 [r0] := Keep.ext K46 E47
  have Z47 : n0 ≤ h47.size := Nat.le_trans Z46 E47.1
  have V47 : Af Z h47 b47 .int 1 (fun _ => defaultValue .int) := Af.new A47 (by decide) rfl rfl
  refine own_go st47 ?_
  show Gm p e below T47 m 84 #[rv r0, iv (1 : Int32)] [(.ref b47), (.ref r0)] _
  have f49 := (f48.ext E47)
  have f50 := (((Fld.other W43 (((Fld.other W35 ((Fld.other W30 ((Fld.other W25 ((Fld.other W20 ((Fld.other W15 ((Fld.other W10 ((Fld.other W5 (F_leaving.ext E2) (Or.inr (slot_ne (Or.inr (hw _ (List.mem_of_getElem? (i := 34) rfl))) (Or.inr (hw _ (List.mem_of_getElem? (i := 11) rfl))) (by decide) (t := (.array .int)) (t' := (.array .int)) (by decide) (by decide)))).ext E6) (Or.inr (slot_ne (Or.inr (hw _ (List.mem_of_getElem? (i := 34) rfl))) (Or.inr (hw _ (List.mem_of_getElem? (i := 13) rfl))) (by decide) (t := (.array .int)) (t' := (.array .int)) (by decide) (by decide)))).ext E11) (Or.inr (slot_ne (Or.inr (hw _ (List.mem_of_getElem? (i := 34) rfl))) (Or.inr (hw _ (List.mem_of_getElem? (i := 15) rfl))) (by decide) (t := (.array .int)) (t' := (.array .int)) (by decide) (by decide)))).ext E16) (Or.inr (slot_ne (Or.inr (hw _ (List.mem_of_getElem? (i := 34) rfl))) (Or.inr (hw _ (List.mem_of_getElem? (i := 18) rfl))) (by decide) (t := (.array .int)) (t' := (.array .double)) (by decide) (by decide)))).ext E21) (Or.inr (slot_ne (Or.inr (hw _ (List.mem_of_getElem? (i := 34) rfl))) (Or.inr (hw _ (List.mem_of_getElem? (i := 20) rfl))) (by decide) (t := (.array .int)) (t' := (.array .double)) (by decide) (by decide)))).ext E26) (Or.inr (slot_ne (Or.inr (hw _ (List.mem_of_getElem? (i := 34) rfl))) (Or.inr (hw _ (List.mem_of_getElem? (i := 22) rfl))) (by decide) (t := (.array .int)) (t' := (.array .int)) (by decide) (by decide)))).ext E31) (Or.inr (slot_ne (Or.inr (hw _ (List.mem_of_getElem? (i := 34) rfl))) (Or.inr (hw _ (List.mem_of_getElem? (i := 24) rfl))) (by decide) (t := (.array .int)) (t' := (.array .double)) (by decide) (by decide)))).keep Kc38 (ninS ne_r0_b31 nin0)).ext E39) (Or.inr (slot_ne (Or.inr (hw _ (List.mem_of_getElem? (i := 34) rfl))) (Or.inr (hw _ (List.mem_of_getElem? (i := 31) rfl))) (by decide) (t := (.array .int)) (t' := (.array .double)) (by decide) (by decide)))).keep Kc46 (ninS ne_r0_b39 nin0)).ext E47)
  obtain ⟨T51, h51, X51, e51, W51, st51⟩ := putF X47 hx hZ hown (host := "") (Or.inl (hw _ (List.mem_of_getElem? (i := 33) rfl))) Via.refl e47 f50 f49 (Or.inr ⟨(hw _ (List.mem_of_getElem? (i := 34) rfl)), rfl, hnm⟩) (hw _ (List.mem_of_getElem? (i := 1) rfl)) (ty := (.array .int)) (by decide) rfl rfl (g := (mkF m 84 #[rv r0, iv (1 : Int32)] [(.ref b47), (.ref r0)])) rfl rfl (Jvm.hb hby d1_84)
  have Fw51 := Fld.same W51 f50
  have N51 := Fr.snoc X51 N46 g_r0
  have Z51 : n0 ≤ h51.size := W51.size ▸ Z47
  have K51 : Keep h0 h51 [r0] := Keep.wr K47 W51 (Or.inl (List.mem_of_getElem? (i := 0) rfl))
  refine own_go st51 ?_
  show Gm p e below T51 m 87 #[rv r0, iv (1 : Int32)] [] _
  refine own_go (fun t₀ k₀ => XS.aloadN X51.here hx rfl (Jvm.hb hby d1_87) rfl rfl k₀) ?_
  show Gm p e below T51 m 88 #[rv r0, iv (1 : Int32)] [(.ref r0)] _
  obtain ⟨T52, X52, e52, st52⟩ := getF X51 hx hZ hown (host := "") (Or.inl (hw _ (List.mem_of_getElem? (i := 33) rfl))) Via.refl e51 Fw51 (g := (mkF m 88 #[rv r0, iv (1 : Int32)] [(.ref r0)])) rfl rfl (Jvm.hb hby d1_88)
  refine own_go st52 ?_
  show Gm p e below T52 m 91 #[rv r0, iv (1 : Int32)] [(.ref b47)] _
  refine own_go (fun t₀ k₀ => XS.iconst X52.here hx rfl (Jvm.hb hby d1_91) k₀) ?_
  show Gm p e below T52 m 92 #[rv r0, iv (1 : Int32)] [(.int (-1 : Int32)), (.ref b47)] _
  have f53 := (V47.other W51 (Ne.symm ne_r0_b47))
  obtain ⟨_, _, ⟨T54, L54, k54, n54⟩, -, X54, ⟨Lc54, hQ54, l54, y54, z54⟩, st54⟩ := Jvm.LawKit.callS X52 hx (y := (⟨"java/util/Arrays", "fill", "([II)V"⟩ : MethodName)) hown (mvT hZ (hw _ (List.mem_of_getElem? (i := 35) rfl))) (mvT hZ (hw _ (List.mem_of_getElem? (i := 36) rfl))) (mvT hZ (hw _ (List.mem_of_getElem? (i := 28) rfl))) (mvT hZ (hw _ (List.mem_of_getElem? (i := 37) rfl))) (by decide) (backOf (W := 0) (rm4_1 l Z a0 hw [] b47 (-1 : Int32) (fun _ => defaultValue .int) h51 n0 Z51 f53 g_b47) hZ (hw _ (List.mem_of_getElem? (i := 37) rfl)) (hw _ (List.mem_of_getElem? (i := 28) rfl)) (by decide) (by decide)) (g := (mkF m 92 #[rv r0, iv (1 : Int32)] [(.int (-1 : Int32)), (.ref b47)])) rfl (by rw [hml]; rfl) (argsL := [(.ref b47), (.int (-1 : Int32))]) (rest := []) (lenOf own_pd1 rfl) rfl (by show 2 * 0 + _ ≤ _; exact Nat.le_of_eq rfl) (Jvm.hb hby d1_92) (fun _ _ => ⟨rfl, e52, (by decide : 9 + 0 ≤ _), (by decide : 9 + 0 ≤ _)⟩)
  dsimp only [Pt.U, Pt.locs, Pt.cells, Pt.slots] at X54 l54 y54 z54 st54 hQ54
  subst l54 y54 z54
  obtain ⟨rfl, Nq54, Kc54, Ac54⟩ := hQ54
  have N54 := Fr.app N51 Nq54
  refine own_go st54 ?_
  have Z54 : n0 ≤ T54.heap.size := Nat.le_trans Z51 Kc54.1
  have K54 : Keep h0 T54.heap [r0] := Keep.trans K51 Kc54 (allS (Or.inr sz_b47) all0)
  show Gm p e below T54 m 95 #[rv r0, iv (1 : Int32)] [] _
  refine own_go (fun t₀ k₀ => XS.aloadN X54.here hx rfl (Jvm.hb hby d1_95) rfl rfl k₀) ?_
  show Gm p e below T54 m 96 #[rv r0, iv (1 : Int32)] [(.ref r0)] _
  refine own_go (fun t₀ k₀ => XS.iloadN X54.here hx rfl (Jvm.hb hby d1_96) rfl k₀) ?_
  show Gm p e below T54 m 97 #[rv r0, iv (1 : Int32)] [(.int (1 : Int32)), (.ref r0)] _
  obtain ⟨T55, h55, k55, X55, e55, E55, A55, st55⟩ := newP X54 hx hZ (hw _ (List.mem_of_getElem? (i := 9) rfl)) rfl (g := (mkF m 97 #[rv r0, iv (1 : Int32)] [(.int (1 : Int32)), (.ref r0)])) rfl (Jvm.hb hby d1_97) rfl (by decide) (cap := 1) (by decide) (by decide) (by decide) (by decide)
  obtain ⟨b55, g55⟩ : ∃ z, z = T54.heap.size := ⟨_, rfl⟩
  rw [← g55] at A55 st55
  have g_b55 : n0 ≤ b55 := Nat.le_trans Z54 (Nat.le_of_eq g55.symm)
  have f56 := ((f49.wr W51).keep Kc54)
  have ne_r0_b55 : r0 ≠ b55 := Nat.ne_of_lt (Nat.lt_of_lt_of_le f56.lt (Nat.le_of_eq g55.symm))
  have sz_b55 : h0.size ≤ b55 := Nat.le_trans K54.1 (Nat.le_of_eq g55.symm)
  have K55 : Keep h0 h55 [r0] := Keep.ext K54 E55
  have Z55 : n0 ≤ h55.size := Nat.le_trans Z54 E55.1
  have V55 : Af Z h55 b55 .int 1 (fun _ => defaultValue .int) := Af.new A55 (by decide) rfl rfl
  refine own_go st55 ?_
  show Gm p e below T55 m 99 #[rv r0, iv (1 : Int32)] [(.ref b55), (.ref r0)] _
  have f57 := (f56.ext E55)
  have f58 := (((Fld.other W51 (((Fld.other W43 (((Fld.other W35 ((Fld.other W30 ((Fld.other W25 ((Fld.other W20 ((Fld.other W15 ((Fld.other W10 ((Fld.other W5 (F_exit.ext E2) (Or.inr (slot_ne (Or.inr (hw _ (List.mem_of_getElem? (i := 39) rfl))) (Or.inr (hw _ (List.mem_of_getElem? (i := 11) rfl))) (by decide) (t := (.array .int)) (t' := (.array .int)) (by decide) (by decide)))).ext E6) (Or.inr (slot_ne (Or.inr (hw _ (List.mem_of_getElem? (i := 39) rfl))) (Or.inr (hw _ (List.mem_of_getElem? (i := 13) rfl))) (by decide) (t := (.array .int)) (t' := (.array .int)) (by decide) (by decide)))).ext E11) (Or.inr (slot_ne (Or.inr (hw _ (List.mem_of_getElem? (i := 39) rfl))) (Or.inr (hw _ (List.mem_of_getElem? (i := 15) rfl))) (by decide) (t := (.array .int)) (t' := (.array .int)) (by decide) (by decide)))).ext E16) (Or.inr (slot_ne (Or.inr (hw _ (List.mem_of_getElem? (i := 39) rfl))) (Or.inr (hw _ (List.mem_of_getElem? (i := 18) rfl))) (by decide) (t := (.array .int)) (t' := (.array .double)) (by decide) (by decide)))).ext E21) (Or.inr (slot_ne (Or.inr (hw _ (List.mem_of_getElem? (i := 39) rfl))) (Or.inr (hw _ (List.mem_of_getElem? (i := 20) rfl))) (by decide) (t := (.array .int)) (t' := (.array .double)) (by decide) (by decide)))).ext E26) (Or.inr (slot_ne (Or.inr (hw _ (List.mem_of_getElem? (i := 39) rfl))) (Or.inr (hw _ (List.mem_of_getElem? (i := 22) rfl))) (by decide) (t := (.array .int)) (t' := (.array .int)) (by decide) (by decide)))).ext E31) (Or.inr (slot_ne (Or.inr (hw _ (List.mem_of_getElem? (i := 39) rfl))) (Or.inr (hw _ (List.mem_of_getElem? (i := 24) rfl))) (by decide) (t := (.array .int)) (t' := (.array .double)) (by decide) (by decide)))).keep Kc38 (ninS ne_r0_b31 nin0)).ext E39) (Or.inr (slot_ne (Or.inr (hw _ (List.mem_of_getElem? (i := 39) rfl))) (Or.inr (hw _ (List.mem_of_getElem? (i := 31) rfl))) (by decide) (t := (.array .int)) (t' := (.array .double)) (by decide) (by decide)))).keep Kc46 (ninS ne_r0_b39 nin0)).ext E47) (Or.inr (slot_ne (Or.inr (hw _ (List.mem_of_getElem? (i := 39) rfl))) (Or.inr (hw _ (List.mem_of_getElem? (i := 34) rfl))) (by decide) (t := (.array .int)) (t' := (.array .int)) (by decide) (by decide)))).keep Kc54 (ninS ne_r0_b47 nin0)).ext E55)
  obtain ⟨T59, h59, X59, e59, W59, st59⟩ := putF X55 hx hZ hown (host := "") (Or.inl (hw _ (List.mem_of_getElem? (i := 38) rfl))) Via.refl e55 f58 f57 (Or.inr ⟨(hw _ (List.mem_of_getElem? (i := 39) rfl)), rfl, hnm⟩) (hw _ (List.mem_of_getElem? (i := 1) rfl)) (ty := (.array .int)) (by decide) rfl rfl (g := (mkF m 99 #[rv r0, iv (1 : Int32)] [(.ref b55), (.ref r0)])) rfl rfl (Jvm.hb hby d1_99)
  have Fw59 := Fld.same W59 f58
  have N59 := Fr.snoc X59 N54 g_r0
  have Z59 : n0 ≤ h59.size := W59.size ▸ Z55
  have K59 : Keep h0 h59 [r0] := Keep.wr K55 W59 (Or.inl (List.mem_of_getElem? (i := 0) rfl))
  refine own_go st59 ?_
  show Gm p e below T59 m 102 #[rv r0, iv (1 : Int32)] [] _
  refine own_go (fun t₀ k₀ => XS.aloadN X59.here hx rfl (Jvm.hb hby d1_102) rfl rfl k₀) ?_
  show Gm p e below T59 m 103 #[rv r0, iv (1 : Int32)] [(.ref r0)] _
  obtain ⟨T60, X60, e60, st60⟩ := getF X59 hx hZ hown (host := "") (Or.inl (hw _ (List.mem_of_getElem? (i := 38) rfl))) Via.refl e59 Fw59 (g := (mkF m 103 #[rv r0, iv (1 : Int32)] [(.ref r0)])) rfl rfl (Jvm.hb hby d1_103)
  refine own_go st60 ?_
  show Gm p e below T60 m 106 #[rv r0, iv (1 : Int32)] [(.ref b55)] _
  refine own_go (fun t₀ k₀ => XS.iconst X60.here hx rfl (Jvm.hb hby d1_106) k₀) ?_
  show Gm p e below T60 m 107 #[rv r0, iv (1 : Int32)] [(.int (-1 : Int32)), (.ref b55)] _
  have f61 := (V55.other W59 (Ne.symm ne_r0_b55))
  obtain ⟨_, _, ⟨T62, L62, k62, n62⟩, -, X62, ⟨Lc62, hQ62, l62, y62, z62⟩, st62⟩ := Jvm.LawKit.callS X60 hx (y := (⟨"java/util/Arrays", "fill", "([II)V"⟩ : MethodName)) hown (mvT hZ (hw _ (List.mem_of_getElem? (i := 35) rfl))) (mvT hZ (hw _ (List.mem_of_getElem? (i := 36) rfl))) (mvT hZ (hw _ (List.mem_of_getElem? (i := 28) rfl))) (mvT hZ (hw _ (List.mem_of_getElem? (i := 37) rfl))) (by decide) (backOf (W := 0) (rm4_1 l Z a0 hw [] b55 (-1 : Int32) (fun _ => defaultValue .int) h59 n0 Z59 f61 g_b55) hZ (hw _ (List.mem_of_getElem? (i := 37) rfl)) (hw _ (List.mem_of_getElem? (i := 28) rfl)) (by decide) (by decide)) (g := (mkF m 107 #[rv r0, iv (1 : Int32)] [(.int (-1 : Int32)), (.ref b55)])) rfl (by rw [hml]; rfl) (argsL := [(.ref b55), (.int (-1 : Int32))]) (rest := []) (lenOf own_pd1 rfl) rfl (by show 2 * 0 + _ ≤ _; exact Nat.le_of_eq rfl) (Jvm.hb hby d1_107) (fun _ _ => ⟨rfl, e60, (by decide : 10 + 0 ≤ _), (by decide : 10 + 0 ≤ _)⟩)
  dsimp only [Pt.U, Pt.locs, Pt.cells, Pt.slots] at X62 l62 y62 z62 st62 hQ62
  subst l62 y62 z62
  obtain ⟨rfl, Nq62, Kc62, Ac62⟩ := hQ62
  have N62 := Fr.app N59 Nq62
  refine own_go st62 ?_
  have Z62 : n0 ≤ T62.heap.size := Nat.le_trans Z59 Kc62.1
  have K62 : Keep h0 T62.heap [r0] := Keep.trans K59 Kc62 (allS (Or.inr sz_b55) all0)
  show Gm p e below T62 m 110 #[rv r0, iv (1 : Int32)] [] _
  refine own_go (fun t₀ k₀ => XS.aloadN X62.here hx rfl (Jvm.hb hby d1_110) rfl rfl k₀) ?_
  show Gm p e below T62 m 111 #[rv r0, iv (1 : Int32)] [(.ref r0)] _
  refine own_go (fun t₀ k₀ => XS.iloadN X62.here hx rfl (Jvm.hb hby d1_111) rfl k₀) ?_
  show Gm p e below T62 m 112 #[rv r0, iv (1 : Int32)] [(.int (1 : Int32)), (.ref r0)] _
  obtain ⟨T63, h63, k63, X63, e63, E63, A63, st63⟩ := newP X62 hx hZ (hw _ (List.mem_of_getElem? (i := 16) rfl)) rfl (g := (mkF m 112 #[rv r0, iv (1 : Int32)] [(.int (1 : Int32)), (.ref r0)])) rfl (Jvm.hb hby d1_112) rfl (by decide) (cap := 1) (by decide) (by decide) (by decide) (by decide)
  obtain ⟨b63, g63⟩ : ∃ z, z = T62.heap.size := ⟨_, rfl⟩
  rw [← g63] at A63 st63
  have g_b63 : n0 ≤ b63 := Nat.le_trans Z62 (Nat.le_of_eq g63.symm)
  have f64 := ((f57.wr W59).keep Kc62)
  have ne_r0_b63 : r0 ≠ b63 := Nat.ne_of_lt (Nat.lt_of_lt_of_le f64.lt (Nat.le_of_eq g63.symm))
  have ne_b55_b63 : b55 ≠ b63 := Nat.ne_of_lt (Nat.lt_of_lt_of_le Ac62.lt (Nat.le_of_eq g63.symm))
  have sz_b63 : h0.size ≤ b63 := Nat.le_trans K62.1 (Nat.le_of_eq g63.symm)
  have K63 : Keep h0 h63 [r0] := Keep.ext K62 E63
  have Z63 : n0 ≤ h63.size := Nat.le_trans Z62 E63.1
  have V63 : Af Z h63 b63 .double 1 (fun _ => defaultValue .double) := Af.new A63 (by decide) rfl rfl
  refine own_go st63 ?_
  show Gm p e below T63 m 114 #[rv r0, iv (1 : Int32)] [(.ref b63), (.ref r0)] _
  have f65 := (f64.ext E63)
  have f66 := (((Fld.other W59 (((Fld.other W51 (((Fld.other W43 (((Fld.other W35 ((Fld.other W30 ((Fld.other W25 ((Fld.other W20 ((Fld.other W15 ((Fld.other W10 ((Fld.other W5 (F_distanceM.ext E2) (Or.inr (slot_ne (Or.inr (hw _ (List.mem_of_getElem? (i := 41) rfl))) (Or.inr (hw _ (List.mem_of_getElem? (i := 11) rfl))) (by decide) (t := (.array .double)) (t' := (.array .int)) (by decide) (by decide)))).ext E6) (Or.inr (slot_ne (Or.inr (hw _ (List.mem_of_getElem? (i := 41) rfl))) (Or.inr (hw _ (List.mem_of_getElem? (i := 13) rfl))) (by decide) (t := (.array .double)) (t' := (.array .int)) (by decide) (by decide)))).ext E11) (Or.inr (slot_ne (Or.inr (hw _ (List.mem_of_getElem? (i := 41) rfl))) (Or.inr (hw _ (List.mem_of_getElem? (i := 15) rfl))) (by decide) (t := (.array .double)) (t' := (.array .int)) (by decide) (by decide)))).ext E16) (Or.inr (slot_ne (Or.inr (hw _ (List.mem_of_getElem? (i := 41) rfl))) (Or.inr (hw _ (List.mem_of_getElem? (i := 18) rfl))) (by decide) (t := (.array .double)) (t' := (.array .double)) (by decide) (by decide)))).ext E21) (Or.inr (slot_ne (Or.inr (hw _ (List.mem_of_getElem? (i := 41) rfl))) (Or.inr (hw _ (List.mem_of_getElem? (i := 20) rfl))) (by decide) (t := (.array .double)) (t' := (.array .double)) (by decide) (by decide)))).ext E26) (Or.inr (slot_ne (Or.inr (hw _ (List.mem_of_getElem? (i := 41) rfl))) (Or.inr (hw _ (List.mem_of_getElem? (i := 22) rfl))) (by decide) (t := (.array .double)) (t' := (.array .int)) (by decide) (by decide)))).ext E31) (Or.inr (slot_ne (Or.inr (hw _ (List.mem_of_getElem? (i := 41) rfl))) (Or.inr (hw _ (List.mem_of_getElem? (i := 24) rfl))) (by decide) (t := (.array .double)) (t' := (.array .double)) (by decide) (by decide)))).keep Kc38 (ninS ne_r0_b31 nin0)).ext E39) (Or.inr (slot_ne (Or.inr (hw _ (List.mem_of_getElem? (i := 41) rfl))) (Or.inr (hw _ (List.mem_of_getElem? (i := 31) rfl))) (by decide) (t := (.array .double)) (t' := (.array .double)) (by decide) (by decide)))).keep Kc46 (ninS ne_r0_b39 nin0)).ext E47) (Or.inr (slot_ne (Or.inr (hw _ (List.mem_of_getElem? (i := 41) rfl))) (Or.inr (hw _ (List.mem_of_getElem? (i := 34) rfl))) (by decide) (t := (.array .double)) (t' := (.array .int)) (by decide) (by decide)))).keep Kc54 (ninS ne_r0_b47 nin0)).ext E55) (Or.inr (slot_ne (Or.inr (hw _ (List.mem_of_getElem? (i := 41) rfl))) (Or.inr (hw _ (List.mem_of_getElem? (i := 39) rfl))) (by decide) (t := (.array .double)) (t' := (.array .int)) (by decide) (by decide)))).keep Kc62 (ninS ne_r0_b55 nin0)).ext E63)
  obtain ⟨T67, h67, X67, e67, W67, st67⟩ := putF X63 hx hZ hown (host := "") (Or.inl (hw _ (List.mem_of_getElem? (i := 40) rfl))) Via.refl e63 f66 f65 (Or.inr ⟨(hw _ (List.mem_of_getElem? (i := 41) rfl)), rfl, hnm⟩) (hw _ (List.mem_of_getElem? (i := 1) rfl)) (ty := (.array .double)) (by decide) rfl rfl (g := (mkF m 114 #[rv r0, iv (1 : Int32)] [(.ref b63), (.ref r0)])) rfl rfl (Jvm.hb hby d1_114)
  have Fw67 := Fld.same W67 f66
  have N67 := Fr.snoc X67 N62 g_r0
  have Z67 : n0 ≤ h67.size := W67.size ▸ Z63
  have K67 : Keep h0 h67 [r0] := Keep.wr K63 W67 (Or.inl (List.mem_of_getElem? (i := 0) rfl))
  refine own_go st67 ?_
  show Gm p e below T67 m 117 #[rv r0, iv (1 : Int32)] [] _
  have f68 := (f65.wr W67)
  have f69 := (Fld.other W67 ((Fw59.keep Kc62 (ninS ne_r0_b55 nin0)).ext E63) (Or.inr (slot_ne (Or.inr (hw _ (List.mem_of_getElem? (i := 39) rfl))) (Or.inr (hw _ (List.mem_of_getElem? (i := 41) rfl))) (by decide) (t := (.array .int)) (t' := (.array .double)) (by decide) (by decide))))
  have f70 := ((Ac62.ext E63).other W67 (Ne.symm ne_r0_b55))
  exact own_retV X67 hx hlk Bd.returns (Jvm.hb hby d1_117) e67 ⟨b55, rfl, N67, K67, f68, sz_b55, f69, f70⟩ (by decide) (by decide)
theorem d5_15 : decode prog_63_method_3_code 15 = .ok (.aload_n 1, 1) := by decide +kernel
theorem d5_16 : decode prog_63_method_3_code 16 = .ok (.iload_n 3, 1) := by decide +kernel
theorem d5_17 : decode prog_63_method_3_code 17 = .ok (.iaload, 1) := by decide +kernel
theorem d5_18 : decode prog_63_method_3_code 18 = .ok (.istore 4, 2) := by decide +kernel
theorem d5_20 : decode prog_63_method_3_code 20 = .ok (.iload 4, 2) := by decide +kernel
theorem d5_22 : decode prog_63_method_3_code 22 = .ok (.ifCond .ge 5, 3) := by decide +kernel
theorem d5_25 : decode prog_63_method_3_code 25 = .ok (.iconst 1, 1) := by decide +kernel
theorem d5_26 : decode prog_63_method_3_code 26 = .ok (.ireturn, 1) := by decide +kernel
theorem d5_27 : decode prog_63_method_3_code 27 = .ok (.iinc 3 1, 3) := by decide +kernel
theorem d5_30 : decode prog_63_method_3_code 30 = .ok (.goto (-20), 3) := by decide +kernel
theorem own_pn_rm5_1 : plainName "com/example/throughfare/throughfare/simulation/Walkers" = true := by first | (simp [plainName, overriddenIn]; done) | decide +kernel
theorem own_ef_rm5_1 (m : MethodId) (r0 : Addr) : entryFrame m #[(.ref r0)] 5 = mkF m 0 #[.val (.ref r0), .unset, .unset, .unset, .unset] [] := by first | (simp [entryFrame, mkF, argsToLocals, Value.category]; done) | rfl
def fA1 (ve0 : Int32) : Int32 := if ve0 < (0 : Int32) then (1 : Int32) else ((0 : Int32))
def Q5_1 (Z : State) (r0 : Addr) (c1 : Addr) (f : Nat → Value) (ve0 : Int32) (h0 : Heap) (n0 : Nat) (v : Option Value) (h : Heap) (L : List Loc) : Prop := v = some (.int (fA1 ve0)) ∧ Fr n0 L ∧ h = h0
set_option maxRecDepth 65536 in
set_option maxHeartbeats 40000000 in
theorem rm5_1 (l : Launch) (Z : State) (a0 : Array Value) (hw : ∀ d ∈ tables_1, d.before a0 Z = true) (ws : List Jvm.Cond) (r0 : Addr) (c1 : Addr) (f : Nat → Value) (ve0 : Int32) (h0 : Heap) (n0 : Nat) (Z0 : n0 ≤ h0.size) (F_e : Fld Z h0 r0 "com/example/throughfare/throughfare/simulation/Walkers" "exit" "[I" (.ref c1)) (A : Af Z h0 c1 .int 1 f) (hf0 : f 0 = .int ve0) :
    MetFree l (⟨"com/example/throughfare/throughfare/simulation/Walkers", "anyoneInside", "()Z"⟩ : MethodName) (head1 (Jvm.Cond.code (⟨"com/example/throughfare/throughfare/simulation/Walkers", "anyoneInside", "()Z"⟩ : MethodName) prog_63_method_3_code 5 (some .boolean) :: ws) ({ frames := 0, cells := 0, slots := 0, locals := 0 } : Room)) (fun a U => a = #[(.ref r0)] ∧ Z.Warmed39 U.vm ∧ U.heap = h0) (fun _ _ _ _ _ => True) (fun _ U o U' => ∃ v L, o = .returned v ∧ Q5_1 Z r0 c1 f ve0 h0 n0 v U'.heap L ∧ FrameEnd U o U' L ({ frames := 0, cells := 0, slots := 0, locals := 0 } : Room).cells ({ frames := 0, cells := 0, slots := 0, locals := 0 } : Room).slots) := by
  refine MetFree.of_bodySF (plainFor_of_name own_pn_rm5_1) hisR ?_
  intro p e s m args below meth cO s₁ Bd hml0 hP hK
  obtain ⟨rfl, hZ, hh⟩ := hP
  have hx := Bd.exec
  have hby := Bd.bytes
  have hml : cO.maxLocals = 5 := hml0
  have hown : s.vm.findClass "com/example/throughfare/throughfare/simulation/Walkers" = some m.cls := findClass_of_methodNamed Bd.named
  have hnm := (name_of_methodNamed Bd.named Bd.method).1
  have hlk : meth.locks = false := BodyLoose.notSynchronized Bd
  have X0 : Stand p l e ({ frames := 0, cells := 0, slots := 0, locals := 0 } : Room) s m #[(.ref r0)] below meth cO s₁ [] 0 0 := Stand.of_body Bd
  have e0 : s₁.heap = h0 := by rw [← hh, Bd.state]; rfl
  have N0 := Fr.nil n0
  refine own_in (own_ef_rm5_1 m r0) ?_
  show Gm p e below s₁ m 0 #[rv r0, .unset, .unset, .unset, .unset] [] _
  refine own_go (fun t₀ k₀ => XS.aloadN X0.here hx rfl (Jvm.hb hby d5_0) rfl rfl k₀) ?_
  show Gm p e below s₁ m 1 #[rv r0, .unset, .unset, .unset, .unset] [(.ref r0)] _
  obtain ⟨T1, X1, e1, st1⟩ := getF X0 hx hZ hown (host := "") (Or.inl (hw _ (List.mem_of_getElem? (i := 38) rfl))) Via.refl e0 F_e (g := (mkF m 1 #[rv r0, .unset, .unset, .unset, .unset] [(.ref r0)])) rfl rfl (Jvm.hb hby d5_1)
  refine own_go st1 ?_
  show Gm p e below T1 m 4 #[rv r0, .unset, .unset, .unset, .unset] [(.ref c1)] _
  refine own_go (fun t₀ k₀ => XS.astoreN X1.here hx rfl (Jvm.hb hby d5_4) rfl rfl (l' := #[rv r0, rv c1, .unset, .unset, .unset]) rfl k₀) ?_
  show Gm p e below T1 m 5 #[rv r0, rv c1, .unset, .unset, .unset] [] _
  refine own_go (fun t₀ k₀ => XS.aloadN X1.here hx rfl (Jvm.hb hby d5_5) rfl rfl k₀) ?_
  show Gm p e below T1 m 6 #[rv r0, rv c1, .unset, .unset, .unset] [(.ref c1)] _
  refine own_go (fun t₀ k₀ => own_len X1 hx hZ e1 A (z := (1 : Int32)) rfl (g := (mkF m 6 #[rv r0, rv c1, .unset, .unset, .unset] [(.ref c1)])) rfl rfl (Jvm.hb hby d5_6) k₀) ?_
  show Gm p e below T1 m 7 #[rv r0, rv c1, .unset, .unset, .unset] [(.int (1 : Int32))] _
  refine own_go (fun t₀ k₀ => XS.istoreN X1.here hx rfl (Jvm.hb hby d5_7) rfl (l' := #[rv r0, rv c1, iv (1 : Int32), .unset, .unset]) rfl k₀) ?_
  show Gm p e below T1 m 8 #[rv r0, rv c1, iv (1 : Int32), .unset, .unset] [] _
  refine own_go (fun t₀ k₀ => XS.iconst X1.here hx rfl (Jvm.hb hby d5_8) k₀) ?_
  show Gm p e below T1 m 9 #[rv r0, rv c1, iv (1 : Int32), .unset, .unset] [(.int (0 : Int32))] _
  refine own_go (fun t₀ k₀ => XS.istoreN X1.here hx rfl (Jvm.hb hby d5_9) rfl (l' := #[rv r0, rv c1, iv (1 : Int32), iv (0 : Int32), .unset]) rfl k₀) ?_
  show Gm p e below T1 m 10 #[rv r0, rv c1, iv (1 : Int32), iv (0 : Int32), .unset] [] _
  refine own_go (fun t₀ k₀ => XS.iloadN X1.here hx rfl (Jvm.hb hby d5_10) rfl k₀) ?_
  show Gm p e below T1 m 11 #[rv r0, rv c1, iv (1 : Int32), iv (0 : Int32), .unset] [(.int (0 : Int32))] _
  refine own_go (fun t₀ k₀ => XS.iloadN X1.here hx rfl (Jvm.hb hby d5_11) rfl k₀) ?_
  show Gm p e below T1 m 12 #[rv r0, rv c1, iv (1 : Int32), iv (0 : Int32), .unset] [(.int (1 : Int32)), (.int (0 : Int32))] _
  refine own_go (fun t₀ k₀ => XS.icmpNo X1.here hx rfl (Jvm.hb hby d5_12) rfl (XT.ii_ge_f (by decide)) k₀) ?_
  show Gm p e below T1 m 15 #[rv r0, rv c1, iv (1 : Int32), iv (0 : Int32), .unset] [] _
  refine own_go (fun t₀ k₀ => XS.aloadN X1.here hx rfl (Jvm.hb hby d5_15) rfl rfl k₀) ?_
  show Gm p e below T1 m 16 #[rv r0, rv c1, iv (1 : Int32), iv (0 : Int32), .unset] [(.ref c1)] _
  refine own_go (fun t₀ k₀ => XS.iloadN X1.here hx rfl (Jvm.hb hby d5_16) rfl k₀) ?_
  show Gm p e below T1 m 17 #[rv r0, rv c1, iv (1 : Int32), iv (0 : Int32), .unset] [(.int (0 : Int32)), (.ref c1)] _
  refine own_go (fun t₀ k₀ => own_ldI X1 hx hZ e1 A (j := (0 : Int32)) (k := 0) (by decide) rfl (by decide) (w := (.int ve0)) hf0 (g := (mkF m 17 #[rv r0, rv c1, iv (1 : Int32), iv (0 : Int32), .unset] [(.int (0 : Int32)), (.ref c1)])) rfl rfl (Jvm.hb hby d5_17) k₀) ?_
  show Gm p e below T1 m 18 #[rv r0, rv c1, iv (1 : Int32), iv (0 : Int32), .unset] [(.int ve0)] _
  refine own_go (fun t₀ k₀ => XS.istore X1.here hx rfl (Jvm.hb hby d5_18) rfl (l' := #[rv r0, rv c1, iv (1 : Int32), iv (0 : Int32), iv ve0]) rfl k₀) ?_
  show Gm p e below T1 m 20 #[rv r0, rv c1, iv (1 : Int32), iv (0 : Int32), iv ve0] [] _
  refine own_go (fun t₀ k₀ => XS.iload X1.here hx rfl (Jvm.hb hby d5_20) rfl k₀) ?_
  show Gm p e below T1 m 22 #[rv r0, rv c1, iv (1 : Int32), iv (0 : Int32), iv ve0] [(.int ve0)] _
  by_cases c2 : ve0 < (0 : Int32)
  · have hfork := trivial
    refine own_go (fun t₀ k₀ => XS.ifNo X1.here hx rfl (Jvm.hb hby d5_22) rfl (XT.i0_ge_f c2) k₀) ?_
    show Gm p e below T1 m 25 #[rv r0, rv c1, iv (1 : Int32), iv (0 : Int32), iv ve0] [] _
    refine own_go (fun t₀ k₀ => XS.iconst X1.here hx rfl (Jvm.hb hby d5_25) k₀) ?_
    show Gm p e below T1 m 26 #[rv r0, rv c1, iv (1 : Int32), iv (0 : Int32), iv ve0] [(.int (1 : Int32))] _
    exact own_retI X1 hx hlk (t := .boolean) Bd.returns rfl (by simp) (Jvm.hb hby d5_26) e1 ⟨(by unfold fA1; rw [if_pos c2]), N0, rfl⟩ (by decide) (by decide)
  · have hfork := trivial
    refine own_go (fun t₀ k₀ => XS.ifYes X1.here hx rfl (pc0 := 22) (pc' := 27) rfl (Jvm.hb hby d5_22) rfl (XT.i0_ge_t c2) (by decide) (by decide) k₀) ?_
    show Gm p e below T1 m 27 #[rv r0, rv c1, iv (1 : Int32), iv (0 : Int32), iv ve0] [] _
    refine own_go (fun t₀ k₀ => XS.iinc X1.here hx rfl (Jvm.hb hby d5_27) rfl (l' := #[rv r0, rv c1, iv (1 : Int32), iv (1 : Int32), iv ve0]) rfl k₀) ?_
    show Gm p e below T1 m 30 #[rv r0, rv c1, iv (1 : Int32), iv (1 : Int32), iv ve0] [] _
    refine own_go (fun t₀ k₀ => XS.goto X1.here hx rfl (pc0 := 30) (pc' := 10) rfl (Jvm.hb hby d5_30) (by decide) (by decide) k₀) ?_
    show Gm p e below T1 m 10 #[rv r0, rv c1, iv (1 : Int32), iv (1 : Int32), iv ve0] [] _
    refine own_go (fun t₀ k₀ => XS.iloadN X1.here hx rfl (Jvm.hb hby d5_10) rfl k₀) ?_
    show Gm p e below T1 m 11 #[rv r0, rv c1, iv (1 : Int32), iv (1 : Int32), iv ve0] [(.int (1 : Int32))] _
    refine own_go (fun t₀ k₀ => XS.iloadN X1.here hx rfl (Jvm.hb hby d5_11) rfl k₀) ?_
    show Gm p e below T1 m 12 #[rv r0, rv c1, iv (1 : Int32), iv (1 : Int32), iv ve0] [(.int (1 : Int32)), (.int (1 : Int32))] _
    refine own_go (fun t₀ k₀ => XS.icmpYes X1.here hx rfl (pc0 := 12) (pc' := 33) rfl (Jvm.hb hby d5_12) rfl (XT.ii_ge_t (by decide)) (by decide) (by decide) k₀) ?_
    show Gm p e below T1 m 33 #[rv r0, rv c1, iv (1 : Int32), iv (1 : Int32), iv ve0] [] _
    refine own_go (fun t₀ k₀ => XS.iconst X1.here hx rfl (Jvm.hb hby d5_33) k₀) ?_
    show Gm p e below T1 m 34 #[rv r0, rv c1, iv (1 : Int32), iv (1 : Int32), iv ve0] [(.int (0 : Int32))] _
    exact own_retI X1 hx hlk (t := .boolean) Bd.returns rfl (by simp) (Jvm.hb hby d5_34) e1 ⟨(by unfold fA1; rw [if_neg c2]), N0, rfl⟩ (by decide) (by decide)
theorem own_pn_rm3_2 : plainName "java/util/Arrays" = true := by first | (simp [plainName, overriddenIn]; done) | decide +kernel
theorem own_ef_rm3_2 (m : MethodId) (r0 : Addr) (x1 : UInt64) : entryFrame m #[(.ref r0), (.double x1)] 5 = mkF m 0 #[.val (.ref r0), .val (.double x1), .second, .unset, .unset] [] := by first | (simp [entryFrame, mkF, argsToLocals, Value.category]; done) | rfl
def Q3_2 (Z : State) (r0 : Addr) (x1 : UInt64) (f : Nat → Value) (h0 : Heap) (n0 : Nat) (v : Option Value) (h : Heap) (L : List Loc) : Prop := v = none ∧ Fr n0 L ∧ Keep h0 h [r0] ∧ ∃ f', Af Z h r0 .double 2 f'
set_option maxRecDepth 65536 in
set_option maxHeartbeats 40000000 in
theorem rm3_2 (l : Launch) (Z : State) (a0 : Array Value) (hw : ∀ d ∈ tables_1, d.before a0 Z = true) (ws : List Jvm.Cond) (r0 : Addr) (x1 : UInt64) (f : Nat → Value) (h0 : Heap) (n0 : Nat) (Z0 : n0 ≤ h0.size) (A : Af Z h0 r0 .double 2 f) (g_r0 : n0 ≤ r0) :
    MetFree l (⟨"java/util/Arrays", "fill", "([DD)V"⟩ : MethodName) (head1 (Jvm.Cond.code (⟨"java/util/Arrays", "fill", "([DD)V"⟩ : MethodName) jdk_65_method_113_code 5 none :: ws) ({ frames := 0, cells := 0, slots := 0, locals := 0 } : Room)) (fun a U => a = #[(.ref r0), (.double x1)] ∧ Z.Warmed39 U.vm ∧ U.heap = h0) (fun _ _ _ _ _ => True) (fun _ U o U' => ∃ v L, o = .returned v ∧ Q3_2 Z r0 x1 f h0 n0 v U'.heap L ∧ FrameEnd U o U' L ({ frames := 0, cells := 0, slots := 0, locals := 0 } : Room).cells ({ frames := 0, cells := 0, slots := 0, locals := 0 } : Room).slots) := by
  refine MetFree.of_bodySF (plainFor_of_name own_pn_rm3_2) hisR ?_
  intro p e s m args below meth cO s₁ Bd hml0 hP hK
  obtain ⟨rfl, hZ, hh⟩ := hP
  have hx := Bd.exec
  have hby := Bd.bytes
  have hml : cO.maxLocals = 5 := hml0
  have hown : s.vm.findClass "java/util/Arrays" = some m.cls := findClass_of_methodNamed Bd.named
  have hnm := (name_of_methodNamed Bd.named Bd.method).1
  have hlk : meth.locks = false := BodyLoose.notSynchronized Bd
  have X0 : Stand p l e ({ frames := 0, cells := 0, slots := 0, locals := 0 } : Room) s m #[(.ref r0), (.double x1)] below meth cO s₁ [] 0 0 := Stand.of_body Bd
  have e0 : s₁.heap = h0 := by rw [← hh, Bd.state]; rfl
  have N0 := Fr.nil n0
  refine own_in (own_ef_rm3_2 m r0 x1) ?_
  show Gm p e below s₁ m 0 #[rv r0, .val (.double x1), .second, .unset, .unset] [] _
  refine own_go (fun t₀ k₀ => XS.iconst X0.here hx rfl (Jvm.hb hby d3_0) k₀) ?_
  show Gm p e below s₁ m 1 #[rv r0, .val (.double x1), .second, .unset, .unset] [(.int (0 : Int32))] _
  refine own_go (fun t₀ k₀ => XS.istoreN X0.here hx rfl (Jvm.hb hby d3_1) rfl (l' := #[rv r0, .val (.double x1), .second, iv (0 : Int32), .unset]) rfl k₀) ?_
  show Gm p e below s₁ m 2 #[rv r0, .val (.double x1), .second, iv (0 : Int32), .unset] [] _
  refine own_go (fun t₀ k₀ => XS.aloadN X0.here hx rfl (Jvm.hb hby d3_2) rfl rfl k₀) ?_
  show Gm p e below s₁ m 3 #[rv r0, .val (.double x1), .second, iv (0 : Int32), .unset] [(.ref r0)] _
  refine own_go (fun t₀ k₀ => own_len X0 hx hZ e0 A (z := (2 : Int32)) rfl (g := (mkF m 3 #[rv r0, .val (.double x1), .second, iv (0 : Int32), .unset] [(.ref r0)])) rfl rfl (Jvm.hb hby d3_3) k₀) ?_
  show Gm p e below s₁ m 4 #[rv r0, .val (.double x1), .second, iv (0 : Int32), .unset] [(.int (2 : Int32))] _
  refine own_go (fun t₀ k₀ => XS.istore X0.here hx rfl (Jvm.hb hby d3_4) rfl (l' := #[rv r0, .val (.double x1), .second, iv (0 : Int32), iv (2 : Int32)]) rfl k₀) ?_
  show Gm p e below s₁ m 6 #[rv r0, .val (.double x1), .second, iv (0 : Int32), iv (2 : Int32)] [] _
  refine own_go (fun t₀ k₀ => XS.iloadN X0.here hx rfl (Jvm.hb hby d3_6) rfl k₀) ?_
  show Gm p e below s₁ m 7 #[rv r0, .val (.double x1), .second, iv (0 : Int32), iv (2 : Int32)] [(.int (0 : Int32))] _
  refine own_go (fun t₀ k₀ => XS.iload X0.here hx rfl (Jvm.hb hby d3_7) rfl k₀) ?_
  show Gm p e below s₁ m 9 #[rv r0, .val (.double x1), .second, iv (0 : Int32), iv (2 : Int32)] [(.int (2 : Int32)), (.int (0 : Int32))] _
  refine own_go (fun t₀ k₀ => XS.icmpNo X0.here hx rfl (Jvm.hb hby d3_9) rfl (XT.ii_ge_f (by decide)) k₀) ?_
  show Gm p e below s₁ m 12 #[rv r0, .val (.double x1), .second, iv (0 : Int32), iv (2 : Int32)] [] _
  refine own_go (fun t₀ k₀ => XS.aloadN X0.here hx rfl (Jvm.hb hby d3_12) rfl rfl k₀) ?_
  show Gm p e below s₁ m 13 #[rv r0, .val (.double x1), .second, iv (0 : Int32), iv (2 : Int32)] [(.ref r0)] _
  refine own_go (fun t₀ k₀ => XS.iloadN X0.here hx rfl (Jvm.hb hby d3_13) rfl k₀) ?_
  show Gm p e below s₁ m 14 #[rv r0, .val (.double x1), .second, iv (0 : Int32), iv (2 : Int32)] [(.int (0 : Int32)), (.ref r0)] _
  refine own_go (fun t₀ k₀ => XS.dloadN X0.here hx rfl (Jvm.hb hby d3_14) rfl k₀) ?_
  show Gm p e below s₁ m 15 #[rv r0, .val (.double x1), .second, iv (0 : Int32), iv (2 : Int32)] [(.double x1), (.int (0 : Int32)), (.ref r0)] _
  obtain ⟨T1, h1, X1, e1, W1, A1, st1⟩ := own_stD X0 hx hZ e0 A (j := (0 : Int32)) (k := 0) (by decide) rfl (by decide) (g := (mkF m 15 #[rv r0, .val (.double x1), .second, iv (0 : Int32), iv (2 : Int32)] [(.double x1), (.int (0 : Int32)), (.ref r0)])) rfl rfl (Jvm.hb hby d3_15)
  have N1 := Fr.snoc X1 N0 g_r0
  have Z1 : n0 ≤ h1.size := W1.size ▸ Z0
  have K1 : Keep h0 h1 [r0] := Keep.wr (Keep.refl h0 [r0]) W1 (Or.inl (List.mem_of_getElem? (i := 0) rfl))
  refine own_go st1 ?_
  show Gm p e below T1 m 16 #[rv r0, .val (.double x1), .second, iv (0 : Int32), iv (2 : Int32)] [] _
  refine own_go (fun t₀ k₀ => XS.iinc X1.here hx rfl (Jvm.hb hby d3_16) rfl (l' := #[rv r0, .val (.double x1), .second, iv (1 : Int32), iv (2 : Int32)]) rfl k₀) ?_
  show Gm p e below T1 m 19 #[rv r0, .val (.double x1), .second, iv (1 : Int32), iv (2 : Int32)] [] _
  refine own_go (fun t₀ k₀ => XS.goto X1.here hx rfl (pc0 := 19) (pc' := 6) rfl (Jvm.hb hby d3_19) (by decide) (by decide) k₀) ?_
  show Gm p e below T1 m 6 #[rv r0, .val (.double x1), .second, iv (1 : Int32), iv (2 : Int32)] [] _
  refine own_go (fun t₀ k₀ => XS.iloadN X1.here hx rfl (Jvm.hb hby d3_6) rfl k₀) ?_
  show Gm p e below T1 m 7 #[rv r0, .val (.double x1), .second, iv (1 : Int32), iv (2 : Int32)] [(.int (1 : Int32))] _
  refine own_go (fun t₀ k₀ => XS.iload X1.here hx rfl (Jvm.hb hby d3_7) rfl k₀) ?_
  show Gm p e below T1 m 9 #[rv r0, .val (.double x1), .second, iv (1 : Int32), iv (2 : Int32)] [(.int (2 : Int32)), (.int (1 : Int32))] _
  refine own_go (fun t₀ k₀ => XS.icmpNo X1.here hx rfl (Jvm.hb hby d3_9) rfl (XT.ii_ge_f (by decide)) k₀) ?_
  show Gm p e below T1 m 12 #[rv r0, .val (.double x1), .second, iv (1 : Int32), iv (2 : Int32)] [] _
  refine own_go (fun t₀ k₀ => XS.aloadN X1.here hx rfl (Jvm.hb hby d3_12) rfl rfl k₀) ?_
  show Gm p e below T1 m 13 #[rv r0, .val (.double x1), .second, iv (1 : Int32), iv (2 : Int32)] [(.ref r0)] _
  refine own_go (fun t₀ k₀ => XS.iloadN X1.here hx rfl (Jvm.hb hby d3_13) rfl k₀) ?_
  show Gm p e below T1 m 14 #[rv r0, .val (.double x1), .second, iv (1 : Int32), iv (2 : Int32)] [(.int (1 : Int32)), (.ref r0)] _
  refine own_go (fun t₀ k₀ => XS.dloadN X1.here hx rfl (Jvm.hb hby d3_14) rfl k₀) ?_
  show Gm p e below T1 m 15 #[rv r0, .val (.double x1), .second, iv (1 : Int32), iv (2 : Int32)] [(.double x1), (.int (1 : Int32)), (.ref r0)] _
  obtain ⟨T2, h2, X2, e2, W2, A2, st2⟩ := own_stD X1 hx hZ e1 A1 (j := (1 : Int32)) (k := 1) (by decide) rfl (by decide) (g := (mkF m 15 #[rv r0, .val (.double x1), .second, iv (1 : Int32), iv (2 : Int32)] [(.double x1), (.int (1 : Int32)), (.ref r0)])) rfl rfl (Jvm.hb hby d3_15)
  have N2 := Fr.snoc X2 N1 g_r0
  have Z2 : n0 ≤ h2.size := W2.size ▸ Z1
  have K2 : Keep h0 h2 [r0] := Keep.wr K1 W2 (Or.inl (List.mem_of_getElem? (i := 0) rfl))
  refine own_go st2 ?_
  show Gm p e below T2 m 16 #[rv r0, .val (.double x1), .second, iv (1 : Int32), iv (2 : Int32)] [] _
  refine own_go (fun t₀ k₀ => XS.iinc X2.here hx rfl (Jvm.hb hby d3_16) rfl (l' := #[rv r0, .val (.double x1), .second, iv (2 : Int32), iv (2 : Int32)]) rfl k₀) ?_
  show Gm p e below T2 m 19 #[rv r0, .val (.double x1), .second, iv (2 : Int32), iv (2 : Int32)] [] _
  refine own_go (fun t₀ k₀ => XS.goto X2.here hx rfl (pc0 := 19) (pc' := 6) rfl (Jvm.hb hby d3_19) (by decide) (by decide) k₀) ?_
  show Gm p e below T2 m 6 #[rv r0, .val (.double x1), .second, iv (2 : Int32), iv (2 : Int32)] [] _
  refine own_go (fun t₀ k₀ => XS.iloadN X2.here hx rfl (Jvm.hb hby d3_6) rfl k₀) ?_
  show Gm p e below T2 m 7 #[rv r0, .val (.double x1), .second, iv (2 : Int32), iv (2 : Int32)] [(.int (2 : Int32))] _
  refine own_go (fun t₀ k₀ => XS.iload X2.here hx rfl (Jvm.hb hby d3_7) rfl k₀) ?_
  show Gm p e below T2 m 9 #[rv r0, .val (.double x1), .second, iv (2 : Int32), iv (2 : Int32)] [(.int (2 : Int32)), (.int (2 : Int32))] _
  refine own_go (fun t₀ k₀ => XS.icmpYes X2.here hx rfl (pc0 := 9) (pc' := 22) rfl (Jvm.hb hby d3_9) rfl (XT.ii_ge_t (by decide)) (by decide) (by decide) k₀) ?_
  show Gm p e below T2 m 22 #[rv r0, .val (.double x1), .second, iv (2 : Int32), iv (2 : Int32)] [] _
  exact own_retV X2 hx hlk Bd.returns (Jvm.hb hby d3_22) e2 ⟨rfl, N2, K2, _, A2⟩ (by decide) (by decide)
theorem own_pn_rm4_2 : plainName "java/util/Arrays" = true := by first | (simp [plainName, overriddenIn]; done) | decide +kernel
theorem own_ef_rm4_2 (m : MethodId) (r0 : Addr) (p1 : Int32) : entryFrame m #[(.ref r0), (.int p1)] 4 = mkF m 0 #[.val (.ref r0), .val (.int p1), .unset, .unset] [] := by first | (simp [entryFrame, mkF, argsToLocals, Value.category]; done) | rfl
def Q4_2 (Z : State) (r0 : Addr) (p1 : Int32) (f : Nat → Value) (h0 : Heap) (n0 : Nat) (v : Option Value) (h : Heap) (L : List Loc) : Prop := v = none ∧ Fr n0 L ∧ Keep h0 h [r0] ∧ Af Z h r0 .int 2 (fun _ => .int p1)
set_option maxRecDepth 65536 in
set_option maxHeartbeats 40000000 in
theorem rm4_2 (l : Launch) (Z : State) (a0 : Array Value) (hw : ∀ d ∈ tables_1, d.before a0 Z = true) (ws : List Jvm.Cond) (r0 : Addr) (p1 : Int32) (f : Nat → Value) (h0 : Heap) (n0 : Nat) (Z0 : n0 ≤ h0.size) (A : Af Z h0 r0 .int 2 f) (g_r0 : n0 ≤ r0) :
    MetFree l (⟨"java/util/Arrays", "fill", "([II)V"⟩ : MethodName) (head1 (Jvm.Cond.code (⟨"java/util/Arrays", "fill", "([II)V"⟩ : MethodName) jdk_65_method_103_code 4 none :: ws) ({ frames := 0, cells := 0, slots := 0, locals := 0 } : Room)) (fun a U => a = #[(.ref r0), (.int p1)] ∧ Z.Warmed39 U.vm ∧ U.heap = h0) (fun _ _ _ _ _ => True) (fun _ U o U' => ∃ v L, o = .returned v ∧ Q4_2 Z r0 p1 f h0 n0 v U'.heap L ∧ FrameEnd U o U' L ({ frames := 0, cells := 0, slots := 0, locals := 0 } : Room).cells ({ frames := 0, cells := 0, slots := 0, locals := 0 } : Room).slots) := by
  refine MetFree.of_bodySF (plainFor_of_name own_pn_rm4_2) hisR ?_
  intro p e s m args below meth cO s₁ Bd hml0 hP hK
  obtain ⟨rfl, hZ, hh⟩ := hP
  have hx := Bd.exec
  have hby := Bd.bytes
  have hml : cO.maxLocals = 4 := hml0
  have hown : s.vm.findClass "java/util/Arrays" = some m.cls := findClass_of_methodNamed Bd.named
  have hnm := (name_of_methodNamed Bd.named Bd.method).1
  have hlk : meth.locks = false := BodyLoose.notSynchronized Bd
  have X0 : Stand p l e ({ frames := 0, cells := 0, slots := 0, locals := 0 } : Room) s m #[(.ref r0), (.int p1)] below meth cO s₁ [] 0 0 := Stand.of_body Bd
  have e0 : s₁.heap = h0 := by rw [← hh, Bd.state]; rfl
  have N0 := Fr.nil n0
  refine own_in (own_ef_rm4_2 m r0 p1) ?_
  show Gm p e below s₁ m 0 #[rv r0, iv p1, .unset, .unset] [] _
  refine own_go (fun t₀ k₀ => XS.iconst X0.here hx rfl (Jvm.hb hby d4_0) k₀) ?_
  show Gm p e below s₁ m 1 #[rv r0, iv p1, .unset, .unset] [(.int (0 : Int32))] _
  refine own_go (fun t₀ k₀ => XS.istoreN X0.here hx rfl (Jvm.hb hby d4_1) rfl (l' := #[rv r0, iv p1, iv (0 : Int32), .unset]) rfl k₀) ?_
  show Gm p e below s₁ m 2 #[rv r0, iv p1, iv (0 : Int32), .unset] [] _
  refine own_go (fun t₀ k₀ => XS.aloadN X0.here hx rfl (Jvm.hb hby d4_2) rfl rfl k₀) ?_
  show Gm p e below s₁ m 3 #[rv r0, iv p1, iv (0 : Int32), .unset] [(.ref r0)] _
  refine own_go (fun t₀ k₀ => own_len X0 hx hZ e0 A (z := (2 : Int32)) rfl (g := (mkF m 3 #[rv r0, iv p1, iv (0 : Int32), .unset] [(.ref r0)])) rfl rfl (Jvm.hb hby d4_3) k₀) ?_
  show Gm p e below s₁ m 4 #[rv r0, iv p1, iv (0 : Int32), .unset] [(.int (2 : Int32))] _
  refine own_go (fun t₀ k₀ => XS.istoreN X0.here hx rfl (Jvm.hb hby d4_4) rfl (l' := #[rv r0, iv p1, iv (0 : Int32), iv (2 : Int32)]) rfl k₀) ?_
  show Gm p e below s₁ m 5 #[rv r0, iv p1, iv (0 : Int32), iv (2 : Int32)] [] _
  refine own_go (fun t₀ k₀ => XS.iloadN X0.here hx rfl (Jvm.hb hby d4_5) rfl k₀) ?_
  show Gm p e below s₁ m 6 #[rv r0, iv p1, iv (0 : Int32), iv (2 : Int32)] [(.int (0 : Int32))] _
  refine own_go (fun t₀ k₀ => XS.iloadN X0.here hx rfl (Jvm.hb hby d4_6) rfl k₀) ?_
  show Gm p e below s₁ m 7 #[rv r0, iv p1, iv (0 : Int32), iv (2 : Int32)] [(.int (2 : Int32)), (.int (0 : Int32))] _
  refine own_go (fun t₀ k₀ => XS.icmpNo X0.here hx rfl (Jvm.hb hby d4_7) rfl (XT.ii_ge_f (by decide)) k₀) ?_
  show Gm p e below s₁ m 10 #[rv r0, iv p1, iv (0 : Int32), iv (2 : Int32)] [] _
  refine own_go (fun t₀ k₀ => XS.aloadN X0.here hx rfl (Jvm.hb hby d4_10) rfl rfl k₀) ?_
  show Gm p e below s₁ m 11 #[rv r0, iv p1, iv (0 : Int32), iv (2 : Int32)] [(.ref r0)] _
  refine own_go (fun t₀ k₀ => XS.iloadN X0.here hx rfl (Jvm.hb hby d4_11) rfl k₀) ?_
  show Gm p e below s₁ m 12 #[rv r0, iv p1, iv (0 : Int32), iv (2 : Int32)] [(.int (0 : Int32)), (.ref r0)] _
  refine own_go (fun t₀ k₀ => XS.iloadN X0.here hx rfl (Jvm.hb hby d4_12) rfl k₀) ?_
  show Gm p e below s₁ m 13 #[rv r0, iv p1, iv (0 : Int32), iv (2 : Int32)] [(.int p1), (.int (0 : Int32)), (.ref r0)] _
  obtain ⟨T1, h1, X1, e1, W1, A1, st1⟩ := own_stI X0 hx hZ e0 A (j := (0 : Int32)) (k := 0) (by decide) rfl (by decide) (g := (mkF m 13 #[rv r0, iv p1, iv (0 : Int32), iv (2 : Int32)] [(.int p1), (.int (0 : Int32)), (.ref r0)])) rfl rfl (Jvm.hb hby d4_13)
  have N1 := Fr.snoc X1 N0 g_r0
  have Z1 : n0 ≤ h1.size := W1.size ▸ Z0
  have K1 : Keep h0 h1 [r0] := Keep.wr (Keep.refl h0 [r0]) W1 (Or.inl (List.mem_of_getElem? (i := 0) rfl))
  refine own_go st1 ?_
  show Gm p e below T1 m 14 #[rv r0, iv p1, iv (0 : Int32), iv (2 : Int32)] [] _
  refine own_go (fun t₀ k₀ => XS.iinc X1.here hx rfl (Jvm.hb hby d4_14) rfl (l' := #[rv r0, iv p1, iv (1 : Int32), iv (2 : Int32)]) rfl k₀) ?_
  show Gm p e below T1 m 17 #[rv r0, iv p1, iv (1 : Int32), iv (2 : Int32)] [] _
  refine own_go (fun t₀ k₀ => XS.goto X1.here hx rfl (pc0 := 17) (pc' := 5) rfl (Jvm.hb hby d4_17) (by decide) (by decide) k₀) ?_
  show Gm p e below T1 m 5 #[rv r0, iv p1, iv (1 : Int32), iv (2 : Int32)] [] _
  refine own_go (fun t₀ k₀ => XS.iloadN X1.here hx rfl (Jvm.hb hby d4_5) rfl k₀) ?_
  show Gm p e below T1 m 6 #[rv r0, iv p1, iv (1 : Int32), iv (2 : Int32)] [(.int (1 : Int32))] _
  refine own_go (fun t₀ k₀ => XS.iloadN X1.here hx rfl (Jvm.hb hby d4_6) rfl k₀) ?_
  show Gm p e below T1 m 7 #[rv r0, iv p1, iv (1 : Int32), iv (2 : Int32)] [(.int (2 : Int32)), (.int (1 : Int32))] _
  refine own_go (fun t₀ k₀ => XS.icmpNo X1.here hx rfl (Jvm.hb hby d4_7) rfl (XT.ii_ge_f (by decide)) k₀) ?_
  show Gm p e below T1 m 10 #[rv r0, iv p1, iv (1 : Int32), iv (2 : Int32)] [] _
  refine own_go (fun t₀ k₀ => XS.aloadN X1.here hx rfl (Jvm.hb hby d4_10) rfl rfl k₀) ?_
  show Gm p e below T1 m 11 #[rv r0, iv p1, iv (1 : Int32), iv (2 : Int32)] [(.ref r0)] _
  refine own_go (fun t₀ k₀ => XS.iloadN X1.here hx rfl (Jvm.hb hby d4_11) rfl k₀) ?_
  show Gm p e below T1 m 12 #[rv r0, iv p1, iv (1 : Int32), iv (2 : Int32)] [(.int (1 : Int32)), (.ref r0)] _
  refine own_go (fun t₀ k₀ => XS.iloadN X1.here hx rfl (Jvm.hb hby d4_12) rfl k₀) ?_
  show Gm p e below T1 m 13 #[rv r0, iv p1, iv (1 : Int32), iv (2 : Int32)] [(.int p1), (.int (1 : Int32)), (.ref r0)] _
  obtain ⟨T2, h2, X2, e2, W2, A2, st2⟩ := own_stI X1 hx hZ e1 A1 (j := (1 : Int32)) (k := 1) (by decide) rfl (by decide) (g := (mkF m 13 #[rv r0, iv p1, iv (1 : Int32), iv (2 : Int32)] [(.int p1), (.int (1 : Int32)), (.ref r0)])) rfl rfl (Jvm.hb hby d4_13)
  have N2 := Fr.snoc X2 N1 g_r0
  have Z2 : n0 ≤ h2.size := W2.size ▸ Z1
  have K2 : Keep h0 h2 [r0] := Keep.wr K1 W2 (Or.inl (List.mem_of_getElem? (i := 0) rfl))
  refine own_go st2 ?_
  show Gm p e below T2 m 14 #[rv r0, iv p1, iv (1 : Int32), iv (2 : Int32)] [] _
  refine own_go (fun t₀ k₀ => XS.iinc X2.here hx rfl (Jvm.hb hby d4_14) rfl (l' := #[rv r0, iv p1, iv (2 : Int32), iv (2 : Int32)]) rfl k₀) ?_
  show Gm p e below T2 m 17 #[rv r0, iv p1, iv (2 : Int32), iv (2 : Int32)] [] _
  refine own_go (fun t₀ k₀ => XS.goto X2.here hx rfl (pc0 := 17) (pc' := 5) rfl (Jvm.hb hby d4_17) (by decide) (by decide) k₀) ?_
  show Gm p e below T2 m 5 #[rv r0, iv p1, iv (2 : Int32), iv (2 : Int32)] [] _
  refine own_go (fun t₀ k₀ => XS.iloadN X2.here hx rfl (Jvm.hb hby d4_5) rfl k₀) ?_
  show Gm p e below T2 m 6 #[rv r0, iv p1, iv (2 : Int32), iv (2 : Int32)] [(.int (2 : Int32))] _
  refine own_go (fun t₀ k₀ => XS.iloadN X2.here hx rfl (Jvm.hb hby d4_6) rfl k₀) ?_
  show Gm p e below T2 m 7 #[rv r0, iv p1, iv (2 : Int32), iv (2 : Int32)] [(.int (2 : Int32)), (.int (2 : Int32))] _
  refine own_go (fun t₀ k₀ => XS.icmpYes X2.here hx rfl (pc0 := 7) (pc' := 20) rfl (Jvm.hb hby d4_7) rfl (XT.ii_ge_t (by decide)) (by decide) (by decide) k₀) ?_
  show Gm p e below T2 m 20 #[rv r0, iv p1, iv (2 : Int32), iv (2 : Int32)] [] _
  exact own_retV X2 hx hlk Bd.returns (Jvm.hb hby d4_20) e2 ⟨rfl, N2, K2, (Af.congr A2 (fun i hi => by
      rcases (by omega : i = 0 ∨ i = 1) with rfl | rfl <;> rfl))⟩ (by decide) (by decide)
theorem own_pn_rm1_2 : plainName "com/example/throughfare/throughfare/simulation/Walkers" = true := by first | (simp [plainName, overriddenIn]; done) | decide +kernel
theorem own_ef_rm1_2 (m : MethodId) (r0 : Addr) : entryFrame m #[(.ref r0), (.int (2 : Int32))] 2 = mkF m 0 #[.val (.ref r0), .val (.int (2 : Int32))] [] := by first | (simp [entryFrame, mkF, argsToLocals, Value.category]; done) | rfl
def Q1_2 (Z : State) (r0 : Addr) (h0 : Heap) (n0 : Nat) (v : Option Value) (h : Heap) (L : List Loc) : Prop := ∃ c_exit : Addr, v = none ∧ Fr n0 L ∧ Keep h0 h [r0] ∧ Exa Z h r0 "com/example/throughfare/throughfare/simulation/Walkers" ∧ h0.size ≤ c_exit ∧ Fld Z h r0 "com/example/throughfare/throughfare/simulation/Walkers" "exit" "[I" (.ref c_exit) ∧ Af Z h c_exit .int 2 (fun _ => (.int (-1 : Int32)))
set_option maxRecDepth 65536 in
set_option maxHeartbeats 40000000 in
theorem rm1_2 (l : Launch) (Z : State) (a0 : Array Value) (hw : ∀ d ∈ tables_1, d.before a0 Z = true) (ws : List Jvm.Cond) (r0 : Addr) (h0 : Heap) (n0 : Nat) (Z0 : n0 ≤ h0.size) (E_r0 : Exa Z h0 r0 "com/example/throughfare/throughfare/simulation/Walkers") (F_floor : Fld Z h0 r0 "com/example/throughfare/throughfare/simulation/Walkers" "floor" "[I" .null) (F_startCell : Fld Z h0 r0 "com/example/throughfare/throughfare/simulation/Walkers" "startCell" "[I" .null) (F_cell : Fld Z h0 r0 "com/example/throughfare/throughfare/simulation/Walkers" "cell" "[I" .null) (F_speedMps : Fld Z h0 r0 "com/example/throughfare/throughfare/simulation/Walkers" "speedMps" "[D" .null) (F_reactionS : Fld Z h0 r0 "com/example/throughfare/throughfare/simulation/Walkers" "reactionS" "[D" .null) (F_heading : Fld Z h0 r0 "com/example/throughfare/throughfare/simulation/Walkers" "heading" "[I" .null) (F_heldUpS : Fld Z h0 r0 "com/example/throughfare/throughfare/simulation/Walkers" "heldUpS" "[D" .null) (F_exitTimeS : Fld Z h0 r0 "com/example/throughfare/throughfare/simulation/Walkers" "exitTimeS" "[D" .null) (F_leaving : Fld Z h0 r0 "com/example/throughfare/throughfare/simulation/Walkers" "leaving" "[I" .null) (F_exit : Fld Z h0 r0 "com/example/throughfare/throughfare/simulation/Walkers" "exit" "[I" .null) (F_distanceM : Fld Z h0 r0 "com/example/throughfare/throughfare/simulation/Walkers" "distanceM" "[D" .null) (g_r0 : n0 ≤ r0) :
    MetFree l (⟨"com/example/throughfare/throughfare/simulation/Walkers", "<init>", "(I)V"⟩ : MethodName) (head1 (Jvm.Cond.code (⟨"com/example/throughfare/throughfare/simulation/Walkers", "<init>", "(I)V"⟩ : MethodName) prog_63_method_1_code 2 none :: ws) ({ frames := 1, cells := 11, slots := 22, locals := 20 } : Room)) (fun a U => a = #[(.ref r0), (.int (2 : Int32))] ∧ Z.Warmed39 U.vm ∧ U.heap = h0) (fun _ _ _ _ _ => True) (fun _ U o U' => ∃ v L, o = .returned v ∧ Q1_2 Z r0 h0 n0 v U'.heap L ∧ FrameEnd U o U' L ({ frames := 1, cells := 11, slots := 22, locals := 20 } : Room).cells ({ frames := 1, cells := 11, slots := 22, locals := 20 } : Room).slots) := by
  refine MetFree.of_bodySF (plainFor_of_name own_pn_rm1_2) hisR ?_
  intro p e s m args below meth cO s₁ Bd hml0 hP hK
  obtain ⟨rfl, hZ, hh⟩ := hP
  have hx := Bd.exec
  have hby := Bd.bytes
  have hml : cO.maxLocals = 2 := hml0
  have hown : s.vm.findClass "com/example/throughfare/throughfare/simulation/Walkers" = some m.cls := findClass_of_methodNamed Bd.named
  have hnm := (name_of_methodNamed Bd.named Bd.method).1
  have hlk : meth.locks = false := BodyLoose.notSynchronized Bd
  have X0 : Stand p l e ({ frames := 1, cells := 11, slots := 22, locals := 20 } : Room) s m #[(.ref r0), (.int (2 : Int32))] below meth cO s₁ [] 0 0 := Stand.of_body Bd
  have e0 : s₁.heap = h0 := by rw [← hh, Bd.state]; rfl
  have N0 := Fr.nil n0
  refine own_in (own_ef_rm1_2 m r0) ?_
  show Gm p e below s₁ m 0 #[rv r0, iv (2 : Int32)] [] _
  refine own_go (fun t₀ k₀ => XS.aloadN X0.here hx rfl (Jvm.hb hby d1_0) rfl rfl k₀) ?_
  show Gm p e below s₁ m 1 #[rv r0, iv (2 : Int32)] [(.ref r0)] _
  obtain ⟨T1, X1, e1, st1⟩ := initO X0 hx hZ hown (hw _ (List.mem_of_getElem? (i := 6) rfl)) (hw _ (List.mem_of_getElem? (i := 7) rfl)) (hw _ (List.mem_of_getElem? (i := 8) rfl)) e0 (g := (mkF m 1 #[rv r0, iv (2 : Int32)] [(.ref r0)])) rfl (by rw [hml]; rfl) rfl (Jvm.hb hby d1_1) (by decide) (W := 0) (by show 2 * 0 + _ ≤ _; exact Nat.le_of_eq rfl) (by decide)
  refine own_go st1 ?_
  show Gm p e below T1 m 4 #[rv r0, iv (2 : Int32)] [] _
  refine own_go (fun t₀ k₀ => XS.aloadN X1.here hx rfl (Jvm.hb hby d1_4) rfl rfl k₀) ?_
  show Gm p e below T1 m 5 #[rv r0, iv (2 : Int32)] [(.ref r0)] _
  refine own_go (fun t₀ k₀ => XS.iloadN X1.here hx rfl (Jvm.hb hby d1_5) rfl k₀) ?_
  show Gm p e below T1 m 6 #[rv r0, iv (2 : Int32)] [(.int (2 : Int32)), (.ref r0)] _
  obtain ⟨T2, h2, k2, X2, e2, E2, A2, st2⟩ := newP X1 hx hZ (hw _ (List.mem_of_getElem? (i := 9) rfl)) e1 (g := (mkF m 6 #[rv r0, iv (2 : Int32)] [(.int (2 : Int32)), (.ref r0)])) rfl (Jvm.hb hby d1_6) rfl (by decide) (cap := 2) (by decide) (by decide) (by decide) (by decide)
  obtain ⟨b2, g2⟩ : ∃ z, z = h0.size := ⟨_, rfl⟩
  rw [← g2] at A2 st2
  have g_b2 : n0 ≤ b2 := Nat.le_trans Z0 (Nat.le_of_eq g2.symm)
  have ne_r0_b2 : r0 ≠ b2 := Nat.ne_of_lt (Nat.lt_of_lt_of_le E_r0.lt (Nat.le_of_eq g2.symm))
  have sz_b2 : h0.size ≤ b2 := Nat.le_trans (Keep.refl h0 [r0]).1 (Nat.le_of_eq g2.symm)
  have K2 : Keep h0 h2 [r0] := Keep.ext (Keep.refl h0 [r0]) E2
  have Z2 : n0 ≤ h2.size := Nat.le_trans Z0 E2.1
  have V2 : Af Z h2 b2 .int 2 (fun _ => defaultValue .int) := Af.new A2 (by decide) rfl rfl
  refine own_go st2 ?_
  show Gm p e below T2 m 8 #[rv r0, iv (2 : Int32)] [(.ref b2), (.ref r0)] _
  have f3 := (E_r0.ext E2)
  have f4 := (F_floor.ext E2)
  obtain ⟨T5, h5, X5, e5, W5, st5⟩ := putF X2 hx hZ hown (host := "") (Or.inl (hw _ (List.mem_of_getElem? (i := 10) rfl))) Via.refl e2 f4 f3 (Or.inr ⟨(hw _ (List.mem_of_getElem? (i := 11) rfl)), rfl, hnm⟩) (hw _ (List.mem_of_getElem? (i := 1) rfl)) (ty := (.array .int)) (by decide) rfl rfl (g := (mkF m 8 #[rv r0, iv (2 : Int32)] [(.ref b2), (.ref r0)])) rfl rfl (Jvm.hb hby d1_8)
  have Fw5 := Fld.same W5 f4
  have N5 := Fr.snoc X5 N0 g_r0
  have Z5 : n0 ≤ h5.size := W5.size ▸ Z2
  have K5 : Keep h0 h5 [r0] := Keep.wr K2 W5 (Or.inl (List.mem_of_getElem? (i := 0) rfl))
  refine own_go st5 ?_
  show Gm p e below T5 m 11 #[rv r0, iv (2 : Int32)] [] _
  refine own_go (fun t₀ k₀ => XS.aloadN X5.here hx rfl (Jvm.hb hby d1_11) rfl rfl k₀) ?_
  show Gm p e below T5 m 12 #[rv r0, iv (2 : Int32)] [(.ref r0)] _
  refine own_go (fun t₀ k₀ => XS.iloadN X5.here hx rfl (Jvm.hb hby d1_12) rfl k₀) ?_
  show Gm p e below T5 m 13 #[rv r0, iv (2 : Int32)] [(.int (2 : Int32)), (.ref r0)] _
  obtain ⟨T6, h6, k6, X6, e6, E6, A6, st6⟩ := newP X5 hx hZ (hw _ (List.mem_of_getElem? (i := 9) rfl)) e5 (g := (mkF m 13 #[rv r0, iv (2 : Int32)] [(.int (2 : Int32)), (.ref r0)])) rfl (Jvm.hb hby d1_13) rfl (by decide) (cap := 2) (by decide) (by decide) (by decide) (by decide)
  obtain ⟨b6, g6⟩ : ∃ z, z = h5.size := ⟨_, rfl⟩
  rw [← g6] at A6 st6
  have g_b6 : n0 ≤ b6 := Nat.le_trans Z5 (Nat.le_of_eq g6.symm)
  have f7 := (f3.wr W5)
  have ne_r0_b6 : r0 ≠ b6 := Nat.ne_of_lt (Nat.lt_of_lt_of_le f7.lt (Nat.le_of_eq g6.symm))
  have sz_b6 : h0.size ≤ b6 := Nat.le_trans K5.1 (Nat.le_of_eq g6.symm)
  have K6 : Keep h0 h6 [r0] := Keep.ext K5 E6
  have Z6 : n0 ≤ h6.size := Nat.le_trans Z5 E6.1
  have V6 : Af Z h6 b6 .int 2 (fun _ => defaultValue .int) := Af.new A6 (by decide) rfl rfl
  refine own_go st6 ?_
  show Gm p e below T6 m 15 #[rv r0, iv (2 : Int32)] [(.ref b6), (.ref r0)] _
  have f8 := (f7.ext E6)
  have f9 := ((Fld.other W5 (F_startCell.ext E2) (Or.inr (slot_ne (Or.inr (hw _ (List.mem_of_getElem? (i := 13) rfl))) (Or.inr (hw _ (List.mem_of_getElem? (i := 11) rfl))) (by decide) (t := (.array .int)) (t' := (.array .int)) (by decide) (by decide)))).ext E6)
  obtain ⟨T10, h10, X10, e10, W10, st10⟩ := putF X6 hx hZ hown (host := "") (Or.inl (hw _ (List.mem_of_getElem? (i := 12) rfl))) Via.refl e6 f9 f8 (Or.inr ⟨(hw _ (List.mem_of_getElem? (i := 13) rfl)), rfl, hnm⟩) (hw _ (List.mem_of_getElem? (i := 1) rfl)) (ty := (.array .int)) (by decide) rfl rfl (g := (mkF m 15 #[rv r0, iv (2 : Int32)] [(.ref b6), (.ref r0)])) rfl rfl (Jvm.hb hby d1_15)
  have Fw10 := Fld.same W10 f9
  have N10 := Fr.snoc X10 N5 g_r0
  have Z10 : n0 ≤ h10.size := W10.size ▸ Z6
  have K10 : Keep h0 h10 [r0] := Keep.wr K6 W10 (Or.inl (List.mem_of_getElem? (i := 0) rfl))
  refine own_go st10 ?_
  show Gm p e below T10 m 18 #[rv r0, iv (2 : Int32)] [] _
  refine own_go (fun t₀ k₀ => XS.aloadN X10.here hx rfl (Jvm.hb hby d1_18) rfl rfl k₀) ?_
  show Gm p e below T10 m 19 #[rv r0, iv (2 : Int32)] [(.ref r0)] _
  refine own_go (fun t₀ k₀ => XS.iloadN X10.here hx rfl (Jvm.hb hby d1_19) rfl k₀) ?_
  show Gm p e below T10 m 20 #[rv r0, iv (2 : Int32)] [(.int (2 : Int32)), (.ref r0)] _
  obtain ⟨T11, h11, k11, X11, e11, E11, A11, st11⟩ := newP X10 hx hZ (hw _ (List.mem_of_getElem? (i := 9) rfl)) e10 (g := (mkF m 20 #[rv r0, iv (2 : Int32)] [(.int (2 : Int32)), (.ref r0)])) rfl (Jvm.hb hby d1_20) rfl (by decide) (cap := 2) (by decide) (by decide) (by decide) (by decide)
  obtain ⟨b11, g11⟩ : ∃ z, z = h10.size := ⟨_, rfl⟩
  rw [← g11] at A11 st11
  have g_b11 : n0 ≤ b11 := Nat.le_trans Z10 (Nat.le_of_eq g11.symm)
  have f12 := (f8.wr W10)
  have ne_r0_b11 : r0 ≠ b11 := Nat.ne_of_lt (Nat.lt_of_lt_of_le f12.lt (Nat.le_of_eq g11.symm))
  have sz_b11 : h0.size ≤ b11 := Nat.le_trans K10.1 (Nat.le_of_eq g11.symm)
  have K11 : Keep h0 h11 [r0] := Keep.ext K10 E11
  have Z11 : n0 ≤ h11.size := Nat.le_trans Z10 E11.1
  have V11 : Af Z h11 b11 .int 2 (fun _ => defaultValue .int) := Af.new A11 (by decide) rfl rfl
  refine own_go st11 ?_
  show Gm p e below T11 m 22 #[rv r0, iv (2 : Int32)] [(.ref b11), (.ref r0)] _
  have f13 := (f12.ext E11)
  have f14 := ((Fld.other W10 ((Fld.other W5 (F_cell.ext E2) (Or.inr (slot_ne (Or.inr (hw _ (List.mem_of_getElem? (i := 15) rfl))) (Or.inr (hw _ (List.mem_of_getElem? (i := 11) rfl))) (by decide) (t := (.array .int)) (t' := (.array .int)) (by decide) (by decide)))).ext E6) (Or.inr (slot_ne (Or.inr (hw _ (List.mem_of_getElem? (i := 15) rfl))) (Or.inr (hw _ (List.mem_of_getElem? (i := 13) rfl))) (by decide) (t := (.array .int)) (t' := (.array .int)) (by decide) (by decide)))).ext E11)
  obtain ⟨T15, h15, X15, e15, W15, st15⟩ := putF X11 hx hZ hown (host := "") (Or.inl (hw _ (List.mem_of_getElem? (i := 14) rfl))) Via.refl e11 f14 f13 (Or.inr ⟨(hw _ (List.mem_of_getElem? (i := 15) rfl)), rfl, hnm⟩) (hw _ (List.mem_of_getElem? (i := 1) rfl)) (ty := (.array .int)) (by decide) rfl rfl (g := (mkF m 22 #[rv r0, iv (2 : Int32)] [(.ref b11), (.ref r0)])) rfl rfl (Jvm.hb hby d1_22)
  have Fw15 := Fld.same W15 f14
  have N15 := Fr.snoc X15 N10 g_r0
  have Z15 : n0 ≤ h15.size := W15.size ▸ Z11
  have K15 : Keep h0 h15 [r0] := Keep.wr K11 W15 (Or.inl (List.mem_of_getElem? (i := 0) rfl))
  refine own_go st15 ?_
  show Gm p e below T15 m 25 #[rv r0, iv (2 : Int32)] [] _
  refine own_go (fun t₀ k₀ => XS.aloadN X15.here hx rfl (Jvm.hb hby d1_25) rfl rfl k₀) ?_
  show Gm p e below T15 m 26 #[rv r0, iv (2 : Int32)] [(.ref r0)] _
  refine own_go (fun t₀ k₀ => XS.iloadN X15.here hx rfl (Jvm.hb hby d1_26) rfl k₀) ?_
  show Gm p e below T15 m 27 #[rv r0, iv (2 : Int32)] [(.int (2 : Int32)), (.ref r0)] _
  obtain ⟨T16, h16, k16, X16, e16, E16, A16, st16⟩ := newP X15 hx hZ (hw _ (List.mem_of_getElem? (i := 16) rfl)) e15 (g := (mkF m 27 #[rv r0, iv (2 : Int32)] [(.int (2 : Int32)), (.ref r0)])) rfl (Jvm.hb hby d1_27) rfl (by decide) (cap := 2) (by decide) (by decide) (by decide) (by decide)
  obtain ⟨b16, g16⟩ : ∃ z, z = h15.size := ⟨_, rfl⟩
  rw [← g16] at A16 st16
  have g_b16 : n0 ≤ b16 := Nat.le_trans Z15 (Nat.le_of_eq g16.symm)
  have f17 := (f13.wr W15)
  have ne_r0_b16 : r0 ≠ b16 := Nat.ne_of_lt (Nat.lt_of_lt_of_le f17.lt (Nat.le_of_eq g16.symm))
  have sz_b16 : h0.size ≤ b16 := Nat.le_trans K15.1 (Nat.le_of_eq g16.symm)
  have K16 : Keep h0 h16 [r0] := Keep.ext K15 E16
  have Z16 : n0 ≤ h16.size := Nat.le_trans Z15 E16.1
  have V16 : Af Z h16 b16 .double 2 (fun _ => defaultValue .double) := Af.new A16 (by decide) rfl rfl
  refine own_go st16 ?_
  show Gm p e below T16 m 29 #[rv r0, iv (2 : Int32)] [(.ref b16), (.ref r0)] _
  have f18 := (f17.ext E16)
  have f19 := ((Fld.other W15 ((Fld.other W10 ((Fld.other W5 (F_speedMps.ext E2) (Or.inr (slot_ne (Or.inr (hw _ (List.mem_of_getElem? (i := 18) rfl))) (Or.inr (hw _ (List.mem_of_getElem? (i := 11) rfl))) (by decide) (t := (.array .double)) (t' := (.array .int)) (by decide) (by decide)))).ext E6) (Or.inr (slot_ne (Or.inr (hw _ (List.mem_of_getElem? (i := 18) rfl))) (Or.inr (hw _ (List.mem_of_getElem? (i := 13) rfl))) (by decide) (t := (.array .double)) (t' := (.array .int)) (by decide) (by decide)))).ext E11) (Or.inr (slot_ne (Or.inr (hw _ (List.mem_of_getElem? (i := 18) rfl))) (Or.inr (hw _ (List.mem_of_getElem? (i := 15) rfl))) (by decide) (t := (.array .double)) (t' := (.array .int)) (by decide) (by decide)))).ext E16)
  obtain ⟨T20, h20, X20, e20, W20, st20⟩ := putF X16 hx hZ hown (host := "") (Or.inl (hw _ (List.mem_of_getElem? (i := 17) rfl))) Via.refl e16 f19 f18 (Or.inr ⟨(hw _ (List.mem_of_getElem? (i := 18) rfl)), rfl, hnm⟩) (hw _ (List.mem_of_getElem? (i := 1) rfl)) (ty := (.array .double)) (by decide) rfl rfl (g := (mkF m 29 #[rv r0, iv (2 : Int32)] [(.ref b16), (.ref r0)])) rfl rfl (Jvm.hb hby d1_29)
  have Fw20 := Fld.same W20 f19
  have N20 := Fr.snoc X20 N15 g_r0
  have Z20 : n0 ≤ h20.size := W20.size ▸ Z16
  have K20 : Keep h0 h20 [r0] := Keep.wr K16 W20 (Or.inl (List.mem_of_getElem? (i := 0) rfl))
  refine own_go st20 ?_
  show Gm p e below T20 m 32 #[rv r0, iv (2 : Int32)] [] _
  refine own_go (fun t₀ k₀ => XS.aloadN X20.here hx rfl (Jvm.hb hby d1_32) rfl rfl k₀) ?_
  show Gm p e below T20 m 33 #[rv r0, iv (2 : Int32)] [(.ref r0)] _
  refine own_go (fun t₀ k₀ => XS.iloadN X20.here hx rfl (Jvm.hb hby d1_33) rfl k₀) ?_
  show Gm p e below T20 m 34 #[rv r0, iv (2 : Int32)] [(.int (2 : Int32)), (.ref r0)] _
  obtain ⟨T21, h21, k21, X21, e21, E21, A21, st21⟩ := newP X20 hx hZ (hw _ (List.mem_of_getElem? (i := 16) rfl)) e20 (g := (mkF m 34 #[rv r0, iv (2 : Int32)] [(.int (2 : Int32)), (.ref r0)])) rfl (Jvm.hb hby d1_34) rfl (by decide) (cap := 2) (by decide) (by decide) (by decide) (by decide)
  obtain ⟨b21, g21⟩ : ∃ z, z = h20.size := ⟨_, rfl⟩
  rw [← g21] at A21 st21
  have g_b21 : n0 ≤ b21 := Nat.le_trans Z20 (Nat.le_of_eq g21.symm)
  have f22 := (f18.wr W20)
  have ne_r0_b21 : r0 ≠ b21 := Nat.ne_of_lt (Nat.lt_of_lt_of_le f22.lt (Nat.le_of_eq g21.symm))
  have sz_b21 : h0.size ≤ b21 := Nat.le_trans K20.1 (Nat.le_of_eq g21.symm)
  have K21 : Keep h0 h21 [r0] := Keep.ext K20 E21
  have Z21 : n0 ≤ h21.size := Nat.le_trans Z20 E21.1
  have V21 : Af Z h21 b21 .double 2 (fun _ => defaultValue .double) := Af.new A21 (by decide) rfl rfl
  refine own_go st21 ?_
  show Gm p e below T21 m 36 #[rv r0, iv (2 : Int32)] [(.ref b21), (.ref r0)] _
  have f23 := (f22.ext E21)
  have f24 := ((Fld.other W20 ((Fld.other W15 ((Fld.other W10 ((Fld.other W5 (F_reactionS.ext E2) (Or.inr (slot_ne (Or.inr (hw _ (List.mem_of_getElem? (i := 20) rfl))) (Or.inr (hw _ (List.mem_of_getElem? (i := 11) rfl))) (by decide) (t := (.array .double)) (t' := (.array .int)) (by decide) (by decide)))).ext E6) (Or.inr (slot_ne (Or.inr (hw _ (List.mem_of_getElem? (i := 20) rfl))) (Or.inr (hw _ (List.mem_of_getElem? (i := 13) rfl))) (by decide) (t := (.array .double)) (t' := (.array .int)) (by decide) (by decide)))).ext E11) (Or.inr (slot_ne (Or.inr (hw _ (List.mem_of_getElem? (i := 20) rfl))) (Or.inr (hw _ (List.mem_of_getElem? (i := 15) rfl))) (by decide) (t := (.array .double)) (t' := (.array .int)) (by decide) (by decide)))).ext E16) (Or.inr (slot_ne (Or.inr (hw _ (List.mem_of_getElem? (i := 20) rfl))) (Or.inr (hw _ (List.mem_of_getElem? (i := 18) rfl))) (by decide) (t := (.array .double)) (t' := (.array .double)) (by decide) (by decide)))).ext E21)
  obtain ⟨T25, h25, X25, e25, W25, st25⟩ := putF X21 hx hZ hown (host := "") (Or.inl (hw _ (List.mem_of_getElem? (i := 19) rfl))) Via.refl e21 f24 f23 (Or.inr ⟨(hw _ (List.mem_of_getElem? (i := 20) rfl)), rfl, hnm⟩) (hw _ (List.mem_of_getElem? (i := 1) rfl)) (ty := (.array .double)) (by decide) rfl rfl (g := (mkF m 36 #[rv r0, iv (2 : Int32)] [(.ref b21), (.ref r0)])) rfl rfl (Jvm.hb hby d1_36)
  have Fw25 := Fld.same W25 f24
  have N25 := Fr.snoc X25 N20 g_r0
  have Z25 : n0 ≤ h25.size := W25.size ▸ Z21
  have K25 : Keep h0 h25 [r0] := Keep.wr K21 W25 (Or.inl (List.mem_of_getElem? (i := 0) rfl))
  refine own_go st25 ?_
  show Gm p e below T25 m 39 #[rv r0, iv (2 : Int32)] [] _
  refine own_go (fun t₀ k₀ => XS.aloadN X25.here hx rfl (Jvm.hb hby d1_39) rfl rfl k₀) ?_
  show Gm p e below T25 m 40 #[rv r0, iv (2 : Int32)] [(.ref r0)] _
  refine own_go (fun t₀ k₀ => XS.iloadN X25.here hx rfl (Jvm.hb hby d1_40) rfl k₀) ?_
  show Gm p e below T25 m 41 #[rv r0, iv (2 : Int32)] [(.int (2 : Int32)), (.ref r0)] _
  obtain ⟨T26, h26, k26, X26, e26, E26, A26, st26⟩ := newP X25 hx hZ (hw _ (List.mem_of_getElem? (i := 9) rfl)) e25 (g := (mkF m 41 #[rv r0, iv (2 : Int32)] [(.int (2 : Int32)), (.ref r0)])) rfl (Jvm.hb hby d1_41) rfl (by decide) (cap := 2) (by decide) (by decide) (by decide) (by decide)
  obtain ⟨b26, g26⟩ : ∃ z, z = h25.size := ⟨_, rfl⟩
  rw [← g26] at A26 st26
  have g_b26 : n0 ≤ b26 := Nat.le_trans Z25 (Nat.le_of_eq g26.symm)
  have f27 := (f23.wr W25)
  have ne_r0_b26 : r0 ≠ b26 := Nat.ne_of_lt (Nat.lt_of_lt_of_le f27.lt (Nat.le_of_eq g26.symm))
  have sz_b26 : h0.size ≤ b26 := Nat.le_trans K25.1 (Nat.le_of_eq g26.symm)
  have K26 : Keep h0 h26 [r0] := Keep.ext K25 E26
  have Z26 : n0 ≤ h26.size := Nat.le_trans Z25 E26.1
  have V26 : Af Z h26 b26 .int 2 (fun _ => defaultValue .int) := Af.new A26 (by decide) rfl rfl
  refine own_go st26 ?_
  show Gm p e below T26 m 43 #[rv r0, iv (2 : Int32)] [(.ref b26), (.ref r0)] _
  have f28 := (f27.ext E26)
  have f29 := ((Fld.other W25 ((Fld.other W20 ((Fld.other W15 ((Fld.other W10 ((Fld.other W5 (F_heading.ext E2) (Or.inr (slot_ne (Or.inr (hw _ (List.mem_of_getElem? (i := 22) rfl))) (Or.inr (hw _ (List.mem_of_getElem? (i := 11) rfl))) (by decide) (t := (.array .int)) (t' := (.array .int)) (by decide) (by decide)))).ext E6) (Or.inr (slot_ne (Or.inr (hw _ (List.mem_of_getElem? (i := 22) rfl))) (Or.inr (hw _ (List.mem_of_getElem? (i := 13) rfl))) (by decide) (t := (.array .int)) (t' := (.array .int)) (by decide) (by decide)))).ext E11) (Or.inr (slot_ne (Or.inr (hw _ (List.mem_of_getElem? (i := 22) rfl))) (Or.inr (hw _ (List.mem_of_getElem? (i := 15) rfl))) (by decide) (t := (.array .int)) (t' := (.array .int)) (by decide) (by decide)))).ext E16) (Or.inr (slot_ne (Or.inr (hw _ (List.mem_of_getElem? (i := 22) rfl))) (Or.inr (hw _ (List.mem_of_getElem? (i := 18) rfl))) (by decide) (t := (.array .int)) (t' := (.array .double)) (by decide) (by decide)))).ext E21) (Or.inr (slot_ne (Or.inr (hw _ (List.mem_of_getElem? (i := 22) rfl))) (Or.inr (hw _ (List.mem_of_getElem? (i := 20) rfl))) (by decide) (t := (.array .int)) (t' := (.array .double)) (by decide) (by decide)))).ext E26)
  obtain ⟨T30, h30, X30, e30, W30, st30⟩ := putF X26 hx hZ hown (host := "") (Or.inl (hw _ (List.mem_of_getElem? (i := 21) rfl))) Via.refl e26 f29 f28 (Or.inr ⟨(hw _ (List.mem_of_getElem? (i := 22) rfl)), rfl, hnm⟩) (hw _ (List.mem_of_getElem? (i := 1) rfl)) (ty := (.array .int)) (by decide) rfl rfl (g := (mkF m 43 #[rv r0, iv (2 : Int32)] [(.ref b26), (.ref r0)])) rfl rfl (Jvm.hb hby d1_43)
  have Fw30 := Fld.same W30 f29
  have N30 := Fr.snoc X30 N25 g_r0
  have Z30 : n0 ≤ h30.size := W30.size ▸ Z26
  have K30 : Keep h0 h30 [r0] := Keep.wr K26 W30 (Or.inl (List.mem_of_getElem? (i := 0) rfl))
  refine own_go st30 ?_
  show Gm p e below T30 m 46 #[rv r0, iv (2 : Int32)] [] _
  refine own_go (fun t₀ k₀ => XS.aloadN X30.here hx rfl (Jvm.hb hby d1_46) rfl rfl k₀) ?_
  show Gm p e below T30 m 47 #[rv r0, iv (2 : Int32)] [(.ref r0)] _
  refine own_go (fun t₀ k₀ => XS.iloadN X30.here hx rfl (Jvm.hb hby d1_47) rfl k₀) ?_
  show Gm p e below T30 m 48 #[rv r0, iv (2 : Int32)] [(.int (2 : Int32)), (.ref r0)] _
  obtain ⟨T31, h31, k31, X31, e31, E31, A31, st31⟩ := newP X30 hx hZ (hw _ (List.mem_of_getElem? (i := 16) rfl)) e30 (g := (mkF m 48 #[rv r0, iv (2 : Int32)] [(.int (2 : Int32)), (.ref r0)])) rfl (Jvm.hb hby d1_48) rfl (by decide) (cap := 2) (by decide) (by decide) (by decide) (by decide)
  obtain ⟨b31, g31⟩ : ∃ z, z = h30.size := ⟨_, rfl⟩
  rw [← g31] at A31 st31
  have g_b31 : n0 ≤ b31 := Nat.le_trans Z30 (Nat.le_of_eq g31.symm)
  have f32 := (f28.wr W30)
  have ne_r0_b31 : r0 ≠ b31 := Nat.ne_of_lt (Nat.lt_of_lt_of_le f32.lt (Nat.le_of_eq g31.symm))
  have sz_b31 : h0.size ≤ b31 := Nat.le_trans K30.1 (Nat.le_of_eq g31.symm)
  have K31 : Keep h0 h31 [r0] := Keep.ext K30 E31
  have Z31 : n0 ≤ h31.size := Nat.le_trans Z30 E31.1
  have V31 : Af Z h31 b31 .double 2 (fun _ => defaultValue .double) := Af.new A31 (by decide) rfl rfl
  refine own_go st31 ?_
  show Gm p e below T31 m 50 #[rv r0, iv (2 : Int32)] [(.ref b31), (.ref r0)] _
  have f33 := (f32.ext E31)
  have f34 := ((Fld.other W30 ((Fld.other W25 ((Fld.other W20 ((Fld.other W15 ((Fld.other W10 ((Fld.other W5 (F_heldUpS.ext E2) (Or.inr (slot_ne (Or.inr (hw _ (List.mem_of_getElem? (i := 24) rfl))) (Or.inr (hw _ (List.mem_of_getElem? (i := 11) rfl))) (by decide) (t := (.array .double)) (t' := (.array .int)) (by decide) (by decide)))).ext E6) (Or.inr (slot_ne (Or.inr (hw _ (List.mem_of_getElem? (i := 24) rfl))) (Or.inr (hw _ (List.mem_of_getElem? (i := 13) rfl))) (by decide) (t := (.array .double)) (t' := (.array .int)) (by decide) (by decide)))).ext E11) (Or.inr (slot_ne (Or.inr (hw _ (List.mem_of_getElem? (i := 24) rfl))) (Or.inr (hw _ (List.mem_of_getElem? (i := 15) rfl))) (by decide) (t := (.array .double)) (t' := (.array .int)) (by decide) (by decide)))).ext E16) (Or.inr (slot_ne (Or.inr (hw _ (List.mem_of_getElem? (i := 24) rfl))) (Or.inr (hw _ (List.mem_of_getElem? (i := 18) rfl))) (by decide) (t := (.array .double)) (t' := (.array .double)) (by decide) (by decide)))).ext E21) (Or.inr (slot_ne (Or.inr (hw _ (List.mem_of_getElem? (i := 24) rfl))) (Or.inr (hw _ (List.mem_of_getElem? (i := 20) rfl))) (by decide) (t := (.array .double)) (t' := (.array .double)) (by decide) (by decide)))).ext E26) (Or.inr (slot_ne (Or.inr (hw _ (List.mem_of_getElem? (i := 24) rfl))) (Or.inr (hw _ (List.mem_of_getElem? (i := 22) rfl))) (by decide) (t := (.array .double)) (t' := (.array .int)) (by decide) (by decide)))).ext E31)
  obtain ⟨T35, h35, X35, e35, W35, st35⟩ := putF X31 hx hZ hown (host := "") (Or.inl (hw _ (List.mem_of_getElem? (i := 23) rfl))) Via.refl e31 f34 f33 (Or.inr ⟨(hw _ (List.mem_of_getElem? (i := 24) rfl)), rfl, hnm⟩) (hw _ (List.mem_of_getElem? (i := 1) rfl)) (ty := (.array .double)) (by decide) rfl rfl (g := (mkF m 50 #[rv r0, iv (2 : Int32)] [(.ref b31), (.ref r0)])) rfl rfl (Jvm.hb hby d1_50)
  have Fw35 := Fld.same W35 f34
  have N35 := Fr.snoc X35 N30 g_r0
  have Z35 : n0 ≤ h35.size := W35.size ▸ Z31
  have K35 : Keep h0 h35 [r0] := Keep.wr K31 W35 (Or.inl (List.mem_of_getElem? (i := 0) rfl))
  refine own_go st35 ?_
  show Gm p e below T35 m 53 #[rv r0, iv (2 : Int32)] [] _
  refine own_go (fun t₀ k₀ => XS.aloadN X35.here hx rfl (Jvm.hb hby d1_53) rfl rfl k₀) ?_
  show Gm p e below T35 m 54 #[rv r0, iv (2 : Int32)] [(.ref r0)] _
  obtain ⟨T36, X36, e36, st36⟩ := getF X35 hx hZ hown (host := "") (Or.inl (hw _ (List.mem_of_getElem? (i := 23) rfl))) Via.refl e35 Fw35 (g := (mkF m 54 #[rv r0, iv (2 : Int32)] [(.ref r0)])) rfl rfl (Jvm.hb hby d1_54)
  refine own_go st36 ?_
  show Gm p e below T36 m 57 #[rv r0, iv (2 : Int32)] [(.ref b31)] _
  refine own_go (fun t₀ k₀ => X36.ldc2DoubleC hx hown (mvT hZ (hw _ (List.mem_of_getElem? (i := 25) rfl))) (g := (mkF m 57 #[rv r0, iv (2 : Int32)] [(.ref b31)])) rfl (Jvm.hb hby d1_57) _ k₀) ?_
  show Gm p e below T36 m 60 #[rv r0, iv (2 : Int32)] [(.double (18442240474082181120 : UInt64)), (.ref b31)] _
  have f37 := (V31.other W35 (Ne.symm ne_r0_b31))
  obtain ⟨_, _, ⟨T38, L38, k38, n38⟩, -, X38, ⟨Lc38, hQ38, l38, y38, z38⟩, st38⟩ := Jvm.LawKit.callS X36 hx (y := (⟨"java/util/Arrays", "fill", "([DD)V"⟩ : MethodName)) hown (mvT hZ (hw _ (List.mem_of_getElem? (i := 26) rfl))) (mvT hZ (hw _ (List.mem_of_getElem? (i := 27) rfl))) (mvT hZ (hw _ (List.mem_of_getElem? (i := 28) rfl))) (mvT hZ (hw _ (List.mem_of_getElem? (i := 29) rfl))) (by decide) (backOf (W := 0) (rm3_2 l Z a0 hw [] b31 (18442240474082181120 : UInt64) (fun _ => defaultValue .double) h35 n0 Z35 f37 g_b31) hZ (hw _ (List.mem_of_getElem? (i := 29) rfl)) (hw _ (List.mem_of_getElem? (i := 28) rfl)) (by decide) (by decide)) (g := (mkF m 60 #[rv r0, iv (2 : Int32)] [(.double (18442240474082181120 : UInt64)), (.ref b31)])) rfl (by rw [hml]; rfl) (argsL := [(.ref b31), (.double (18442240474082181120 : UInt64))]) (rest := []) (lenOf own_pd0 rfl) rfl (by show 2 * 0 + _ ≤ _; exact Nat.le_of_eq rfl) (Jvm.hb hby d1_60) (fun _ _ => ⟨rfl, e36, (by decide : 7 + 0 ≤ _), (by decide : 14 + 0 ≤ _)⟩)
  dsimp only [Pt.U, Pt.locs, Pt.cells, Pt.slots] at X38 l38 y38 z38 st38 hQ38
  subst l38 y38 z38
  obtain ⟨rfl, Nq38, Kc38, fd38, Ac38⟩ := hQ38
  have N38 := Fr.app N35 Nq38
  refine own_go st38 ?_
  have Z38 : n0 ≤ T38.heap.size := Nat.le_trans Z35 Kc38.1
  have K38 : Keep h0 T38.heap [r0] := Keep.trans K35 Kc38 (allS (Or.inr sz_b31) all0)
  show Gm p e below T38 m 63 #[rv r0, iv (2 : Int32)] [] _
  refine own_go (fun t₀ k₀ => XS.aloadN X38.here hx rfl (Jvm.hb hby d1_63) rfl rfl k₀) ?_
  show Gm p e below T38 m 64 #[rv r0, iv (2 : Int32)] [(.ref r0)] _
  refine own_go (fun t₀ k₀ => XS.iloadN X38.here hx rfl (Jvm.hb hby d1_64) rfl k₀) ?_
  show Gm p e below T38 m 65 #[rv r0, iv (2 : Int32)] [(.int (2 : Int32)), (.ref r0)] _
  obtain ⟨T39, h39, k39, X39, e39, E39, A39, st39⟩ := newP X38 hx hZ (hw _ (List.mem_of_getElem? (i := 16) rfl)) rfl (g := (mkF m 65 #[rv r0, iv (2 : Int32)] [(.int (2 : Int32)), (.ref r0)])) rfl (Jvm.hb hby d1_65) rfl (by decide) (cap := 2) (by decide) (by decide) (by decide) (by decide)
  obtain ⟨b39, g39⟩ : ∃ z, z = T38.heap.size := ⟨_, rfl⟩
  rw [← g39] at A39 st39
  have g_b39 : n0 ≤ b39 := Nat.le_trans Z38 (Nat.le_of_eq g39.symm)
  have f40 := ((f33.wr W35).keep Kc38)
  have ne_r0_b39 : r0 ≠ b39 := Nat.ne_of_lt (Nat.lt_of_lt_of_le f40.lt (Nat.le_of_eq g39.symm))
  have sz_b39 : h0.size ≤ b39 := Nat.le_trans K38.1 (Nat.le_of_eq g39.symm)
  have K39 : Keep h0 h39 [r0] := Keep.ext K38 E39
  have Z39 : n0 ≤ h39.size := Nat.le_trans Z38 E39.1
  have V39 : Af Z h39 b39 .double 2 (fun _ => defaultValue .double) := Af.new A39 (by decide) rfl rfl
  refine own_go st39 ?_
  show Gm p e below T39 m 67 #[rv r0, iv (2 : Int32)] [(.ref b39), (.ref r0)] _
  have f41 := (f40.ext E39)
  have f42 := (((Fld.other W35 ((Fld.other W30 ((Fld.other W25 ((Fld.other W20 ((Fld.other W15 ((Fld.other W10 ((Fld.other W5 (F_exitTimeS.ext E2) (Or.inr (slot_ne (Or.inr (hw _ (List.mem_of_getElem? (i := 31) rfl))) (Or.inr (hw _ (List.mem_of_getElem? (i := 11) rfl))) (by decide) (t := (.array .double)) (t' := (.array .int)) (by decide) (by decide)))).ext E6) (Or.inr (slot_ne (Or.inr (hw _ (List.mem_of_getElem? (i := 31) rfl))) (Or.inr (hw _ (List.mem_of_getElem? (i := 13) rfl))) (by decide) (t := (.array .double)) (t' := (.array .int)) (by decide) (by decide)))).ext E11) (Or.inr (slot_ne (Or.inr (hw _ (List.mem_of_getElem? (i := 31) rfl))) (Or.inr (hw _ (List.mem_of_getElem? (i := 15) rfl))) (by decide) (t := (.array .double)) (t' := (.array .int)) (by decide) (by decide)))).ext E16) (Or.inr (slot_ne (Or.inr (hw _ (List.mem_of_getElem? (i := 31) rfl))) (Or.inr (hw _ (List.mem_of_getElem? (i := 18) rfl))) (by decide) (t := (.array .double)) (t' := (.array .double)) (by decide) (by decide)))).ext E21) (Or.inr (slot_ne (Or.inr (hw _ (List.mem_of_getElem? (i := 31) rfl))) (Or.inr (hw _ (List.mem_of_getElem? (i := 20) rfl))) (by decide) (t := (.array .double)) (t' := (.array .double)) (by decide) (by decide)))).ext E26) (Or.inr (slot_ne (Or.inr (hw _ (List.mem_of_getElem? (i := 31) rfl))) (Or.inr (hw _ (List.mem_of_getElem? (i := 22) rfl))) (by decide) (t := (.array .double)) (t' := (.array .int)) (by decide) (by decide)))).ext E31) (Or.inr (slot_ne (Or.inr (hw _ (List.mem_of_getElem? (i := 31) rfl))) (Or.inr (hw _ (List.mem_of_getElem? (i := 24) rfl))) (by decide) (t := (.array .double)) (t' := (.array .double)) (by decide) (by decide)))).keep Kc38 (ninS ne_r0_b31 nin0)).ext E39)
  obtain ⟨T43, h43, X43, e43, W43, st43⟩ := putF X39 hx hZ hown (host := "") (Or.inl (hw _ (List.mem_of_getElem? (i := 30) rfl))) Via.refl e39 f42 f41 (Or.inr ⟨(hw _ (List.mem_of_getElem? (i := 31) rfl)), rfl, hnm⟩) (hw _ (List.mem_of_getElem? (i := 1) rfl)) (ty := (.array .double)) (by decide) rfl rfl (g := (mkF m 67 #[rv r0, iv (2 : Int32)] [(.ref b39), (.ref r0)])) rfl rfl (Jvm.hb hby d1_67)
  have Fw43 := Fld.same W43 f42
  have N43 := Fr.snoc X43 N38 g_r0
  have Z43 : n0 ≤ h43.size := W43.size ▸ Z39
  have K43 : Keep h0 h43 [r0] := Keep.wr K39 W43 (Or.inl (List.mem_of_getElem? (i := 0) rfl))
  refine own_go st43 ?_
  show Gm p e below T43 m 70 #[rv r0, iv (2 : Int32)] [] _
  refine own_go (fun t₀ k₀ => XS.aloadN X43.here hx rfl (Jvm.hb hby d1_70) rfl rfl k₀) ?_
  show Gm p e below T43 m 71 #[rv r0, iv (2 : Int32)] [(.ref r0)] _
  obtain ⟨T44, X44, e44, st44⟩ := getF X43 hx hZ hown (host := "") (Or.inl (hw _ (List.mem_of_getElem? (i := 30) rfl))) Via.refl e43 Fw43 (g := (mkF m 71 #[rv r0, iv (2 : Int32)] [(.ref r0)])) rfl rfl (Jvm.hb hby d1_71)
  refine own_go st44 ?_
  show Gm p e below T44 m 74 #[rv r0, iv (2 : Int32)] [(.ref b39)] _
  refine own_go (fun t₀ k₀ => X44.ldc2DoubleC hx hown (mvT hZ (hw _ (List.mem_of_getElem? (i := 32) rfl))) (g := (mkF m 74 #[rv r0, iv (2 : Int32)] [(.ref b39)])) rfl (Jvm.hb hby d1_74) _ k₀) ?_
  show Gm p e below T44 m 77 #[rv r0, iv (2 : Int32)] [(.double (9218868437227405312 : UInt64)), (.ref b39)] _
  have f45 := (V39.other W43 (Ne.symm ne_r0_b39))
  obtain ⟨_, _, ⟨T46, L46, k46, n46⟩, -, X46, ⟨Lc46, hQ46, l46, y46, z46⟩, st46⟩ := Jvm.LawKit.callS X44 hx (y := (⟨"java/util/Arrays", "fill", "([DD)V"⟩ : MethodName)) hown (mvT hZ (hw _ (List.mem_of_getElem? (i := 26) rfl))) (mvT hZ (hw _ (List.mem_of_getElem? (i := 27) rfl))) (mvT hZ (hw _ (List.mem_of_getElem? (i := 28) rfl))) (mvT hZ (hw _ (List.mem_of_getElem? (i := 29) rfl))) (by decide) (backOf (W := 0) (rm3_2 l Z a0 hw [] b39 (9218868437227405312 : UInt64) (fun _ => defaultValue .double) h43 n0 Z43 f45 g_b39) hZ (hw _ (List.mem_of_getElem? (i := 29) rfl)) (hw _ (List.mem_of_getElem? (i := 28) rfl)) (by decide) (by decide)) (g := (mkF m 77 #[rv r0, iv (2 : Int32)] [(.double (9218868437227405312 : UInt64)), (.ref b39)])) rfl (by rw [hml]; rfl) (argsL := [(.ref b39), (.double (9218868437227405312 : UInt64))]) (rest := []) (lenOf own_pd0 rfl) rfl (by show 2 * 0 + _ ≤ _; exact Nat.le_of_eq rfl) (Jvm.hb hby d1_77) (fun _ _ => ⟨rfl, e44, (by decide : 8 + 0 ≤ _), (by decide : 16 + 0 ≤ _)⟩)
  dsimp only [Pt.U, Pt.locs, Pt.cells, Pt.slots] at X46 l46 y46 z46 st46 hQ46
  subst l46 y46 z46
  obtain ⟨rfl, Nq46, Kc46, fd46, Ac46⟩ := hQ46
  have N46 := Fr.app N43 Nq46
  refine own_go st46 ?_
  have Z46 : n0 ≤ T46.heap.size := Nat.le_trans Z43 Kc46.1
  have K46 : Keep h0 T46.heap [r0] := Keep.trans K43 Kc46 (allS (Or.inr sz_b39) all0)
  show Gm p e below T46 m 80 #[rv r0, iv (2 : Int32)] [] _
  refine own_go (fun t₀ k₀ => XS.aloadN X46.here hx rfl (Jvm.hb hby d1_80) rfl rfl k₀) ?_
  show Gm p e below T46 m 81 #[rv r0, iv (2 : Int32)] [(.ref r0)] _
  refine own_go (fun t₀ k₀ => XS.iloadN X46.here hx rfl (Jvm.hb hby d1_81) rfl k₀) ?_
  show Gm p e below T46 m 82 #[rv r0, iv (2 : Int32)] [(.int (2 : Int32)), (.ref r0)] _
  obtain ⟨T47, h47, k47, X47, e47, E47, A47, st47⟩ := newP X46 hx hZ (hw _ (List.mem_of_getElem? (i := 9) rfl)) rfl (g := (mkF m 82 #[rv r0, iv (2 : Int32)] [(.int (2 : Int32)), (.ref r0)])) rfl (Jvm.hb hby d1_82) rfl (by decide) (cap := 2) (by decide) (by decide) (by decide) (by decide)
  obtain ⟨b47, g47⟩ : ∃ z, z = T46.heap.size := ⟨_, rfl⟩
  rw [← g47] at A47 st47
  have g_b47 : n0 ≤ b47 := Nat.le_trans Z46 (Nat.le_of_eq g47.symm)
  have f48 := ((f41.wr W43).keep Kc46)
  have ne_r0_b47 : r0 ≠ b47 := Nat.ne_of_lt (Nat.lt_of_lt_of_le f48.lt (Nat.le_of_eq g47.symm))
  have sz_b47 : h0.size ≤ b47 := Nat.le_trans K46.1 (Nat.le_of_eq g47.symm)
  have K47 : Keep h0 h47 [r0] := Keep.ext K46 E47
  have Z47 : n0 ≤ h47.size := Nat.le_trans Z46 E47.1
  have V47 : Af Z h47 b47 .int 2 (fun _ => defaultValue .int) := Af.new A47 (by decide) rfl rfl
  refine own_go st47 ?_
  show Gm p e below T47 m 84 #[rv r0, iv (2 : Int32)] [(.ref b47), (.ref r0)] _
  have f49 := (f48.ext E47)
  have f50 := (((Fld.other W43 (((Fld.other W35 ((Fld.other W30 ((Fld.other W25 ((Fld.other W20 ((Fld.other W15 ((Fld.other W10 ((Fld.other W5 (F_leaving.ext E2) (Or.inr (slot_ne (Or.inr (hw _ (List.mem_of_getElem? (i := 34) rfl))) (Or.inr (hw _ (List.mem_of_getElem? (i := 11) rfl))) (by decide) (t := (.array .int)) (t' := (.array .int)) (by decide) (by decide)))).ext E6) (Or.inr (slot_ne (Or.inr (hw _ (List.mem_of_getElem? (i := 34) rfl))) (Or.inr (hw _ (List.mem_of_getElem? (i := 13) rfl))) (by decide) (t := (.array .int)) (t' := (.array .int)) (by decide) (by decide)))).ext E11) (Or.inr (slot_ne (Or.inr (hw _ (List.mem_of_getElem? (i := 34) rfl))) (Or.inr (hw _ (List.mem_of_getElem? (i := 15) rfl))) (by decide) (t := (.array .int)) (t' := (.array .int)) (by decide) (by decide)))).ext E16) (Or.inr (slot_ne (Or.inr (hw _ (List.mem_of_getElem? (i := 34) rfl))) (Or.inr (hw _ (List.mem_of_getElem? (i := 18) rfl))) (by decide) (t := (.array .int)) (t' := (.array .double)) (by decide) (by decide)))).ext E21) (Or.inr (slot_ne (Or.inr (hw _ (List.mem_of_getElem? (i := 34) rfl))) (Or.inr (hw _ (List.mem_of_getElem? (i := 20) rfl))) (by decide) (t := (.array .int)) (t' := (.array .double)) (by decide) (by decide)))).ext E26) (Or.inr (slot_ne (Or.inr (hw _ (List.mem_of_getElem? (i := 34) rfl))) (Or.inr (hw _ (List.mem_of_getElem? (i := 22) rfl))) (by decide) (t := (.array .int)) (t' := (.array .int)) (by decide) (by decide)))).ext E31) (Or.inr (slot_ne (Or.inr (hw _ (List.mem_of_getElem? (i := 34) rfl))) (Or.inr (hw _ (List.mem_of_getElem? (i := 24) rfl))) (by decide) (t := (.array .int)) (t' := (.array .double)) (by decide) (by decide)))).keep Kc38 (ninS ne_r0_b31 nin0)).ext E39) (Or.inr (slot_ne (Or.inr (hw _ (List.mem_of_getElem? (i := 34) rfl))) (Or.inr (hw _ (List.mem_of_getElem? (i := 31) rfl))) (by decide) (t := (.array .int)) (t' := (.array .double)) (by decide) (by decide)))).keep Kc46 (ninS ne_r0_b39 nin0)).ext E47)
  obtain ⟨T51, h51, X51, e51, W51, st51⟩ := putF X47 hx hZ hown (host := "") (Or.inl (hw _ (List.mem_of_getElem? (i := 33) rfl))) Via.refl e47 f50 f49 (Or.inr ⟨(hw _ (List.mem_of_getElem? (i := 34) rfl)), rfl, hnm⟩) (hw _ (List.mem_of_getElem? (i := 1) rfl)) (ty := (.array .int)) (by decide) rfl rfl (g := (mkF m 84 #[rv r0, iv (2 : Int32)] [(.ref b47), (.ref r0)])) rfl rfl (Jvm.hb hby d1_84)
  have Fw51 := Fld.same W51 f50
  have N51 := Fr.snoc X51 N46 g_r0
  have Z51 : n0 ≤ h51.size := W51.size ▸ Z47
  have K51 : Keep h0 h51 [r0] := Keep.wr K47 W51 (Or.inl (List.mem_of_getElem? (i := 0) rfl))
  refine own_go st51 ?_
  show Gm p e below T51 m 87 #[rv r0, iv (2 : Int32)] [] _
  refine own_go (fun t₀ k₀ => XS.aloadN X51.here hx rfl (Jvm.hb hby d1_87) rfl rfl k₀) ?_
  show Gm p e below T51 m 88 #[rv r0, iv (2 : Int32)] [(.ref r0)] _
  obtain ⟨T52, X52, e52, st52⟩ := getF X51 hx hZ hown (host := "") (Or.inl (hw _ (List.mem_of_getElem? (i := 33) rfl))) Via.refl e51 Fw51 (g := (mkF m 88 #[rv r0, iv (2 : Int32)] [(.ref r0)])) rfl rfl (Jvm.hb hby d1_88)
  refine own_go st52 ?_
  show Gm p e below T52 m 91 #[rv r0, iv (2 : Int32)] [(.ref b47)] _
  refine own_go (fun t₀ k₀ => XS.iconst X52.here hx rfl (Jvm.hb hby d1_91) k₀) ?_
  show Gm p e below T52 m 92 #[rv r0, iv (2 : Int32)] [(.int (-1 : Int32)), (.ref b47)] _
  have f53 := (V47.other W51 (Ne.symm ne_r0_b47))
  obtain ⟨_, _, ⟨T54, L54, k54, n54⟩, -, X54, ⟨Lc54, hQ54, l54, y54, z54⟩, st54⟩ := Jvm.LawKit.callS X52 hx (y := (⟨"java/util/Arrays", "fill", "([II)V"⟩ : MethodName)) hown (mvT hZ (hw _ (List.mem_of_getElem? (i := 35) rfl))) (mvT hZ (hw _ (List.mem_of_getElem? (i := 36) rfl))) (mvT hZ (hw _ (List.mem_of_getElem? (i := 28) rfl))) (mvT hZ (hw _ (List.mem_of_getElem? (i := 37) rfl))) (by decide) (backOf (W := 0) (rm4_2 l Z a0 hw [] b47 (-1 : Int32) (fun _ => defaultValue .int) h51 n0 Z51 f53 g_b47) hZ (hw _ (List.mem_of_getElem? (i := 37) rfl)) (hw _ (List.mem_of_getElem? (i := 28) rfl)) (by decide) (by decide)) (g := (mkF m 92 #[rv r0, iv (2 : Int32)] [(.int (-1 : Int32)), (.ref b47)])) rfl (by rw [hml]; rfl) (argsL := [(.ref b47), (.int (-1 : Int32))]) (rest := []) (lenOf own_pd1 rfl) rfl (by show 2 * 0 + _ ≤ _; exact Nat.le_of_eq rfl) (Jvm.hb hby d1_92) (fun _ _ => ⟨rfl, e52, (by decide : 9 + 0 ≤ _), (by decide : 18 + 0 ≤ _)⟩)
  dsimp only [Pt.U, Pt.locs, Pt.cells, Pt.slots] at X54 l54 y54 z54 st54 hQ54
  subst l54 y54 z54
  obtain ⟨rfl, Nq54, Kc54, Ac54⟩ := hQ54
  have N54 := Fr.app N51 Nq54
  refine own_go st54 ?_
  have Z54 : n0 ≤ T54.heap.size := Nat.le_trans Z51 Kc54.1
  have K54 : Keep h0 T54.heap [r0] := Keep.trans K51 Kc54 (allS (Or.inr sz_b47) all0)
  show Gm p e below T54 m 95 #[rv r0, iv (2 : Int32)] [] _
  refine own_go (fun t₀ k₀ => XS.aloadN X54.here hx rfl (Jvm.hb hby d1_95) rfl rfl k₀) ?_
  show Gm p e below T54 m 96 #[rv r0, iv (2 : Int32)] [(.ref r0)] _
  refine own_go (fun t₀ k₀ => XS.iloadN X54.here hx rfl (Jvm.hb hby d1_96) rfl k₀) ?_
  show Gm p e below T54 m 97 #[rv r0, iv (2 : Int32)] [(.int (2 : Int32)), (.ref r0)] _
  obtain ⟨T55, h55, k55, X55, e55, E55, A55, st55⟩ := newP X54 hx hZ (hw _ (List.mem_of_getElem? (i := 9) rfl)) rfl (g := (mkF m 97 #[rv r0, iv (2 : Int32)] [(.int (2 : Int32)), (.ref r0)])) rfl (Jvm.hb hby d1_97) rfl (by decide) (cap := 2) (by decide) (by decide) (by decide) (by decide)
  obtain ⟨b55, g55⟩ : ∃ z, z = T54.heap.size := ⟨_, rfl⟩
  rw [← g55] at A55 st55
  have g_b55 : n0 ≤ b55 := Nat.le_trans Z54 (Nat.le_of_eq g55.symm)
  have f56 := ((f49.wr W51).keep Kc54)
  have ne_r0_b55 : r0 ≠ b55 := Nat.ne_of_lt (Nat.lt_of_lt_of_le f56.lt (Nat.le_of_eq g55.symm))
  have sz_b55 : h0.size ≤ b55 := Nat.le_trans K54.1 (Nat.le_of_eq g55.symm)
  have K55 : Keep h0 h55 [r0] := Keep.ext K54 E55
  have Z55 : n0 ≤ h55.size := Nat.le_trans Z54 E55.1
  have V55 : Af Z h55 b55 .int 2 (fun _ => defaultValue .int) := Af.new A55 (by decide) rfl rfl
  refine own_go st55 ?_
  show Gm p e below T55 m 99 #[rv r0, iv (2 : Int32)] [(.ref b55), (.ref r0)] _
  have f57 := (f56.ext E55)
  have f58 := (((Fld.other W51 (((Fld.other W43 (((Fld.other W35 ((Fld.other W30 ((Fld.other W25 ((Fld.other W20 ((Fld.other W15 ((Fld.other W10 ((Fld.other W5 (F_exit.ext E2) (Or.inr (slot_ne (Or.inr (hw _ (List.mem_of_getElem? (i := 39) rfl))) (Or.inr (hw _ (List.mem_of_getElem? (i := 11) rfl))) (by decide) (t := (.array .int)) (t' := (.array .int)) (by decide) (by decide)))).ext E6) (Or.inr (slot_ne (Or.inr (hw _ (List.mem_of_getElem? (i := 39) rfl))) (Or.inr (hw _ (List.mem_of_getElem? (i := 13) rfl))) (by decide) (t := (.array .int)) (t' := (.array .int)) (by decide) (by decide)))).ext E11) (Or.inr (slot_ne (Or.inr (hw _ (List.mem_of_getElem? (i := 39) rfl))) (Or.inr (hw _ (List.mem_of_getElem? (i := 15) rfl))) (by decide) (t := (.array .int)) (t' := (.array .int)) (by decide) (by decide)))).ext E16) (Or.inr (slot_ne (Or.inr (hw _ (List.mem_of_getElem? (i := 39) rfl))) (Or.inr (hw _ (List.mem_of_getElem? (i := 18) rfl))) (by decide) (t := (.array .int)) (t' := (.array .double)) (by decide) (by decide)))).ext E21) (Or.inr (slot_ne (Or.inr (hw _ (List.mem_of_getElem? (i := 39) rfl))) (Or.inr (hw _ (List.mem_of_getElem? (i := 20) rfl))) (by decide) (t := (.array .int)) (t' := (.array .double)) (by decide) (by decide)))).ext E26) (Or.inr (slot_ne (Or.inr (hw _ (List.mem_of_getElem? (i := 39) rfl))) (Or.inr (hw _ (List.mem_of_getElem? (i := 22) rfl))) (by decide) (t := (.array .int)) (t' := (.array .int)) (by decide) (by decide)))).ext E31) (Or.inr (slot_ne (Or.inr (hw _ (List.mem_of_getElem? (i := 39) rfl))) (Or.inr (hw _ (List.mem_of_getElem? (i := 24) rfl))) (by decide) (t := (.array .int)) (t' := (.array .double)) (by decide) (by decide)))).keep Kc38 (ninS ne_r0_b31 nin0)).ext E39) (Or.inr (slot_ne (Or.inr (hw _ (List.mem_of_getElem? (i := 39) rfl))) (Or.inr (hw _ (List.mem_of_getElem? (i := 31) rfl))) (by decide) (t := (.array .int)) (t' := (.array .double)) (by decide) (by decide)))).keep Kc46 (ninS ne_r0_b39 nin0)).ext E47) (Or.inr (slot_ne (Or.inr (hw _ (List.mem_of_getElem? (i := 39) rfl))) (Or.inr (hw _ (List.mem_of_getElem? (i := 34) rfl))) (by decide) (t := (.array .int)) (t' := (.array .int)) (by decide) (by decide)))).keep Kc54 (ninS ne_r0_b47 nin0)).ext E55)
  obtain ⟨T59, h59, X59, e59, W59, st59⟩ := putF X55 hx hZ hown (host := "") (Or.inl (hw _ (List.mem_of_getElem? (i := 38) rfl))) Via.refl e55 f58 f57 (Or.inr ⟨(hw _ (List.mem_of_getElem? (i := 39) rfl)), rfl, hnm⟩) (hw _ (List.mem_of_getElem? (i := 1) rfl)) (ty := (.array .int)) (by decide) rfl rfl (g := (mkF m 99 #[rv r0, iv (2 : Int32)] [(.ref b55), (.ref r0)])) rfl rfl (Jvm.hb hby d1_99)
  have Fw59 := Fld.same W59 f58
  have N59 := Fr.snoc X59 N54 g_r0
  have Z59 : n0 ≤ h59.size := W59.size ▸ Z55
  have K59 : Keep h0 h59 [r0] := Keep.wr K55 W59 (Or.inl (List.mem_of_getElem? (i := 0) rfl))
  refine own_go st59 ?_
  show Gm p e below T59 m 102 #[rv r0, iv (2 : Int32)] [] _
  refine own_go (fun t₀ k₀ => XS.aloadN X59.here hx rfl (Jvm.hb hby d1_102) rfl rfl k₀) ?_
  show Gm p e below T59 m 103 #[rv r0, iv (2 : Int32)] [(.ref r0)] _
  obtain ⟨T60, X60, e60, st60⟩ := getF X59 hx hZ hown (host := "") (Or.inl (hw _ (List.mem_of_getElem? (i := 38) rfl))) Via.refl e59 Fw59 (g := (mkF m 103 #[rv r0, iv (2 : Int32)] [(.ref r0)])) rfl rfl (Jvm.hb hby d1_103)
  refine own_go st60 ?_
  show Gm p e below T60 m 106 #[rv r0, iv (2 : Int32)] [(.ref b55)] _
  refine own_go (fun t₀ k₀ => XS.iconst X60.here hx rfl (Jvm.hb hby d1_106) k₀) ?_
  show Gm p e below T60 m 107 #[rv r0, iv (2 : Int32)] [(.int (-1 : Int32)), (.ref b55)] _
  have f61 := (V55.other W59 (Ne.symm ne_r0_b55))
  obtain ⟨_, _, ⟨T62, L62, k62, n62⟩, -, X62, ⟨Lc62, hQ62, l62, y62, z62⟩, st62⟩ := Jvm.LawKit.callS X60 hx (y := (⟨"java/util/Arrays", "fill", "([II)V"⟩ : MethodName)) hown (mvT hZ (hw _ (List.mem_of_getElem? (i := 35) rfl))) (mvT hZ (hw _ (List.mem_of_getElem? (i := 36) rfl))) (mvT hZ (hw _ (List.mem_of_getElem? (i := 28) rfl))) (mvT hZ (hw _ (List.mem_of_getElem? (i := 37) rfl))) (by decide) (backOf (W := 0) (rm4_2 l Z a0 hw [] b55 (-1 : Int32) (fun _ => defaultValue .int) h59 n0 Z59 f61 g_b55) hZ (hw _ (List.mem_of_getElem? (i := 37) rfl)) (hw _ (List.mem_of_getElem? (i := 28) rfl)) (by decide) (by decide)) (g := (mkF m 107 #[rv r0, iv (2 : Int32)] [(.int (-1 : Int32)), (.ref b55)])) rfl (by rw [hml]; rfl) (argsL := [(.ref b55), (.int (-1 : Int32))]) (rest := []) (lenOf own_pd1 rfl) rfl (by show 2 * 0 + _ ≤ _; exact Nat.le_of_eq rfl) (Jvm.hb hby d1_107) (fun _ _ => ⟨rfl, e60, (by decide : 10 + 0 ≤ _), (by decide : 20 + 0 ≤ _)⟩)
  dsimp only [Pt.U, Pt.locs, Pt.cells, Pt.slots] at X62 l62 y62 z62 st62 hQ62
  subst l62 y62 z62
  obtain ⟨rfl, Nq62, Kc62, Ac62⟩ := hQ62
  have N62 := Fr.app N59 Nq62
  refine own_go st62 ?_
  have Z62 : n0 ≤ T62.heap.size := Nat.le_trans Z59 Kc62.1
  have K62 : Keep h0 T62.heap [r0] := Keep.trans K59 Kc62 (allS (Or.inr sz_b55) all0)
  show Gm p e below T62 m 110 #[rv r0, iv (2 : Int32)] [] _
  refine own_go (fun t₀ k₀ => XS.aloadN X62.here hx rfl (Jvm.hb hby d1_110) rfl rfl k₀) ?_
  show Gm p e below T62 m 111 #[rv r0, iv (2 : Int32)] [(.ref r0)] _
  refine own_go (fun t₀ k₀ => XS.iloadN X62.here hx rfl (Jvm.hb hby d1_111) rfl k₀) ?_
  show Gm p e below T62 m 112 #[rv r0, iv (2 : Int32)] [(.int (2 : Int32)), (.ref r0)] _
  obtain ⟨T63, h63, k63, X63, e63, E63, A63, st63⟩ := newP X62 hx hZ (hw _ (List.mem_of_getElem? (i := 16) rfl)) rfl (g := (mkF m 112 #[rv r0, iv (2 : Int32)] [(.int (2 : Int32)), (.ref r0)])) rfl (Jvm.hb hby d1_112) rfl (by decide) (cap := 2) (by decide) (by decide) (by decide) (by decide)
  obtain ⟨b63, g63⟩ : ∃ z, z = T62.heap.size := ⟨_, rfl⟩
  rw [← g63] at A63 st63
  have g_b63 : n0 ≤ b63 := Nat.le_trans Z62 (Nat.le_of_eq g63.symm)
  have f64 := ((f57.wr W59).keep Kc62)
  have ne_r0_b63 : r0 ≠ b63 := Nat.ne_of_lt (Nat.lt_of_lt_of_le f64.lt (Nat.le_of_eq g63.symm))
  have ne_b55_b63 : b55 ≠ b63 := Nat.ne_of_lt (Nat.lt_of_lt_of_le Ac62.lt (Nat.le_of_eq g63.symm))
  have sz_b63 : h0.size ≤ b63 := Nat.le_trans K62.1 (Nat.le_of_eq g63.symm)
  have K63 : Keep h0 h63 [r0] := Keep.ext K62 E63
  have Z63 : n0 ≤ h63.size := Nat.le_trans Z62 E63.1
  have V63 : Af Z h63 b63 .double 2 (fun _ => defaultValue .double) := Af.new A63 (by decide) rfl rfl
  refine own_go st63 ?_
  show Gm p e below T63 m 114 #[rv r0, iv (2 : Int32)] [(.ref b63), (.ref r0)] _
  have f65 := (f64.ext E63)
  have f66 := (((Fld.other W59 (((Fld.other W51 (((Fld.other W43 (((Fld.other W35 ((Fld.other W30 ((Fld.other W25 ((Fld.other W20 ((Fld.other W15 ((Fld.other W10 ((Fld.other W5 (F_distanceM.ext E2) (Or.inr (slot_ne (Or.inr (hw _ (List.mem_of_getElem? (i := 41) rfl))) (Or.inr (hw _ (List.mem_of_getElem? (i := 11) rfl))) (by decide) (t := (.array .double)) (t' := (.array .int)) (by decide) (by decide)))).ext E6) (Or.inr (slot_ne (Or.inr (hw _ (List.mem_of_getElem? (i := 41) rfl))) (Or.inr (hw _ (List.mem_of_getElem? (i := 13) rfl))) (by decide) (t := (.array .double)) (t' := (.array .int)) (by decide) (by decide)))).ext E11) (Or.inr (slot_ne (Or.inr (hw _ (List.mem_of_getElem? (i := 41) rfl))) (Or.inr (hw _ (List.mem_of_getElem? (i := 15) rfl))) (by decide) (t := (.array .double)) (t' := (.array .int)) (by decide) (by decide)))).ext E16) (Or.inr (slot_ne (Or.inr (hw _ (List.mem_of_getElem? (i := 41) rfl))) (Or.inr (hw _ (List.mem_of_getElem? (i := 18) rfl))) (by decide) (t := (.array .double)) (t' := (.array .double)) (by decide) (by decide)))).ext E21) (Or.inr (slot_ne (Or.inr (hw _ (List.mem_of_getElem? (i := 41) rfl))) (Or.inr (hw _ (List.mem_of_getElem? (i := 20) rfl))) (by decide) (t := (.array .double)) (t' := (.array .double)) (by decide) (by decide)))).ext E26) (Or.inr (slot_ne (Or.inr (hw _ (List.mem_of_getElem? (i := 41) rfl))) (Or.inr (hw _ (List.mem_of_getElem? (i := 22) rfl))) (by decide) (t := (.array .double)) (t' := (.array .int)) (by decide) (by decide)))).ext E31) (Or.inr (slot_ne (Or.inr (hw _ (List.mem_of_getElem? (i := 41) rfl))) (Or.inr (hw _ (List.mem_of_getElem? (i := 24) rfl))) (by decide) (t := (.array .double)) (t' := (.array .double)) (by decide) (by decide)))).keep Kc38 (ninS ne_r0_b31 nin0)).ext E39) (Or.inr (slot_ne (Or.inr (hw _ (List.mem_of_getElem? (i := 41) rfl))) (Or.inr (hw _ (List.mem_of_getElem? (i := 31) rfl))) (by decide) (t := (.array .double)) (t' := (.array .double)) (by decide) (by decide)))).keep Kc46 (ninS ne_r0_b39 nin0)).ext E47) (Or.inr (slot_ne (Or.inr (hw _ (List.mem_of_getElem? (i := 41) rfl))) (Or.inr (hw _ (List.mem_of_getElem? (i := 34) rfl))) (by decide) (t := (.array .double)) (t' := (.array .int)) (by decide) (by decide)))).keep Kc54 (ninS ne_r0_b47 nin0)).ext E55) (Or.inr (slot_ne (Or.inr (hw _ (List.mem_of_getElem? (i := 41) rfl))) (Or.inr (hw _ (List.mem_of_getElem? (i := 39) rfl))) (by decide) (t := (.array .double)) (t' := (.array .int)) (by decide) (by decide)))).keep Kc62 (ninS ne_r0_b55 nin0)).ext E63)
  obtain ⟨T67, h67, X67, e67, W67, st67⟩ := putF X63 hx hZ hown (host := "") (Or.inl (hw _ (List.mem_of_getElem? (i := 40) rfl))) Via.refl e63 f66 f65 (Or.inr ⟨(hw _ (List.mem_of_getElem? (i := 41) rfl)), rfl, hnm⟩) (hw _ (List.mem_of_getElem? (i := 1) rfl)) (ty := (.array .double)) (by decide) rfl rfl (g := (mkF m 114 #[rv r0, iv (2 : Int32)] [(.ref b63), (.ref r0)])) rfl rfl (Jvm.hb hby d1_114)
  have Fw67 := Fld.same W67 f66
  have N67 := Fr.snoc X67 N62 g_r0
  have Z67 : n0 ≤ h67.size := W67.size ▸ Z63
  have K67 : Keep h0 h67 [r0] := Keep.wr K63 W67 (Or.inl (List.mem_of_getElem? (i := 0) rfl))
  refine own_go st67 ?_
  show Gm p e below T67 m 117 #[rv r0, iv (2 : Int32)] [] _
  have f68 := (f65.wr W67)
  have f69 := (Fld.other W67 ((Fw59.keep Kc62 (ninS ne_r0_b55 nin0)).ext E63) (Or.inr (slot_ne (Or.inr (hw _ (List.mem_of_getElem? (i := 39) rfl))) (Or.inr (hw _ (List.mem_of_getElem? (i := 41) rfl))) (by decide) (t := (.array .int)) (t' := (.array .double)) (by decide) (by decide))))
  have f70 := ((Ac62.ext E63).other W67 (Ne.symm ne_r0_b55))
  exact own_retV X67 hx hlk Bd.returns (Jvm.hb hby d1_117) e67 ⟨b55, rfl, N67, K67, f68, sz_b55, f69, f70⟩ (by decide) (by decide)
theorem own_pn_rm5_2 : plainName "com/example/throughfare/throughfare/simulation/Walkers" = true := by first | (simp [plainName, overriddenIn]; done) | decide +kernel
theorem own_ef_rm5_2 (m : MethodId) (r0 : Addr) : entryFrame m #[(.ref r0)] 5 = mkF m 0 #[.val (.ref r0), .unset, .unset, .unset, .unset] [] := by first | (simp [entryFrame, mkF, argsToLocals, Value.category]; done) | rfl
def fA2 (ve0 : Int32) (ve1 : Int32) : Int32 := if ve0 < (0 : Int32) then (1 : Int32) else (if ve1 < (0 : Int32) then (1 : Int32) else ((0 : Int32)))
def Q5_2 (Z : State) (r0 : Addr) (c1 : Addr) (f : Nat → Value) (ve0 : Int32) (ve1 : Int32) (h0 : Heap) (n0 : Nat) (v : Option Value) (h : Heap) (L : List Loc) : Prop := v = some (.int (fA2 ve0 ve1)) ∧ Fr n0 L ∧ h = h0
set_option maxRecDepth 65536 in
set_option maxHeartbeats 40000000 in
theorem rm5_2 (l : Launch) (Z : State) (a0 : Array Value) (hw : ∀ d ∈ tables_1, d.before a0 Z = true) (ws : List Jvm.Cond) (r0 : Addr) (c1 : Addr) (f : Nat → Value) (ve0 : Int32) (ve1 : Int32) (h0 : Heap) (n0 : Nat) (Z0 : n0 ≤ h0.size) (F_e : Fld Z h0 r0 "com/example/throughfare/throughfare/simulation/Walkers" "exit" "[I" (.ref c1)) (A : Af Z h0 c1 .int 2 f) (hf0 : f 0 = .int ve0) (hf1 : f 1 = .int ve1) :
    MetFree l (⟨"com/example/throughfare/throughfare/simulation/Walkers", "anyoneInside", "()Z"⟩ : MethodName) (head1 (Jvm.Cond.code (⟨"com/example/throughfare/throughfare/simulation/Walkers", "anyoneInside", "()Z"⟩ : MethodName) prog_63_method_3_code 5 (some .boolean) :: ws) ({ frames := 0, cells := 0, slots := 0, locals := 0 } : Room)) (fun a U => a = #[(.ref r0)] ∧ Z.Warmed39 U.vm ∧ U.heap = h0) (fun _ _ _ _ _ => True) (fun _ U o U' => ∃ v L, o = .returned v ∧ Q5_2 Z r0 c1 f ve0 ve1 h0 n0 v U'.heap L ∧ FrameEnd U o U' L ({ frames := 0, cells := 0, slots := 0, locals := 0 } : Room).cells ({ frames := 0, cells := 0, slots := 0, locals := 0 } : Room).slots) := by
  refine MetFree.of_bodySF (plainFor_of_name own_pn_rm5_2) hisR ?_
  intro p e s m args below meth cO s₁ Bd hml0 hP hK
  obtain ⟨rfl, hZ, hh⟩ := hP
  have hx := Bd.exec
  have hby := Bd.bytes
  have hml : cO.maxLocals = 5 := hml0
  have hown : s.vm.findClass "com/example/throughfare/throughfare/simulation/Walkers" = some m.cls := findClass_of_methodNamed Bd.named
  have hnm := (name_of_methodNamed Bd.named Bd.method).1
  have hlk : meth.locks = false := BodyLoose.notSynchronized Bd
  have X0 : Stand p l e ({ frames := 0, cells := 0, slots := 0, locals := 0 } : Room) s m #[(.ref r0)] below meth cO s₁ [] 0 0 := Stand.of_body Bd
  have e0 : s₁.heap = h0 := by rw [← hh, Bd.state]; rfl
  have N0 := Fr.nil n0
  refine own_in (own_ef_rm5_2 m r0) ?_
  show Gm p e below s₁ m 0 #[rv r0, .unset, .unset, .unset, .unset] [] _
  refine own_go (fun t₀ k₀ => XS.aloadN X0.here hx rfl (Jvm.hb hby d5_0) rfl rfl k₀) ?_
  show Gm p e below s₁ m 1 #[rv r0, .unset, .unset, .unset, .unset] [(.ref r0)] _
  obtain ⟨T1, X1, e1, st1⟩ := getF X0 hx hZ hown (host := "") (Or.inl (hw _ (List.mem_of_getElem? (i := 38) rfl))) Via.refl e0 F_e (g := (mkF m 1 #[rv r0, .unset, .unset, .unset, .unset] [(.ref r0)])) rfl rfl (Jvm.hb hby d5_1)
  refine own_go st1 ?_
  show Gm p e below T1 m 4 #[rv r0, .unset, .unset, .unset, .unset] [(.ref c1)] _
  refine own_go (fun t₀ k₀ => XS.astoreN X1.here hx rfl (Jvm.hb hby d5_4) rfl rfl (l' := #[rv r0, rv c1, .unset, .unset, .unset]) rfl k₀) ?_
  show Gm p e below T1 m 5 #[rv r0, rv c1, .unset, .unset, .unset] [] _
  refine own_go (fun t₀ k₀ => XS.aloadN X1.here hx rfl (Jvm.hb hby d5_5) rfl rfl k₀) ?_
  show Gm p e below T1 m 6 #[rv r0, rv c1, .unset, .unset, .unset] [(.ref c1)] _
  refine own_go (fun t₀ k₀ => own_len X1 hx hZ e1 A (z := (2 : Int32)) rfl (g := (mkF m 6 #[rv r0, rv c1, .unset, .unset, .unset] [(.ref c1)])) rfl rfl (Jvm.hb hby d5_6) k₀) ?_
  show Gm p e below T1 m 7 #[rv r0, rv c1, .unset, .unset, .unset] [(.int (2 : Int32))] _
  refine own_go (fun t₀ k₀ => XS.istoreN X1.here hx rfl (Jvm.hb hby d5_7) rfl (l' := #[rv r0, rv c1, iv (2 : Int32), .unset, .unset]) rfl k₀) ?_
  show Gm p e below T1 m 8 #[rv r0, rv c1, iv (2 : Int32), .unset, .unset] [] _
  refine own_go (fun t₀ k₀ => XS.iconst X1.here hx rfl (Jvm.hb hby d5_8) k₀) ?_
  show Gm p e below T1 m 9 #[rv r0, rv c1, iv (2 : Int32), .unset, .unset] [(.int (0 : Int32))] _
  refine own_go (fun t₀ k₀ => XS.istoreN X1.here hx rfl (Jvm.hb hby d5_9) rfl (l' := #[rv r0, rv c1, iv (2 : Int32), iv (0 : Int32), .unset]) rfl k₀) ?_
  show Gm p e below T1 m 10 #[rv r0, rv c1, iv (2 : Int32), iv (0 : Int32), .unset] [] _
  refine own_go (fun t₀ k₀ => XS.iloadN X1.here hx rfl (Jvm.hb hby d5_10) rfl k₀) ?_
  show Gm p e below T1 m 11 #[rv r0, rv c1, iv (2 : Int32), iv (0 : Int32), .unset] [(.int (0 : Int32))] _
  refine own_go (fun t₀ k₀ => XS.iloadN X1.here hx rfl (Jvm.hb hby d5_11) rfl k₀) ?_
  show Gm p e below T1 m 12 #[rv r0, rv c1, iv (2 : Int32), iv (0 : Int32), .unset] [(.int (2 : Int32)), (.int (0 : Int32))] _
  refine own_go (fun t₀ k₀ => XS.icmpNo X1.here hx rfl (Jvm.hb hby d5_12) rfl (XT.ii_ge_f (by decide)) k₀) ?_
  show Gm p e below T1 m 15 #[rv r0, rv c1, iv (2 : Int32), iv (0 : Int32), .unset] [] _
  refine own_go (fun t₀ k₀ => XS.aloadN X1.here hx rfl (Jvm.hb hby d5_15) rfl rfl k₀) ?_
  show Gm p e below T1 m 16 #[rv r0, rv c1, iv (2 : Int32), iv (0 : Int32), .unset] [(.ref c1)] _
  refine own_go (fun t₀ k₀ => XS.iloadN X1.here hx rfl (Jvm.hb hby d5_16) rfl k₀) ?_
  show Gm p e below T1 m 17 #[rv r0, rv c1, iv (2 : Int32), iv (0 : Int32), .unset] [(.int (0 : Int32)), (.ref c1)] _
  refine own_go (fun t₀ k₀ => own_ldI X1 hx hZ e1 A (j := (0 : Int32)) (k := 0) (by decide) rfl (by decide) (w := (.int ve0)) hf0 (g := (mkF m 17 #[rv r0, rv c1, iv (2 : Int32), iv (0 : Int32), .unset] [(.int (0 : Int32)), (.ref c1)])) rfl rfl (Jvm.hb hby d5_17) k₀) ?_
  show Gm p e below T1 m 18 #[rv r0, rv c1, iv (2 : Int32), iv (0 : Int32), .unset] [(.int ve0)] _
  refine own_go (fun t₀ k₀ => XS.istore X1.here hx rfl (Jvm.hb hby d5_18) rfl (l' := #[rv r0, rv c1, iv (2 : Int32), iv (0 : Int32), iv ve0]) rfl k₀) ?_
  show Gm p e below T1 m 20 #[rv r0, rv c1, iv (2 : Int32), iv (0 : Int32), iv ve0] [] _
  refine own_go (fun t₀ k₀ => XS.iload X1.here hx rfl (Jvm.hb hby d5_20) rfl k₀) ?_
  show Gm p e below T1 m 22 #[rv r0, rv c1, iv (2 : Int32), iv (0 : Int32), iv ve0] [(.int ve0)] _
  by_cases c2 : ve0 < (0 : Int32)
  · have hfork := trivial
    refine own_go (fun t₀ k₀ => XS.ifNo X1.here hx rfl (Jvm.hb hby d5_22) rfl (XT.i0_ge_f c2) k₀) ?_
    show Gm p e below T1 m 25 #[rv r0, rv c1, iv (2 : Int32), iv (0 : Int32), iv ve0] [] _
    refine own_go (fun t₀ k₀ => XS.iconst X1.here hx rfl (Jvm.hb hby d5_25) k₀) ?_
    show Gm p e below T1 m 26 #[rv r0, rv c1, iv (2 : Int32), iv (0 : Int32), iv ve0] [(.int (1 : Int32))] _
    exact own_retI X1 hx hlk (t := .boolean) Bd.returns rfl (by simp) (Jvm.hb hby d5_26) e1 ⟨(by unfold fA2; rw [if_pos c2]), N0, rfl⟩ (by decide) (by decide)
  · have hfork := trivial
    refine own_go (fun t₀ k₀ => XS.ifYes X1.here hx rfl (pc0 := 22) (pc' := 27) rfl (Jvm.hb hby d5_22) rfl (XT.i0_ge_t c2) (by decide) (by decide) k₀) ?_
    show Gm p e below T1 m 27 #[rv r0, rv c1, iv (2 : Int32), iv (0 : Int32), iv ve0] [] _
    refine own_go (fun t₀ k₀ => XS.iinc X1.here hx rfl (Jvm.hb hby d5_27) rfl (l' := #[rv r0, rv c1, iv (2 : Int32), iv (1 : Int32), iv ve0]) rfl k₀) ?_
    show Gm p e below T1 m 30 #[rv r0, rv c1, iv (2 : Int32), iv (1 : Int32), iv ve0] [] _
    refine own_go (fun t₀ k₀ => XS.goto X1.here hx rfl (pc0 := 30) (pc' := 10) rfl (Jvm.hb hby d5_30) (by decide) (by decide) k₀) ?_
    show Gm p e below T1 m 10 #[rv r0, rv c1, iv (2 : Int32), iv (1 : Int32), iv ve0] [] _
    refine own_go (fun t₀ k₀ => XS.iloadN X1.here hx rfl (Jvm.hb hby d5_10) rfl k₀) ?_
    show Gm p e below T1 m 11 #[rv r0, rv c1, iv (2 : Int32), iv (1 : Int32), iv ve0] [(.int (1 : Int32))] _
    refine own_go (fun t₀ k₀ => XS.iloadN X1.here hx rfl (Jvm.hb hby d5_11) rfl k₀) ?_
    show Gm p e below T1 m 12 #[rv r0, rv c1, iv (2 : Int32), iv (1 : Int32), iv ve0] [(.int (2 : Int32)), (.int (1 : Int32))] _
    refine own_go (fun t₀ k₀ => XS.icmpNo X1.here hx rfl (Jvm.hb hby d5_12) rfl (XT.ii_ge_f (by decide)) k₀) ?_
    show Gm p e below T1 m 15 #[rv r0, rv c1, iv (2 : Int32), iv (1 : Int32), iv ve0] [] _
    refine own_go (fun t₀ k₀ => XS.aloadN X1.here hx rfl (Jvm.hb hby d5_15) rfl rfl k₀) ?_
    show Gm p e below T1 m 16 #[rv r0, rv c1, iv (2 : Int32), iv (1 : Int32), iv ve0] [(.ref c1)] _
    refine own_go (fun t₀ k₀ => XS.iloadN X1.here hx rfl (Jvm.hb hby d5_16) rfl k₀) ?_
    show Gm p e below T1 m 17 #[rv r0, rv c1, iv (2 : Int32), iv (1 : Int32), iv ve0] [(.int (1 : Int32)), (.ref c1)] _
    refine own_go (fun t₀ k₀ => own_ldI X1 hx hZ e1 A (j := (1 : Int32)) (k := 1) (by decide) rfl (by decide) (w := (.int ve1)) hf1 (g := (mkF m 17 #[rv r0, rv c1, iv (2 : Int32), iv (1 : Int32), iv ve0] [(.int (1 : Int32)), (.ref c1)])) rfl rfl (Jvm.hb hby d5_17) k₀) ?_
    show Gm p e below T1 m 18 #[rv r0, rv c1, iv (2 : Int32), iv (1 : Int32), iv ve0] [(.int ve1)] _
    refine own_go (fun t₀ k₀ => XS.istore X1.here hx rfl (Jvm.hb hby d5_18) rfl (l' := #[rv r0, rv c1, iv (2 : Int32), iv (1 : Int32), iv ve1]) rfl k₀) ?_
    show Gm p e below T1 m 20 #[rv r0, rv c1, iv (2 : Int32), iv (1 : Int32), iv ve1] [] _
    refine own_go (fun t₀ k₀ => XS.iload X1.here hx rfl (Jvm.hb hby d5_20) rfl k₀) ?_
    show Gm p e below T1 m 22 #[rv r0, rv c1, iv (2 : Int32), iv (1 : Int32), iv ve1] [(.int ve1)] _
    by_cases c3 : ve1 < (0 : Int32)
    · have hfork := trivial
      refine own_go (fun t₀ k₀ => XS.ifNo X1.here hx rfl (Jvm.hb hby d5_22) rfl (XT.i0_ge_f c3) k₀) ?_
      show Gm p e below T1 m 25 #[rv r0, rv c1, iv (2 : Int32), iv (1 : Int32), iv ve1] [] _
      refine own_go (fun t₀ k₀ => XS.iconst X1.here hx rfl (Jvm.hb hby d5_25) k₀) ?_
      show Gm p e below T1 m 26 #[rv r0, rv c1, iv (2 : Int32), iv (1 : Int32), iv ve1] [(.int (1 : Int32))] _
      exact own_retI X1 hx hlk (t := .boolean) Bd.returns rfl (by simp) (Jvm.hb hby d5_26) e1 ⟨(by unfold fA2; rw [if_neg c2, if_pos c3]), N0, rfl⟩ (by decide) (by decide)
    · have hfork := trivial
      refine own_go (fun t₀ k₀ => XS.ifYes X1.here hx rfl (pc0 := 22) (pc' := 27) rfl (Jvm.hb hby d5_22) rfl (XT.i0_ge_t c3) (by decide) (by decide) k₀) ?_
      show Gm p e below T1 m 27 #[rv r0, rv c1, iv (2 : Int32), iv (1 : Int32), iv ve1] [] _
      refine own_go (fun t₀ k₀ => XS.iinc X1.here hx rfl (Jvm.hb hby d5_27) rfl (l' := #[rv r0, rv c1, iv (2 : Int32), iv (2 : Int32), iv ve1]) rfl k₀) ?_
      show Gm p e below T1 m 30 #[rv r0, rv c1, iv (2 : Int32), iv (2 : Int32), iv ve1] [] _
      refine own_go (fun t₀ k₀ => XS.goto X1.here hx rfl (pc0 := 30) (pc' := 10) rfl (Jvm.hb hby d5_30) (by decide) (by decide) k₀) ?_
      show Gm p e below T1 m 10 #[rv r0, rv c1, iv (2 : Int32), iv (2 : Int32), iv ve1] [] _
      refine own_go (fun t₀ k₀ => XS.iloadN X1.here hx rfl (Jvm.hb hby d5_10) rfl k₀) ?_
      show Gm p e below T1 m 11 #[rv r0, rv c1, iv (2 : Int32), iv (2 : Int32), iv ve1] [(.int (2 : Int32))] _
      refine own_go (fun t₀ k₀ => XS.iloadN X1.here hx rfl (Jvm.hb hby d5_11) rfl k₀) ?_
      show Gm p e below T1 m 12 #[rv r0, rv c1, iv (2 : Int32), iv (2 : Int32), iv ve1] [(.int (2 : Int32)), (.int (2 : Int32))] _
      refine own_go (fun t₀ k₀ => XS.icmpYes X1.here hx rfl (pc0 := 12) (pc' := 33) rfl (Jvm.hb hby d5_12) rfl (XT.ii_ge_t (by decide)) (by decide) (by decide) k₀) ?_
      show Gm p e below T1 m 33 #[rv r0, rv c1, iv (2 : Int32), iv (2 : Int32), iv ve1] [] _
      refine own_go (fun t₀ k₀ => XS.iconst X1.here hx rfl (Jvm.hb hby d5_33) k₀) ?_
      show Gm p e below T1 m 34 #[rv r0, rv c1, iv (2 : Int32), iv (2 : Int32), iv ve1] [(.int (0 : Int32))] _
      exact own_retI X1 hx hlk (t := .boolean) Bd.returns rfl (by simp) (Jvm.hb hby d5_34) e1 ⟨(by unfold fA2; rw [if_neg c2, if_neg c3]), N0, rfl⟩ (by decide) (by decide)
theorem own_pn_rm3_3 : plainName "java/util/Arrays" = true := by first | (simp [plainName, overriddenIn]; done) | decide +kernel
theorem own_ef_rm3_3 (m : MethodId) (r0 : Addr) (x1 : UInt64) : entryFrame m #[(.ref r0), (.double x1)] 5 = mkF m 0 #[.val (.ref r0), .val (.double x1), .second, .unset, .unset] [] := by first | (simp [entryFrame, mkF, argsToLocals, Value.category]; done) | rfl
def Q3_3 (Z : State) (r0 : Addr) (x1 : UInt64) (f : Nat → Value) (h0 : Heap) (n0 : Nat) (v : Option Value) (h : Heap) (L : List Loc) : Prop := v = none ∧ Fr n0 L ∧ Keep h0 h [r0] ∧ ∃ f', Af Z h r0 .double 3 f'
set_option maxRecDepth 65536 in
set_option maxHeartbeats 40000000 in
theorem rm3_3 (l : Launch) (Z : State) (a0 : Array Value) (hw : ∀ d ∈ tables_1, d.before a0 Z = true) (ws : List Jvm.Cond) (r0 : Addr) (x1 : UInt64) (f : Nat → Value) (h0 : Heap) (n0 : Nat) (Z0 : n0 ≤ h0.size) (A : Af Z h0 r0 .double 3 f) (g_r0 : n0 ≤ r0) :
    MetFree l (⟨"java/util/Arrays", "fill", "([DD)V"⟩ : MethodName) (head1 (Jvm.Cond.code (⟨"java/util/Arrays", "fill", "([DD)V"⟩ : MethodName) jdk_65_method_113_code 5 none :: ws) ({ frames := 0, cells := 0, slots := 0, locals := 0 } : Room)) (fun a U => a = #[(.ref r0), (.double x1)] ∧ Z.Warmed39 U.vm ∧ U.heap = h0) (fun _ _ _ _ _ => True) (fun _ U o U' => ∃ v L, o = .returned v ∧ Q3_3 Z r0 x1 f h0 n0 v U'.heap L ∧ FrameEnd U o U' L ({ frames := 0, cells := 0, slots := 0, locals := 0 } : Room).cells ({ frames := 0, cells := 0, slots := 0, locals := 0 } : Room).slots) := by
  refine MetFree.of_bodySF (plainFor_of_name own_pn_rm3_3) hisR ?_
  intro p e s m args below meth cO s₁ Bd hml0 hP hK
  obtain ⟨rfl, hZ, hh⟩ := hP
  have hx := Bd.exec
  have hby := Bd.bytes
  have hml : cO.maxLocals = 5 := hml0
  have hown : s.vm.findClass "java/util/Arrays" = some m.cls := findClass_of_methodNamed Bd.named
  have hnm := (name_of_methodNamed Bd.named Bd.method).1
  have hlk : meth.locks = false := BodyLoose.notSynchronized Bd
  have X0 : Stand p l e ({ frames := 0, cells := 0, slots := 0, locals := 0 } : Room) s m #[(.ref r0), (.double x1)] below meth cO s₁ [] 0 0 := Stand.of_body Bd
  have e0 : s₁.heap = h0 := by rw [← hh, Bd.state]; rfl
  have N0 := Fr.nil n0
  refine own_in (own_ef_rm3_3 m r0 x1) ?_
  show Gm p e below s₁ m 0 #[rv r0, .val (.double x1), .second, .unset, .unset] [] _
  refine own_go (fun t₀ k₀ => XS.iconst X0.here hx rfl (Jvm.hb hby d3_0) k₀) ?_
  show Gm p e below s₁ m 1 #[rv r0, .val (.double x1), .second, .unset, .unset] [(.int (0 : Int32))] _
  refine own_go (fun t₀ k₀ => XS.istoreN X0.here hx rfl (Jvm.hb hby d3_1) rfl (l' := #[rv r0, .val (.double x1), .second, iv (0 : Int32), .unset]) rfl k₀) ?_
  show Gm p e below s₁ m 2 #[rv r0, .val (.double x1), .second, iv (0 : Int32), .unset] [] _
  refine own_go (fun t₀ k₀ => XS.aloadN X0.here hx rfl (Jvm.hb hby d3_2) rfl rfl k₀) ?_
  show Gm p e below s₁ m 3 #[rv r0, .val (.double x1), .second, iv (0 : Int32), .unset] [(.ref r0)] _
  refine own_go (fun t₀ k₀ => own_len X0 hx hZ e0 A (z := (3 : Int32)) rfl (g := (mkF m 3 #[rv r0, .val (.double x1), .second, iv (0 : Int32), .unset] [(.ref r0)])) rfl rfl (Jvm.hb hby d3_3) k₀) ?_
  show Gm p e below s₁ m 4 #[rv r0, .val (.double x1), .second, iv (0 : Int32), .unset] [(.int (3 : Int32))] _
  refine own_go (fun t₀ k₀ => XS.istore X0.here hx rfl (Jvm.hb hby d3_4) rfl (l' := #[rv r0, .val (.double x1), .second, iv (0 : Int32), iv (3 : Int32)]) rfl k₀) ?_
  show Gm p e below s₁ m 6 #[rv r0, .val (.double x1), .second, iv (0 : Int32), iv (3 : Int32)] [] _
  refine own_go (fun t₀ k₀ => XS.iloadN X0.here hx rfl (Jvm.hb hby d3_6) rfl k₀) ?_
  show Gm p e below s₁ m 7 #[rv r0, .val (.double x1), .second, iv (0 : Int32), iv (3 : Int32)] [(.int (0 : Int32))] _
  refine own_go (fun t₀ k₀ => XS.iload X0.here hx rfl (Jvm.hb hby d3_7) rfl k₀) ?_
  show Gm p e below s₁ m 9 #[rv r0, .val (.double x1), .second, iv (0 : Int32), iv (3 : Int32)] [(.int (3 : Int32)), (.int (0 : Int32))] _
  refine own_go (fun t₀ k₀ => XS.icmpNo X0.here hx rfl (Jvm.hb hby d3_9) rfl (XT.ii_ge_f (by decide)) k₀) ?_
  show Gm p e below s₁ m 12 #[rv r0, .val (.double x1), .second, iv (0 : Int32), iv (3 : Int32)] [] _
  refine own_go (fun t₀ k₀ => XS.aloadN X0.here hx rfl (Jvm.hb hby d3_12) rfl rfl k₀) ?_
  show Gm p e below s₁ m 13 #[rv r0, .val (.double x1), .second, iv (0 : Int32), iv (3 : Int32)] [(.ref r0)] _
  refine own_go (fun t₀ k₀ => XS.iloadN X0.here hx rfl (Jvm.hb hby d3_13) rfl k₀) ?_
  show Gm p e below s₁ m 14 #[rv r0, .val (.double x1), .second, iv (0 : Int32), iv (3 : Int32)] [(.int (0 : Int32)), (.ref r0)] _
  refine own_go (fun t₀ k₀ => XS.dloadN X0.here hx rfl (Jvm.hb hby d3_14) rfl k₀) ?_
  show Gm p e below s₁ m 15 #[rv r0, .val (.double x1), .second, iv (0 : Int32), iv (3 : Int32)] [(.double x1), (.int (0 : Int32)), (.ref r0)] _
  obtain ⟨T1, h1, X1, e1, W1, A1, st1⟩ := own_stD X0 hx hZ e0 A (j := (0 : Int32)) (k := 0) (by decide) rfl (by decide) (g := (mkF m 15 #[rv r0, .val (.double x1), .second, iv (0 : Int32), iv (3 : Int32)] [(.double x1), (.int (0 : Int32)), (.ref r0)])) rfl rfl (Jvm.hb hby d3_15)
  have N1 := Fr.snoc X1 N0 g_r0
  have Z1 : n0 ≤ h1.size := W1.size ▸ Z0
  have K1 : Keep h0 h1 [r0] := Keep.wr (Keep.refl h0 [r0]) W1 (Or.inl (List.mem_of_getElem? (i := 0) rfl))
  refine own_go st1 ?_
  show Gm p e below T1 m 16 #[rv r0, .val (.double x1), .second, iv (0 : Int32), iv (3 : Int32)] [] _
  refine own_go (fun t₀ k₀ => XS.iinc X1.here hx rfl (Jvm.hb hby d3_16) rfl (l' := #[rv r0, .val (.double x1), .second, iv (1 : Int32), iv (3 : Int32)]) rfl k₀) ?_
  show Gm p e below T1 m 19 #[rv r0, .val (.double x1), .second, iv (1 : Int32), iv (3 : Int32)] [] _
  refine own_go (fun t₀ k₀ => XS.goto X1.here hx rfl (pc0 := 19) (pc' := 6) rfl (Jvm.hb hby d3_19) (by decide) (by decide) k₀) ?_
  show Gm p e below T1 m 6 #[rv r0, .val (.double x1), .second, iv (1 : Int32), iv (3 : Int32)] [] _
  refine own_go (fun t₀ k₀ => XS.iloadN X1.here hx rfl (Jvm.hb hby d3_6) rfl k₀) ?_
  show Gm p e below T1 m 7 #[rv r0, .val (.double x1), .second, iv (1 : Int32), iv (3 : Int32)] [(.int (1 : Int32))] _
  refine own_go (fun t₀ k₀ => XS.iload X1.here hx rfl (Jvm.hb hby d3_7) rfl k₀) ?_
  show Gm p e below T1 m 9 #[rv r0, .val (.double x1), .second, iv (1 : Int32), iv (3 : Int32)] [(.int (3 : Int32)), (.int (1 : Int32))] _
  refine own_go (fun t₀ k₀ => XS.icmpNo X1.here hx rfl (Jvm.hb hby d3_9) rfl (XT.ii_ge_f (by decide)) k₀) ?_
  show Gm p e below T1 m 12 #[rv r0, .val (.double x1), .second, iv (1 : Int32), iv (3 : Int32)] [] _
  refine own_go (fun t₀ k₀ => XS.aloadN X1.here hx rfl (Jvm.hb hby d3_12) rfl rfl k₀) ?_
  show Gm p e below T1 m 13 #[rv r0, .val (.double x1), .second, iv (1 : Int32), iv (3 : Int32)] [(.ref r0)] _
  refine own_go (fun t₀ k₀ => XS.iloadN X1.here hx rfl (Jvm.hb hby d3_13) rfl k₀) ?_
  show Gm p e below T1 m 14 #[rv r0, .val (.double x1), .second, iv (1 : Int32), iv (3 : Int32)] [(.int (1 : Int32)), (.ref r0)] _
  refine own_go (fun t₀ k₀ => XS.dloadN X1.here hx rfl (Jvm.hb hby d3_14) rfl k₀) ?_
  show Gm p e below T1 m 15 #[rv r0, .val (.double x1), .second, iv (1 : Int32), iv (3 : Int32)] [(.double x1), (.int (1 : Int32)), (.ref r0)] _
  obtain ⟨T2, h2, X2, e2, W2, A2, st2⟩ := own_stD X1 hx hZ e1 A1 (j := (1 : Int32)) (k := 1) (by decide) rfl (by decide) (g := (mkF m 15 #[rv r0, .val (.double x1), .second, iv (1 : Int32), iv (3 : Int32)] [(.double x1), (.int (1 : Int32)), (.ref r0)])) rfl rfl (Jvm.hb hby d3_15)
  have N2 := Fr.snoc X2 N1 g_r0
  have Z2 : n0 ≤ h2.size := W2.size ▸ Z1
  have K2 : Keep h0 h2 [r0] := Keep.wr K1 W2 (Or.inl (List.mem_of_getElem? (i := 0) rfl))
  refine own_go st2 ?_
  show Gm p e below T2 m 16 #[rv r0, .val (.double x1), .second, iv (1 : Int32), iv (3 : Int32)] [] _
  refine own_go (fun t₀ k₀ => XS.iinc X2.here hx rfl (Jvm.hb hby d3_16) rfl (l' := #[rv r0, .val (.double x1), .second, iv (2 : Int32), iv (3 : Int32)]) rfl k₀) ?_
  show Gm p e below T2 m 19 #[rv r0, .val (.double x1), .second, iv (2 : Int32), iv (3 : Int32)] [] _
  refine own_go (fun t₀ k₀ => XS.goto X2.here hx rfl (pc0 := 19) (pc' := 6) rfl (Jvm.hb hby d3_19) (by decide) (by decide) k₀) ?_
  show Gm p e below T2 m 6 #[rv r0, .val (.double x1), .second, iv (2 : Int32), iv (3 : Int32)] [] _
  refine own_go (fun t₀ k₀ => XS.iloadN X2.here hx rfl (Jvm.hb hby d3_6) rfl k₀) ?_
  show Gm p e below T2 m 7 #[rv r0, .val (.double x1), .second, iv (2 : Int32), iv (3 : Int32)] [(.int (2 : Int32))] _
  refine own_go (fun t₀ k₀ => XS.iload X2.here hx rfl (Jvm.hb hby d3_7) rfl k₀) ?_
  show Gm p e below T2 m 9 #[rv r0, .val (.double x1), .second, iv (2 : Int32), iv (3 : Int32)] [(.int (3 : Int32)), (.int (2 : Int32))] _
  refine own_go (fun t₀ k₀ => XS.icmpNo X2.here hx rfl (Jvm.hb hby d3_9) rfl (XT.ii_ge_f (by decide)) k₀) ?_
  show Gm p e below T2 m 12 #[rv r0, .val (.double x1), .second, iv (2 : Int32), iv (3 : Int32)] [] _
  refine own_go (fun t₀ k₀ => XS.aloadN X2.here hx rfl (Jvm.hb hby d3_12) rfl rfl k₀) ?_
  show Gm p e below T2 m 13 #[rv r0, .val (.double x1), .second, iv (2 : Int32), iv (3 : Int32)] [(.ref r0)] _
  refine own_go (fun t₀ k₀ => XS.iloadN X2.here hx rfl (Jvm.hb hby d3_13) rfl k₀) ?_
  show Gm p e below T2 m 14 #[rv r0, .val (.double x1), .second, iv (2 : Int32), iv (3 : Int32)] [(.int (2 : Int32)), (.ref r0)] _
  refine own_go (fun t₀ k₀ => XS.dloadN X2.here hx rfl (Jvm.hb hby d3_14) rfl k₀) ?_
  show Gm p e below T2 m 15 #[rv r0, .val (.double x1), .second, iv (2 : Int32), iv (3 : Int32)] [(.double x1), (.int (2 : Int32)), (.ref r0)] _
  obtain ⟨T3, h3, X3, e3, W3, A3, st3⟩ := own_stD X2 hx hZ e2 A2 (j := (2 : Int32)) (k := 2) (by decide) rfl (by decide) (g := (mkF m 15 #[rv r0, .val (.double x1), .second, iv (2 : Int32), iv (3 : Int32)] [(.double x1), (.int (2 : Int32)), (.ref r0)])) rfl rfl (Jvm.hb hby d3_15)
  have N3 := Fr.snoc X3 N2 g_r0
  have Z3 : n0 ≤ h3.size := W3.size ▸ Z2
  have K3 : Keep h0 h3 [r0] := Keep.wr K2 W3 (Or.inl (List.mem_of_getElem? (i := 0) rfl))
  refine own_go st3 ?_
  show Gm p e below T3 m 16 #[rv r0, .val (.double x1), .second, iv (2 : Int32), iv (3 : Int32)] [] _
  refine own_go (fun t₀ k₀ => XS.iinc X3.here hx rfl (Jvm.hb hby d3_16) rfl (l' := #[rv r0, .val (.double x1), .second, iv (3 : Int32), iv (3 : Int32)]) rfl k₀) ?_
  show Gm p e below T3 m 19 #[rv r0, .val (.double x1), .second, iv (3 : Int32), iv (3 : Int32)] [] _
  refine own_go (fun t₀ k₀ => XS.goto X3.here hx rfl (pc0 := 19) (pc' := 6) rfl (Jvm.hb hby d3_19) (by decide) (by decide) k₀) ?_
  show Gm p e below T3 m 6 #[rv r0, .val (.double x1), .second, iv (3 : Int32), iv (3 : Int32)] [] _
  refine own_go (fun t₀ k₀ => XS.iloadN X3.here hx rfl (Jvm.hb hby d3_6) rfl k₀) ?_
  show Gm p e below T3 m 7 #[rv r0, .val (.double x1), .second, iv (3 : Int32), iv (3 : Int32)] [(.int (3 : Int32))] _
  refine own_go (fun t₀ k₀ => XS.iload X3.here hx rfl (Jvm.hb hby d3_7) rfl k₀) ?_
  show Gm p e below T3 m 9 #[rv r0, .val (.double x1), .second, iv (3 : Int32), iv (3 : Int32)] [(.int (3 : Int32)), (.int (3 : Int32))] _
  refine own_go (fun t₀ k₀ => XS.icmpYes X3.here hx rfl (pc0 := 9) (pc' := 22) rfl (Jvm.hb hby d3_9) rfl (XT.ii_ge_t (by decide)) (by decide) (by decide) k₀) ?_
  show Gm p e below T3 m 22 #[rv r0, .val (.double x1), .second, iv (3 : Int32), iv (3 : Int32)] [] _
  exact own_retV X3 hx hlk Bd.returns (Jvm.hb hby d3_22) e3 ⟨rfl, N3, K3, _, A3⟩ (by decide) (by decide)
theorem own_pn_rm4_3 : plainName "java/util/Arrays" = true := by first | (simp [plainName, overriddenIn]; done) | decide +kernel
theorem own_ef_rm4_3 (m : MethodId) (r0 : Addr) (p1 : Int32) : entryFrame m #[(.ref r0), (.int p1)] 4 = mkF m 0 #[.val (.ref r0), .val (.int p1), .unset, .unset] [] := by first | (simp [entryFrame, mkF, argsToLocals, Value.category]; done) | rfl
def Q4_3 (Z : State) (r0 : Addr) (p1 : Int32) (f : Nat → Value) (h0 : Heap) (n0 : Nat) (v : Option Value) (h : Heap) (L : List Loc) : Prop := v = none ∧ Fr n0 L ∧ Keep h0 h [r0] ∧ Af Z h r0 .int 3 (fun _ => .int p1)
set_option maxRecDepth 65536 in
set_option maxHeartbeats 40000000 in
theorem rm4_3 (l : Launch) (Z : State) (a0 : Array Value) (hw : ∀ d ∈ tables_1, d.before a0 Z = true) (ws : List Jvm.Cond) (r0 : Addr) (p1 : Int32) (f : Nat → Value) (h0 : Heap) (n0 : Nat) (Z0 : n0 ≤ h0.size) (A : Af Z h0 r0 .int 3 f) (g_r0 : n0 ≤ r0) :
    MetFree l (⟨"java/util/Arrays", "fill", "([II)V"⟩ : MethodName) (head1 (Jvm.Cond.code (⟨"java/util/Arrays", "fill", "([II)V"⟩ : MethodName) jdk_65_method_103_code 4 none :: ws) ({ frames := 0, cells := 0, slots := 0, locals := 0 } : Room)) (fun a U => a = #[(.ref r0), (.int p1)] ∧ Z.Warmed39 U.vm ∧ U.heap = h0) (fun _ _ _ _ _ => True) (fun _ U o U' => ∃ v L, o = .returned v ∧ Q4_3 Z r0 p1 f h0 n0 v U'.heap L ∧ FrameEnd U o U' L ({ frames := 0, cells := 0, slots := 0, locals := 0 } : Room).cells ({ frames := 0, cells := 0, slots := 0, locals := 0 } : Room).slots) := by
  refine MetFree.of_bodySF (plainFor_of_name own_pn_rm4_3) hisR ?_
  intro p e s m args below meth cO s₁ Bd hml0 hP hK
  obtain ⟨rfl, hZ, hh⟩ := hP
  have hx := Bd.exec
  have hby := Bd.bytes
  have hml : cO.maxLocals = 4 := hml0
  have hown : s.vm.findClass "java/util/Arrays" = some m.cls := findClass_of_methodNamed Bd.named
  have hnm := (name_of_methodNamed Bd.named Bd.method).1
  have hlk : meth.locks = false := BodyLoose.notSynchronized Bd
  have X0 : Stand p l e ({ frames := 0, cells := 0, slots := 0, locals := 0 } : Room) s m #[(.ref r0), (.int p1)] below meth cO s₁ [] 0 0 := Stand.of_body Bd
  have e0 : s₁.heap = h0 := by rw [← hh, Bd.state]; rfl
  have N0 := Fr.nil n0
  refine own_in (own_ef_rm4_3 m r0 p1) ?_
  show Gm p e below s₁ m 0 #[rv r0, iv p1, .unset, .unset] [] _
  refine own_go (fun t₀ k₀ => XS.iconst X0.here hx rfl (Jvm.hb hby d4_0) k₀) ?_
  show Gm p e below s₁ m 1 #[rv r0, iv p1, .unset, .unset] [(.int (0 : Int32))] _
  refine own_go (fun t₀ k₀ => XS.istoreN X0.here hx rfl (Jvm.hb hby d4_1) rfl (l' := #[rv r0, iv p1, iv (0 : Int32), .unset]) rfl k₀) ?_
  show Gm p e below s₁ m 2 #[rv r0, iv p1, iv (0 : Int32), .unset] [] _
  refine own_go (fun t₀ k₀ => XS.aloadN X0.here hx rfl (Jvm.hb hby d4_2) rfl rfl k₀) ?_
  show Gm p e below s₁ m 3 #[rv r0, iv p1, iv (0 : Int32), .unset] [(.ref r0)] _
  refine own_go (fun t₀ k₀ => own_len X0 hx hZ e0 A (z := (3 : Int32)) rfl (g := (mkF m 3 #[rv r0, iv p1, iv (0 : Int32), .unset] [(.ref r0)])) rfl rfl (Jvm.hb hby d4_3) k₀) ?_
  show Gm p e below s₁ m 4 #[rv r0, iv p1, iv (0 : Int32), .unset] [(.int (3 : Int32))] _
  refine own_go (fun t₀ k₀ => XS.istoreN X0.here hx rfl (Jvm.hb hby d4_4) rfl (l' := #[rv r0, iv p1, iv (0 : Int32), iv (3 : Int32)]) rfl k₀) ?_
  show Gm p e below s₁ m 5 #[rv r0, iv p1, iv (0 : Int32), iv (3 : Int32)] [] _
  refine own_go (fun t₀ k₀ => XS.iloadN X0.here hx rfl (Jvm.hb hby d4_5) rfl k₀) ?_
  show Gm p e below s₁ m 6 #[rv r0, iv p1, iv (0 : Int32), iv (3 : Int32)] [(.int (0 : Int32))] _
  refine own_go (fun t₀ k₀ => XS.iloadN X0.here hx rfl (Jvm.hb hby d4_6) rfl k₀) ?_
  show Gm p e below s₁ m 7 #[rv r0, iv p1, iv (0 : Int32), iv (3 : Int32)] [(.int (3 : Int32)), (.int (0 : Int32))] _
  refine own_go (fun t₀ k₀ => XS.icmpNo X0.here hx rfl (Jvm.hb hby d4_7) rfl (XT.ii_ge_f (by decide)) k₀) ?_
  show Gm p e below s₁ m 10 #[rv r0, iv p1, iv (0 : Int32), iv (3 : Int32)] [] _
  refine own_go (fun t₀ k₀ => XS.aloadN X0.here hx rfl (Jvm.hb hby d4_10) rfl rfl k₀) ?_
  show Gm p e below s₁ m 11 #[rv r0, iv p1, iv (0 : Int32), iv (3 : Int32)] [(.ref r0)] _
  refine own_go (fun t₀ k₀ => XS.iloadN X0.here hx rfl (Jvm.hb hby d4_11) rfl k₀) ?_
  show Gm p e below s₁ m 12 #[rv r0, iv p1, iv (0 : Int32), iv (3 : Int32)] [(.int (0 : Int32)), (.ref r0)] _
  refine own_go (fun t₀ k₀ => XS.iloadN X0.here hx rfl (Jvm.hb hby d4_12) rfl k₀) ?_
  show Gm p e below s₁ m 13 #[rv r0, iv p1, iv (0 : Int32), iv (3 : Int32)] [(.int p1), (.int (0 : Int32)), (.ref r0)] _
  obtain ⟨T1, h1, X1, e1, W1, A1, st1⟩ := own_stI X0 hx hZ e0 A (j := (0 : Int32)) (k := 0) (by decide) rfl (by decide) (g := (mkF m 13 #[rv r0, iv p1, iv (0 : Int32), iv (3 : Int32)] [(.int p1), (.int (0 : Int32)), (.ref r0)])) rfl rfl (Jvm.hb hby d4_13)
  have N1 := Fr.snoc X1 N0 g_r0
  have Z1 : n0 ≤ h1.size := W1.size ▸ Z0
  have K1 : Keep h0 h1 [r0] := Keep.wr (Keep.refl h0 [r0]) W1 (Or.inl (List.mem_of_getElem? (i := 0) rfl))
  refine own_go st1 ?_
  show Gm p e below T1 m 14 #[rv r0, iv p1, iv (0 : Int32), iv (3 : Int32)] [] _
  refine own_go (fun t₀ k₀ => XS.iinc X1.here hx rfl (Jvm.hb hby d4_14) rfl (l' := #[rv r0, iv p1, iv (1 : Int32), iv (3 : Int32)]) rfl k₀) ?_
  show Gm p e below T1 m 17 #[rv r0, iv p1, iv (1 : Int32), iv (3 : Int32)] [] _
  refine own_go (fun t₀ k₀ => XS.goto X1.here hx rfl (pc0 := 17) (pc' := 5) rfl (Jvm.hb hby d4_17) (by decide) (by decide) k₀) ?_
  show Gm p e below T1 m 5 #[rv r0, iv p1, iv (1 : Int32), iv (3 : Int32)] [] _
  refine own_go (fun t₀ k₀ => XS.iloadN X1.here hx rfl (Jvm.hb hby d4_5) rfl k₀) ?_
  show Gm p e below T1 m 6 #[rv r0, iv p1, iv (1 : Int32), iv (3 : Int32)] [(.int (1 : Int32))] _
  refine own_go (fun t₀ k₀ => XS.iloadN X1.here hx rfl (Jvm.hb hby d4_6) rfl k₀) ?_
  show Gm p e below T1 m 7 #[rv r0, iv p1, iv (1 : Int32), iv (3 : Int32)] [(.int (3 : Int32)), (.int (1 : Int32))] _
  refine own_go (fun t₀ k₀ => XS.icmpNo X1.here hx rfl (Jvm.hb hby d4_7) rfl (XT.ii_ge_f (by decide)) k₀) ?_
  show Gm p e below T1 m 10 #[rv r0, iv p1, iv (1 : Int32), iv (3 : Int32)] [] _
  refine own_go (fun t₀ k₀ => XS.aloadN X1.here hx rfl (Jvm.hb hby d4_10) rfl rfl k₀) ?_
  show Gm p e below T1 m 11 #[rv r0, iv p1, iv (1 : Int32), iv (3 : Int32)] [(.ref r0)] _
  refine own_go (fun t₀ k₀ => XS.iloadN X1.here hx rfl (Jvm.hb hby d4_11) rfl k₀) ?_
  show Gm p e below T1 m 12 #[rv r0, iv p1, iv (1 : Int32), iv (3 : Int32)] [(.int (1 : Int32)), (.ref r0)] _
  refine own_go (fun t₀ k₀ => XS.iloadN X1.here hx rfl (Jvm.hb hby d4_12) rfl k₀) ?_
  show Gm p e below T1 m 13 #[rv r0, iv p1, iv (1 : Int32), iv (3 : Int32)] [(.int p1), (.int (1 : Int32)), (.ref r0)] _
  obtain ⟨T2, h2, X2, e2, W2, A2, st2⟩ := own_stI X1 hx hZ e1 A1 (j := (1 : Int32)) (k := 1) (by decide) rfl (by decide) (g := (mkF m 13 #[rv r0, iv p1, iv (1 : Int32), iv (3 : Int32)] [(.int p1), (.int (1 : Int32)), (.ref r0)])) rfl rfl (Jvm.hb hby d4_13)
  have N2 := Fr.snoc X2 N1 g_r0
  have Z2 : n0 ≤ h2.size := W2.size ▸ Z1
  have K2 : Keep h0 h2 [r0] := Keep.wr K1 W2 (Or.inl (List.mem_of_getElem? (i := 0) rfl))
  refine own_go st2 ?_
  show Gm p e below T2 m 14 #[rv r0, iv p1, iv (1 : Int32), iv (3 : Int32)] [] _
  refine own_go (fun t₀ k₀ => XS.iinc X2.here hx rfl (Jvm.hb hby d4_14) rfl (l' := #[rv r0, iv p1, iv (2 : Int32), iv (3 : Int32)]) rfl k₀) ?_
  show Gm p e below T2 m 17 #[rv r0, iv p1, iv (2 : Int32), iv (3 : Int32)] [] _
  refine own_go (fun t₀ k₀ => XS.goto X2.here hx rfl (pc0 := 17) (pc' := 5) rfl (Jvm.hb hby d4_17) (by decide) (by decide) k₀) ?_
  show Gm p e below T2 m 5 #[rv r0, iv p1, iv (2 : Int32), iv (3 : Int32)] [] _
  refine own_go (fun t₀ k₀ => XS.iloadN X2.here hx rfl (Jvm.hb hby d4_5) rfl k₀) ?_
  show Gm p e below T2 m 6 #[rv r0, iv p1, iv (2 : Int32), iv (3 : Int32)] [(.int (2 : Int32))] _
  refine own_go (fun t₀ k₀ => XS.iloadN X2.here hx rfl (Jvm.hb hby d4_6) rfl k₀) ?_
  show Gm p e below T2 m 7 #[rv r0, iv p1, iv (2 : Int32), iv (3 : Int32)] [(.int (3 : Int32)), (.int (2 : Int32))] _
  refine own_go (fun t₀ k₀ => XS.icmpNo X2.here hx rfl (Jvm.hb hby d4_7) rfl (XT.ii_ge_f (by decide)) k₀) ?_
  show Gm p e below T2 m 10 #[rv r0, iv p1, iv (2 : Int32), iv (3 : Int32)] [] _
  refine own_go (fun t₀ k₀ => XS.aloadN X2.here hx rfl (Jvm.hb hby d4_10) rfl rfl k₀) ?_
  show Gm p e below T2 m 11 #[rv r0, iv p1, iv (2 : Int32), iv (3 : Int32)] [(.ref r0)] _
  refine own_go (fun t₀ k₀ => XS.iloadN X2.here hx rfl (Jvm.hb hby d4_11) rfl k₀) ?_
  show Gm p e below T2 m 12 #[rv r0, iv p1, iv (2 : Int32), iv (3 : Int32)] [(.int (2 : Int32)), (.ref r0)] _
  refine own_go (fun t₀ k₀ => XS.iloadN X2.here hx rfl (Jvm.hb hby d4_12) rfl k₀) ?_
  show Gm p e below T2 m 13 #[rv r0, iv p1, iv (2 : Int32), iv (3 : Int32)] [(.int p1), (.int (2 : Int32)), (.ref r0)] _
  obtain ⟨T3, h3, X3, e3, W3, A3, st3⟩ := own_stI X2 hx hZ e2 A2 (j := (2 : Int32)) (k := 2) (by decide) rfl (by decide) (g := (mkF m 13 #[rv r0, iv p1, iv (2 : Int32), iv (3 : Int32)] [(.int p1), (.int (2 : Int32)), (.ref r0)])) rfl rfl (Jvm.hb hby d4_13)
  have N3 := Fr.snoc X3 N2 g_r0
  have Z3 : n0 ≤ h3.size := W3.size ▸ Z2
  have K3 : Keep h0 h3 [r0] := Keep.wr K2 W3 (Or.inl (List.mem_of_getElem? (i := 0) rfl))
  refine own_go st3 ?_
  show Gm p e below T3 m 14 #[rv r0, iv p1, iv (2 : Int32), iv (3 : Int32)] [] _
  refine own_go (fun t₀ k₀ => XS.iinc X3.here hx rfl (Jvm.hb hby d4_14) rfl (l' := #[rv r0, iv p1, iv (3 : Int32), iv (3 : Int32)]) rfl k₀) ?_
  show Gm p e below T3 m 17 #[rv r0, iv p1, iv (3 : Int32), iv (3 : Int32)] [] _
  refine own_go (fun t₀ k₀ => XS.goto X3.here hx rfl (pc0 := 17) (pc' := 5) rfl (Jvm.hb hby d4_17) (by decide) (by decide) k₀) ?_
  show Gm p e below T3 m 5 #[rv r0, iv p1, iv (3 : Int32), iv (3 : Int32)] [] _
  refine own_go (fun t₀ k₀ => XS.iloadN X3.here hx rfl (Jvm.hb hby d4_5) rfl k₀) ?_
  show Gm p e below T3 m 6 #[rv r0, iv p1, iv (3 : Int32), iv (3 : Int32)] [(.int (3 : Int32))] _
  refine own_go (fun t₀ k₀ => XS.iloadN X3.here hx rfl (Jvm.hb hby d4_6) rfl k₀) ?_
  show Gm p e below T3 m 7 #[rv r0, iv p1, iv (3 : Int32), iv (3 : Int32)] [(.int (3 : Int32)), (.int (3 : Int32))] _
  refine own_go (fun t₀ k₀ => XS.icmpYes X3.here hx rfl (pc0 := 7) (pc' := 20) rfl (Jvm.hb hby d4_7) rfl (XT.ii_ge_t (by decide)) (by decide) (by decide) k₀) ?_
  show Gm p e below T3 m 20 #[rv r0, iv p1, iv (3 : Int32), iv (3 : Int32)] [] _
  exact own_retV X3 hx hlk Bd.returns (Jvm.hb hby d4_20) e3 ⟨rfl, N3, K3, (Af.congr A3 (fun i hi => by
      rcases (by omega : i = 0 ∨ i = 1 ∨ i = 2) with rfl | rfl | rfl <;> rfl))⟩ (by decide) (by decide)
theorem own_pn_rm1_3 : plainName "com/example/throughfare/throughfare/simulation/Walkers" = true := by first | (simp [plainName, overriddenIn]; done) | decide +kernel
theorem own_ef_rm1_3 (m : MethodId) (r0 : Addr) : entryFrame m #[(.ref r0), (.int (3 : Int32))] 2 = mkF m 0 #[.val (.ref r0), .val (.int (3 : Int32))] [] := by first | (simp [entryFrame, mkF, argsToLocals, Value.category]; done) | rfl
def Q1_3 (Z : State) (r0 : Addr) (h0 : Heap) (n0 : Nat) (v : Option Value) (h : Heap) (L : List Loc) : Prop := ∃ c_exit : Addr, v = none ∧ Fr n0 L ∧ Keep h0 h [r0] ∧ Exa Z h r0 "com/example/throughfare/throughfare/simulation/Walkers" ∧ h0.size ≤ c_exit ∧ Fld Z h r0 "com/example/throughfare/throughfare/simulation/Walkers" "exit" "[I" (.ref c_exit) ∧ Af Z h c_exit .int 3 (fun _ => (.int (-1 : Int32)))
set_option maxRecDepth 65536 in
set_option maxHeartbeats 40000000 in
theorem rm1_3 (l : Launch) (Z : State) (a0 : Array Value) (hw : ∀ d ∈ tables_1, d.before a0 Z = true) (ws : List Jvm.Cond) (r0 : Addr) (h0 : Heap) (n0 : Nat) (Z0 : n0 ≤ h0.size) (E_r0 : Exa Z h0 r0 "com/example/throughfare/throughfare/simulation/Walkers") (F_floor : Fld Z h0 r0 "com/example/throughfare/throughfare/simulation/Walkers" "floor" "[I" .null) (F_startCell : Fld Z h0 r0 "com/example/throughfare/throughfare/simulation/Walkers" "startCell" "[I" .null) (F_cell : Fld Z h0 r0 "com/example/throughfare/throughfare/simulation/Walkers" "cell" "[I" .null) (F_speedMps : Fld Z h0 r0 "com/example/throughfare/throughfare/simulation/Walkers" "speedMps" "[D" .null) (F_reactionS : Fld Z h0 r0 "com/example/throughfare/throughfare/simulation/Walkers" "reactionS" "[D" .null) (F_heading : Fld Z h0 r0 "com/example/throughfare/throughfare/simulation/Walkers" "heading" "[I" .null) (F_heldUpS : Fld Z h0 r0 "com/example/throughfare/throughfare/simulation/Walkers" "heldUpS" "[D" .null) (F_exitTimeS : Fld Z h0 r0 "com/example/throughfare/throughfare/simulation/Walkers" "exitTimeS" "[D" .null) (F_leaving : Fld Z h0 r0 "com/example/throughfare/throughfare/simulation/Walkers" "leaving" "[I" .null) (F_exit : Fld Z h0 r0 "com/example/throughfare/throughfare/simulation/Walkers" "exit" "[I" .null) (F_distanceM : Fld Z h0 r0 "com/example/throughfare/throughfare/simulation/Walkers" "distanceM" "[D" .null) (g_r0 : n0 ≤ r0) :
    MetFree l (⟨"com/example/throughfare/throughfare/simulation/Walkers", "<init>", "(I)V"⟩ : MethodName) (head1 (Jvm.Cond.code (⟨"com/example/throughfare/throughfare/simulation/Walkers", "<init>", "(I)V"⟩ : MethodName) prog_63_method_1_code 2 none :: ws) ({ frames := 1, cells := 11, slots := 33, locals := 20 } : Room)) (fun a U => a = #[(.ref r0), (.int (3 : Int32))] ∧ Z.Warmed39 U.vm ∧ U.heap = h0) (fun _ _ _ _ _ => True) (fun _ U o U' => ∃ v L, o = .returned v ∧ Q1_3 Z r0 h0 n0 v U'.heap L ∧ FrameEnd U o U' L ({ frames := 1, cells := 11, slots := 33, locals := 20 } : Room).cells ({ frames := 1, cells := 11, slots := 33, locals := 20 } : Room).slots) := by
  refine MetFree.of_bodySF (plainFor_of_name own_pn_rm1_3) hisR ?_
  intro p e s m args below meth cO s₁ Bd hml0 hP hK
  obtain ⟨rfl, hZ, hh⟩ := hP
  have hx := Bd.exec
  have hby := Bd.bytes
  have hml : cO.maxLocals = 2 := hml0
  have hown : s.vm.findClass "com/example/throughfare/throughfare/simulation/Walkers" = some m.cls := findClass_of_methodNamed Bd.named
  have hnm := (name_of_methodNamed Bd.named Bd.method).1
  have hlk : meth.locks = false := BodyLoose.notSynchronized Bd
  have X0 : Stand p l e ({ frames := 1, cells := 11, slots := 33, locals := 20 } : Room) s m #[(.ref r0), (.int (3 : Int32))] below meth cO s₁ [] 0 0 := Stand.of_body Bd
  have e0 : s₁.heap = h0 := by rw [← hh, Bd.state]; rfl
  have N0 := Fr.nil n0
  refine own_in (own_ef_rm1_3 m r0) ?_
  show Gm p e below s₁ m 0 #[rv r0, iv (3 : Int32)] [] _
  refine own_go (fun t₀ k₀ => XS.aloadN X0.here hx rfl (Jvm.hb hby d1_0) rfl rfl k₀) ?_
  show Gm p e below s₁ m 1 #[rv r0, iv (3 : Int32)] [(.ref r0)] _
  obtain ⟨T1, X1, e1, st1⟩ := initO X0 hx hZ hown (hw _ (List.mem_of_getElem? (i := 6) rfl)) (hw _ (List.mem_of_getElem? (i := 7) rfl)) (hw _ (List.mem_of_getElem? (i := 8) rfl)) e0 (g := (mkF m 1 #[rv r0, iv (3 : Int32)] [(.ref r0)])) rfl (by rw [hml]; rfl) rfl (Jvm.hb hby d1_1) (by decide) (W := 0) (by show 2 * 0 + _ ≤ _; exact Nat.le_of_eq rfl) (by decide)
  refine own_go st1 ?_
  show Gm p e below T1 m 4 #[rv r0, iv (3 : Int32)] [] _
  refine own_go (fun t₀ k₀ => XS.aloadN X1.here hx rfl (Jvm.hb hby d1_4) rfl rfl k₀) ?_
  show Gm p e below T1 m 5 #[rv r0, iv (3 : Int32)] [(.ref r0)] _
  refine own_go (fun t₀ k₀ => XS.iloadN X1.here hx rfl (Jvm.hb hby d1_5) rfl k₀) ?_
  show Gm p e below T1 m 6 #[rv r0, iv (3 : Int32)] [(.int (3 : Int32)), (.ref r0)] _
  obtain ⟨T2, h2, k2, X2, e2, E2, A2, st2⟩ := newP X1 hx hZ (hw _ (List.mem_of_getElem? (i := 9) rfl)) e1 (g := (mkF m 6 #[rv r0, iv (3 : Int32)] [(.int (3 : Int32)), (.ref r0)])) rfl (Jvm.hb hby d1_6) rfl (by decide) (cap := 3) (by decide) (by decide) (by decide) (by decide)
  obtain ⟨b2, g2⟩ : ∃ z, z = h0.size := ⟨_, rfl⟩
  rw [← g2] at A2 st2
  have g_b2 : n0 ≤ b2 := Nat.le_trans Z0 (Nat.le_of_eq g2.symm)
  have ne_r0_b2 : r0 ≠ b2 := Nat.ne_of_lt (Nat.lt_of_lt_of_le E_r0.lt (Nat.le_of_eq g2.symm))
  have sz_b2 : h0.size ≤ b2 := Nat.le_trans (Keep.refl h0 [r0]).1 (Nat.le_of_eq g2.symm)
  have K2 : Keep h0 h2 [r0] := Keep.ext (Keep.refl h0 [r0]) E2
  have Z2 : n0 ≤ h2.size := Nat.le_trans Z0 E2.1
  have V2 : Af Z h2 b2 .int 3 (fun _ => defaultValue .int) := Af.new A2 (by decide) rfl rfl
  refine own_go st2 ?_
  show Gm p e below T2 m 8 #[rv r0, iv (3 : Int32)] [(.ref b2), (.ref r0)] _
  have f3 := (E_r0.ext E2)
  have f4 := (F_floor.ext E2)
  obtain ⟨T5, h5, X5, e5, W5, st5⟩ := putF X2 hx hZ hown (host := "") (Or.inl (hw _ (List.mem_of_getElem? (i := 10) rfl))) Via.refl e2 f4 f3 (Or.inr ⟨(hw _ (List.mem_of_getElem? (i := 11) rfl)), rfl, hnm⟩) (hw _ (List.mem_of_getElem? (i := 1) rfl)) (ty := (.array .int)) (by decide) rfl rfl (g := (mkF m 8 #[rv r0, iv (3 : Int32)] [(.ref b2), (.ref r0)])) rfl rfl (Jvm.hb hby d1_8)
  have Fw5 := Fld.same W5 f4
  have N5 := Fr.snoc X5 N0 g_r0
  have Z5 : n0 ≤ h5.size := W5.size ▸ Z2
  have K5 : Keep h0 h5 [r0] := Keep.wr K2 W5 (Or.inl (List.mem_of_getElem? (i := 0) rfl))
  refine own_go st5 ?_
  show Gm p e below T5 m 11 #[rv r0, iv (3 : Int32)] [] _
  refine own_go (fun t₀ k₀ => XS.aloadN X5.here hx rfl (Jvm.hb hby d1_11) rfl rfl k₀) ?_
  show Gm p e below T5 m 12 #[rv r0, iv (3 : Int32)] [(.ref r0)] _
  refine own_go (fun t₀ k₀ => XS.iloadN X5.here hx rfl (Jvm.hb hby d1_12) rfl k₀) ?_
  show Gm p e below T5 m 13 #[rv r0, iv (3 : Int32)] [(.int (3 : Int32)), (.ref r0)] _
  obtain ⟨T6, h6, k6, X6, e6, E6, A6, st6⟩ := newP X5 hx hZ (hw _ (List.mem_of_getElem? (i := 9) rfl)) e5 (g := (mkF m 13 #[rv r0, iv (3 : Int32)] [(.int (3 : Int32)), (.ref r0)])) rfl (Jvm.hb hby d1_13) rfl (by decide) (cap := 3) (by decide) (by decide) (by decide) (by decide)
  obtain ⟨b6, g6⟩ : ∃ z, z = h5.size := ⟨_, rfl⟩
  rw [← g6] at A6 st6
  have g_b6 : n0 ≤ b6 := Nat.le_trans Z5 (Nat.le_of_eq g6.symm)
  have f7 := (f3.wr W5)
  have ne_r0_b6 : r0 ≠ b6 := Nat.ne_of_lt (Nat.lt_of_lt_of_le f7.lt (Nat.le_of_eq g6.symm))
  have sz_b6 : h0.size ≤ b6 := Nat.le_trans K5.1 (Nat.le_of_eq g6.symm)
  have K6 : Keep h0 h6 [r0] := Keep.ext K5 E6
  have Z6 : n0 ≤ h6.size := Nat.le_trans Z5 E6.1
  have V6 : Af Z h6 b6 .int 3 (fun _ => defaultValue .int) := Af.new A6 (by decide) rfl rfl
  refine own_go st6 ?_
  show Gm p e below T6 m 15 #[rv r0, iv (3 : Int32)] [(.ref b6), (.ref r0)] _
  have f8 := (f7.ext E6)
  have f9 := ((Fld.other W5 (F_startCell.ext E2) (Or.inr (slot_ne (Or.inr (hw _ (List.mem_of_getElem? (i := 13) rfl))) (Or.inr (hw _ (List.mem_of_getElem? (i := 11) rfl))) (by decide) (t := (.array .int)) (t' := (.array .int)) (by decide) (by decide)))).ext E6)
  obtain ⟨T10, h10, X10, e10, W10, st10⟩ := putF X6 hx hZ hown (host := "") (Or.inl (hw _ (List.mem_of_getElem? (i := 12) rfl))) Via.refl e6 f9 f8 (Or.inr ⟨(hw _ (List.mem_of_getElem? (i := 13) rfl)), rfl, hnm⟩) (hw _ (List.mem_of_getElem? (i := 1) rfl)) (ty := (.array .int)) (by decide) rfl rfl (g := (mkF m 15 #[rv r0, iv (3 : Int32)] [(.ref b6), (.ref r0)])) rfl rfl (Jvm.hb hby d1_15)
  have Fw10 := Fld.same W10 f9
  have N10 := Fr.snoc X10 N5 g_r0
  have Z10 : n0 ≤ h10.size := W10.size ▸ Z6
  have K10 : Keep h0 h10 [r0] := Keep.wr K6 W10 (Or.inl (List.mem_of_getElem? (i := 0) rfl))
  refine own_go st10 ?_
  show Gm p e below T10 m 18 #[rv r0, iv (3 : Int32)] [] _
  refine own_go (fun t₀ k₀ => XS.aloadN X10.here hx rfl (Jvm.hb hby d1_18) rfl rfl k₀) ?_
  show Gm p e below T10 m 19 #[rv r0, iv (3 : Int32)] [(.ref r0)] _
  refine own_go (fun t₀ k₀ => XS.iloadN X10.here hx rfl (Jvm.hb hby d1_19) rfl k₀) ?_
  show Gm p e below T10 m 20 #[rv r0, iv (3 : Int32)] [(.int (3 : Int32)), (.ref r0)] _
  obtain ⟨T11, h11, k11, X11, e11, E11, A11, st11⟩ := newP X10 hx hZ (hw _ (List.mem_of_getElem? (i := 9) rfl)) e10 (g := (mkF m 20 #[rv r0, iv (3 : Int32)] [(.int (3 : Int32)), (.ref r0)])) rfl (Jvm.hb hby d1_20) rfl (by decide) (cap := 3) (by decide) (by decide) (by decide) (by decide)
  obtain ⟨b11, g11⟩ : ∃ z, z = h10.size := ⟨_, rfl⟩
  rw [← g11] at A11 st11
  have g_b11 : n0 ≤ b11 := Nat.le_trans Z10 (Nat.le_of_eq g11.symm)
  have f12 := (f8.wr W10)
  have ne_r0_b11 : r0 ≠ b11 := Nat.ne_of_lt (Nat.lt_of_lt_of_le f12.lt (Nat.le_of_eq g11.symm))
  have sz_b11 : h0.size ≤ b11 := Nat.le_trans K10.1 (Nat.le_of_eq g11.symm)
  have K11 : Keep h0 h11 [r0] := Keep.ext K10 E11
  have Z11 : n0 ≤ h11.size := Nat.le_trans Z10 E11.1
  have V11 : Af Z h11 b11 .int 3 (fun _ => defaultValue .int) := Af.new A11 (by decide) rfl rfl
  refine own_go st11 ?_
  show Gm p e below T11 m 22 #[rv r0, iv (3 : Int32)] [(.ref b11), (.ref r0)] _
  have f13 := (f12.ext E11)
  have f14 := ((Fld.other W10 ((Fld.other W5 (F_cell.ext E2) (Or.inr (slot_ne (Or.inr (hw _ (List.mem_of_getElem? (i := 15) rfl))) (Or.inr (hw _ (List.mem_of_getElem? (i := 11) rfl))) (by decide) (t := (.array .int)) (t' := (.array .int)) (by decide) (by decide)))).ext E6) (Or.inr (slot_ne (Or.inr (hw _ (List.mem_of_getElem? (i := 15) rfl))) (Or.inr (hw _ (List.mem_of_getElem? (i := 13) rfl))) (by decide) (t := (.array .int)) (t' := (.array .int)) (by decide) (by decide)))).ext E11)
  obtain ⟨T15, h15, X15, e15, W15, st15⟩ := putF X11 hx hZ hown (host := "") (Or.inl (hw _ (List.mem_of_getElem? (i := 14) rfl))) Via.refl e11 f14 f13 (Or.inr ⟨(hw _ (List.mem_of_getElem? (i := 15) rfl)), rfl, hnm⟩) (hw _ (List.mem_of_getElem? (i := 1) rfl)) (ty := (.array .int)) (by decide) rfl rfl (g := (mkF m 22 #[rv r0, iv (3 : Int32)] [(.ref b11), (.ref r0)])) rfl rfl (Jvm.hb hby d1_22)
  have Fw15 := Fld.same W15 f14
  have N15 := Fr.snoc X15 N10 g_r0
  have Z15 : n0 ≤ h15.size := W15.size ▸ Z11
  have K15 : Keep h0 h15 [r0] := Keep.wr K11 W15 (Or.inl (List.mem_of_getElem? (i := 0) rfl))
  refine own_go st15 ?_
  show Gm p e below T15 m 25 #[rv r0, iv (3 : Int32)] [] _
  refine own_go (fun t₀ k₀ => XS.aloadN X15.here hx rfl (Jvm.hb hby d1_25) rfl rfl k₀) ?_
  show Gm p e below T15 m 26 #[rv r0, iv (3 : Int32)] [(.ref r0)] _
  refine own_go (fun t₀ k₀ => XS.iloadN X15.here hx rfl (Jvm.hb hby d1_26) rfl k₀) ?_
  show Gm p e below T15 m 27 #[rv r0, iv (3 : Int32)] [(.int (3 : Int32)), (.ref r0)] _
  obtain ⟨T16, h16, k16, X16, e16, E16, A16, st16⟩ := newP X15 hx hZ (hw _ (List.mem_of_getElem? (i := 16) rfl)) e15 (g := (mkF m 27 #[rv r0, iv (3 : Int32)] [(.int (3 : Int32)), (.ref r0)])) rfl (Jvm.hb hby d1_27) rfl (by decide) (cap := 3) (by decide) (by decide) (by decide) (by decide)
  obtain ⟨b16, g16⟩ : ∃ z, z = h15.size := ⟨_, rfl⟩
  rw [← g16] at A16 st16
  have g_b16 : n0 ≤ b16 := Nat.le_trans Z15 (Nat.le_of_eq g16.symm)
  have f17 := (f13.wr W15)
  have ne_r0_b16 : r0 ≠ b16 := Nat.ne_of_lt (Nat.lt_of_lt_of_le f17.lt (Nat.le_of_eq g16.symm))
  have sz_b16 : h0.size ≤ b16 := Nat.le_trans K15.1 (Nat.le_of_eq g16.symm)
  have K16 : Keep h0 h16 [r0] := Keep.ext K15 E16
  have Z16 : n0 ≤ h16.size := Nat.le_trans Z15 E16.1
  have V16 : Af Z h16 b16 .double 3 (fun _ => defaultValue .double) := Af.new A16 (by decide) rfl rfl
  refine own_go st16 ?_
  show Gm p e below T16 m 29 #[rv r0, iv (3 : Int32)] [(.ref b16), (.ref r0)] _
  have f18 := (f17.ext E16)
  have f19 := ((Fld.other W15 ((Fld.other W10 ((Fld.other W5 (F_speedMps.ext E2) (Or.inr (slot_ne (Or.inr (hw _ (List.mem_of_getElem? (i := 18) rfl))) (Or.inr (hw _ (List.mem_of_getElem? (i := 11) rfl))) (by decide) (t := (.array .double)) (t' := (.array .int)) (by decide) (by decide)))).ext E6) (Or.inr (slot_ne (Or.inr (hw _ (List.mem_of_getElem? (i := 18) rfl))) (Or.inr (hw _ (List.mem_of_getElem? (i := 13) rfl))) (by decide) (t := (.array .double)) (t' := (.array .int)) (by decide) (by decide)))).ext E11) (Or.inr (slot_ne (Or.inr (hw _ (List.mem_of_getElem? (i := 18) rfl))) (Or.inr (hw _ (List.mem_of_getElem? (i := 15) rfl))) (by decide) (t := (.array .double)) (t' := (.array .int)) (by decide) (by decide)))).ext E16)
  obtain ⟨T20, h20, X20, e20, W20, st20⟩ := putF X16 hx hZ hown (host := "") (Or.inl (hw _ (List.mem_of_getElem? (i := 17) rfl))) Via.refl e16 f19 f18 (Or.inr ⟨(hw _ (List.mem_of_getElem? (i := 18) rfl)), rfl, hnm⟩) (hw _ (List.mem_of_getElem? (i := 1) rfl)) (ty := (.array .double)) (by decide) rfl rfl (g := (mkF m 29 #[rv r0, iv (3 : Int32)] [(.ref b16), (.ref r0)])) rfl rfl (Jvm.hb hby d1_29)
  have Fw20 := Fld.same W20 f19
  have N20 := Fr.snoc X20 N15 g_r0
  have Z20 : n0 ≤ h20.size := W20.size ▸ Z16
  have K20 : Keep h0 h20 [r0] := Keep.wr K16 W20 (Or.inl (List.mem_of_getElem? (i := 0) rfl))
  refine own_go st20 ?_
  show Gm p e below T20 m 32 #[rv r0, iv (3 : Int32)] [] _
  refine own_go (fun t₀ k₀ => XS.aloadN X20.here hx rfl (Jvm.hb hby d1_32) rfl rfl k₀) ?_
  show Gm p e below T20 m 33 #[rv r0, iv (3 : Int32)] [(.ref r0)] _
  refine own_go (fun t₀ k₀ => XS.iloadN X20.here hx rfl (Jvm.hb hby d1_33) rfl k₀) ?_
  show Gm p e below T20 m 34 #[rv r0, iv (3 : Int32)] [(.int (3 : Int32)), (.ref r0)] _
  obtain ⟨T21, h21, k21, X21, e21, E21, A21, st21⟩ := newP X20 hx hZ (hw _ (List.mem_of_getElem? (i := 16) rfl)) e20 (g := (mkF m 34 #[rv r0, iv (3 : Int32)] [(.int (3 : Int32)), (.ref r0)])) rfl (Jvm.hb hby d1_34) rfl (by decide) (cap := 3) (by decide) (by decide) (by decide) (by decide)
  obtain ⟨b21, g21⟩ : ∃ z, z = h20.size := ⟨_, rfl⟩
  rw [← g21] at A21 st21
  have g_b21 : n0 ≤ b21 := Nat.le_trans Z20 (Nat.le_of_eq g21.symm)
  have f22 := (f18.wr W20)
  have ne_r0_b21 : r0 ≠ b21 := Nat.ne_of_lt (Nat.lt_of_lt_of_le f22.lt (Nat.le_of_eq g21.symm))
  have sz_b21 : h0.size ≤ b21 := Nat.le_trans K20.1 (Nat.le_of_eq g21.symm)
  have K21 : Keep h0 h21 [r0] := Keep.ext K20 E21
  have Z21 : n0 ≤ h21.size := Nat.le_trans Z20 E21.1
  have V21 : Af Z h21 b21 .double 3 (fun _ => defaultValue .double) := Af.new A21 (by decide) rfl rfl
  refine own_go st21 ?_
  show Gm p e below T21 m 36 #[rv r0, iv (3 : Int32)] [(.ref b21), (.ref r0)] _
  have f23 := (f22.ext E21)
  have f24 := ((Fld.other W20 ((Fld.other W15 ((Fld.other W10 ((Fld.other W5 (F_reactionS.ext E2) (Or.inr (slot_ne (Or.inr (hw _ (List.mem_of_getElem? (i := 20) rfl))) (Or.inr (hw _ (List.mem_of_getElem? (i := 11) rfl))) (by decide) (t := (.array .double)) (t' := (.array .int)) (by decide) (by decide)))).ext E6) (Or.inr (slot_ne (Or.inr (hw _ (List.mem_of_getElem? (i := 20) rfl))) (Or.inr (hw _ (List.mem_of_getElem? (i := 13) rfl))) (by decide) (t := (.array .double)) (t' := (.array .int)) (by decide) (by decide)))).ext E11) (Or.inr (slot_ne (Or.inr (hw _ (List.mem_of_getElem? (i := 20) rfl))) (Or.inr (hw _ (List.mem_of_getElem? (i := 15) rfl))) (by decide) (t := (.array .double)) (t' := (.array .int)) (by decide) (by decide)))).ext E16) (Or.inr (slot_ne (Or.inr (hw _ (List.mem_of_getElem? (i := 20) rfl))) (Or.inr (hw _ (List.mem_of_getElem? (i := 18) rfl))) (by decide) (t := (.array .double)) (t' := (.array .double)) (by decide) (by decide)))).ext E21)
  obtain ⟨T25, h25, X25, e25, W25, st25⟩ := putF X21 hx hZ hown (host := "") (Or.inl (hw _ (List.mem_of_getElem? (i := 19) rfl))) Via.refl e21 f24 f23 (Or.inr ⟨(hw _ (List.mem_of_getElem? (i := 20) rfl)), rfl, hnm⟩) (hw _ (List.mem_of_getElem? (i := 1) rfl)) (ty := (.array .double)) (by decide) rfl rfl (g := (mkF m 36 #[rv r0, iv (3 : Int32)] [(.ref b21), (.ref r0)])) rfl rfl (Jvm.hb hby d1_36)
  have Fw25 := Fld.same W25 f24
  have N25 := Fr.snoc X25 N20 g_r0
  have Z25 : n0 ≤ h25.size := W25.size ▸ Z21
  have K25 : Keep h0 h25 [r0] := Keep.wr K21 W25 (Or.inl (List.mem_of_getElem? (i := 0) rfl))
  refine own_go st25 ?_
  show Gm p e below T25 m 39 #[rv r0, iv (3 : Int32)] [] _
  refine own_go (fun t₀ k₀ => XS.aloadN X25.here hx rfl (Jvm.hb hby d1_39) rfl rfl k₀) ?_
  show Gm p e below T25 m 40 #[rv r0, iv (3 : Int32)] [(.ref r0)] _
  refine own_go (fun t₀ k₀ => XS.iloadN X25.here hx rfl (Jvm.hb hby d1_40) rfl k₀) ?_
  show Gm p e below T25 m 41 #[rv r0, iv (3 : Int32)] [(.int (3 : Int32)), (.ref r0)] _
  obtain ⟨T26, h26, k26, X26, e26, E26, A26, st26⟩ := newP X25 hx hZ (hw _ (List.mem_of_getElem? (i := 9) rfl)) e25 (g := (mkF m 41 #[rv r0, iv (3 : Int32)] [(.int (3 : Int32)), (.ref r0)])) rfl (Jvm.hb hby d1_41) rfl (by decide) (cap := 3) (by decide) (by decide) (by decide) (by decide)
  obtain ⟨b26, g26⟩ : ∃ z, z = h25.size := ⟨_, rfl⟩
  rw [← g26] at A26 st26
  have g_b26 : n0 ≤ b26 := Nat.le_trans Z25 (Nat.le_of_eq g26.symm)
  have f27 := (f23.wr W25)
  have ne_r0_b26 : r0 ≠ b26 := Nat.ne_of_lt (Nat.lt_of_lt_of_le f27.lt (Nat.le_of_eq g26.symm))
  have sz_b26 : h0.size ≤ b26 := Nat.le_trans K25.1 (Nat.le_of_eq g26.symm)
  have K26 : Keep h0 h26 [r0] := Keep.ext K25 E26
  have Z26 : n0 ≤ h26.size := Nat.le_trans Z25 E26.1
  have V26 : Af Z h26 b26 .int 3 (fun _ => defaultValue .int) := Af.new A26 (by decide) rfl rfl
  refine own_go st26 ?_
  show Gm p e below T26 m 43 #[rv r0, iv (3 : Int32)] [(.ref b26), (.ref r0)] _
  have f28 := (f27.ext E26)
  have f29 := ((Fld.other W25 ((Fld.other W20 ((Fld.other W15 ((Fld.other W10 ((Fld.other W5 (F_heading.ext E2) (Or.inr (slot_ne (Or.inr (hw _ (List.mem_of_getElem? (i := 22) rfl))) (Or.inr (hw _ (List.mem_of_getElem? (i := 11) rfl))) (by decide) (t := (.array .int)) (t' := (.array .int)) (by decide) (by decide)))).ext E6) (Or.inr (slot_ne (Or.inr (hw _ (List.mem_of_getElem? (i := 22) rfl))) (Or.inr (hw _ (List.mem_of_getElem? (i := 13) rfl))) (by decide) (t := (.array .int)) (t' := (.array .int)) (by decide) (by decide)))).ext E11) (Or.inr (slot_ne (Or.inr (hw _ (List.mem_of_getElem? (i := 22) rfl))) (Or.inr (hw _ (List.mem_of_getElem? (i := 15) rfl))) (by decide) (t := (.array .int)) (t' := (.array .int)) (by decide) (by decide)))).ext E16) (Or.inr (slot_ne (Or.inr (hw _ (List.mem_of_getElem? (i := 22) rfl))) (Or.inr (hw _ (List.mem_of_getElem? (i := 18) rfl))) (by decide) (t := (.array .int)) (t' := (.array .double)) (by decide) (by decide)))).ext E21) (Or.inr (slot_ne (Or.inr (hw _ (List.mem_of_getElem? (i := 22) rfl))) (Or.inr (hw _ (List.mem_of_getElem? (i := 20) rfl))) (by decide) (t := (.array .int)) (t' := (.array .double)) (by decide) (by decide)))).ext E26)
  obtain ⟨T30, h30, X30, e30, W30, st30⟩ := putF X26 hx hZ hown (host := "") (Or.inl (hw _ (List.mem_of_getElem? (i := 21) rfl))) Via.refl e26 f29 f28 (Or.inr ⟨(hw _ (List.mem_of_getElem? (i := 22) rfl)), rfl, hnm⟩) (hw _ (List.mem_of_getElem? (i := 1) rfl)) (ty := (.array .int)) (by decide) rfl rfl (g := (mkF m 43 #[rv r0, iv (3 : Int32)] [(.ref b26), (.ref r0)])) rfl rfl (Jvm.hb hby d1_43)
  have Fw30 := Fld.same W30 f29
  have N30 := Fr.snoc X30 N25 g_r0
  have Z30 : n0 ≤ h30.size := W30.size ▸ Z26
  have K30 : Keep h0 h30 [r0] := Keep.wr K26 W30 (Or.inl (List.mem_of_getElem? (i := 0) rfl))
  refine own_go st30 ?_
  show Gm p e below T30 m 46 #[rv r0, iv (3 : Int32)] [] _
  refine own_go (fun t₀ k₀ => XS.aloadN X30.here hx rfl (Jvm.hb hby d1_46) rfl rfl k₀) ?_
  show Gm p e below T30 m 47 #[rv r0, iv (3 : Int32)] [(.ref r0)] _
  refine own_go (fun t₀ k₀ => XS.iloadN X30.here hx rfl (Jvm.hb hby d1_47) rfl k₀) ?_
  show Gm p e below T30 m 48 #[rv r0, iv (3 : Int32)] [(.int (3 : Int32)), (.ref r0)] _
  obtain ⟨T31, h31, k31, X31, e31, E31, A31, st31⟩ := newP X30 hx hZ (hw _ (List.mem_of_getElem? (i := 16) rfl)) e30 (g := (mkF m 48 #[rv r0, iv (3 : Int32)] [(.int (3 : Int32)), (.ref r0)])) rfl (Jvm.hb hby d1_48) rfl (by decide) (cap := 3) (by decide) (by decide) (by decide) (by decide)
  obtain ⟨b31, g31⟩ : ∃ z, z = h30.size := ⟨_, rfl⟩
  rw [← g31] at A31 st31
  have g_b31 : n0 ≤ b31 := Nat.le_trans Z30 (Nat.le_of_eq g31.symm)
  have f32 := (f28.wr W30)
  have ne_r0_b31 : r0 ≠ b31 := Nat.ne_of_lt (Nat.lt_of_lt_of_le f32.lt (Nat.le_of_eq g31.symm))
  have sz_b31 : h0.size ≤ b31 := Nat.le_trans K30.1 (Nat.le_of_eq g31.symm)
  have K31 : Keep h0 h31 [r0] := Keep.ext K30 E31
  have Z31 : n0 ≤ h31.size := Nat.le_trans Z30 E31.1
  have V31 : Af Z h31 b31 .double 3 (fun _ => defaultValue .double) := Af.new A31 (by decide) rfl rfl
  refine own_go st31 ?_
  show Gm p e below T31 m 50 #[rv r0, iv (3 : Int32)] [(.ref b31), (.ref r0)] _
  have f33 := (f32.ext E31)
  have f34 := ((Fld.other W30 ((Fld.other W25 ((Fld.other W20 ((Fld.other W15 ((Fld.other W10 ((Fld.other W5 (F_heldUpS.ext E2) (Or.inr (slot_ne (Or.inr (hw _ (List.mem_of_getElem? (i := 24) rfl))) (Or.inr (hw _ (List.mem_of_getElem? (i := 11) rfl))) (by decide) (t := (.array .double)) (t' := (.array .int)) (by decide) (by decide)))).ext E6) (Or.inr (slot_ne (Or.inr (hw _ (List.mem_of_getElem? (i := 24) rfl))) (Or.inr (hw _ (List.mem_of_getElem? (i := 13) rfl))) (by decide) (t := (.array .double)) (t' := (.array .int)) (by decide) (by decide)))).ext E11) (Or.inr (slot_ne (Or.inr (hw _ (List.mem_of_getElem? (i := 24) rfl))) (Or.inr (hw _ (List.mem_of_getElem? (i := 15) rfl))) (by decide) (t := (.array .double)) (t' := (.array .int)) (by decide) (by decide)))).ext E16) (Or.inr (slot_ne (Or.inr (hw _ (List.mem_of_getElem? (i := 24) rfl))) (Or.inr (hw _ (List.mem_of_getElem? (i := 18) rfl))) (by decide) (t := (.array .double)) (t' := (.array .double)) (by decide) (by decide)))).ext E21) (Or.inr (slot_ne (Or.inr (hw _ (List.mem_of_getElem? (i := 24) rfl))) (Or.inr (hw _ (List.mem_of_getElem? (i := 20) rfl))) (by decide) (t := (.array .double)) (t' := (.array .double)) (by decide) (by decide)))).ext E26) (Or.inr (slot_ne (Or.inr (hw _ (List.mem_of_getElem? (i := 24) rfl))) (Or.inr (hw _ (List.mem_of_getElem? (i := 22) rfl))) (by decide) (t := (.array .double)) (t' := (.array .int)) (by decide) (by decide)))).ext E31)
  obtain ⟨T35, h35, X35, e35, W35, st35⟩ := putF X31 hx hZ hown (host := "") (Or.inl (hw _ (List.mem_of_getElem? (i := 23) rfl))) Via.refl e31 f34 f33 (Or.inr ⟨(hw _ (List.mem_of_getElem? (i := 24) rfl)), rfl, hnm⟩) (hw _ (List.mem_of_getElem? (i := 1) rfl)) (ty := (.array .double)) (by decide) rfl rfl (g := (mkF m 50 #[rv r0, iv (3 : Int32)] [(.ref b31), (.ref r0)])) rfl rfl (Jvm.hb hby d1_50)
  have Fw35 := Fld.same W35 f34
  have N35 := Fr.snoc X35 N30 g_r0
  have Z35 : n0 ≤ h35.size := W35.size ▸ Z31
  have K35 : Keep h0 h35 [r0] := Keep.wr K31 W35 (Or.inl (List.mem_of_getElem? (i := 0) rfl))
  refine own_go st35 ?_
  show Gm p e below T35 m 53 #[rv r0, iv (3 : Int32)] [] _
  refine own_go (fun t₀ k₀ => XS.aloadN X35.here hx rfl (Jvm.hb hby d1_53) rfl rfl k₀) ?_
  show Gm p e below T35 m 54 #[rv r0, iv (3 : Int32)] [(.ref r0)] _
  obtain ⟨T36, X36, e36, st36⟩ := getF X35 hx hZ hown (host := "") (Or.inl (hw _ (List.mem_of_getElem? (i := 23) rfl))) Via.refl e35 Fw35 (g := (mkF m 54 #[rv r0, iv (3 : Int32)] [(.ref r0)])) rfl rfl (Jvm.hb hby d1_54)
  refine own_go st36 ?_
  show Gm p e below T36 m 57 #[rv r0, iv (3 : Int32)] [(.ref b31)] _
  refine own_go (fun t₀ k₀ => X36.ldc2DoubleC hx hown (mvT hZ (hw _ (List.mem_of_getElem? (i := 25) rfl))) (g := (mkF m 57 #[rv r0, iv (3 : Int32)] [(.ref b31)])) rfl (Jvm.hb hby d1_57) _ k₀) ?_
  show Gm p e below T36 m 60 #[rv r0, iv (3 : Int32)] [(.double (18442240474082181120 : UInt64)), (.ref b31)] _
  have f37 := (V31.other W35 (Ne.symm ne_r0_b31))
  obtain ⟨_, _, ⟨T38, L38, k38, n38⟩, -, X38, ⟨Lc38, hQ38, l38, y38, z38⟩, st38⟩ := Jvm.LawKit.callS X36 hx (y := (⟨"java/util/Arrays", "fill", "([DD)V"⟩ : MethodName)) hown (mvT hZ (hw _ (List.mem_of_getElem? (i := 26) rfl))) (mvT hZ (hw _ (List.mem_of_getElem? (i := 27) rfl))) (mvT hZ (hw _ (List.mem_of_getElem? (i := 28) rfl))) (mvT hZ (hw _ (List.mem_of_getElem? (i := 29) rfl))) (by decide) (backOf (W := 0) (rm3_3 l Z a0 hw [] b31 (18442240474082181120 : UInt64) (fun _ => defaultValue .double) h35 n0 Z35 f37 g_b31) hZ (hw _ (List.mem_of_getElem? (i := 29) rfl)) (hw _ (List.mem_of_getElem? (i := 28) rfl)) (by decide) (by decide)) (g := (mkF m 60 #[rv r0, iv (3 : Int32)] [(.double (18442240474082181120 : UInt64)), (.ref b31)])) rfl (by rw [hml]; rfl) (argsL := [(.ref b31), (.double (18442240474082181120 : UInt64))]) (rest := []) (lenOf own_pd0 rfl) rfl (by show 2 * 0 + _ ≤ _; exact Nat.le_of_eq rfl) (Jvm.hb hby d1_60) (fun _ _ => ⟨rfl, e36, (by decide : 7 + 0 ≤ _), (by decide : 21 + 0 ≤ _)⟩)
  dsimp only [Pt.U, Pt.locs, Pt.cells, Pt.slots] at X38 l38 y38 z38 st38 hQ38
  subst l38 y38 z38
  obtain ⟨rfl, Nq38, Kc38, fd38, Ac38⟩ := hQ38
  have N38 := Fr.app N35 Nq38
  refine own_go st38 ?_
  have Z38 : n0 ≤ T38.heap.size := Nat.le_trans Z35 Kc38.1
  have K38 : Keep h0 T38.heap [r0] := Keep.trans K35 Kc38 (allS (Or.inr sz_b31) all0)
  show Gm p e below T38 m 63 #[rv r0, iv (3 : Int32)] [] _
  refine own_go (fun t₀ k₀ => XS.aloadN X38.here hx rfl (Jvm.hb hby d1_63) rfl rfl k₀) ?_
  show Gm p e below T38 m 64 #[rv r0, iv (3 : Int32)] [(.ref r0)] _
  refine own_go (fun t₀ k₀ => XS.iloadN X38.here hx rfl (Jvm.hb hby d1_64) rfl k₀) ?_
  show Gm p e below T38 m 65 #[rv r0, iv (3 : Int32)] [(.int (3 : Int32)), (.ref r0)] _
  obtain ⟨T39, h39, k39, X39, e39, E39, A39, st39⟩ := newP X38 hx hZ (hw _ (List.mem_of_getElem? (i := 16) rfl)) rfl (g := (mkF m 65 #[rv r0, iv (3 : Int32)] [(.int (3 : Int32)), (.ref r0)])) rfl (Jvm.hb hby d1_65) rfl (by decide) (cap := 3) (by decide) (by decide) (by decide) (by decide)
  obtain ⟨b39, g39⟩ : ∃ z, z = T38.heap.size := ⟨_, rfl⟩
  rw [← g39] at A39 st39
  have g_b39 : n0 ≤ b39 := Nat.le_trans Z38 (Nat.le_of_eq g39.symm)
  have f40 := ((f33.wr W35).keep Kc38)
  have ne_r0_b39 : r0 ≠ b39 := Nat.ne_of_lt (Nat.lt_of_lt_of_le f40.lt (Nat.le_of_eq g39.symm))
  have sz_b39 : h0.size ≤ b39 := Nat.le_trans K38.1 (Nat.le_of_eq g39.symm)
  have K39 : Keep h0 h39 [r0] := Keep.ext K38 E39
  have Z39 : n0 ≤ h39.size := Nat.le_trans Z38 E39.1
  have V39 : Af Z h39 b39 .double 3 (fun _ => defaultValue .double) := Af.new A39 (by decide) rfl rfl
  refine own_go st39 ?_
  show Gm p e below T39 m 67 #[rv r0, iv (3 : Int32)] [(.ref b39), (.ref r0)] _
  have f41 := (f40.ext E39)
  have f42 := (((Fld.other W35 ((Fld.other W30 ((Fld.other W25 ((Fld.other W20 ((Fld.other W15 ((Fld.other W10 ((Fld.other W5 (F_exitTimeS.ext E2) (Or.inr (slot_ne (Or.inr (hw _ (List.mem_of_getElem? (i := 31) rfl))) (Or.inr (hw _ (List.mem_of_getElem? (i := 11) rfl))) (by decide) (t := (.array .double)) (t' := (.array .int)) (by decide) (by decide)))).ext E6) (Or.inr (slot_ne (Or.inr (hw _ (List.mem_of_getElem? (i := 31) rfl))) (Or.inr (hw _ (List.mem_of_getElem? (i := 13) rfl))) (by decide) (t := (.array .double)) (t' := (.array .int)) (by decide) (by decide)))).ext E11) (Or.inr (slot_ne (Or.inr (hw _ (List.mem_of_getElem? (i := 31) rfl))) (Or.inr (hw _ (List.mem_of_getElem? (i := 15) rfl))) (by decide) (t := (.array .double)) (t' := (.array .int)) (by decide) (by decide)))).ext E16) (Or.inr (slot_ne (Or.inr (hw _ (List.mem_of_getElem? (i := 31) rfl))) (Or.inr (hw _ (List.mem_of_getElem? (i := 18) rfl))) (by decide) (t := (.array .double)) (t' := (.array .double)) (by decide) (by decide)))).ext E21) (Or.inr (slot_ne (Or.inr (hw _ (List.mem_of_getElem? (i := 31) rfl))) (Or.inr (hw _ (List.mem_of_getElem? (i := 20) rfl))) (by decide) (t := (.array .double)) (t' := (.array .double)) (by decide) (by decide)))).ext E26) (Or.inr (slot_ne (Or.inr (hw _ (List.mem_of_getElem? (i := 31) rfl))) (Or.inr (hw _ (List.mem_of_getElem? (i := 22) rfl))) (by decide) (t := (.array .double)) (t' := (.array .int)) (by decide) (by decide)))).ext E31) (Or.inr (slot_ne (Or.inr (hw _ (List.mem_of_getElem? (i := 31) rfl))) (Or.inr (hw _ (List.mem_of_getElem? (i := 24) rfl))) (by decide) (t := (.array .double)) (t' := (.array .double)) (by decide) (by decide)))).keep Kc38 (ninS ne_r0_b31 nin0)).ext E39)
  obtain ⟨T43, h43, X43, e43, W43, st43⟩ := putF X39 hx hZ hown (host := "") (Or.inl (hw _ (List.mem_of_getElem? (i := 30) rfl))) Via.refl e39 f42 f41 (Or.inr ⟨(hw _ (List.mem_of_getElem? (i := 31) rfl)), rfl, hnm⟩) (hw _ (List.mem_of_getElem? (i := 1) rfl)) (ty := (.array .double)) (by decide) rfl rfl (g := (mkF m 67 #[rv r0, iv (3 : Int32)] [(.ref b39), (.ref r0)])) rfl rfl (Jvm.hb hby d1_67)
  have Fw43 := Fld.same W43 f42
  have N43 := Fr.snoc X43 N38 g_r0
  have Z43 : n0 ≤ h43.size := W43.size ▸ Z39
  have K43 : Keep h0 h43 [r0] := Keep.wr K39 W43 (Or.inl (List.mem_of_getElem? (i := 0) rfl))
  refine own_go st43 ?_
  show Gm p e below T43 m 70 #[rv r0, iv (3 : Int32)] [] _
  refine own_go (fun t₀ k₀ => XS.aloadN X43.here hx rfl (Jvm.hb hby d1_70) rfl rfl k₀) ?_
  show Gm p e below T43 m 71 #[rv r0, iv (3 : Int32)] [(.ref r0)] _
  obtain ⟨T44, X44, e44, st44⟩ := getF X43 hx hZ hown (host := "") (Or.inl (hw _ (List.mem_of_getElem? (i := 30) rfl))) Via.refl e43 Fw43 (g := (mkF m 71 #[rv r0, iv (3 : Int32)] [(.ref r0)])) rfl rfl (Jvm.hb hby d1_71)
  refine own_go st44 ?_
  show Gm p e below T44 m 74 #[rv r0, iv (3 : Int32)] [(.ref b39)] _
  refine own_go (fun t₀ k₀ => X44.ldc2DoubleC hx hown (mvT hZ (hw _ (List.mem_of_getElem? (i := 32) rfl))) (g := (mkF m 74 #[rv r0, iv (3 : Int32)] [(.ref b39)])) rfl (Jvm.hb hby d1_74) _ k₀) ?_
  show Gm p e below T44 m 77 #[rv r0, iv (3 : Int32)] [(.double (9218868437227405312 : UInt64)), (.ref b39)] _
  have f45 := (V39.other W43 (Ne.symm ne_r0_b39))
  obtain ⟨_, _, ⟨T46, L46, k46, n46⟩, -, X46, ⟨Lc46, hQ46, l46, y46, z46⟩, st46⟩ := Jvm.LawKit.callS X44 hx (y := (⟨"java/util/Arrays", "fill", "([DD)V"⟩ : MethodName)) hown (mvT hZ (hw _ (List.mem_of_getElem? (i := 26) rfl))) (mvT hZ (hw _ (List.mem_of_getElem? (i := 27) rfl))) (mvT hZ (hw _ (List.mem_of_getElem? (i := 28) rfl))) (mvT hZ (hw _ (List.mem_of_getElem? (i := 29) rfl))) (by decide) (backOf (W := 0) (rm3_3 l Z a0 hw [] b39 (9218868437227405312 : UInt64) (fun _ => defaultValue .double) h43 n0 Z43 f45 g_b39) hZ (hw _ (List.mem_of_getElem? (i := 29) rfl)) (hw _ (List.mem_of_getElem? (i := 28) rfl)) (by decide) (by decide)) (g := (mkF m 77 #[rv r0, iv (3 : Int32)] [(.double (9218868437227405312 : UInt64)), (.ref b39)])) rfl (by rw [hml]; rfl) (argsL := [(.ref b39), (.double (9218868437227405312 : UInt64))]) (rest := []) (lenOf own_pd0 rfl) rfl (by show 2 * 0 + _ ≤ _; exact Nat.le_of_eq rfl) (Jvm.hb hby d1_77) (fun _ _ => ⟨rfl, e44, (by decide : 8 + 0 ≤ _), (by decide : 24 + 0 ≤ _)⟩)
  dsimp only [Pt.U, Pt.locs, Pt.cells, Pt.slots] at X46 l46 y46 z46 st46 hQ46
  subst l46 y46 z46
  obtain ⟨rfl, Nq46, Kc46, fd46, Ac46⟩ := hQ46
  have N46 := Fr.app N43 Nq46
  refine own_go st46 ?_
  have Z46 : n0 ≤ T46.heap.size := Nat.le_trans Z43 Kc46.1
  have K46 : Keep h0 T46.heap [r0] := Keep.trans K43 Kc46 (allS (Or.inr sz_b39) all0)
  show Gm p e below T46 m 80 #[rv r0, iv (3 : Int32)] [] _
  refine own_go (fun t₀ k₀ => XS.aloadN X46.here hx rfl (Jvm.hb hby d1_80) rfl rfl k₀) ?_
  show Gm p e below T46 m 81 #[rv r0, iv (3 : Int32)] [(.ref r0)] _
  refine own_go (fun t₀ k₀ => XS.iloadN X46.here hx rfl (Jvm.hb hby d1_81) rfl k₀) ?_
  show Gm p e below T46 m 82 #[rv r0, iv (3 : Int32)] [(.int (3 : Int32)), (.ref r0)] _
  obtain ⟨T47, h47, k47, X47, e47, E47, A47, st47⟩ := newP X46 hx hZ (hw _ (List.mem_of_getElem? (i := 9) rfl)) rfl (g := (mkF m 82 #[rv r0, iv (3 : Int32)] [(.int (3 : Int32)), (.ref r0)])) rfl (Jvm.hb hby d1_82) rfl (by decide) (cap := 3) (by decide) (by decide) (by decide) (by decide)
  obtain ⟨b47, g47⟩ : ∃ z, z = T46.heap.size := ⟨_, rfl⟩
  rw [← g47] at A47 st47
  have g_b47 : n0 ≤ b47 := Nat.le_trans Z46 (Nat.le_of_eq g47.symm)
  have f48 := ((f41.wr W43).keep Kc46)
  have ne_r0_b47 : r0 ≠ b47 := Nat.ne_of_lt (Nat.lt_of_lt_of_le f48.lt (Nat.le_of_eq g47.symm))
  have sz_b47 : h0.size ≤ b47 := Nat.le_trans K46.1 (Nat.le_of_eq g47.symm)
  have K47 : Keep h0 h47 [r0] := Keep.ext K46 E47
  have Z47 : n0 ≤ h47.size := Nat.le_trans Z46 E47.1
  have V47 : Af Z h47 b47 .int 3 (fun _ => defaultValue .int) := Af.new A47 (by decide) rfl rfl
  refine own_go st47 ?_
  show Gm p e below T47 m 84 #[rv r0, iv (3 : Int32)] [(.ref b47), (.ref r0)] _
  have f49 := (f48.ext E47)
  have f50 := (((Fld.other W43 (((Fld.other W35 ((Fld.other W30 ((Fld.other W25 ((Fld.other W20 ((Fld.other W15 ((Fld.other W10 ((Fld.other W5 (F_leaving.ext E2) (Or.inr (slot_ne (Or.inr (hw _ (List.mem_of_getElem? (i := 34) rfl))) (Or.inr (hw _ (List.mem_of_getElem? (i := 11) rfl))) (by decide) (t := (.array .int)) (t' := (.array .int)) (by decide) (by decide)))).ext E6) (Or.inr (slot_ne (Or.inr (hw _ (List.mem_of_getElem? (i := 34) rfl))) (Or.inr (hw _ (List.mem_of_getElem? (i := 13) rfl))) (by decide) (t := (.array .int)) (t' := (.array .int)) (by decide) (by decide)))).ext E11) (Or.inr (slot_ne (Or.inr (hw _ (List.mem_of_getElem? (i := 34) rfl))) (Or.inr (hw _ (List.mem_of_getElem? (i := 15) rfl))) (by decide) (t := (.array .int)) (t' := (.array .int)) (by decide) (by decide)))).ext E16) (Or.inr (slot_ne (Or.inr (hw _ (List.mem_of_getElem? (i := 34) rfl))) (Or.inr (hw _ (List.mem_of_getElem? (i := 18) rfl))) (by decide) (t := (.array .int)) (t' := (.array .double)) (by decide) (by decide)))).ext E21) (Or.inr (slot_ne (Or.inr (hw _ (List.mem_of_getElem? (i := 34) rfl))) (Or.inr (hw _ (List.mem_of_getElem? (i := 20) rfl))) (by decide) (t := (.array .int)) (t' := (.array .double)) (by decide) (by decide)))).ext E26) (Or.inr (slot_ne (Or.inr (hw _ (List.mem_of_getElem? (i := 34) rfl))) (Or.inr (hw _ (List.mem_of_getElem? (i := 22) rfl))) (by decide) (t := (.array .int)) (t' := (.array .int)) (by decide) (by decide)))).ext E31) (Or.inr (slot_ne (Or.inr (hw _ (List.mem_of_getElem? (i := 34) rfl))) (Or.inr (hw _ (List.mem_of_getElem? (i := 24) rfl))) (by decide) (t := (.array .int)) (t' := (.array .double)) (by decide) (by decide)))).keep Kc38 (ninS ne_r0_b31 nin0)).ext E39) (Or.inr (slot_ne (Or.inr (hw _ (List.mem_of_getElem? (i := 34) rfl))) (Or.inr (hw _ (List.mem_of_getElem? (i := 31) rfl))) (by decide) (t := (.array .int)) (t' := (.array .double)) (by decide) (by decide)))).keep Kc46 (ninS ne_r0_b39 nin0)).ext E47)
  obtain ⟨T51, h51, X51, e51, W51, st51⟩ := putF X47 hx hZ hown (host := "") (Or.inl (hw _ (List.mem_of_getElem? (i := 33) rfl))) Via.refl e47 f50 f49 (Or.inr ⟨(hw _ (List.mem_of_getElem? (i := 34) rfl)), rfl, hnm⟩) (hw _ (List.mem_of_getElem? (i := 1) rfl)) (ty := (.array .int)) (by decide) rfl rfl (g := (mkF m 84 #[rv r0, iv (3 : Int32)] [(.ref b47), (.ref r0)])) rfl rfl (Jvm.hb hby d1_84)
  have Fw51 := Fld.same W51 f50
  have N51 := Fr.snoc X51 N46 g_r0
  have Z51 : n0 ≤ h51.size := W51.size ▸ Z47
  have K51 : Keep h0 h51 [r0] := Keep.wr K47 W51 (Or.inl (List.mem_of_getElem? (i := 0) rfl))
  refine own_go st51 ?_
  show Gm p e below T51 m 87 #[rv r0, iv (3 : Int32)] [] _
  refine own_go (fun t₀ k₀ => XS.aloadN X51.here hx rfl (Jvm.hb hby d1_87) rfl rfl k₀) ?_
  show Gm p e below T51 m 88 #[rv r0, iv (3 : Int32)] [(.ref r0)] _
  obtain ⟨T52, X52, e52, st52⟩ := getF X51 hx hZ hown (host := "") (Or.inl (hw _ (List.mem_of_getElem? (i := 33) rfl))) Via.refl e51 Fw51 (g := (mkF m 88 #[rv r0, iv (3 : Int32)] [(.ref r0)])) rfl rfl (Jvm.hb hby d1_88)
  refine own_go st52 ?_
  show Gm p e below T52 m 91 #[rv r0, iv (3 : Int32)] [(.ref b47)] _
  refine own_go (fun t₀ k₀ => XS.iconst X52.here hx rfl (Jvm.hb hby d1_91) k₀) ?_
  show Gm p e below T52 m 92 #[rv r0, iv (3 : Int32)] [(.int (-1 : Int32)), (.ref b47)] _
  have f53 := (V47.other W51 (Ne.symm ne_r0_b47))
  obtain ⟨_, _, ⟨T54, L54, k54, n54⟩, -, X54, ⟨Lc54, hQ54, l54, y54, z54⟩, st54⟩ := Jvm.LawKit.callS X52 hx (y := (⟨"java/util/Arrays", "fill", "([II)V"⟩ : MethodName)) hown (mvT hZ (hw _ (List.mem_of_getElem? (i := 35) rfl))) (mvT hZ (hw _ (List.mem_of_getElem? (i := 36) rfl))) (mvT hZ (hw _ (List.mem_of_getElem? (i := 28) rfl))) (mvT hZ (hw _ (List.mem_of_getElem? (i := 37) rfl))) (by decide) (backOf (W := 0) (rm4_3 l Z a0 hw [] b47 (-1 : Int32) (fun _ => defaultValue .int) h51 n0 Z51 f53 g_b47) hZ (hw _ (List.mem_of_getElem? (i := 37) rfl)) (hw _ (List.mem_of_getElem? (i := 28) rfl)) (by decide) (by decide)) (g := (mkF m 92 #[rv r0, iv (3 : Int32)] [(.int (-1 : Int32)), (.ref b47)])) rfl (by rw [hml]; rfl) (argsL := [(.ref b47), (.int (-1 : Int32))]) (rest := []) (lenOf own_pd1 rfl) rfl (by show 2 * 0 + _ ≤ _; exact Nat.le_of_eq rfl) (Jvm.hb hby d1_92) (fun _ _ => ⟨rfl, e52, (by decide : 9 + 0 ≤ _), (by decide : 27 + 0 ≤ _)⟩)
  dsimp only [Pt.U, Pt.locs, Pt.cells, Pt.slots] at X54 l54 y54 z54 st54 hQ54
  subst l54 y54 z54
  obtain ⟨rfl, Nq54, Kc54, Ac54⟩ := hQ54
  have N54 := Fr.app N51 Nq54
  refine own_go st54 ?_
  have Z54 : n0 ≤ T54.heap.size := Nat.le_trans Z51 Kc54.1
  have K54 : Keep h0 T54.heap [r0] := Keep.trans K51 Kc54 (allS (Or.inr sz_b47) all0)
  show Gm p e below T54 m 95 #[rv r0, iv (3 : Int32)] [] _
  refine own_go (fun t₀ k₀ => XS.aloadN X54.here hx rfl (Jvm.hb hby d1_95) rfl rfl k₀) ?_
  show Gm p e below T54 m 96 #[rv r0, iv (3 : Int32)] [(.ref r0)] _
  refine own_go (fun t₀ k₀ => XS.iloadN X54.here hx rfl (Jvm.hb hby d1_96) rfl k₀) ?_
  show Gm p e below T54 m 97 #[rv r0, iv (3 : Int32)] [(.int (3 : Int32)), (.ref r0)] _
  obtain ⟨T55, h55, k55, X55, e55, E55, A55, st55⟩ := newP X54 hx hZ (hw _ (List.mem_of_getElem? (i := 9) rfl)) rfl (g := (mkF m 97 #[rv r0, iv (3 : Int32)] [(.int (3 : Int32)), (.ref r0)])) rfl (Jvm.hb hby d1_97) rfl (by decide) (cap := 3) (by decide) (by decide) (by decide) (by decide)
  obtain ⟨b55, g55⟩ : ∃ z, z = T54.heap.size := ⟨_, rfl⟩
  rw [← g55] at A55 st55
  have g_b55 : n0 ≤ b55 := Nat.le_trans Z54 (Nat.le_of_eq g55.symm)
  have f56 := ((f49.wr W51).keep Kc54)
  have ne_r0_b55 : r0 ≠ b55 := Nat.ne_of_lt (Nat.lt_of_lt_of_le f56.lt (Nat.le_of_eq g55.symm))
  have sz_b55 : h0.size ≤ b55 := Nat.le_trans K54.1 (Nat.le_of_eq g55.symm)
  have K55 : Keep h0 h55 [r0] := Keep.ext K54 E55
  have Z55 : n0 ≤ h55.size := Nat.le_trans Z54 E55.1
  have V55 : Af Z h55 b55 .int 3 (fun _ => defaultValue .int) := Af.new A55 (by decide) rfl rfl
  refine own_go st55 ?_
  show Gm p e below T55 m 99 #[rv r0, iv (3 : Int32)] [(.ref b55), (.ref r0)] _
  have f57 := (f56.ext E55)
  have f58 := (((Fld.other W51 (((Fld.other W43 (((Fld.other W35 ((Fld.other W30 ((Fld.other W25 ((Fld.other W20 ((Fld.other W15 ((Fld.other W10 ((Fld.other W5 (F_exit.ext E2) (Or.inr (slot_ne (Or.inr (hw _ (List.mem_of_getElem? (i := 39) rfl))) (Or.inr (hw _ (List.mem_of_getElem? (i := 11) rfl))) (by decide) (t := (.array .int)) (t' := (.array .int)) (by decide) (by decide)))).ext E6) (Or.inr (slot_ne (Or.inr (hw _ (List.mem_of_getElem? (i := 39) rfl))) (Or.inr (hw _ (List.mem_of_getElem? (i := 13) rfl))) (by decide) (t := (.array .int)) (t' := (.array .int)) (by decide) (by decide)))).ext E11) (Or.inr (slot_ne (Or.inr (hw _ (List.mem_of_getElem? (i := 39) rfl))) (Or.inr (hw _ (List.mem_of_getElem? (i := 15) rfl))) (by decide) (t := (.array .int)) (t' := (.array .int)) (by decide) (by decide)))).ext E16) (Or.inr (slot_ne (Or.inr (hw _ (List.mem_of_getElem? (i := 39) rfl))) (Or.inr (hw _ (List.mem_of_getElem? (i := 18) rfl))) (by decide) (t := (.array .int)) (t' := (.array .double)) (by decide) (by decide)))).ext E21) (Or.inr (slot_ne (Or.inr (hw _ (List.mem_of_getElem? (i := 39) rfl))) (Or.inr (hw _ (List.mem_of_getElem? (i := 20) rfl))) (by decide) (t := (.array .int)) (t' := (.array .double)) (by decide) (by decide)))).ext E26) (Or.inr (slot_ne (Or.inr (hw _ (List.mem_of_getElem? (i := 39) rfl))) (Or.inr (hw _ (List.mem_of_getElem? (i := 22) rfl))) (by decide) (t := (.array .int)) (t' := (.array .int)) (by decide) (by decide)))).ext E31) (Or.inr (slot_ne (Or.inr (hw _ (List.mem_of_getElem? (i := 39) rfl))) (Or.inr (hw _ (List.mem_of_getElem? (i := 24) rfl))) (by decide) (t := (.array .int)) (t' := (.array .double)) (by decide) (by decide)))).keep Kc38 (ninS ne_r0_b31 nin0)).ext E39) (Or.inr (slot_ne (Or.inr (hw _ (List.mem_of_getElem? (i := 39) rfl))) (Or.inr (hw _ (List.mem_of_getElem? (i := 31) rfl))) (by decide) (t := (.array .int)) (t' := (.array .double)) (by decide) (by decide)))).keep Kc46 (ninS ne_r0_b39 nin0)).ext E47) (Or.inr (slot_ne (Or.inr (hw _ (List.mem_of_getElem? (i := 39) rfl))) (Or.inr (hw _ (List.mem_of_getElem? (i := 34) rfl))) (by decide) (t := (.array .int)) (t' := (.array .int)) (by decide) (by decide)))).keep Kc54 (ninS ne_r0_b47 nin0)).ext E55)
  obtain ⟨T59, h59, X59, e59, W59, st59⟩ := putF X55 hx hZ hown (host := "") (Or.inl (hw _ (List.mem_of_getElem? (i := 38) rfl))) Via.refl e55 f58 f57 (Or.inr ⟨(hw _ (List.mem_of_getElem? (i := 39) rfl)), rfl, hnm⟩) (hw _ (List.mem_of_getElem? (i := 1) rfl)) (ty := (.array .int)) (by decide) rfl rfl (g := (mkF m 99 #[rv r0, iv (3 : Int32)] [(.ref b55), (.ref r0)])) rfl rfl (Jvm.hb hby d1_99)
  have Fw59 := Fld.same W59 f58
  have N59 := Fr.snoc X59 N54 g_r0
  have Z59 : n0 ≤ h59.size := W59.size ▸ Z55
  have K59 : Keep h0 h59 [r0] := Keep.wr K55 W59 (Or.inl (List.mem_of_getElem? (i := 0) rfl))
  refine own_go st59 ?_
  show Gm p e below T59 m 102 #[rv r0, iv (3 : Int32)] [] _
  refine own_go (fun t₀ k₀ => XS.aloadN X59.here hx rfl (Jvm.hb hby d1_102) rfl rfl k₀) ?_
  show Gm p e below T59 m 103 #[rv r0, iv (3 : Int32)] [(.ref r0)] _
  obtain ⟨T60, X60, e60, st60⟩ := getF X59 hx hZ hown (host := "") (Or.inl (hw _ (List.mem_of_getElem? (i := 38) rfl))) Via.refl e59 Fw59 (g := (mkF m 103 #[rv r0, iv (3 : Int32)] [(.ref r0)])) rfl rfl (Jvm.hb hby d1_103)
  refine own_go st60 ?_
  show Gm p e below T60 m 106 #[rv r0, iv (3 : Int32)] [(.ref b55)] _
  refine own_go (fun t₀ k₀ => XS.iconst X60.here hx rfl (Jvm.hb hby d1_106) k₀) ?_
  show Gm p e below T60 m 107 #[rv r0, iv (3 : Int32)] [(.int (-1 : Int32)), (.ref b55)] _
  have f61 := (V55.other W59 (Ne.symm ne_r0_b55))
  obtain ⟨_, _, ⟨T62, L62, k62, n62⟩, -, X62, ⟨Lc62, hQ62, l62, y62, z62⟩, st62⟩ := Jvm.LawKit.callS X60 hx (y := (⟨"java/util/Arrays", "fill", "([II)V"⟩ : MethodName)) hown (mvT hZ (hw _ (List.mem_of_getElem? (i := 35) rfl))) (mvT hZ (hw _ (List.mem_of_getElem? (i := 36) rfl))) (mvT hZ (hw _ (List.mem_of_getElem? (i := 28) rfl))) (mvT hZ (hw _ (List.mem_of_getElem? (i := 37) rfl))) (by decide) (backOf (W := 0) (rm4_3 l Z a0 hw [] b55 (-1 : Int32) (fun _ => defaultValue .int) h59 n0 Z59 f61 g_b55) hZ (hw _ (List.mem_of_getElem? (i := 37) rfl)) (hw _ (List.mem_of_getElem? (i := 28) rfl)) (by decide) (by decide)) (g := (mkF m 107 #[rv r0, iv (3 : Int32)] [(.int (-1 : Int32)), (.ref b55)])) rfl (by rw [hml]; rfl) (argsL := [(.ref b55), (.int (-1 : Int32))]) (rest := []) (lenOf own_pd1 rfl) rfl (by show 2 * 0 + _ ≤ _; exact Nat.le_of_eq rfl) (Jvm.hb hby d1_107) (fun _ _ => ⟨rfl, e60, (by decide : 10 + 0 ≤ _), (by decide : 30 + 0 ≤ _)⟩)
  dsimp only [Pt.U, Pt.locs, Pt.cells, Pt.slots] at X62 l62 y62 z62 st62 hQ62
  subst l62 y62 z62
  obtain ⟨rfl, Nq62, Kc62, Ac62⟩ := hQ62
  have N62 := Fr.app N59 Nq62
  refine own_go st62 ?_
  have Z62 : n0 ≤ T62.heap.size := Nat.le_trans Z59 Kc62.1
  have K62 : Keep h0 T62.heap [r0] := Keep.trans K59 Kc62 (allS (Or.inr sz_b55) all0)
  show Gm p e below T62 m 110 #[rv r0, iv (3 : Int32)] [] _
  refine own_go (fun t₀ k₀ => XS.aloadN X62.here hx rfl (Jvm.hb hby d1_110) rfl rfl k₀) ?_
  show Gm p e below T62 m 111 #[rv r0, iv (3 : Int32)] [(.ref r0)] _
  refine own_go (fun t₀ k₀ => XS.iloadN X62.here hx rfl (Jvm.hb hby d1_111) rfl k₀) ?_
  show Gm p e below T62 m 112 #[rv r0, iv (3 : Int32)] [(.int (3 : Int32)), (.ref r0)] _
  obtain ⟨T63, h63, k63, X63, e63, E63, A63, st63⟩ := newP X62 hx hZ (hw _ (List.mem_of_getElem? (i := 16) rfl)) rfl (g := (mkF m 112 #[rv r0, iv (3 : Int32)] [(.int (3 : Int32)), (.ref r0)])) rfl (Jvm.hb hby d1_112) rfl (by decide) (cap := 3) (by decide) (by decide) (by decide) (by decide)
  obtain ⟨b63, g63⟩ : ∃ z, z = T62.heap.size := ⟨_, rfl⟩
  rw [← g63] at A63 st63
  have g_b63 : n0 ≤ b63 := Nat.le_trans Z62 (Nat.le_of_eq g63.symm)
  have f64 := ((f57.wr W59).keep Kc62)
  have ne_r0_b63 : r0 ≠ b63 := Nat.ne_of_lt (Nat.lt_of_lt_of_le f64.lt (Nat.le_of_eq g63.symm))
  have ne_b55_b63 : b55 ≠ b63 := Nat.ne_of_lt (Nat.lt_of_lt_of_le Ac62.lt (Nat.le_of_eq g63.symm))
  have sz_b63 : h0.size ≤ b63 := Nat.le_trans K62.1 (Nat.le_of_eq g63.symm)
  have K63 : Keep h0 h63 [r0] := Keep.ext K62 E63
  have Z63 : n0 ≤ h63.size := Nat.le_trans Z62 E63.1
  have V63 : Af Z h63 b63 .double 3 (fun _ => defaultValue .double) := Af.new A63 (by decide) rfl rfl
  refine own_go st63 ?_
  show Gm p e below T63 m 114 #[rv r0, iv (3 : Int32)] [(.ref b63), (.ref r0)] _
  have f65 := (f64.ext E63)
  have f66 := (((Fld.other W59 (((Fld.other W51 (((Fld.other W43 (((Fld.other W35 ((Fld.other W30 ((Fld.other W25 ((Fld.other W20 ((Fld.other W15 ((Fld.other W10 ((Fld.other W5 (F_distanceM.ext E2) (Or.inr (slot_ne (Or.inr (hw _ (List.mem_of_getElem? (i := 41) rfl))) (Or.inr (hw _ (List.mem_of_getElem? (i := 11) rfl))) (by decide) (t := (.array .double)) (t' := (.array .int)) (by decide) (by decide)))).ext E6) (Or.inr (slot_ne (Or.inr (hw _ (List.mem_of_getElem? (i := 41) rfl))) (Or.inr (hw _ (List.mem_of_getElem? (i := 13) rfl))) (by decide) (t := (.array .double)) (t' := (.array .int)) (by decide) (by decide)))).ext E11) (Or.inr (slot_ne (Or.inr (hw _ (List.mem_of_getElem? (i := 41) rfl))) (Or.inr (hw _ (List.mem_of_getElem? (i := 15) rfl))) (by decide) (t := (.array .double)) (t' := (.array .int)) (by decide) (by decide)))).ext E16) (Or.inr (slot_ne (Or.inr (hw _ (List.mem_of_getElem? (i := 41) rfl))) (Or.inr (hw _ (List.mem_of_getElem? (i := 18) rfl))) (by decide) (t := (.array .double)) (t' := (.array .double)) (by decide) (by decide)))).ext E21) (Or.inr (slot_ne (Or.inr (hw _ (List.mem_of_getElem? (i := 41) rfl))) (Or.inr (hw _ (List.mem_of_getElem? (i := 20) rfl))) (by decide) (t := (.array .double)) (t' := (.array .double)) (by decide) (by decide)))).ext E26) (Or.inr (slot_ne (Or.inr (hw _ (List.mem_of_getElem? (i := 41) rfl))) (Or.inr (hw _ (List.mem_of_getElem? (i := 22) rfl))) (by decide) (t := (.array .double)) (t' := (.array .int)) (by decide) (by decide)))).ext E31) (Or.inr (slot_ne (Or.inr (hw _ (List.mem_of_getElem? (i := 41) rfl))) (Or.inr (hw _ (List.mem_of_getElem? (i := 24) rfl))) (by decide) (t := (.array .double)) (t' := (.array .double)) (by decide) (by decide)))).keep Kc38 (ninS ne_r0_b31 nin0)).ext E39) (Or.inr (slot_ne (Or.inr (hw _ (List.mem_of_getElem? (i := 41) rfl))) (Or.inr (hw _ (List.mem_of_getElem? (i := 31) rfl))) (by decide) (t := (.array .double)) (t' := (.array .double)) (by decide) (by decide)))).keep Kc46 (ninS ne_r0_b39 nin0)).ext E47) (Or.inr (slot_ne (Or.inr (hw _ (List.mem_of_getElem? (i := 41) rfl))) (Or.inr (hw _ (List.mem_of_getElem? (i := 34) rfl))) (by decide) (t := (.array .double)) (t' := (.array .int)) (by decide) (by decide)))).keep Kc54 (ninS ne_r0_b47 nin0)).ext E55) (Or.inr (slot_ne (Or.inr (hw _ (List.mem_of_getElem? (i := 41) rfl))) (Or.inr (hw _ (List.mem_of_getElem? (i := 39) rfl))) (by decide) (t := (.array .double)) (t' := (.array .int)) (by decide) (by decide)))).keep Kc62 (ninS ne_r0_b55 nin0)).ext E63)
  obtain ⟨T67, h67, X67, e67, W67, st67⟩ := putF X63 hx hZ hown (host := "") (Or.inl (hw _ (List.mem_of_getElem? (i := 40) rfl))) Via.refl e63 f66 f65 (Or.inr ⟨(hw _ (List.mem_of_getElem? (i := 41) rfl)), rfl, hnm⟩) (hw _ (List.mem_of_getElem? (i := 1) rfl)) (ty := (.array .double)) (by decide) rfl rfl (g := (mkF m 114 #[rv r0, iv (3 : Int32)] [(.ref b63), (.ref r0)])) rfl rfl (Jvm.hb hby d1_114)
  have Fw67 := Fld.same W67 f66
  have N67 := Fr.snoc X67 N62 g_r0
  have Z67 : n0 ≤ h67.size := W67.size ▸ Z63
  have K67 : Keep h0 h67 [r0] := Keep.wr K63 W67 (Or.inl (List.mem_of_getElem? (i := 0) rfl))
  refine own_go st67 ?_
  show Gm p e below T67 m 117 #[rv r0, iv (3 : Int32)] [] _
  have f68 := (f65.wr W67)
  have f69 := (Fld.other W67 ((Fw59.keep Kc62 (ninS ne_r0_b55 nin0)).ext E63) (Or.inr (slot_ne (Or.inr (hw _ (List.mem_of_getElem? (i := 39) rfl))) (Or.inr (hw _ (List.mem_of_getElem? (i := 41) rfl))) (by decide) (t := (.array .int)) (t' := (.array .double)) (by decide) (by decide))))
  have f70 := ((Ac62.ext E63).other W67 (Ne.symm ne_r0_b55))
  exact own_retV X67 hx hlk Bd.returns (Jvm.hb hby d1_117) e67 ⟨b55, rfl, N67, K67, f68, sz_b55, f69, f70⟩ (by decide) (by decide)
theorem own_pn_rm5_3 : plainName "com/example/throughfare/throughfare/simulation/Walkers" = true := by first | (simp [plainName, overriddenIn]; done) | decide +kernel
theorem own_ef_rm5_3 (m : MethodId) (r0 : Addr) : entryFrame m #[(.ref r0)] 5 = mkF m 0 #[.val (.ref r0), .unset, .unset, .unset, .unset] [] := by first | (simp [entryFrame, mkF, argsToLocals, Value.category]; done) | rfl
def fA3 (ve0 : Int32) (ve1 : Int32) (ve2 : Int32) : Int32 := if ve0 < (0 : Int32) then (1 : Int32) else (if ve1 < (0 : Int32) then (1 : Int32) else (if ve2 < (0 : Int32) then (1 : Int32) else ((0 : Int32))))
def Q5_3 (Z : State) (r0 : Addr) (c1 : Addr) (f : Nat → Value) (ve0 : Int32) (ve1 : Int32) (ve2 : Int32) (h0 : Heap) (n0 : Nat) (v : Option Value) (h : Heap) (L : List Loc) : Prop := v = some (.int (fA3 ve0 ve1 ve2)) ∧ Fr n0 L ∧ h = h0
set_option maxRecDepth 65536 in
set_option maxHeartbeats 40000000 in
theorem rm5_3 (l : Launch) (Z : State) (a0 : Array Value) (hw : ∀ d ∈ tables_1, d.before a0 Z = true) (ws : List Jvm.Cond) (r0 : Addr) (c1 : Addr) (f : Nat → Value) (ve0 : Int32) (ve1 : Int32) (ve2 : Int32) (h0 : Heap) (n0 : Nat) (Z0 : n0 ≤ h0.size) (F_e : Fld Z h0 r0 "com/example/throughfare/throughfare/simulation/Walkers" "exit" "[I" (.ref c1)) (A : Af Z h0 c1 .int 3 f) (hf0 : f 0 = .int ve0) (hf1 : f 1 = .int ve1) (hf2 : f 2 = .int ve2) :
    MetFree l (⟨"com/example/throughfare/throughfare/simulation/Walkers", "anyoneInside", "()Z"⟩ : MethodName) (head1 (Jvm.Cond.code (⟨"com/example/throughfare/throughfare/simulation/Walkers", "anyoneInside", "()Z"⟩ : MethodName) prog_63_method_3_code 5 (some .boolean) :: ws) ({ frames := 0, cells := 0, slots := 0, locals := 0 } : Room)) (fun a U => a = #[(.ref r0)] ∧ Z.Warmed39 U.vm ∧ U.heap = h0) (fun _ _ _ _ _ => True) (fun _ U o U' => ∃ v L, o = .returned v ∧ Q5_3 Z r0 c1 f ve0 ve1 ve2 h0 n0 v U'.heap L ∧ FrameEnd U o U' L ({ frames := 0, cells := 0, slots := 0, locals := 0 } : Room).cells ({ frames := 0, cells := 0, slots := 0, locals := 0 } : Room).slots) := by
  refine MetFree.of_bodySF (plainFor_of_name own_pn_rm5_3) hisR ?_
  intro p e s m args below meth cO s₁ Bd hml0 hP hK
  obtain ⟨rfl, hZ, hh⟩ := hP
  have hx := Bd.exec
  have hby := Bd.bytes
  have hml : cO.maxLocals = 5 := hml0
  have hown : s.vm.findClass "com/example/throughfare/throughfare/simulation/Walkers" = some m.cls := findClass_of_methodNamed Bd.named
  have hnm := (name_of_methodNamed Bd.named Bd.method).1
  have hlk : meth.locks = false := BodyLoose.notSynchronized Bd
  have X0 : Stand p l e ({ frames := 0, cells := 0, slots := 0, locals := 0 } : Room) s m #[(.ref r0)] below meth cO s₁ [] 0 0 := Stand.of_body Bd
  have e0 : s₁.heap = h0 := by rw [← hh, Bd.state]; rfl
  have N0 := Fr.nil n0
  refine own_in (own_ef_rm5_3 m r0) ?_
  show Gm p e below s₁ m 0 #[rv r0, .unset, .unset, .unset, .unset] [] _
  refine own_go (fun t₀ k₀ => XS.aloadN X0.here hx rfl (Jvm.hb hby d5_0) rfl rfl k₀) ?_
  show Gm p e below s₁ m 1 #[rv r0, .unset, .unset, .unset, .unset] [(.ref r0)] _
  obtain ⟨T1, X1, e1, st1⟩ := getF X0 hx hZ hown (host := "") (Or.inl (hw _ (List.mem_of_getElem? (i := 38) rfl))) Via.refl e0 F_e (g := (mkF m 1 #[rv r0, .unset, .unset, .unset, .unset] [(.ref r0)])) rfl rfl (Jvm.hb hby d5_1)
  refine own_go st1 ?_
  show Gm p e below T1 m 4 #[rv r0, .unset, .unset, .unset, .unset] [(.ref c1)] _
  refine own_go (fun t₀ k₀ => XS.astoreN X1.here hx rfl (Jvm.hb hby d5_4) rfl rfl (l' := #[rv r0, rv c1, .unset, .unset, .unset]) rfl k₀) ?_
  show Gm p e below T1 m 5 #[rv r0, rv c1, .unset, .unset, .unset] [] _
  refine own_go (fun t₀ k₀ => XS.aloadN X1.here hx rfl (Jvm.hb hby d5_5) rfl rfl k₀) ?_
  show Gm p e below T1 m 6 #[rv r0, rv c1, .unset, .unset, .unset] [(.ref c1)] _
  refine own_go (fun t₀ k₀ => own_len X1 hx hZ e1 A (z := (3 : Int32)) rfl (g := (mkF m 6 #[rv r0, rv c1, .unset, .unset, .unset] [(.ref c1)])) rfl rfl (Jvm.hb hby d5_6) k₀) ?_
  show Gm p e below T1 m 7 #[rv r0, rv c1, .unset, .unset, .unset] [(.int (3 : Int32))] _
  refine own_go (fun t₀ k₀ => XS.istoreN X1.here hx rfl (Jvm.hb hby d5_7) rfl (l' := #[rv r0, rv c1, iv (3 : Int32), .unset, .unset]) rfl k₀) ?_
  show Gm p e below T1 m 8 #[rv r0, rv c1, iv (3 : Int32), .unset, .unset] [] _
  refine own_go (fun t₀ k₀ => XS.iconst X1.here hx rfl (Jvm.hb hby d5_8) k₀) ?_
  show Gm p e below T1 m 9 #[rv r0, rv c1, iv (3 : Int32), .unset, .unset] [(.int (0 : Int32))] _
  refine own_go (fun t₀ k₀ => XS.istoreN X1.here hx rfl (Jvm.hb hby d5_9) rfl (l' := #[rv r0, rv c1, iv (3 : Int32), iv (0 : Int32), .unset]) rfl k₀) ?_
  show Gm p e below T1 m 10 #[rv r0, rv c1, iv (3 : Int32), iv (0 : Int32), .unset] [] _
  refine own_go (fun t₀ k₀ => XS.iloadN X1.here hx rfl (Jvm.hb hby d5_10) rfl k₀) ?_
  show Gm p e below T1 m 11 #[rv r0, rv c1, iv (3 : Int32), iv (0 : Int32), .unset] [(.int (0 : Int32))] _
  refine own_go (fun t₀ k₀ => XS.iloadN X1.here hx rfl (Jvm.hb hby d5_11) rfl k₀) ?_
  show Gm p e below T1 m 12 #[rv r0, rv c1, iv (3 : Int32), iv (0 : Int32), .unset] [(.int (3 : Int32)), (.int (0 : Int32))] _
  refine own_go (fun t₀ k₀ => XS.icmpNo X1.here hx rfl (Jvm.hb hby d5_12) rfl (XT.ii_ge_f (by decide)) k₀) ?_
  show Gm p e below T1 m 15 #[rv r0, rv c1, iv (3 : Int32), iv (0 : Int32), .unset] [] _
  refine own_go (fun t₀ k₀ => XS.aloadN X1.here hx rfl (Jvm.hb hby d5_15) rfl rfl k₀) ?_
  show Gm p e below T1 m 16 #[rv r0, rv c1, iv (3 : Int32), iv (0 : Int32), .unset] [(.ref c1)] _
  refine own_go (fun t₀ k₀ => XS.iloadN X1.here hx rfl (Jvm.hb hby d5_16) rfl k₀) ?_
  show Gm p e below T1 m 17 #[rv r0, rv c1, iv (3 : Int32), iv (0 : Int32), .unset] [(.int (0 : Int32)), (.ref c1)] _
  refine own_go (fun t₀ k₀ => own_ldI X1 hx hZ e1 A (j := (0 : Int32)) (k := 0) (by decide) rfl (by decide) (w := (.int ve0)) hf0 (g := (mkF m 17 #[rv r0, rv c1, iv (3 : Int32), iv (0 : Int32), .unset] [(.int (0 : Int32)), (.ref c1)])) rfl rfl (Jvm.hb hby d5_17) k₀) ?_
  show Gm p e below T1 m 18 #[rv r0, rv c1, iv (3 : Int32), iv (0 : Int32), .unset] [(.int ve0)] _
  refine own_go (fun t₀ k₀ => XS.istore X1.here hx rfl (Jvm.hb hby d5_18) rfl (l' := #[rv r0, rv c1, iv (3 : Int32), iv (0 : Int32), iv ve0]) rfl k₀) ?_
  show Gm p e below T1 m 20 #[rv r0, rv c1, iv (3 : Int32), iv (0 : Int32), iv ve0] [] _
  refine own_go (fun t₀ k₀ => XS.iload X1.here hx rfl (Jvm.hb hby d5_20) rfl k₀) ?_
  show Gm p e below T1 m 22 #[rv r0, rv c1, iv (3 : Int32), iv (0 : Int32), iv ve0] [(.int ve0)] _
  by_cases c2 : ve0 < (0 : Int32)
  · have hfork := trivial
    refine own_go (fun t₀ k₀ => XS.ifNo X1.here hx rfl (Jvm.hb hby d5_22) rfl (XT.i0_ge_f c2) k₀) ?_
    show Gm p e below T1 m 25 #[rv r0, rv c1, iv (3 : Int32), iv (0 : Int32), iv ve0] [] _
    refine own_go (fun t₀ k₀ => XS.iconst X1.here hx rfl (Jvm.hb hby d5_25) k₀) ?_
    show Gm p e below T1 m 26 #[rv r0, rv c1, iv (3 : Int32), iv (0 : Int32), iv ve0] [(.int (1 : Int32))] _
    exact own_retI X1 hx hlk (t := .boolean) Bd.returns rfl (by simp) (Jvm.hb hby d5_26) e1 ⟨(by unfold fA3; rw [if_pos c2]), N0, rfl⟩ (by decide) (by decide)
  · have hfork := trivial
    refine own_go (fun t₀ k₀ => XS.ifYes X1.here hx rfl (pc0 := 22) (pc' := 27) rfl (Jvm.hb hby d5_22) rfl (XT.i0_ge_t c2) (by decide) (by decide) k₀) ?_
    show Gm p e below T1 m 27 #[rv r0, rv c1, iv (3 : Int32), iv (0 : Int32), iv ve0] [] _
    refine own_go (fun t₀ k₀ => XS.iinc X1.here hx rfl (Jvm.hb hby d5_27) rfl (l' := #[rv r0, rv c1, iv (3 : Int32), iv (1 : Int32), iv ve0]) rfl k₀) ?_
    show Gm p e below T1 m 30 #[rv r0, rv c1, iv (3 : Int32), iv (1 : Int32), iv ve0] [] _
    refine own_go (fun t₀ k₀ => XS.goto X1.here hx rfl (pc0 := 30) (pc' := 10) rfl (Jvm.hb hby d5_30) (by decide) (by decide) k₀) ?_
    show Gm p e below T1 m 10 #[rv r0, rv c1, iv (3 : Int32), iv (1 : Int32), iv ve0] [] _
    refine own_go (fun t₀ k₀ => XS.iloadN X1.here hx rfl (Jvm.hb hby d5_10) rfl k₀) ?_
    show Gm p e below T1 m 11 #[rv r0, rv c1, iv (3 : Int32), iv (1 : Int32), iv ve0] [(.int (1 : Int32))] _
    refine own_go (fun t₀ k₀ => XS.iloadN X1.here hx rfl (Jvm.hb hby d5_11) rfl k₀) ?_
    show Gm p e below T1 m 12 #[rv r0, rv c1, iv (3 : Int32), iv (1 : Int32), iv ve0] [(.int (3 : Int32)), (.int (1 : Int32))] _
    refine own_go (fun t₀ k₀ => XS.icmpNo X1.here hx rfl (Jvm.hb hby d5_12) rfl (XT.ii_ge_f (by decide)) k₀) ?_
    show Gm p e below T1 m 15 #[rv r0, rv c1, iv (3 : Int32), iv (1 : Int32), iv ve0] [] _
    refine own_go (fun t₀ k₀ => XS.aloadN X1.here hx rfl (Jvm.hb hby d5_15) rfl rfl k₀) ?_
    show Gm p e below T1 m 16 #[rv r0, rv c1, iv (3 : Int32), iv (1 : Int32), iv ve0] [(.ref c1)] _
    refine own_go (fun t₀ k₀ => XS.iloadN X1.here hx rfl (Jvm.hb hby d5_16) rfl k₀) ?_
    show Gm p e below T1 m 17 #[rv r0, rv c1, iv (3 : Int32), iv (1 : Int32), iv ve0] [(.int (1 : Int32)), (.ref c1)] _
    refine own_go (fun t₀ k₀ => own_ldI X1 hx hZ e1 A (j := (1 : Int32)) (k := 1) (by decide) rfl (by decide) (w := (.int ve1)) hf1 (g := (mkF m 17 #[rv r0, rv c1, iv (3 : Int32), iv (1 : Int32), iv ve0] [(.int (1 : Int32)), (.ref c1)])) rfl rfl (Jvm.hb hby d5_17) k₀) ?_
    show Gm p e below T1 m 18 #[rv r0, rv c1, iv (3 : Int32), iv (1 : Int32), iv ve0] [(.int ve1)] _
    refine own_go (fun t₀ k₀ => XS.istore X1.here hx rfl (Jvm.hb hby d5_18) rfl (l' := #[rv r0, rv c1, iv (3 : Int32), iv (1 : Int32), iv ve1]) rfl k₀) ?_
    show Gm p e below T1 m 20 #[rv r0, rv c1, iv (3 : Int32), iv (1 : Int32), iv ve1] [] _
    refine own_go (fun t₀ k₀ => XS.iload X1.here hx rfl (Jvm.hb hby d5_20) rfl k₀) ?_
    show Gm p e below T1 m 22 #[rv r0, rv c1, iv (3 : Int32), iv (1 : Int32), iv ve1] [(.int ve1)] _
    by_cases c3 : ve1 < (0 : Int32)
    · have hfork := trivial
      refine own_go (fun t₀ k₀ => XS.ifNo X1.here hx rfl (Jvm.hb hby d5_22) rfl (XT.i0_ge_f c3) k₀) ?_
      show Gm p e below T1 m 25 #[rv r0, rv c1, iv (3 : Int32), iv (1 : Int32), iv ve1] [] _
      refine own_go (fun t₀ k₀ => XS.iconst X1.here hx rfl (Jvm.hb hby d5_25) k₀) ?_
      show Gm p e below T1 m 26 #[rv r0, rv c1, iv (3 : Int32), iv (1 : Int32), iv ve1] [(.int (1 : Int32))] _
      exact own_retI X1 hx hlk (t := .boolean) Bd.returns rfl (by simp) (Jvm.hb hby d5_26) e1 ⟨(by unfold fA3; rw [if_neg c2, if_pos c3]), N0, rfl⟩ (by decide) (by decide)
    · have hfork := trivial
      refine own_go (fun t₀ k₀ => XS.ifYes X1.here hx rfl (pc0 := 22) (pc' := 27) rfl (Jvm.hb hby d5_22) rfl (XT.i0_ge_t c3) (by decide) (by decide) k₀) ?_
      show Gm p e below T1 m 27 #[rv r0, rv c1, iv (3 : Int32), iv (1 : Int32), iv ve1] [] _
      refine own_go (fun t₀ k₀ => XS.iinc X1.here hx rfl (Jvm.hb hby d5_27) rfl (l' := #[rv r0, rv c1, iv (3 : Int32), iv (2 : Int32), iv ve1]) rfl k₀) ?_
      show Gm p e below T1 m 30 #[rv r0, rv c1, iv (3 : Int32), iv (2 : Int32), iv ve1] [] _
      refine own_go (fun t₀ k₀ => XS.goto X1.here hx rfl (pc0 := 30) (pc' := 10) rfl (Jvm.hb hby d5_30) (by decide) (by decide) k₀) ?_
      show Gm p e below T1 m 10 #[rv r0, rv c1, iv (3 : Int32), iv (2 : Int32), iv ve1] [] _
      refine own_go (fun t₀ k₀ => XS.iloadN X1.here hx rfl (Jvm.hb hby d5_10) rfl k₀) ?_
      show Gm p e below T1 m 11 #[rv r0, rv c1, iv (3 : Int32), iv (2 : Int32), iv ve1] [(.int (2 : Int32))] _
      refine own_go (fun t₀ k₀ => XS.iloadN X1.here hx rfl (Jvm.hb hby d5_11) rfl k₀) ?_
      show Gm p e below T1 m 12 #[rv r0, rv c1, iv (3 : Int32), iv (2 : Int32), iv ve1] [(.int (3 : Int32)), (.int (2 : Int32))] _
      refine own_go (fun t₀ k₀ => XS.icmpNo X1.here hx rfl (Jvm.hb hby d5_12) rfl (XT.ii_ge_f (by decide)) k₀) ?_
      show Gm p e below T1 m 15 #[rv r0, rv c1, iv (3 : Int32), iv (2 : Int32), iv ve1] [] _
      refine own_go (fun t₀ k₀ => XS.aloadN X1.here hx rfl (Jvm.hb hby d5_15) rfl rfl k₀) ?_
      show Gm p e below T1 m 16 #[rv r0, rv c1, iv (3 : Int32), iv (2 : Int32), iv ve1] [(.ref c1)] _
      refine own_go (fun t₀ k₀ => XS.iloadN X1.here hx rfl (Jvm.hb hby d5_16) rfl k₀) ?_
      show Gm p e below T1 m 17 #[rv r0, rv c1, iv (3 : Int32), iv (2 : Int32), iv ve1] [(.int (2 : Int32)), (.ref c1)] _
      refine own_go (fun t₀ k₀ => own_ldI X1 hx hZ e1 A (j := (2 : Int32)) (k := 2) (by decide) rfl (by decide) (w := (.int ve2)) hf2 (g := (mkF m 17 #[rv r0, rv c1, iv (3 : Int32), iv (2 : Int32), iv ve1] [(.int (2 : Int32)), (.ref c1)])) rfl rfl (Jvm.hb hby d5_17) k₀) ?_
      show Gm p e below T1 m 18 #[rv r0, rv c1, iv (3 : Int32), iv (2 : Int32), iv ve1] [(.int ve2)] _
      refine own_go (fun t₀ k₀ => XS.istore X1.here hx rfl (Jvm.hb hby d5_18) rfl (l' := #[rv r0, rv c1, iv (3 : Int32), iv (2 : Int32), iv ve2]) rfl k₀) ?_
      show Gm p e below T1 m 20 #[rv r0, rv c1, iv (3 : Int32), iv (2 : Int32), iv ve2] [] _
      refine own_go (fun t₀ k₀ => XS.iload X1.here hx rfl (Jvm.hb hby d5_20) rfl k₀) ?_
      show Gm p e below T1 m 22 #[rv r0, rv c1, iv (3 : Int32), iv (2 : Int32), iv ve2] [(.int ve2)] _
      by_cases c4 : ve2 < (0 : Int32)
      · have hfork := trivial
        refine own_go (fun t₀ k₀ => XS.ifNo X1.here hx rfl (Jvm.hb hby d5_22) rfl (XT.i0_ge_f c4) k₀) ?_
        show Gm p e below T1 m 25 #[rv r0, rv c1, iv (3 : Int32), iv (2 : Int32), iv ve2] [] _
        refine own_go (fun t₀ k₀ => XS.iconst X1.here hx rfl (Jvm.hb hby d5_25) k₀) ?_
        show Gm p e below T1 m 26 #[rv r0, rv c1, iv (3 : Int32), iv (2 : Int32), iv ve2] [(.int (1 : Int32))] _
        exact own_retI X1 hx hlk (t := .boolean) Bd.returns rfl (by simp) (Jvm.hb hby d5_26) e1 ⟨(by unfold fA3; rw [if_neg c2, if_neg c3, if_pos c4]), N0, rfl⟩ (by decide) (by decide)
      · have hfork := trivial
        refine own_go (fun t₀ k₀ => XS.ifYes X1.here hx rfl (pc0 := 22) (pc' := 27) rfl (Jvm.hb hby d5_22) rfl (XT.i0_ge_t c4) (by decide) (by decide) k₀) ?_
        show Gm p e below T1 m 27 #[rv r0, rv c1, iv (3 : Int32), iv (2 : Int32), iv ve2] [] _
        refine own_go (fun t₀ k₀ => XS.iinc X1.here hx rfl (Jvm.hb hby d5_27) rfl (l' := #[rv r0, rv c1, iv (3 : Int32), iv (3 : Int32), iv ve2]) rfl k₀) ?_
        show Gm p e below T1 m 30 #[rv r0, rv c1, iv (3 : Int32), iv (3 : Int32), iv ve2] [] _
        refine own_go (fun t₀ k₀ => XS.goto X1.here hx rfl (pc0 := 30) (pc' := 10) rfl (Jvm.hb hby d5_30) (by decide) (by decide) k₀) ?_
        show Gm p e below T1 m 10 #[rv r0, rv c1, iv (3 : Int32), iv (3 : Int32), iv ve2] [] _
        refine own_go (fun t₀ k₀ => XS.iloadN X1.here hx rfl (Jvm.hb hby d5_10) rfl k₀) ?_
        show Gm p e below T1 m 11 #[rv r0, rv c1, iv (3 : Int32), iv (3 : Int32), iv ve2] [(.int (3 : Int32))] _
        refine own_go (fun t₀ k₀ => XS.iloadN X1.here hx rfl (Jvm.hb hby d5_11) rfl k₀) ?_
        show Gm p e below T1 m 12 #[rv r0, rv c1, iv (3 : Int32), iv (3 : Int32), iv ve2] [(.int (3 : Int32)), (.int (3 : Int32))] _
        refine own_go (fun t₀ k₀ => XS.icmpYes X1.here hx rfl (pc0 := 12) (pc' := 33) rfl (Jvm.hb hby d5_12) rfl (XT.ii_ge_t (by decide)) (by decide) (by decide) k₀) ?_
        show Gm p e below T1 m 33 #[rv r0, rv c1, iv (3 : Int32), iv (3 : Int32), iv ve2] [] _
        refine own_go (fun t₀ k₀ => XS.iconst X1.here hx rfl (Jvm.hb hby d5_33) k₀) ?_
        show Gm p e below T1 m 34 #[rv r0, rv c1, iv (3 : Int32), iv (3 : Int32), iv ve2] [(.int (0 : Int32))] _
        exact own_retI X1 hx hlk (t := .boolean) Bd.returns rfl (by simp) (Jvm.hb hby d5_34) e1 ⟨(by unfold fA3; rw [if_neg c2, if_neg c3, if_neg c4]), N0, rfl⟩ (by decide) (by decide)
theorem own_k4 (x : Int32) : (x &&& (3 : Int32)) = (0 : Int32) ∨ (x &&& (3 : Int32)) = (1 : Int32) ∨ (x &&& (3 : Int32)) = (2 : Int32) ∨ (x &&& (3 : Int32)) = (3 : Int32) := by
  have h := c_mask x 3 2 (by decide) (by decide)
  have h1 := Int.emod_nonneg x.toInt (by decide : ((2 ^ 2 : Nat) : Int) ≠ 0)
  have h2 := Int.emod_lt_of_pos x.toInt (by decide : (0 : Int) < ((2 ^ 2 : Nat) : Int))
  rw [← h] at h1 h2
  have h3 : (x &&& (3 : Int32)).toInt < 4 := h2
  rcases (by omega : (x &&& (3 : Int32)).toInt = 0 ∨ (x &&& (3 : Int32)).toInt = 1 ∨ (x &&& (3 : Int32)).toInt = 2 ∨ (x &&& (3 : Int32)).toInt = 3) with q | q | q | q
  · exact Or.inl (Int32.toInt_inj.mp q)
  · exact Or.inr (Or.inl (Int32.toInt_inj.mp q))
  · exact Or.inr (Or.inr (Or.inl (Int32.toInt_inj.mp q)))
  · exact Or.inr (Or.inr (Or.inr (Int32.toInt_inj.mp q)))
theorem own_pd2 : parseMethodDescriptor "(I)V" = some ⟨[.int], none⟩ := by decide +kernel
theorem own_pd3 : parseMethodDescriptor "()Z" = some ⟨[], some .boolean⟩ := by decide +kernel
theorem own_pn_rm0 : plainName "com/example/throughfare/throughfare/simulation/WalkersAnyoneInsidePinLaw" = true := by first | (simp [plainName, overriddenIn]; done) | decide +kernel
theorem own_ef_rm0 (m : MethodId) (p0 : Int32) (p1 : Int32) (p2 : Int32) (p3 : Int32) (p4 : Int32) : entryFrame m #[(.int p0), (.int p1), (.int p2), (.int p3), (.int p4)] maxLocals = mkF m 0 #[.val (.int p0), .val (.int p1), .val (.int p2), .val (.int p3), .val (.int p4), .unset, .unset, .unset, .unset, .unset, .unset] [] := by first | (simp [entryFrame, mkF, argsToLocals, Value.category, maxLocals]; done) | rfl
def Q0 (Z : State) (p0 : Int32) (p1 : Int32) (p2 : Int32) (p3 : Int32) (p4 : Int32) (h0 : Heap) (n0 : Nat) (v : Option Value) (h : Heap) (L : List Loc) : Prop := v = some (.int 1) ∧ Fr n0 L
set_option maxRecDepth 65536 in
set_option maxHeartbeats 40000000 in
theorem rm0 (l : Launch) (Z : State) (a0 : Array Value) (hw : ∀ d ∈ tables_1, d.before a0 Z = true) (ws : List Jvm.Cond) (p0 : Int32) (p1 : Int32) (p2 : Int32) (p3 : Int32) (p4 : Int32) (h0 : Heap) (n0 : Nat) (Z0 : n0 ≤ h0.size) :
    MetFree l x (head1 (Jvm.Cond.code x code maxLocals ret :: ws) room_1) (fun a U => a = #[(.int p0), (.int p1), (.int p2), (.int p3), (.int p4)] ∧ Z.Warmed39 U.vm ∧ U.heap = h0) (fun _ _ _ _ _ => True) (fun _ U o U' => ∃ v L, o = .returned v ∧ Q0 Z p0 p1 p2 p3 p4 h0 n0 v U'.heap L ∧ FrameEnd U o U' L room_1.cells room_1.slots) := by
  refine MetFree.of_bodySF (plainFor_of_name own_pn_rm0) hisR ?_
  intro p e s m args below meth cO s₁ Bd hml0 hP hK
  obtain ⟨rfl, hZ, hh⟩ := hP
  have hx := Bd.exec
  have hby := Bd.bytes
  have hml : cO.maxLocals = 11 := hml0
  have hown : s.vm.findClass "com/example/throughfare/throughfare/simulation/WalkersAnyoneInsidePinLaw" = some m.cls := findClass_of_methodNamed Bd.named
  have hnm := (name_of_methodNamed Bd.named Bd.method).1
  have hlk : meth.locks = false := BodyLoose.notSynchronized Bd
  have X0 : Stand p l e room_1 s m #[(.int p0), (.int p1), (.int p2), (.int p3), (.int p4)] below meth cO s₁ [] 0 0 := Stand.of_body Bd
  have e0 : s₁.heap = h0 := by rw [← hh, Bd.state]; rfl
  have N0 := Fr.nil n0
  refine own_in (own_ef_rm0 m p0 p1 p2 p3 p4) ?_
  show Gm p e below s₁ m 0 #[iv p0, iv p1, iv p2, iv p3, iv p4, .unset, .unset, .unset, .unset, .unset, .unset] [] _
  refine own_go (fun t₀ k₀ => XS.iloadN X0.here hx rfl (Jvm.hb hby at_0) rfl k₀) ?_
  show Gm p e below s₁ m 1 #[iv p0, iv p1, iv p2, iv p3, iv p4, .unset, .unset, .unset, .unset, .unset, .unset] [(.int p0)] _
  refine own_go (fun t₀ k₀ => XS.iconst X0.here hx rfl (Jvm.hb hby at_1) k₀) ?_
  show Gm p e below s₁ m 2 #[iv p0, iv p1, iv p2, iv p3, iv p4, .unset, .unset, .unset, .unset, .unset, .unset] [(.int (3 : Int32)), (.int p0)] _
  refine own_go (fun t₀ k₀ => XS.iand X0.here hx rfl (Jvm.hb hby at_2) rfl k₀) ?_
  show Gm p e below s₁ m 3 #[iv p0, iv p1, iv p2, iv p3, iv p4, .unset, .unset, .unset, .unset, .unset, .unset] [(.int (p0 &&& (3 : Int32)))] _
  refine own_go (fun t₀ k₀ => XS.istore X0.here hx rfl (Jvm.hb hby at_3) rfl (l' := #[iv p0, iv p1, iv p2, iv p3, iv p4, iv (p0 &&& (3 : Int32)), .unset, .unset, .unset, .unset, .unset]) rfl k₀) ?_
  show Gm p e below s₁ m 5 #[iv p0, iv p1, iv p2, iv p3, iv p4, iv (p0 &&& (3 : Int32)), .unset, .unset, .unset, .unset, .unset] [] _
  rcases own_k4 p0 with hk | hk | hk | hk
  · rw [hk]
    show Gm p e below s₁ m 5 #[iv p0, iv p1, iv p2, iv p3, iv p4, iv (0 : Int32), .unset, .unset, .unset, .unset, .unset] [] _
    obtain ⟨T1, h1, X1, e1, E1, A1, D1, -, st1⟩ := newO X0 hx hZ hown (hw _ (List.mem_of_getElem? (i := 0) rfl)) (hw _ (List.mem_of_getElem? (i := 1) rfl)) (hw _ (List.mem_of_getElem? (i := 2) rfl)) e0 (g := (mkF m 5 #[iv p0, iv p1, iv p2, iv p3, iv p4, iv (0 : Int32), .unset, .unset, .unset, .unset, .unset] [])) rfl (Jvm.hb hby at_5) (by decide) (by decide)
    obtain ⟨b1, g1⟩ : ∃ z, z = h0.size := ⟨_, rfl⟩
    rw [← g1] at A1 D1 st1
    have g_b1 : n0 ≤ b1 := Nat.le_trans Z0 (Nat.le_of_eq g1.symm)
    have Z1 : n0 ≤ h1.size := Nat.le_trans Z0 E1.1
    have F_floor_b1 : Fld Z h1 b1 "com/example/throughfare/throughfare/simulation/Walkers" "floor" "[I" .null := D1 (Or.inr (hw _ (List.mem_of_getElem? (i := 11) rfl))) (ty := (.array .int)) (by decide)
    have F_startCell_b1 : Fld Z h1 b1 "com/example/throughfare/throughfare/simulation/Walkers" "startCell" "[I" .null := D1 (Or.inr (hw _ (List.mem_of_getElem? (i := 13) rfl))) (ty := (.array .int)) (by decide)
    have F_cell_b1 : Fld Z h1 b1 "com/example/throughfare/throughfare/simulation/Walkers" "cell" "[I" .null := D1 (Or.inr (hw _ (List.mem_of_getElem? (i := 15) rfl))) (ty := (.array .int)) (by decide)
    have F_speedMps_b1 : Fld Z h1 b1 "com/example/throughfare/throughfare/simulation/Walkers" "speedMps" "[D" .null := D1 (Or.inr (hw _ (List.mem_of_getElem? (i := 18) rfl))) (ty := (.array .double)) (by decide)
    have F_reactionS_b1 : Fld Z h1 b1 "com/example/throughfare/throughfare/simulation/Walkers" "reactionS" "[D" .null := D1 (Or.inr (hw _ (List.mem_of_getElem? (i := 20) rfl))) (ty := (.array .double)) (by decide)
    have F_heading_b1 : Fld Z h1 b1 "com/example/throughfare/throughfare/simulation/Walkers" "heading" "[I" .null := D1 (Or.inr (hw _ (List.mem_of_getElem? (i := 22) rfl))) (ty := (.array .int)) (by decide)
    have F_heldUpS_b1 : Fld Z h1 b1 "com/example/throughfare/throughfare/simulation/Walkers" "heldUpS" "[D" .null := D1 (Or.inr (hw _ (List.mem_of_getElem? (i := 24) rfl))) (ty := (.array .double)) (by decide)
    have F_exitTimeS_b1 : Fld Z h1 b1 "com/example/throughfare/throughfare/simulation/Walkers" "exitTimeS" "[D" .null := D1 (Or.inr (hw _ (List.mem_of_getElem? (i := 31) rfl))) (ty := (.array .double)) (by decide)
    have F_leaving_b1 : Fld Z h1 b1 "com/example/throughfare/throughfare/simulation/Walkers" "leaving" "[I" .null := D1 (Or.inr (hw _ (List.mem_of_getElem? (i := 34) rfl))) (ty := (.array .int)) (by decide)
    have F_exit_b1 : Fld Z h1 b1 "com/example/throughfare/throughfare/simulation/Walkers" "exit" "[I" .null := D1 (Or.inr (hw _ (List.mem_of_getElem? (i := 39) rfl))) (ty := (.array .int)) (by decide)
    have F_distanceM_b1 : Fld Z h1 b1 "com/example/throughfare/throughfare/simulation/Walkers" "distanceM" "[D" .null := D1 (Or.inr (hw _ (List.mem_of_getElem? (i := 41) rfl))) (ty := (.array .double)) (by decide)
    refine own_go st1 ?_
    show Gm p e below T1 m 8 #[iv p0, iv p1, iv p2, iv p3, iv p4, iv (0 : Int32), .unset, .unset, .unset, .unset, .unset] [(.ref b1)] _
    refine own_go (fun t₀ k₀ => XS.dup X1.here hx rfl (Jvm.hb hby at_8) rfl rfl k₀) ?_
    show Gm p e below T1 m 9 #[iv p0, iv p1, iv p2, iv p3, iv p4, iv (0 : Int32), .unset, .unset, .unset, .unset, .unset] [(.ref b1), (.ref b1)] _
    refine own_go (fun t₀ k₀ => XS.iload X1.here hx rfl (Jvm.hb hby at_9) rfl k₀) ?_
    show Gm p e below T1 m 11 #[iv p0, iv p1, iv p2, iv p3, iv p4, iv (0 : Int32), .unset, .unset, .unset, .unset, .unset] [(.int (0 : Int32)), (.ref b1), (.ref b1)] _
    obtain ⟨_, _, ⟨T2, L2, k2, n2⟩, -, X2, ⟨Lc2, hQ2, l2, y2, z2⟩, st2⟩ := X1.specialBack hx (y := (⟨"com/example/throughfare/throughfare/simulation/Walkers", "<init>", "(I)V"⟩ : MethodName)) rfl hown (mvT hZ (hw _ (List.mem_of_getElem? (i := 3) rfl))) (mvT hZ (hw _ (List.mem_of_getElem? (i := 4) rfl))) (mvT hZ (hw _ (List.mem_of_getElem? (i := 5) rfl))) (by decide) (backOf (W := 1) (rm1_0 l Z a0 hw [] b1 h1 n0 Z1 A1 F_floor_b1 F_startCell_b1 F_cell_b1 F_speedMps_b1 F_reactionS_b1 F_heading_b1 F_heldUpS_b1 F_exitTimeS_b1 F_leaving_b1 F_exit_b1 F_distanceM_b1 g_b1) hZ (hw _ (List.mem_of_getElem? (i := 5) rfl)) (hw _ (List.mem_of_getElem? (i := 2) rfl)) (by decide) (by decide)) (g := (mkF m 11 #[iv p0, iv p1, iv p2, iv p3, iv p4, iv (0 : Int32), .unset, .unset, .unset, .unset, .unset] [(.int (0 : Int32)), (.ref b1), (.ref b1)])) rfl (by rw [hml]; rfl) (Steps.refl _) (a := b1) (argsL := [(.int (0 : Int32))]) (rest := [(.ref b1)]) (lenOf own_pd2 rfl) rfl (by show 2 * 0 + _ ≤ _; exact Nat.le_of_eq rfl) (Jvm.hb hby at_11) (fun _ _ => ⟨rfl, e1, (by decide : 1 + 11 ≤ _), (by decide : 11 + 0 ≤ _)⟩)
    dsimp only [Pt.U, Pt.locs, Pt.cells, Pt.slots] at X2 l2 y2 z2 st2 hQ2
    subst l2 y2 z2
    obtain ⟨exit2, rfl, Nq2, Kc2, Ec2, hs_exit2, Fc_exit2, Ac_exit2⟩ := hQ2
    have N2 := Fr.app N0 Nq2
    refine own_go (fun t k => st2.trans k) ?_
    have ne_b1_exit2 : b1 ≠ exit2 := Nat.ne_of_lt (Nat.lt_of_lt_of_le A1.lt hs_exit2)
    have g_exit2 : n0 ≤ exit2 := Nat.le_trans Z1 hs_exit2
    have Z2 : n0 ≤ T2.heap.size := Nat.le_trans Z1 Kc2.1
    show Gm p e below T2 m 14 #[iv p0, iv p1, iv p2, iv p3, iv p4, iv (0 : Int32), .unset, .unset, .unset, .unset, .unset] [(.ref b1)] _
    refine own_go (fun t₀ k₀ => XS.astore X2.here hx rfl (Jvm.hb hby at_14) rfl rfl (l' := #[iv p0, iv p1, iv p2, iv p3, iv p4, iv (0 : Int32), rv b1, .unset, .unset, .unset, .unset]) rfl k₀) ?_
    show Gm p e below T2 m 16 #[iv p0, iv p1, iv p2, iv p3, iv p4, iv (0 : Int32), rv b1, .unset, .unset, .unset, .unset] [] _
    refine own_go (fun t₀ k₀ => XS.iconst X2.here hx rfl (Jvm.hb hby at_16) k₀) ?_
    show Gm p e below T2 m 17 #[iv p0, iv p1, iv p2, iv p3, iv p4, iv (0 : Int32), rv b1, .unset, .unset, .unset, .unset] [(.int (-1 : Int32))] _
    refine own_go (fun t₀ k₀ => XS.istore X2.here hx rfl (Jvm.hb hby at_17) rfl (l' := #[iv p0, iv p1, iv p2, iv p3, iv p4, iv (0 : Int32), rv b1, iv (-1 : Int32), .unset, .unset, .unset]) rfl k₀) ?_
    show Gm p e below T2 m 19 #[iv p0, iv p1, iv p2, iv p3, iv p4, iv (0 : Int32), rv b1, iv (-1 : Int32), .unset, .unset, .unset] [] _
    refine own_go (fun t₀ k₀ => XS.iconst X2.here hx rfl (Jvm.hb hby at_19) k₀) ?_
    show Gm p e below T2 m 20 #[iv p0, iv p1, iv p2, iv p3, iv p4, iv (0 : Int32), rv b1, iv (-1 : Int32), .unset, .unset, .unset] [(.int (-1 : Int32))] _
    refine own_go (fun t₀ k₀ => XS.istore X2.here hx rfl (Jvm.hb hby at_20) rfl (l' := #[iv p0, iv p1, iv p2, iv p3, iv p4, iv (0 : Int32), rv b1, iv (-1 : Int32), iv (-1 : Int32), .unset, .unset]) rfl k₀) ?_
    show Gm p e below T2 m 22 #[iv p0, iv p1, iv p2, iv p3, iv p4, iv (0 : Int32), rv b1, iv (-1 : Int32), iv (-1 : Int32), .unset, .unset] [] _
    refine own_go (fun t₀ k₀ => XS.iconst X2.here hx rfl (Jvm.hb hby at_22) k₀) ?_
    show Gm p e below T2 m 23 #[iv p0, iv p1, iv p2, iv p3, iv p4, iv (0 : Int32), rv b1, iv (-1 : Int32), iv (-1 : Int32), .unset, .unset] [(.int (-1 : Int32))] _
    refine own_go (fun t₀ k₀ => XS.istore X2.here hx rfl (Jvm.hb hby at_23) rfl (l' := #[iv p0, iv p1, iv p2, iv p3, iv p4, iv (0 : Int32), rv b1, iv (-1 : Int32), iv (-1 : Int32), iv (-1 : Int32), .unset]) rfl k₀) ?_
    show Gm p e below T2 m 25 #[iv p0, iv p1, iv p2, iv p3, iv p4, iv (0 : Int32), rv b1, iv (-1 : Int32), iv (-1 : Int32), iv (-1 : Int32), .unset] [] _
    refine own_go (fun t₀ k₀ => XS.iload X2.here hx rfl (Jvm.hb hby at_25) rfl k₀) ?_
    show Gm p e below T2 m 27 #[iv p0, iv p1, iv p2, iv p3, iv p4, iv (0 : Int32), rv b1, iv (-1 : Int32), iv (-1 : Int32), iv (-1 : Int32), .unset] [(.int (0 : Int32))] _
    refine own_go (fun t₀ k₀ => XS.ifYes X2.here hx rfl (pc0 := 27) (pc' := 47) rfl (Jvm.hb hby at_27) rfl (XT.i0_le_t (by decide)) (by decide) (by decide) k₀) ?_
    show Gm p e below T2 m 47 #[iv p0, iv p1, iv p2, iv p3, iv p4, iv (0 : Int32), rv b1, iv (-1 : Int32), iv (-1 : Int32), iv (-1 : Int32), .unset] [] _
    refine own_go (fun t₀ k₀ => XS.iload X2.here hx rfl (Jvm.hb hby at_47) rfl k₀) ?_
    show Gm p e below T2 m 49 #[iv p0, iv p1, iv p2, iv p3, iv p4, iv (0 : Int32), rv b1, iv (-1 : Int32), iv (-1 : Int32), iv (-1 : Int32), .unset] [(.int (0 : Int32))] _
    refine own_go (fun t₀ k₀ => XS.iconst X2.here hx rfl (Jvm.hb hby at_49) k₀) ?_
    show Gm p e below T2 m 50 #[iv p0, iv p1, iv p2, iv p3, iv p4, iv (0 : Int32), rv b1, iv (-1 : Int32), iv (-1 : Int32), iv (-1 : Int32), .unset] [(.int (1 : Int32)), (.int (0 : Int32))] _
    refine own_go (fun t₀ k₀ => XS.icmpYes X2.here hx rfl (pc0 := 50) (pc' := 70) rfl (Jvm.hb hby at_50) rfl (XT.ii_le_t (by decide)) (by decide) (by decide) k₀) ?_
    show Gm p e below T2 m 70 #[iv p0, iv p1, iv p2, iv p3, iv p4, iv (0 : Int32), rv b1, iv (-1 : Int32), iv (-1 : Int32), iv (-1 : Int32), .unset] [] _
    refine own_go (fun t₀ k₀ => XS.iload X2.here hx rfl (Jvm.hb hby at_70) rfl k₀) ?_
    show Gm p e below T2 m 72 #[iv p0, iv p1, iv p2, iv p3, iv p4, iv (0 : Int32), rv b1, iv (-1 : Int32), iv (-1 : Int32), iv (-1 : Int32), .unset] [(.int (0 : Int32))] _
    refine own_go (fun t₀ k₀ => XS.iconst X2.here hx rfl (Jvm.hb hby at_72) k₀) ?_
    show Gm p e below T2 m 73 #[iv p0, iv p1, iv p2, iv p3, iv p4, iv (0 : Int32), rv b1, iv (-1 : Int32), iv (-1 : Int32), iv (-1 : Int32), .unset] [(.int (2 : Int32)), (.int (0 : Int32))] _
    refine own_go (fun t₀ k₀ => XS.icmpYes X2.here hx rfl (pc0 := 73) (pc' := 95) rfl (Jvm.hb hby at_73) rfl (XT.ii_le_t (by decide)) (by decide) (by decide) k₀) ?_
    show Gm p e below T2 m 95 #[iv p0, iv p1, iv p2, iv p3, iv p4, iv (0 : Int32), rv b1, iv (-1 : Int32), iv (-1 : Int32), iv (-1 : Int32), .unset] [] _
    refine own_go (fun t₀ k₀ => XS.iconst X2.here hx rfl (Jvm.hb hby at_95) k₀) ?_
    show Gm p e below T2 m 96 #[iv p0, iv p1, iv p2, iv p3, iv p4, iv (0 : Int32), rv b1, iv (-1 : Int32), iv (-1 : Int32), iv (-1 : Int32), .unset] [(.int (0 : Int32))] _
    refine own_go (fun t₀ k₀ => XS.istore X2.here hx rfl (Jvm.hb hby at_96) rfl (l' := #[iv p0, iv p1, iv p2, iv p3, iv p4, iv (0 : Int32), rv b1, iv (-1 : Int32), iv (-1 : Int32), iv (-1 : Int32), iv (0 : Int32)]) rfl k₀) ?_
    have k3 : ∀ P, Go p e below (T2.setTop (mkF m 139 #[iv p0, iv p1, iv p2, iv p3, iv p4, iv (0 : Int32), rv b1, iv (-1 : Int32), iv (-1 : Int32), iv (-1 : Int32), iv (0 : Int32)] [])) P → Go p e below (T2.setTop (mkF m 98 #[iv p0, iv p1, iv p2, iv p3, iv p4, iv (0 : Int32), rv b1, iv (-1 : Int32), iv (-1 : Int32), iv (-1 : Int32), iv (0 : Int32)] [])) P := by
      intro P kP
      show Gm p e below T2 m 98 #[iv p0, iv p1, iv p2, iv p3, iv p4, iv (0 : Int32), rv b1, iv (-1 : Int32), iv (-1 : Int32), iv (-1 : Int32), iv (0 : Int32)] [] _
      refine own_go (fun t₀ k₀ => XS.iload X2.here hx rfl (Jvm.hb hby at_98) rfl k₀) ?_
      show Gm p e below T2 m 100 #[iv p0, iv p1, iv p2, iv p3, iv p4, iv (0 : Int32), rv b1, iv (-1 : Int32), iv (-1 : Int32), iv (-1 : Int32), iv (0 : Int32)] [(.int (0 : Int32))] _
      refine own_go (fun t₀ k₀ => XS.ifYes X2.here hx rfl (pc0 := 100) (pc' := 111) rfl (Jvm.hb hby at_100) rfl (XT.i0_le_t (by decide)) (by decide) (by decide) k₀) ?_
      show Gm p e below T2 m 111 #[iv p0, iv p1, iv p2, iv p3, iv p4, iv (0 : Int32), rv b1, iv (-1 : Int32), iv (-1 : Int32), iv (-1 : Int32), iv (0 : Int32)] [] _
      refine own_go (fun t₀ k₀ => XS.iload X2.here hx rfl (Jvm.hb hby at_111) rfl k₀) ?_
      show Gm p e below T2 m 113 #[iv p0, iv p1, iv p2, iv p3, iv p4, iv (0 : Int32), rv b1, iv (-1 : Int32), iv (-1 : Int32), iv (-1 : Int32), iv (0 : Int32)] [(.int (0 : Int32))] _
      refine own_go (fun t₀ k₀ => XS.iconst X2.here hx rfl (Jvm.hb hby at_113) k₀) ?_
      show Gm p e below T2 m 114 #[iv p0, iv p1, iv p2, iv p3, iv p4, iv (0 : Int32), rv b1, iv (-1 : Int32), iv (-1 : Int32), iv (-1 : Int32), iv (0 : Int32)] [(.int (1 : Int32)), (.int (0 : Int32))] _
      refine own_go (fun t₀ k₀ => XS.icmpYes X2.here hx rfl (pc0 := 114) (pc' := 125) rfl (Jvm.hb hby at_114) rfl (XT.ii_le_t (by decide)) (by decide) (by decide) k₀) ?_
      show Gm p e below T2 m 125 #[iv p0, iv p1, iv p2, iv p3, iv p4, iv (0 : Int32), rv b1, iv (-1 : Int32), iv (-1 : Int32), iv (-1 : Int32), iv (0 : Int32)] [] _
      refine own_go (fun t₀ k₀ => XS.iload X2.here hx rfl (Jvm.hb hby at_125) rfl k₀) ?_
      show Gm p e below T2 m 127 #[iv p0, iv p1, iv p2, iv p3, iv p4, iv (0 : Int32), rv b1, iv (-1 : Int32), iv (-1 : Int32), iv (-1 : Int32), iv (0 : Int32)] [(.int (0 : Int32))] _
      refine own_go (fun t₀ k₀ => XS.iconst X2.here hx rfl (Jvm.hb hby at_127) k₀) ?_
      show Gm p e below T2 m 128 #[iv p0, iv p1, iv p2, iv p3, iv p4, iv (0 : Int32), rv b1, iv (-1 : Int32), iv (-1 : Int32), iv (-1 : Int32), iv (0 : Int32)] [(.int (2 : Int32)), (.int (0 : Int32))] _
      refine own_go (fun t₀ k₀ => XS.icmpYes X2.here hx rfl (pc0 := 128) (pc' := 139) rfl (Jvm.hb hby at_128) rfl (XT.ii_le_t (by decide)) (by decide) (by decide) k₀) ?_
      exact kP
    refine k3 _ ?_
    show Gm p e below T2 m 139 #[iv p0, iv p1, iv p2, iv p3, iv p4, iv (0 : Int32), rv b1, iv (-1 : Int32), iv (-1 : Int32), iv (-1 : Int32), iv (0 : Int32)] [] _
    refine own_go (fun t₀ k₀ => XS.aload X2.here hx rfl (Jvm.hb hby at_139) rfl rfl k₀) ?_
    show Gm p e below T2 m 141 #[iv p0, iv p1, iv p2, iv p3, iv p4, iv (0 : Int32), rv b1, iv (-1 : Int32), iv (-1 : Int32), iv (-1 : Int32), iv (0 : Int32)] [(.ref b1)] _
    obtain ⟨cq4, kq4, q4a, q4b, q4c⟩ := isOf hZ rfl Ec2
    obtain ⟨_, _, ⟨T4, L4, k4, n4⟩, -, X4, ⟨Lc4, hQ4, l4, y4, z4⟩, st4⟩ := X2.virtualBack hx (y := (⟨"com/example/throughfare/throughfare/simulation/Walkers", "anyoneInside", "()Z"⟩ : MethodName)) (z := (⟨"com/example/throughfare/throughfare/simulation/Walkers", "anyoneInside", "()Z"⟩ : MethodName)) hown (mvT hZ (hw _ (List.mem_of_getElem? (i := 42) rfl))) (mvT hZ (hw _ (List.mem_of_getElem? (i := 43) rfl))) (notFace_of_selects (args := #[]) (mvT hZ (hw _ (List.mem_of_getElem? (i := 45) rfl)))) (mvT hZ (hw _ (List.mem_of_getElem? (i := 45) rfl))) (mvT hZ (hw _ (List.mem_of_getElem? (i := 44) rfl))) (by decide) (backOf (W := 0) (rm5_0 l Z a0 hw [] b1 exit2 (fun _ => (.int (-1 : Int32)))  T2.heap n0 Z2 Fc_exit2 Ac_exit2 ) hZ (hw _ (List.mem_of_getElem? (i := 46) rfl)) (hw _ (List.mem_of_getElem? (i := 2) rfl)) (by decide) (by decide)) q4a q4c (g := (mkF m 141 #[iv p0, iv p1, iv p2, iv p3, iv p4, iv (0 : Int32), rv b1, iv (-1 : Int32), iv (-1 : Int32), iv (-1 : Int32), iv (0 : Int32)] [(.ref b1)])) rfl (by rw [hml]; rfl) (Steps.refl _) (argsL := []) (rest := []) (lenOf own_pd3 rfl) rfl (by show 2 * 0 + _ ≤ _; exact Nat.le_of_eq rfl) (Jvm.hb hby at_141) (fun _ _ => ⟨rfl, rfl, (by decide : 12 + 0 ≤ _), (by decide : 11 + 0 ≤ _)⟩)
    dsimp only [Pt.U, Pt.locs, Pt.cells, Pt.slots] at X4 l4 y4 z4 st4 hQ4
    subst l4 y4 z4
    obtain ⟨rfl, Nq4, eq4⟩ := hQ4
    have N4 := Fr.app N2 Nq4
    have e4 : T4.heap = T2.heap := eq4
    refine own_go (fun t k => st4.trans k) ?_
    show Gm p e below T4 m 144 #[iv p0, iv p1, iv p2, iv p3, iv p4, iv (0 : Int32), rv b1, iv (-1 : Int32), iv (-1 : Int32), iv (-1 : Int32), iv (0 : Int32)] [(.int fA0)] _
    refine own_go (fun t₀ k₀ => XS.iload X4.here hx rfl (Jvm.hb hby at_144) rfl k₀) ?_
    show Gm p e below T4 m 146 #[iv p0, iv p1, iv p2, iv p3, iv p4, iv (0 : Int32), rv b1, iv (-1 : Int32), iv (-1 : Int32), iv (-1 : Int32), iv (0 : Int32)] [(.int (0 : Int32)), (.int fA0)] _
    refine own_go (fun t₀ k₀ => XS.icmpNo X4.here hx rfl (Jvm.hb hby at_146) rfl (XT.ii_ne_f (by unfold fA0; rfl)) k₀) ?_
    show Gm p e below T4 m 149 #[iv p0, iv p1, iv p2, iv p3, iv p4, iv (0 : Int32), rv b1, iv (-1 : Int32), iv (-1 : Int32), iv (-1 : Int32), iv (0 : Int32)] [] _
    refine own_go (fun t₀ k₀ => XS.iconst X4.here hx rfl (Jvm.hb hby at_149) k₀) ?_
    show Gm p e below T4 m 150 #[iv p0, iv p1, iv p2, iv p3, iv p4, iv (0 : Int32), rv b1, iv (-1 : Int32), iv (-1 : Int32), iv (-1 : Int32), iv (0 : Int32)] [(.int (1 : Int32))] _
    refine own_go (fun t₀ k₀ => XS.goto X4.here hx rfl (pc0 := 150) (pc' := 154) rfl (Jvm.hb hby at_150) (by decide) (by decide) k₀) ?_
    show Gm p e below T4 m 154 #[iv p0, iv p1, iv p2, iv p3, iv p4, iv (0 : Int32), rv b1, iv (-1 : Int32), iv (-1 : Int32), iv (-1 : Int32), iv (0 : Int32)] [(.int (1 : Int32))] _
    exact own_retI X4 hx hlk (t := .boolean) Bd.returns rfl (by simp) (Jvm.hb hby at_154) e4 ⟨rfl, N4⟩ (by decide) (by decide)
  · rw [hk]
    show Gm p e below s₁ m 5 #[iv p0, iv p1, iv p2, iv p3, iv p4, iv (1 : Int32), .unset, .unset, .unset, .unset, .unset] [] _
    obtain ⟨T5, h5, X5, e5, E5, A5, D5, -, st5⟩ := newO X0 hx hZ hown (hw _ (List.mem_of_getElem? (i := 0) rfl)) (hw _ (List.mem_of_getElem? (i := 1) rfl)) (hw _ (List.mem_of_getElem? (i := 2) rfl)) e0 (g := (mkF m 5 #[iv p0, iv p1, iv p2, iv p3, iv p4, iv (1 : Int32), .unset, .unset, .unset, .unset, .unset] [])) rfl (Jvm.hb hby at_5) (by decide) (by decide)
    obtain ⟨b5, g5⟩ : ∃ z, z = h0.size := ⟨_, rfl⟩
    rw [← g5] at A5 D5 st5
    have g_b5 : n0 ≤ b5 := Nat.le_trans Z0 (Nat.le_of_eq g5.symm)
    have Z5 : n0 ≤ h5.size := Nat.le_trans Z0 E5.1
    have F_floor_b5 : Fld Z h5 b5 "com/example/throughfare/throughfare/simulation/Walkers" "floor" "[I" .null := D5 (Or.inr (hw _ (List.mem_of_getElem? (i := 11) rfl))) (ty := (.array .int)) (by decide)
    have F_startCell_b5 : Fld Z h5 b5 "com/example/throughfare/throughfare/simulation/Walkers" "startCell" "[I" .null := D5 (Or.inr (hw _ (List.mem_of_getElem? (i := 13) rfl))) (ty := (.array .int)) (by decide)
    have F_cell_b5 : Fld Z h5 b5 "com/example/throughfare/throughfare/simulation/Walkers" "cell" "[I" .null := D5 (Or.inr (hw _ (List.mem_of_getElem? (i := 15) rfl))) (ty := (.array .int)) (by decide)
    have F_speedMps_b5 : Fld Z h5 b5 "com/example/throughfare/throughfare/simulation/Walkers" "speedMps" "[D" .null := D5 (Or.inr (hw _ (List.mem_of_getElem? (i := 18) rfl))) (ty := (.array .double)) (by decide)
    have F_reactionS_b5 : Fld Z h5 b5 "com/example/throughfare/throughfare/simulation/Walkers" "reactionS" "[D" .null := D5 (Or.inr (hw _ (List.mem_of_getElem? (i := 20) rfl))) (ty := (.array .double)) (by decide)
    have F_heading_b5 : Fld Z h5 b5 "com/example/throughfare/throughfare/simulation/Walkers" "heading" "[I" .null := D5 (Or.inr (hw _ (List.mem_of_getElem? (i := 22) rfl))) (ty := (.array .int)) (by decide)
    have F_heldUpS_b5 : Fld Z h5 b5 "com/example/throughfare/throughfare/simulation/Walkers" "heldUpS" "[D" .null := D5 (Or.inr (hw _ (List.mem_of_getElem? (i := 24) rfl))) (ty := (.array .double)) (by decide)
    have F_exitTimeS_b5 : Fld Z h5 b5 "com/example/throughfare/throughfare/simulation/Walkers" "exitTimeS" "[D" .null := D5 (Or.inr (hw _ (List.mem_of_getElem? (i := 31) rfl))) (ty := (.array .double)) (by decide)
    have F_leaving_b5 : Fld Z h5 b5 "com/example/throughfare/throughfare/simulation/Walkers" "leaving" "[I" .null := D5 (Or.inr (hw _ (List.mem_of_getElem? (i := 34) rfl))) (ty := (.array .int)) (by decide)
    have F_exit_b5 : Fld Z h5 b5 "com/example/throughfare/throughfare/simulation/Walkers" "exit" "[I" .null := D5 (Or.inr (hw _ (List.mem_of_getElem? (i := 39) rfl))) (ty := (.array .int)) (by decide)
    have F_distanceM_b5 : Fld Z h5 b5 "com/example/throughfare/throughfare/simulation/Walkers" "distanceM" "[D" .null := D5 (Or.inr (hw _ (List.mem_of_getElem? (i := 41) rfl))) (ty := (.array .double)) (by decide)
    refine own_go st5 ?_
    show Gm p e below T5 m 8 #[iv p0, iv p1, iv p2, iv p3, iv p4, iv (1 : Int32), .unset, .unset, .unset, .unset, .unset] [(.ref b5)] _
    refine own_go (fun t₀ k₀ => XS.dup X5.here hx rfl (Jvm.hb hby at_8) rfl rfl k₀) ?_
    show Gm p e below T5 m 9 #[iv p0, iv p1, iv p2, iv p3, iv p4, iv (1 : Int32), .unset, .unset, .unset, .unset, .unset] [(.ref b5), (.ref b5)] _
    refine own_go (fun t₀ k₀ => XS.iload X5.here hx rfl (Jvm.hb hby at_9) rfl k₀) ?_
    show Gm p e below T5 m 11 #[iv p0, iv p1, iv p2, iv p3, iv p4, iv (1 : Int32), .unset, .unset, .unset, .unset, .unset] [(.int (1 : Int32)), (.ref b5), (.ref b5)] _
    obtain ⟨_, _, ⟨T6, L6, k6, n6⟩, -, X6, ⟨Lc6, hQ6, l6, y6, z6⟩, st6⟩ := X5.specialBack hx (y := (⟨"com/example/throughfare/throughfare/simulation/Walkers", "<init>", "(I)V"⟩ : MethodName)) rfl hown (mvT hZ (hw _ (List.mem_of_getElem? (i := 3) rfl))) (mvT hZ (hw _ (List.mem_of_getElem? (i := 4) rfl))) (mvT hZ (hw _ (List.mem_of_getElem? (i := 5) rfl))) (by decide) (backOf (W := 1) (rm1_1 l Z a0 hw [] b5 h5 n0 Z5 A5 F_floor_b5 F_startCell_b5 F_cell_b5 F_speedMps_b5 F_reactionS_b5 F_heading_b5 F_heldUpS_b5 F_exitTimeS_b5 F_leaving_b5 F_exit_b5 F_distanceM_b5 g_b5) hZ (hw _ (List.mem_of_getElem? (i := 5) rfl)) (hw _ (List.mem_of_getElem? (i := 2) rfl)) (by decide) (by decide)) (g := (mkF m 11 #[iv p0, iv p1, iv p2, iv p3, iv p4, iv (1 : Int32), .unset, .unset, .unset, .unset, .unset] [(.int (1 : Int32)), (.ref b5), (.ref b5)])) rfl (by rw [hml]; rfl) (Steps.refl _) (a := b5) (argsL := [(.int (1 : Int32))]) (rest := [(.ref b5)]) (lenOf own_pd2 rfl) rfl (by show 2 * 0 + _ ≤ _; exact Nat.le_of_eq rfl) (Jvm.hb hby at_11) (fun _ _ => ⟨rfl, e5, (by decide : 1 + 11 ≤ _), (by decide : 11 + 11 ≤ _)⟩)
    dsimp only [Pt.U, Pt.locs, Pt.cells, Pt.slots] at X6 l6 y6 z6 st6 hQ6
    subst l6 y6 z6
    obtain ⟨exit6, rfl, Nq6, Kc6, Ec6, hs_exit6, Fc_exit6, Ac_exit6⟩ := hQ6
    have N6 := Fr.app N0 Nq6
    refine own_go (fun t k => st6.trans k) ?_
    have ne_b5_exit6 : b5 ≠ exit6 := Nat.ne_of_lt (Nat.lt_of_lt_of_le A5.lt hs_exit6)
    have g_exit6 : n0 ≤ exit6 := Nat.le_trans Z5 hs_exit6
    have Z6 : n0 ≤ T6.heap.size := Nat.le_trans Z5 Kc6.1
    show Gm p e below T6 m 14 #[iv p0, iv p1, iv p2, iv p3, iv p4, iv (1 : Int32), .unset, .unset, .unset, .unset, .unset] [(.ref b5)] _
    refine own_go (fun t₀ k₀ => XS.astore X6.here hx rfl (Jvm.hb hby at_14) rfl rfl (l' := #[iv p0, iv p1, iv p2, iv p3, iv p4, iv (1 : Int32), rv b5, .unset, .unset, .unset, .unset]) rfl k₀) ?_
    show Gm p e below T6 m 16 #[iv p0, iv p1, iv p2, iv p3, iv p4, iv (1 : Int32), rv b5, .unset, .unset, .unset, .unset] [] _
    refine own_go (fun t₀ k₀ => XS.iconst X6.here hx rfl (Jvm.hb hby at_16) k₀) ?_
    show Gm p e below T6 m 17 #[iv p0, iv p1, iv p2, iv p3, iv p4, iv (1 : Int32), rv b5, .unset, .unset, .unset, .unset] [(.int (-1 : Int32))] _
    refine own_go (fun t₀ k₀ => XS.istore X6.here hx rfl (Jvm.hb hby at_17) rfl (l' := #[iv p0, iv p1, iv p2, iv p3, iv p4, iv (1 : Int32), rv b5, iv (-1 : Int32), .unset, .unset, .unset]) rfl k₀) ?_
    show Gm p e below T6 m 19 #[iv p0, iv p1, iv p2, iv p3, iv p4, iv (1 : Int32), rv b5, iv (-1 : Int32), .unset, .unset, .unset] [] _
    refine own_go (fun t₀ k₀ => XS.iconst X6.here hx rfl (Jvm.hb hby at_19) k₀) ?_
    show Gm p e below T6 m 20 #[iv p0, iv p1, iv p2, iv p3, iv p4, iv (1 : Int32), rv b5, iv (-1 : Int32), .unset, .unset, .unset] [(.int (-1 : Int32))] _
    refine own_go (fun t₀ k₀ => XS.istore X6.here hx rfl (Jvm.hb hby at_20) rfl (l' := #[iv p0, iv p1, iv p2, iv p3, iv p4, iv (1 : Int32), rv b5, iv (-1 : Int32), iv (-1 : Int32), .unset, .unset]) rfl k₀) ?_
    show Gm p e below T6 m 22 #[iv p0, iv p1, iv p2, iv p3, iv p4, iv (1 : Int32), rv b5, iv (-1 : Int32), iv (-1 : Int32), .unset, .unset] [] _
    refine own_go (fun t₀ k₀ => XS.iconst X6.here hx rfl (Jvm.hb hby at_22) k₀) ?_
    show Gm p e below T6 m 23 #[iv p0, iv p1, iv p2, iv p3, iv p4, iv (1 : Int32), rv b5, iv (-1 : Int32), iv (-1 : Int32), .unset, .unset] [(.int (-1 : Int32))] _
    refine own_go (fun t₀ k₀ => XS.istore X6.here hx rfl (Jvm.hb hby at_23) rfl (l' := #[iv p0, iv p1, iv p2, iv p3, iv p4, iv (1 : Int32), rv b5, iv (-1 : Int32), iv (-1 : Int32), iv (-1 : Int32), .unset]) rfl k₀) ?_
    show Gm p e below T6 m 25 #[iv p0, iv p1, iv p2, iv p3, iv p4, iv (1 : Int32), rv b5, iv (-1 : Int32), iv (-1 : Int32), iv (-1 : Int32), .unset] [] _
    refine own_go (fun t₀ k₀ => XS.iload X6.here hx rfl (Jvm.hb hby at_25) rfl k₀) ?_
    show Gm p e below T6 m 27 #[iv p0, iv p1, iv p2, iv p3, iv p4, iv (1 : Int32), rv b5, iv (-1 : Int32), iv (-1 : Int32), iv (-1 : Int32), .unset] [(.int (1 : Int32))] _
    refine own_go (fun t₀ k₀ => XS.ifNo X6.here hx rfl (Jvm.hb hby at_27) rfl (XT.i0_le_f (by decide)) k₀) ?_
    show Gm p e below T6 m 30 #[iv p0, iv p1, iv p2, iv p3, iv p4, iv (1 : Int32), rv b5, iv (-1 : Int32), iv (-1 : Int32), iv (-1 : Int32), .unset] [] _
    refine own_go (fun t₀ k₀ => XS.iloadN X6.here hx rfl (Jvm.hb hby at_30) rfl k₀) ?_
    show Gm p e below T6 m 31 #[iv p0, iv p1, iv p2, iv p3, iv p4, iv (1 : Int32), rv b5, iv (-1 : Int32), iv (-1 : Int32), iv (-1 : Int32), .unset] [(.int p1)] _
    refine own_go (fun t₀ k₀ => XS.iconst X6.here hx rfl (Jvm.hb hby at_31) k₀) ?_
    show Gm p e below T6 m 32 #[iv p0, iv p1, iv p2, iv p3, iv p4, iv (1 : Int32), rv b5, iv (-1 : Int32), iv (-1 : Int32), iv (-1 : Int32), .unset] [(.int (1 : Int32)), (.int p1)] _
    refine own_go (fun t₀ k₀ => XS.iand X6.here hx rfl (Jvm.hb hby at_32) rfl k₀) ?_
    show Gm p e below T6 m 33 #[iv p0, iv p1, iv p2, iv p3, iv p4, iv (1 : Int32), rv b5, iv (-1 : Int32), iv (-1 : Int32), iv (-1 : Int32), .unset] [(.int (p1 &&& (1 : Int32)))] _
    by_cases c7 : (p1 &&& (1 : Int32)) = (0 : Int32)
    · have hfork := trivial
      refine own_go (fun t₀ k₀ => XS.ifYes X6.here hx rfl (pc0 := 33) (pc' := 47) rfl (Jvm.hb hby at_33) rfl (XT.i0_eq_t c7) (by decide) (by decide) k₀) ?_
      show Gm p e below T6 m 47 #[iv p0, iv p1, iv p2, iv p3, iv p4, iv (1 : Int32), rv b5, iv (-1 : Int32), iv (-1 : Int32), iv (-1 : Int32), .unset] [] _
      refine own_go (fun t₀ k₀ => XS.iload X6.here hx rfl (Jvm.hb hby at_47) rfl k₀) ?_
      show Gm p e below T6 m 49 #[iv p0, iv p1, iv p2, iv p3, iv p4, iv (1 : Int32), rv b5, iv (-1 : Int32), iv (-1 : Int32), iv (-1 : Int32), .unset] [(.int (1 : Int32))] _
      refine own_go (fun t₀ k₀ => XS.iconst X6.here hx rfl (Jvm.hb hby at_49) k₀) ?_
      show Gm p e below T6 m 50 #[iv p0, iv p1, iv p2, iv p3, iv p4, iv (1 : Int32), rv b5, iv (-1 : Int32), iv (-1 : Int32), iv (-1 : Int32), .unset] [(.int (1 : Int32)), (.int (1 : Int32))] _
      refine own_go (fun t₀ k₀ => XS.icmpYes X6.here hx rfl (pc0 := 50) (pc' := 70) rfl (Jvm.hb hby at_50) rfl (XT.ii_le_t (by decide)) (by decide) (by decide) k₀) ?_
      show Gm p e below T6 m 70 #[iv p0, iv p1, iv p2, iv p3, iv p4, iv (1 : Int32), rv b5, iv (-1 : Int32), iv (-1 : Int32), iv (-1 : Int32), .unset] [] _
      refine own_go (fun t₀ k₀ => XS.iload X6.here hx rfl (Jvm.hb hby at_70) rfl k₀) ?_
      show Gm p e below T6 m 72 #[iv p0, iv p1, iv p2, iv p3, iv p4, iv (1 : Int32), rv b5, iv (-1 : Int32), iv (-1 : Int32), iv (-1 : Int32), .unset] [(.int (1 : Int32))] _
      refine own_go (fun t₀ k₀ => XS.iconst X6.here hx rfl (Jvm.hb hby at_72) k₀) ?_
      show Gm p e below T6 m 73 #[iv p0, iv p1, iv p2, iv p3, iv p4, iv (1 : Int32), rv b5, iv (-1 : Int32), iv (-1 : Int32), iv (-1 : Int32), .unset] [(.int (2 : Int32)), (.int (1 : Int32))] _
      refine own_go (fun t₀ k₀ => XS.icmpYes X6.here hx rfl (pc0 := 73) (pc' := 95) rfl (Jvm.hb hby at_73) rfl (XT.ii_le_t (by decide)) (by decide) (by decide) k₀) ?_
      show Gm p e below T6 m 95 #[iv p0, iv p1, iv p2, iv p3, iv p4, iv (1 : Int32), rv b5, iv (-1 : Int32), iv (-1 : Int32), iv (-1 : Int32), .unset] [] _
      refine own_go (fun t₀ k₀ => XS.iconst X6.here hx rfl (Jvm.hb hby at_95) k₀) ?_
      show Gm p e below T6 m 96 #[iv p0, iv p1, iv p2, iv p3, iv p4, iv (1 : Int32), rv b5, iv (-1 : Int32), iv (-1 : Int32), iv (-1 : Int32), .unset] [(.int (0 : Int32))] _
      refine own_go (fun t₀ k₀ => XS.istore X6.here hx rfl (Jvm.hb hby at_96) rfl (l' := #[iv p0, iv p1, iv p2, iv p3, iv p4, iv (1 : Int32), rv b5, iv (-1 : Int32), iv (-1 : Int32), iv (-1 : Int32), iv (0 : Int32)]) rfl k₀) ?_
      have k8 : ∀ P, Go p e below (T6.setTop (mkF m 139 #[iv p0, iv p1, iv p2, iv p3, iv p4, iv (1 : Int32), rv b5, iv (-1 : Int32), iv (-1 : Int32), iv (-1 : Int32), iv (1 : Int32)] [])) P → Go p e below (T6.setTop (mkF m 98 #[iv p0, iv p1, iv p2, iv p3, iv p4, iv (1 : Int32), rv b5, iv (-1 : Int32), iv (-1 : Int32), iv (-1 : Int32), iv (0 : Int32)] [])) P := by
        intro P kP
        show Gm p e below T6 m 98 #[iv p0, iv p1, iv p2, iv p3, iv p4, iv (1 : Int32), rv b5, iv (-1 : Int32), iv (-1 : Int32), iv (-1 : Int32), iv (0 : Int32)] [] _
        refine own_go (fun t₀ k₀ => XS.iload X6.here hx rfl (Jvm.hb hby at_98) rfl k₀) ?_
        show Gm p e below T6 m 100 #[iv p0, iv p1, iv p2, iv p3, iv p4, iv (1 : Int32), rv b5, iv (-1 : Int32), iv (-1 : Int32), iv (-1 : Int32), iv (0 : Int32)] [(.int (1 : Int32))] _
        refine own_go (fun t₀ k₀ => XS.ifNo X6.here hx rfl (Jvm.hb hby at_100) rfl (XT.i0_le_f (by decide)) k₀) ?_
        show Gm p e below T6 m 103 #[iv p0, iv p1, iv p2, iv p3, iv p4, iv (1 : Int32), rv b5, iv (-1 : Int32), iv (-1 : Int32), iv (-1 : Int32), iv (0 : Int32)] [] _
        refine own_go (fun t₀ k₀ => XS.iload X6.here hx rfl (Jvm.hb hby at_103) rfl k₀) ?_
        show Gm p e below T6 m 105 #[iv p0, iv p1, iv p2, iv p3, iv p4, iv (1 : Int32), rv b5, iv (-1 : Int32), iv (-1 : Int32), iv (-1 : Int32), iv (0 : Int32)] [(.int (-1 : Int32))] _
        refine own_go (fun t₀ k₀ => XS.ifNo X6.here hx rfl (Jvm.hb hby at_105) rfl (XT.i0_ge_f (by decide)) k₀) ?_
        show Gm p e below T6 m 108 #[iv p0, iv p1, iv p2, iv p3, iv p4, iv (1 : Int32), rv b5, iv (-1 : Int32), iv (-1 : Int32), iv (-1 : Int32), iv (0 : Int32)] [] _
        refine own_go (fun t₀ k₀ => XS.iconst X6.here hx rfl (Jvm.hb hby at_108) k₀) ?_
        show Gm p e below T6 m 109 #[iv p0, iv p1, iv p2, iv p3, iv p4, iv (1 : Int32), rv b5, iv (-1 : Int32), iv (-1 : Int32), iv (-1 : Int32), iv (0 : Int32)] [(.int (1 : Int32))] _
        refine own_go (fun t₀ k₀ => XS.istore X6.here hx rfl (Jvm.hb hby at_109) rfl (l' := #[iv p0, iv p1, iv p2, iv p3, iv p4, iv (1 : Int32), rv b5, iv (-1 : Int32), iv (-1 : Int32), iv (-1 : Int32), iv (1 : Int32)]) rfl k₀) ?_
        show Gm p e below T6 m 111 #[iv p0, iv p1, iv p2, iv p3, iv p4, iv (1 : Int32), rv b5, iv (-1 : Int32), iv (-1 : Int32), iv (-1 : Int32), iv (1 : Int32)] [] _
        refine own_go (fun t₀ k₀ => XS.iload X6.here hx rfl (Jvm.hb hby at_111) rfl k₀) ?_
        show Gm p e below T6 m 113 #[iv p0, iv p1, iv p2, iv p3, iv p4, iv (1 : Int32), rv b5, iv (-1 : Int32), iv (-1 : Int32), iv (-1 : Int32), iv (1 : Int32)] [(.int (1 : Int32))] _
        refine own_go (fun t₀ k₀ => XS.iconst X6.here hx rfl (Jvm.hb hby at_113) k₀) ?_
        show Gm p e below T6 m 114 #[iv p0, iv p1, iv p2, iv p3, iv p4, iv (1 : Int32), rv b5, iv (-1 : Int32), iv (-1 : Int32), iv (-1 : Int32), iv (1 : Int32)] [(.int (1 : Int32)), (.int (1 : Int32))] _
        refine own_go (fun t₀ k₀ => XS.icmpYes X6.here hx rfl (pc0 := 114) (pc' := 125) rfl (Jvm.hb hby at_114) rfl (XT.ii_le_t (by decide)) (by decide) (by decide) k₀) ?_
        show Gm p e below T6 m 125 #[iv p0, iv p1, iv p2, iv p3, iv p4, iv (1 : Int32), rv b5, iv (-1 : Int32), iv (-1 : Int32), iv (-1 : Int32), iv (1 : Int32)] [] _
        refine own_go (fun t₀ k₀ => XS.iload X6.here hx rfl (Jvm.hb hby at_125) rfl k₀) ?_
        show Gm p e below T6 m 127 #[iv p0, iv p1, iv p2, iv p3, iv p4, iv (1 : Int32), rv b5, iv (-1 : Int32), iv (-1 : Int32), iv (-1 : Int32), iv (1 : Int32)] [(.int (1 : Int32))] _
        refine own_go (fun t₀ k₀ => XS.iconst X6.here hx rfl (Jvm.hb hby at_127) k₀) ?_
        show Gm p e below T6 m 128 #[iv p0, iv p1, iv p2, iv p3, iv p4, iv (1 : Int32), rv b5, iv (-1 : Int32), iv (-1 : Int32), iv (-1 : Int32), iv (1 : Int32)] [(.int (2 : Int32)), (.int (1 : Int32))] _
        refine own_go (fun t₀ k₀ => XS.icmpYes X6.here hx rfl (pc0 := 128) (pc' := 139) rfl (Jvm.hb hby at_128) rfl (XT.ii_le_t (by decide)) (by decide) (by decide) k₀) ?_
        exact kP
      refine k8 _ ?_
      show Gm p e below T6 m 139 #[iv p0, iv p1, iv p2, iv p3, iv p4, iv (1 : Int32), rv b5, iv (-1 : Int32), iv (-1 : Int32), iv (-1 : Int32), iv (1 : Int32)] [] _
      refine own_go (fun t₀ k₀ => XS.aload X6.here hx rfl (Jvm.hb hby at_139) rfl rfl k₀) ?_
      show Gm p e below T6 m 141 #[iv p0, iv p1, iv p2, iv p3, iv p4, iv (1 : Int32), rv b5, iv (-1 : Int32), iv (-1 : Int32), iv (-1 : Int32), iv (1 : Int32)] [(.ref b5)] _
      obtain ⟨cq9, kq9, q9a, q9b, q9c⟩ := isOf hZ rfl Ec6
      obtain ⟨_, _, ⟨T9, L9, k9, n9⟩, -, X9, ⟨Lc9, hQ9, l9, y9, z9⟩, st9⟩ := X6.virtualBack hx (y := (⟨"com/example/throughfare/throughfare/simulation/Walkers", "anyoneInside", "()Z"⟩ : MethodName)) (z := (⟨"com/example/throughfare/throughfare/simulation/Walkers", "anyoneInside", "()Z"⟩ : MethodName)) hown (mvT hZ (hw _ (List.mem_of_getElem? (i := 42) rfl))) (mvT hZ (hw _ (List.mem_of_getElem? (i := 43) rfl))) (notFace_of_selects (args := #[]) (mvT hZ (hw _ (List.mem_of_getElem? (i := 45) rfl)))) (mvT hZ (hw _ (List.mem_of_getElem? (i := 45) rfl))) (mvT hZ (hw _ (List.mem_of_getElem? (i := 44) rfl))) (by decide) (backOf (W := 0) (rm5_1 l Z a0 hw [] b5 exit6 (fun _ => (.int (-1 : Int32))) (-1 : Int32) T6.heap n0 Z6 Fc_exit6 Ac_exit6 rfl) hZ (hw _ (List.mem_of_getElem? (i := 46) rfl)) (hw _ (List.mem_of_getElem? (i := 2) rfl)) (by decide) (by decide)) q9a q9c (g := (mkF m 141 #[iv p0, iv p1, iv p2, iv p3, iv p4, iv (1 : Int32), rv b5, iv (-1 : Int32), iv (-1 : Int32), iv (-1 : Int32), iv (1 : Int32)] [(.ref b5)])) rfl (by rw [hml]; rfl) (Steps.refl _) (argsL := []) (rest := []) (lenOf own_pd3 rfl) rfl (by show 2 * 0 + _ ≤ _; exact Nat.le_of_eq rfl) (Jvm.hb hby at_141) (fun _ _ => ⟨rfl, rfl, (by decide : 12 + 0 ≤ _), (by decide : 22 + 0 ≤ _)⟩)
      dsimp only [Pt.U, Pt.locs, Pt.cells, Pt.slots] at X9 l9 y9 z9 st9 hQ9
      subst l9 y9 z9
      obtain ⟨rfl, Nq9, eq9⟩ := hQ9
      have N9 := Fr.app N6 Nq9
      have e9 : T9.heap = T6.heap := eq9
      refine own_go (fun t k => st9.trans k) ?_
      show Gm p e below T9 m 144 #[iv p0, iv p1, iv p2, iv p3, iv p4, iv (1 : Int32), rv b5, iv (-1 : Int32), iv (-1 : Int32), iv (-1 : Int32), iv (1 : Int32)] [(.int (fA1 (-1 : Int32)))] _
      refine own_go (fun t₀ k₀ => XS.iload X9.here hx rfl (Jvm.hb hby at_144) rfl k₀) ?_
      show Gm p e below T9 m 146 #[iv p0, iv p1, iv p2, iv p3, iv p4, iv (1 : Int32), rv b5, iv (-1 : Int32), iv (-1 : Int32), iv (-1 : Int32), iv (1 : Int32)] [(.int (1 : Int32)), (.int (fA1 (-1 : Int32)))] _
      refine own_go (fun t₀ k₀ => XS.icmpNo X9.here hx rfl (Jvm.hb hby at_146) rfl (XT.ii_ne_f (by unfold fA1; rw [if_pos (by decide)])) k₀) ?_
      show Gm p e below T9 m 149 #[iv p0, iv p1, iv p2, iv p3, iv p4, iv (1 : Int32), rv b5, iv (-1 : Int32), iv (-1 : Int32), iv (-1 : Int32), iv (1 : Int32)] [] _
      refine own_go (fun t₀ k₀ => XS.iconst X9.here hx rfl (Jvm.hb hby at_149) k₀) ?_
      show Gm p e below T9 m 150 #[iv p0, iv p1, iv p2, iv p3, iv p4, iv (1 : Int32), rv b5, iv (-1 : Int32), iv (-1 : Int32), iv (-1 : Int32), iv (1 : Int32)] [(.int (1 : Int32))] _
      refine own_go (fun t₀ k₀ => XS.goto X9.here hx rfl (pc0 := 150) (pc' := 154) rfl (Jvm.hb hby at_150) (by decide) (by decide) k₀) ?_
      show Gm p e below T9 m 154 #[iv p0, iv p1, iv p2, iv p3, iv p4, iv (1 : Int32), rv b5, iv (-1 : Int32), iv (-1 : Int32), iv (-1 : Int32), iv (1 : Int32)] [(.int (1 : Int32))] _
      exact own_retI X9 hx hlk (t := .boolean) Bd.returns rfl (by simp) (Jvm.hb hby at_154) e9 ⟨rfl, N9⟩ (by decide) (by decide)
    · have hfork := trivial
      refine own_go (fun t₀ k₀ => XS.ifNo X6.here hx rfl (Jvm.hb hby at_33) rfl (XT.i0_eq_f c7) k₀) ?_
      show Gm p e below T6 m 36 #[iv p0, iv p1, iv p2, iv p3, iv p4, iv (1 : Int32), rv b5, iv (-1 : Int32), iv (-1 : Int32), iv (-1 : Int32), .unset] [] _
      refine own_go (fun t₀ k₀ => XS.aload X6.here hx rfl (Jvm.hb hby at_36) rfl rfl k₀) ?_
      show Gm p e below T6 m 38 #[iv p0, iv p1, iv p2, iv p3, iv p4, iv (1 : Int32), rv b5, iv (-1 : Int32), iv (-1 : Int32), iv (-1 : Int32), .unset] [(.ref b5)] _
      obtain ⟨T10, X10, e10, st10⟩ := getF X6 hx hZ hown (host := "") (Or.inl (hw _ (List.mem_of_getElem? (i := 47) rfl))) Via.refl rfl Fc_exit6 (g := (mkF m 38 #[iv p0, iv p1, iv p2, iv p3, iv p4, iv (1 : Int32), rv b5, iv (-1 : Int32), iv (-1 : Int32), iv (-1 : Int32), .unset] [(.ref b5)])) rfl rfl (Jvm.hb hby at_38)
      refine own_go st10 ?_
      show Gm p e below T10 m 41 #[iv p0, iv p1, iv p2, iv p3, iv p4, iv (1 : Int32), rv b5, iv (-1 : Int32), iv (-1 : Int32), iv (-1 : Int32), .unset] [(.ref exit6)] _
      refine own_go (fun t₀ k₀ => XS.iconst X10.here hx rfl (Jvm.hb hby at_41) k₀) ?_
      show Gm p e below T10 m 42 #[iv p0, iv p1, iv p2, iv p3, iv p4, iv (1 : Int32), rv b5, iv (-1 : Int32), iv (-1 : Int32), iv (-1 : Int32), .unset] [(.int (0 : Int32)), (.ref exit6)] _
      refine own_go (fun t₀ k₀ => XS.iloadN X10.here hx rfl (Jvm.hb hby at_42) rfl k₀) ?_
      show Gm p e below T10 m 43 #[iv p0, iv p1, iv p2, iv p3, iv p4, iv (1 : Int32), rv b5, iv (-1 : Int32), iv (-1 : Int32), iv (-1 : Int32), .unset] [(.int p2), (.int (0 : Int32)), (.ref exit6)] _
      obtain ⟨T11, h11, X11, e11, W11, A11, st11⟩ := own_stI X10 hx hZ e10 Ac_exit6 (j := (0 : Int32)) (k := 0) (by decide) rfl (by decide) (g := (mkF m 43 #[iv p0, iv p1, iv p2, iv p3, iv p4, iv (1 : Int32), rv b5, iv (-1 : Int32), iv (-1 : Int32), iv (-1 : Int32), .unset] [(.int p2), (.int (0 : Int32)), (.ref exit6)])) rfl rfl (Jvm.hb hby at_43)
      have N11 := Fr.snoc X11 N6 g_exit6
      have Z11 : n0 ≤ h11.size := W11.size ▸ Z6
      refine own_go st11 ?_
      show Gm p e below T11 m 44 #[iv p0, iv p1, iv p2, iv p3, iv p4, iv (1 : Int32), rv b5, iv (-1 : Int32), iv (-1 : Int32), iv (-1 : Int32), .unset] [] _
      refine own_go (fun t₀ k₀ => XS.iloadN X11.here hx rfl (Jvm.hb hby at_44) rfl k₀) ?_
      show Gm p e below T11 m 45 #[iv p0, iv p1, iv p2, iv p3, iv p4, iv (1 : Int32), rv b5, iv (-1 : Int32), iv (-1 : Int32), iv (-1 : Int32), .unset] [(.int p2)] _
      refine own_go (fun t₀ k₀ => XS.istore X11.here hx rfl (Jvm.hb hby at_45) rfl (l' := #[iv p0, iv p1, iv p2, iv p3, iv p4, iv (1 : Int32), rv b5, iv p2, iv (-1 : Int32), iv (-1 : Int32), .unset]) rfl k₀) ?_
      show Gm p e below T11 m 47 #[iv p0, iv p1, iv p2, iv p3, iv p4, iv (1 : Int32), rv b5, iv p2, iv (-1 : Int32), iv (-1 : Int32), .unset] [] _
      refine own_go (fun t₀ k₀ => XS.iload X11.here hx rfl (Jvm.hb hby at_47) rfl k₀) ?_
      show Gm p e below T11 m 49 #[iv p0, iv p1, iv p2, iv p3, iv p4, iv (1 : Int32), rv b5, iv p2, iv (-1 : Int32), iv (-1 : Int32), .unset] [(.int (1 : Int32))] _
      refine own_go (fun t₀ k₀ => XS.iconst X11.here hx rfl (Jvm.hb hby at_49) k₀) ?_
      show Gm p e below T11 m 50 #[iv p0, iv p1, iv p2, iv p3, iv p4, iv (1 : Int32), rv b5, iv p2, iv (-1 : Int32), iv (-1 : Int32), .unset] [(.int (1 : Int32)), (.int (1 : Int32))] _
      refine own_go (fun t₀ k₀ => XS.icmpYes X11.here hx rfl (pc0 := 50) (pc' := 70) rfl (Jvm.hb hby at_50) rfl (XT.ii_le_t (by decide)) (by decide) (by decide) k₀) ?_
      show Gm p e below T11 m 70 #[iv p0, iv p1, iv p2, iv p3, iv p4, iv (1 : Int32), rv b5, iv p2, iv (-1 : Int32), iv (-1 : Int32), .unset] [] _
      refine own_go (fun t₀ k₀ => XS.iload X11.here hx rfl (Jvm.hb hby at_70) rfl k₀) ?_
      show Gm p e below T11 m 72 #[iv p0, iv p1, iv p2, iv p3, iv p4, iv (1 : Int32), rv b5, iv p2, iv (-1 : Int32), iv (-1 : Int32), .unset] [(.int (1 : Int32))] _
      refine own_go (fun t₀ k₀ => XS.iconst X11.here hx rfl (Jvm.hb hby at_72) k₀) ?_
      show Gm p e below T11 m 73 #[iv p0, iv p1, iv p2, iv p3, iv p4, iv (1 : Int32), rv b5, iv p2, iv (-1 : Int32), iv (-1 : Int32), .unset] [(.int (2 : Int32)), (.int (1 : Int32))] _
      refine own_go (fun t₀ k₀ => XS.icmpYes X11.here hx rfl (pc0 := 73) (pc' := 95) rfl (Jvm.hb hby at_73) rfl (XT.ii_le_t (by decide)) (by decide) (by decide) k₀) ?_
      show Gm p e below T11 m 95 #[iv p0, iv p1, iv p2, iv p3, iv p4, iv (1 : Int32), rv b5, iv p2, iv (-1 : Int32), iv (-1 : Int32), .unset] [] _
      refine own_go (fun t₀ k₀ => XS.iconst X11.here hx rfl (Jvm.hb hby at_95) k₀) ?_
      show Gm p e below T11 m 96 #[iv p0, iv p1, iv p2, iv p3, iv p4, iv (1 : Int32), rv b5, iv p2, iv (-1 : Int32), iv (-1 : Int32), .unset] [(.int (0 : Int32))] _
      refine own_go (fun t₀ k₀ => XS.istore X11.here hx rfl (Jvm.hb hby at_96) rfl (l' := #[iv p0, iv p1, iv p2, iv p3, iv p4, iv (1 : Int32), rv b5, iv p2, iv (-1 : Int32), iv (-1 : Int32), iv (0 : Int32)]) rfl k₀) ?_
      obtain ⟨z12, hz12, k12⟩ : ∃ z : Int32, z = (if p2 < (0 : Int32) then (1 : Int32) else ((0 : Int32))) ∧ ∀ P, Go p e below (T11.setTop (mkF m 139 #[iv p0, iv p1, iv p2, iv p3, iv p4, iv (1 : Int32), rv b5, iv p2, iv (-1 : Int32), iv (-1 : Int32), iv z] [])) P → Go p e below (T11.setTop (mkF m 98 #[iv p0, iv p1, iv p2, iv p3, iv p4, iv (1 : Int32), rv b5, iv p2, iv (-1 : Int32), iv (-1 : Int32), iv (0 : Int32)] [])) P := by
        refine ⟨_, rfl, fun P kP => ?_⟩
        show Gm p e below T11 m 98 #[iv p0, iv p1, iv p2, iv p3, iv p4, iv (1 : Int32), rv b5, iv p2, iv (-1 : Int32), iv (-1 : Int32), iv (0 : Int32)] [] _
        refine own_go (fun t₀ k₀ => XS.iload X11.here hx rfl (Jvm.hb hby at_98) rfl k₀) ?_
        show Gm p e below T11 m 100 #[iv p0, iv p1, iv p2, iv p3, iv p4, iv (1 : Int32), rv b5, iv p2, iv (-1 : Int32), iv (-1 : Int32), iv (0 : Int32)] [(.int (1 : Int32))] _
        refine own_go (fun t₀ k₀ => XS.ifNo X11.here hx rfl (Jvm.hb hby at_100) rfl (XT.i0_le_f (by decide)) k₀) ?_
        show Gm p e below T11 m 103 #[iv p0, iv p1, iv p2, iv p3, iv p4, iv (1 : Int32), rv b5, iv p2, iv (-1 : Int32), iv (-1 : Int32), iv (0 : Int32)] [] _
        refine own_go (fun t₀ k₀ => XS.iload X11.here hx rfl (Jvm.hb hby at_103) rfl k₀) ?_
        show Gm p e below T11 m 105 #[iv p0, iv p1, iv p2, iv p3, iv p4, iv (1 : Int32), rv b5, iv p2, iv (-1 : Int32), iv (-1 : Int32), iv (0 : Int32)] [(.int p2)] _
        by_cases c13 : p2 < (0 : Int32)
        · have hfork := trivial
          refine own_go (fun t₀ k₀ => XS.ifNo X11.here hx rfl (Jvm.hb hby at_105) rfl (XT.i0_ge_f c13) k₀) ?_
          show Gm p e below T11 m 108 #[iv p0, iv p1, iv p2, iv p3, iv p4, iv (1 : Int32), rv b5, iv p2, iv (-1 : Int32), iv (-1 : Int32), iv (0 : Int32)] [] _
          refine own_go (fun t₀ k₀ => XS.iconst X11.here hx rfl (Jvm.hb hby at_108) k₀) ?_
          show Gm p e below T11 m 109 #[iv p0, iv p1, iv p2, iv p3, iv p4, iv (1 : Int32), rv b5, iv p2, iv (-1 : Int32), iv (-1 : Int32), iv (0 : Int32)] [(.int (1 : Int32))] _
          refine own_go (fun t₀ k₀ => XS.istore X11.here hx rfl (Jvm.hb hby at_109) rfl (l' := #[iv p0, iv p1, iv p2, iv p3, iv p4, iv (1 : Int32), rv b5, iv p2, iv (-1 : Int32), iv (-1 : Int32), iv (1 : Int32)]) rfl k₀) ?_
          show Gm p e below T11 m 111 #[iv p0, iv p1, iv p2, iv p3, iv p4, iv (1 : Int32), rv b5, iv p2, iv (-1 : Int32), iv (-1 : Int32), iv (1 : Int32)] [] _
          refine own_go (fun t₀ k₀ => XS.iload X11.here hx rfl (Jvm.hb hby at_111) rfl k₀) ?_
          show Gm p e below T11 m 113 #[iv p0, iv p1, iv p2, iv p3, iv p4, iv (1 : Int32), rv b5, iv p2, iv (-1 : Int32), iv (-1 : Int32), iv (1 : Int32)] [(.int (1 : Int32))] _
          refine own_go (fun t₀ k₀ => XS.iconst X11.here hx rfl (Jvm.hb hby at_113) k₀) ?_
          show Gm p e below T11 m 114 #[iv p0, iv p1, iv p2, iv p3, iv p4, iv (1 : Int32), rv b5, iv p2, iv (-1 : Int32), iv (-1 : Int32), iv (1 : Int32)] [(.int (1 : Int32)), (.int (1 : Int32))] _
          refine own_go (fun t₀ k₀ => XS.icmpYes X11.here hx rfl (pc0 := 114) (pc' := 125) rfl (Jvm.hb hby at_114) rfl (XT.ii_le_t (by decide)) (by decide) (by decide) k₀) ?_
          show Gm p e below T11 m 125 #[iv p0, iv p1, iv p2, iv p3, iv p4, iv (1 : Int32), rv b5, iv p2, iv (-1 : Int32), iv (-1 : Int32), iv (1 : Int32)] [] _
          refine own_go (fun t₀ k₀ => XS.iload X11.here hx rfl (Jvm.hb hby at_125) rfl k₀) ?_
          show Gm p e below T11 m 127 #[iv p0, iv p1, iv p2, iv p3, iv p4, iv (1 : Int32), rv b5, iv p2, iv (-1 : Int32), iv (-1 : Int32), iv (1 : Int32)] [(.int (1 : Int32))] _
          refine own_go (fun t₀ k₀ => XS.iconst X11.here hx rfl (Jvm.hb hby at_127) k₀) ?_
          show Gm p e below T11 m 128 #[iv p0, iv p1, iv p2, iv p3, iv p4, iv (1 : Int32), rv b5, iv p2, iv (-1 : Int32), iv (-1 : Int32), iv (1 : Int32)] [(.int (2 : Int32)), (.int (1 : Int32))] _
          refine own_go (fun t₀ k₀ => XS.icmpYes X11.here hx rfl (pc0 := 128) (pc' := 139) rfl (Jvm.hb hby at_128) rfl (XT.ii_le_t (by decide)) (by decide) (by decide) k₀) ?_
          rw [if_pos c13] at kP
          exact kP
        · have hfork := trivial
          refine own_go (fun t₀ k₀ => XS.ifYes X11.here hx rfl (pc0 := 105) (pc' := 111) rfl (Jvm.hb hby at_105) rfl (XT.i0_ge_t c13) (by decide) (by decide) k₀) ?_
          show Gm p e below T11 m 111 #[iv p0, iv p1, iv p2, iv p3, iv p4, iv (1 : Int32), rv b5, iv p2, iv (-1 : Int32), iv (-1 : Int32), iv (0 : Int32)] [] _
          refine own_go (fun t₀ k₀ => XS.iload X11.here hx rfl (Jvm.hb hby at_111) rfl k₀) ?_
          show Gm p e below T11 m 113 #[iv p0, iv p1, iv p2, iv p3, iv p4, iv (1 : Int32), rv b5, iv p2, iv (-1 : Int32), iv (-1 : Int32), iv (0 : Int32)] [(.int (1 : Int32))] _
          refine own_go (fun t₀ k₀ => XS.iconst X11.here hx rfl (Jvm.hb hby at_113) k₀) ?_
          show Gm p e below T11 m 114 #[iv p0, iv p1, iv p2, iv p3, iv p4, iv (1 : Int32), rv b5, iv p2, iv (-1 : Int32), iv (-1 : Int32), iv (0 : Int32)] [(.int (1 : Int32)), (.int (1 : Int32))] _
          refine own_go (fun t₀ k₀ => XS.icmpYes X11.here hx rfl (pc0 := 114) (pc' := 125) rfl (Jvm.hb hby at_114) rfl (XT.ii_le_t (by decide)) (by decide) (by decide) k₀) ?_
          show Gm p e below T11 m 125 #[iv p0, iv p1, iv p2, iv p3, iv p4, iv (1 : Int32), rv b5, iv p2, iv (-1 : Int32), iv (-1 : Int32), iv (0 : Int32)] [] _
          refine own_go (fun t₀ k₀ => XS.iload X11.here hx rfl (Jvm.hb hby at_125) rfl k₀) ?_
          show Gm p e below T11 m 127 #[iv p0, iv p1, iv p2, iv p3, iv p4, iv (1 : Int32), rv b5, iv p2, iv (-1 : Int32), iv (-1 : Int32), iv (0 : Int32)] [(.int (1 : Int32))] _
          refine own_go (fun t₀ k₀ => XS.iconst X11.here hx rfl (Jvm.hb hby at_127) k₀) ?_
          show Gm p e below T11 m 128 #[iv p0, iv p1, iv p2, iv p3, iv p4, iv (1 : Int32), rv b5, iv p2, iv (-1 : Int32), iv (-1 : Int32), iv (0 : Int32)] [(.int (2 : Int32)), (.int (1 : Int32))] _
          refine own_go (fun t₀ k₀ => XS.icmpYes X11.here hx rfl (pc0 := 128) (pc' := 139) rfl (Jvm.hb hby at_128) rfl (XT.ii_le_t (by decide)) (by decide) (by decide) k₀) ?_
          rw [if_neg c13] at kP
          exact kP
      refine k12 _ ?_
      show Gm p e below T11 m 139 #[iv p0, iv p1, iv p2, iv p3, iv p4, iv (1 : Int32), rv b5, iv p2, iv (-1 : Int32), iv (-1 : Int32), iv z12] [] _
      refine own_go (fun t₀ k₀ => XS.aload X11.here hx rfl (Jvm.hb hby at_139) rfl rfl k₀) ?_
      show Gm p e below T11 m 141 #[iv p0, iv p1, iv p2, iv p3, iv p4, iv (1 : Int32), rv b5, iv p2, iv (-1 : Int32), iv (-1 : Int32), iv z12] [(.ref b5)] _
      have f14 := (Fld.other W11 Fc_exit6 (Or.inl ne_b5_exit6))
      have f16 := (Ec6.wr W11)
      obtain ⟨cq15, kq15, q15a, q15b, q15c⟩ := isOf hZ e11 f16
      obtain ⟨_, _, ⟨T15, L15, k15, n15⟩, -, X15, ⟨Lc15, hQ15, l15, y15, z15⟩, st15⟩ := X11.virtualBack hx (y := (⟨"com/example/throughfare/throughfare/simulation/Walkers", "anyoneInside", "()Z"⟩ : MethodName)) (z := (⟨"com/example/throughfare/throughfare/simulation/Walkers", "anyoneInside", "()Z"⟩ : MethodName)) hown (mvT hZ (hw _ (List.mem_of_getElem? (i := 42) rfl))) (mvT hZ (hw _ (List.mem_of_getElem? (i := 43) rfl))) (notFace_of_selects (args := #[]) (mvT hZ (hw _ (List.mem_of_getElem? (i := 45) rfl)))) (mvT hZ (hw _ (List.mem_of_getElem? (i := 45) rfl))) (mvT hZ (hw _ (List.mem_of_getElem? (i := 44) rfl))) (by decide) (backOf (W := 0) (rm5_1 l Z a0 hw [] b5 exit6 (fun i => if i = 0 then (.int p2) else (fun _ => (.int (-1 : Int32))) i) p2 h11 n0 Z11 f14 A11 rfl) hZ (hw _ (List.mem_of_getElem? (i := 46) rfl)) (hw _ (List.mem_of_getElem? (i := 2) rfl)) (by decide) (by decide)) q15a q15c (g := (mkF m 141 #[iv p0, iv p1, iv p2, iv p3, iv p4, iv (1 : Int32), rv b5, iv p2, iv (-1 : Int32), iv (-1 : Int32), iv z12] [(.ref b5)])) rfl (by rw [hml]; rfl) (Steps.refl _) (argsL := []) (rest := []) (lenOf own_pd3 rfl) rfl (by show 2 * 0 + _ ≤ _; exact Nat.le_of_eq rfl) (Jvm.hb hby at_141) (fun _ _ => ⟨rfl, e11, (by decide : 12 + 0 ≤ _), (by decide : 22 + 0 ≤ _)⟩)
      dsimp only [Pt.U, Pt.locs, Pt.cells, Pt.slots] at X15 l15 y15 z15 st15 hQ15
      subst l15 y15 z15
      obtain ⟨rfl, Nq15, eq15⟩ := hQ15
      have N15 := Fr.app N11 Nq15
      have e15 : T15.heap = h11 := eq15
      refine own_go (fun t k => st15.trans k) ?_
      show Gm p e below T15 m 144 #[iv p0, iv p1, iv p2, iv p3, iv p4, iv (1 : Int32), rv b5, iv p2, iv (-1 : Int32), iv (-1 : Int32), iv z12] [(.int (fA1 p2))] _
      refine own_go (fun t₀ k₀ => XS.iload X15.here hx rfl (Jvm.hb hby at_144) rfl k₀) ?_
      show Gm p e below T15 m 146 #[iv p0, iv p1, iv p2, iv p3, iv p4, iv (1 : Int32), rv b5, iv p2, iv (-1 : Int32), iv (-1 : Int32), iv z12] [(.int z12), (.int (fA1 p2))] _
      refine own_go (fun t₀ k₀ => XS.icmpNo X15.here hx rfl (Jvm.hb hby at_146) rfl (XT.ii_ne_f (by rw [hz12]; unfold fA1; first | rfl | (simp only [(by decide : ((-1 : Int32) < 0) = True), if_true]; done) | (simp only [(by decide : ((-1 : Int32) < 0) = True), if_true]; (repeat' split) <;> rfl) | ((repeat' split) <;> first | rfl | contradiction | (simp_all; done)))) k₀) ?_
      show Gm p e below T15 m 149 #[iv p0, iv p1, iv p2, iv p3, iv p4, iv (1 : Int32), rv b5, iv p2, iv (-1 : Int32), iv (-1 : Int32), iv z12] [] _
      refine own_go (fun t₀ k₀ => XS.iconst X15.here hx rfl (Jvm.hb hby at_149) k₀) ?_
      show Gm p e below T15 m 150 #[iv p0, iv p1, iv p2, iv p3, iv p4, iv (1 : Int32), rv b5, iv p2, iv (-1 : Int32), iv (-1 : Int32), iv z12] [(.int (1 : Int32))] _
      refine own_go (fun t₀ k₀ => XS.goto X15.here hx rfl (pc0 := 150) (pc' := 154) rfl (Jvm.hb hby at_150) (by decide) (by decide) k₀) ?_
      show Gm p e below T15 m 154 #[iv p0, iv p1, iv p2, iv p3, iv p4, iv (1 : Int32), rv b5, iv p2, iv (-1 : Int32), iv (-1 : Int32), iv z12] [(.int (1 : Int32))] _
      exact own_retI X15 hx hlk (t := .boolean) Bd.returns rfl (by simp) (Jvm.hb hby at_154) e15 ⟨rfl, N15⟩ (by decide) (by decide)
  · rw [hk]
    show Gm p e below s₁ m 5 #[iv p0, iv p1, iv p2, iv p3, iv p4, iv (2 : Int32), .unset, .unset, .unset, .unset, .unset] [] _
    obtain ⟨T17, h17, X17, e17, E17, A17, D17, -, st17⟩ := newO X0 hx hZ hown (hw _ (List.mem_of_getElem? (i := 0) rfl)) (hw _ (List.mem_of_getElem? (i := 1) rfl)) (hw _ (List.mem_of_getElem? (i := 2) rfl)) e0 (g := (mkF m 5 #[iv p0, iv p1, iv p2, iv p3, iv p4, iv (2 : Int32), .unset, .unset, .unset, .unset, .unset] [])) rfl (Jvm.hb hby at_5) (by decide) (by decide)
    obtain ⟨b17, g17⟩ : ∃ z, z = h0.size := ⟨_, rfl⟩
    rw [← g17] at A17 D17 st17
    have g_b17 : n0 ≤ b17 := Nat.le_trans Z0 (Nat.le_of_eq g17.symm)
    have Z17 : n0 ≤ h17.size := Nat.le_trans Z0 E17.1
    have F_floor_b17 : Fld Z h17 b17 "com/example/throughfare/throughfare/simulation/Walkers" "floor" "[I" .null := D17 (Or.inr (hw _ (List.mem_of_getElem? (i := 11) rfl))) (ty := (.array .int)) (by decide)
    have F_startCell_b17 : Fld Z h17 b17 "com/example/throughfare/throughfare/simulation/Walkers" "startCell" "[I" .null := D17 (Or.inr (hw _ (List.mem_of_getElem? (i := 13) rfl))) (ty := (.array .int)) (by decide)
    have F_cell_b17 : Fld Z h17 b17 "com/example/throughfare/throughfare/simulation/Walkers" "cell" "[I" .null := D17 (Or.inr (hw _ (List.mem_of_getElem? (i := 15) rfl))) (ty := (.array .int)) (by decide)
    have F_speedMps_b17 : Fld Z h17 b17 "com/example/throughfare/throughfare/simulation/Walkers" "speedMps" "[D" .null := D17 (Or.inr (hw _ (List.mem_of_getElem? (i := 18) rfl))) (ty := (.array .double)) (by decide)
    have F_reactionS_b17 : Fld Z h17 b17 "com/example/throughfare/throughfare/simulation/Walkers" "reactionS" "[D" .null := D17 (Or.inr (hw _ (List.mem_of_getElem? (i := 20) rfl))) (ty := (.array .double)) (by decide)
    have F_heading_b17 : Fld Z h17 b17 "com/example/throughfare/throughfare/simulation/Walkers" "heading" "[I" .null := D17 (Or.inr (hw _ (List.mem_of_getElem? (i := 22) rfl))) (ty := (.array .int)) (by decide)
    have F_heldUpS_b17 : Fld Z h17 b17 "com/example/throughfare/throughfare/simulation/Walkers" "heldUpS" "[D" .null := D17 (Or.inr (hw _ (List.mem_of_getElem? (i := 24) rfl))) (ty := (.array .double)) (by decide)
    have F_exitTimeS_b17 : Fld Z h17 b17 "com/example/throughfare/throughfare/simulation/Walkers" "exitTimeS" "[D" .null := D17 (Or.inr (hw _ (List.mem_of_getElem? (i := 31) rfl))) (ty := (.array .double)) (by decide)
    have F_leaving_b17 : Fld Z h17 b17 "com/example/throughfare/throughfare/simulation/Walkers" "leaving" "[I" .null := D17 (Or.inr (hw _ (List.mem_of_getElem? (i := 34) rfl))) (ty := (.array .int)) (by decide)
    have F_exit_b17 : Fld Z h17 b17 "com/example/throughfare/throughfare/simulation/Walkers" "exit" "[I" .null := D17 (Or.inr (hw _ (List.mem_of_getElem? (i := 39) rfl))) (ty := (.array .int)) (by decide)
    have F_distanceM_b17 : Fld Z h17 b17 "com/example/throughfare/throughfare/simulation/Walkers" "distanceM" "[D" .null := D17 (Or.inr (hw _ (List.mem_of_getElem? (i := 41) rfl))) (ty := (.array .double)) (by decide)
    refine own_go st17 ?_
    show Gm p e below T17 m 8 #[iv p0, iv p1, iv p2, iv p3, iv p4, iv (2 : Int32), .unset, .unset, .unset, .unset, .unset] [(.ref b17)] _
    refine own_go (fun t₀ k₀ => XS.dup X17.here hx rfl (Jvm.hb hby at_8) rfl rfl k₀) ?_
    show Gm p e below T17 m 9 #[iv p0, iv p1, iv p2, iv p3, iv p4, iv (2 : Int32), .unset, .unset, .unset, .unset, .unset] [(.ref b17), (.ref b17)] _
    refine own_go (fun t₀ k₀ => XS.iload X17.here hx rfl (Jvm.hb hby at_9) rfl k₀) ?_
    show Gm p e below T17 m 11 #[iv p0, iv p1, iv p2, iv p3, iv p4, iv (2 : Int32), .unset, .unset, .unset, .unset, .unset] [(.int (2 : Int32)), (.ref b17), (.ref b17)] _
    obtain ⟨_, _, ⟨T18, L18, k18, n18⟩, -, X18, ⟨Lc18, hQ18, l18, y18, z18⟩, st18⟩ := X17.specialBack hx (y := (⟨"com/example/throughfare/throughfare/simulation/Walkers", "<init>", "(I)V"⟩ : MethodName)) rfl hown (mvT hZ (hw _ (List.mem_of_getElem? (i := 3) rfl))) (mvT hZ (hw _ (List.mem_of_getElem? (i := 4) rfl))) (mvT hZ (hw _ (List.mem_of_getElem? (i := 5) rfl))) (by decide) (backOf (W := 1) (rm1_2 l Z a0 hw [] b17 h17 n0 Z17 A17 F_floor_b17 F_startCell_b17 F_cell_b17 F_speedMps_b17 F_reactionS_b17 F_heading_b17 F_heldUpS_b17 F_exitTimeS_b17 F_leaving_b17 F_exit_b17 F_distanceM_b17 g_b17) hZ (hw _ (List.mem_of_getElem? (i := 5) rfl)) (hw _ (List.mem_of_getElem? (i := 2) rfl)) (by decide) (by decide)) (g := (mkF m 11 #[iv p0, iv p1, iv p2, iv p3, iv p4, iv (2 : Int32), .unset, .unset, .unset, .unset, .unset] [(.int (2 : Int32)), (.ref b17), (.ref b17)])) rfl (by rw [hml]; rfl) (Steps.refl _) (a := b17) (argsL := [(.int (2 : Int32))]) (rest := [(.ref b17)]) (lenOf own_pd2 rfl) rfl (by show 2 * 0 + _ ≤ _; exact Nat.le_of_eq rfl) (Jvm.hb hby at_11) (fun _ _ => ⟨rfl, e17, (by decide : 1 + 11 ≤ _), (by decide : 11 + 22 ≤ _)⟩)
    dsimp only [Pt.U, Pt.locs, Pt.cells, Pt.slots] at X18 l18 y18 z18 st18 hQ18
    subst l18 y18 z18
    obtain ⟨exit18, rfl, Nq18, Kc18, Ec18, hs_exit18, Fc_exit18, Ac_exit18⟩ := hQ18
    have N18 := Fr.app N0 Nq18
    refine own_go (fun t k => st18.trans k) ?_
    have ne_b17_exit18 : b17 ≠ exit18 := Nat.ne_of_lt (Nat.lt_of_lt_of_le A17.lt hs_exit18)
    have g_exit18 : n0 ≤ exit18 := Nat.le_trans Z17 hs_exit18
    have Z18 : n0 ≤ T18.heap.size := Nat.le_trans Z17 Kc18.1
    show Gm p e below T18 m 14 #[iv p0, iv p1, iv p2, iv p3, iv p4, iv (2 : Int32), .unset, .unset, .unset, .unset, .unset] [(.ref b17)] _
    refine own_go (fun t₀ k₀ => XS.astore X18.here hx rfl (Jvm.hb hby at_14) rfl rfl (l' := #[iv p0, iv p1, iv p2, iv p3, iv p4, iv (2 : Int32), rv b17, .unset, .unset, .unset, .unset]) rfl k₀) ?_
    show Gm p e below T18 m 16 #[iv p0, iv p1, iv p2, iv p3, iv p4, iv (2 : Int32), rv b17, .unset, .unset, .unset, .unset] [] _
    refine own_go (fun t₀ k₀ => XS.iconst X18.here hx rfl (Jvm.hb hby at_16) k₀) ?_
    show Gm p e below T18 m 17 #[iv p0, iv p1, iv p2, iv p3, iv p4, iv (2 : Int32), rv b17, .unset, .unset, .unset, .unset] [(.int (-1 : Int32))] _
    refine own_go (fun t₀ k₀ => XS.istore X18.here hx rfl (Jvm.hb hby at_17) rfl (l' := #[iv p0, iv p1, iv p2, iv p3, iv p4, iv (2 : Int32), rv b17, iv (-1 : Int32), .unset, .unset, .unset]) rfl k₀) ?_
    show Gm p e below T18 m 19 #[iv p0, iv p1, iv p2, iv p3, iv p4, iv (2 : Int32), rv b17, iv (-1 : Int32), .unset, .unset, .unset] [] _
    refine own_go (fun t₀ k₀ => XS.iconst X18.here hx rfl (Jvm.hb hby at_19) k₀) ?_
    show Gm p e below T18 m 20 #[iv p0, iv p1, iv p2, iv p3, iv p4, iv (2 : Int32), rv b17, iv (-1 : Int32), .unset, .unset, .unset] [(.int (-1 : Int32))] _
    refine own_go (fun t₀ k₀ => XS.istore X18.here hx rfl (Jvm.hb hby at_20) rfl (l' := #[iv p0, iv p1, iv p2, iv p3, iv p4, iv (2 : Int32), rv b17, iv (-1 : Int32), iv (-1 : Int32), .unset, .unset]) rfl k₀) ?_
    show Gm p e below T18 m 22 #[iv p0, iv p1, iv p2, iv p3, iv p4, iv (2 : Int32), rv b17, iv (-1 : Int32), iv (-1 : Int32), .unset, .unset] [] _
    refine own_go (fun t₀ k₀ => XS.iconst X18.here hx rfl (Jvm.hb hby at_22) k₀) ?_
    show Gm p e below T18 m 23 #[iv p0, iv p1, iv p2, iv p3, iv p4, iv (2 : Int32), rv b17, iv (-1 : Int32), iv (-1 : Int32), .unset, .unset] [(.int (-1 : Int32))] _
    refine own_go (fun t₀ k₀ => XS.istore X18.here hx rfl (Jvm.hb hby at_23) rfl (l' := #[iv p0, iv p1, iv p2, iv p3, iv p4, iv (2 : Int32), rv b17, iv (-1 : Int32), iv (-1 : Int32), iv (-1 : Int32), .unset]) rfl k₀) ?_
    show Gm p e below T18 m 25 #[iv p0, iv p1, iv p2, iv p3, iv p4, iv (2 : Int32), rv b17, iv (-1 : Int32), iv (-1 : Int32), iv (-1 : Int32), .unset] [] _
    refine own_go (fun t₀ k₀ => XS.iload X18.here hx rfl (Jvm.hb hby at_25) rfl k₀) ?_
    show Gm p e below T18 m 27 #[iv p0, iv p1, iv p2, iv p3, iv p4, iv (2 : Int32), rv b17, iv (-1 : Int32), iv (-1 : Int32), iv (-1 : Int32), .unset] [(.int (2 : Int32))] _
    refine own_go (fun t₀ k₀ => XS.ifNo X18.here hx rfl (Jvm.hb hby at_27) rfl (XT.i0_le_f (by decide)) k₀) ?_
    show Gm p e below T18 m 30 #[iv p0, iv p1, iv p2, iv p3, iv p4, iv (2 : Int32), rv b17, iv (-1 : Int32), iv (-1 : Int32), iv (-1 : Int32), .unset] [] _
    refine own_go (fun t₀ k₀ => XS.iloadN X18.here hx rfl (Jvm.hb hby at_30) rfl k₀) ?_
    show Gm p e below T18 m 31 #[iv p0, iv p1, iv p2, iv p3, iv p4, iv (2 : Int32), rv b17, iv (-1 : Int32), iv (-1 : Int32), iv (-1 : Int32), .unset] [(.int p1)] _
    refine own_go (fun t₀ k₀ => XS.iconst X18.here hx rfl (Jvm.hb hby at_31) k₀) ?_
    show Gm p e below T18 m 32 #[iv p0, iv p1, iv p2, iv p3, iv p4, iv (2 : Int32), rv b17, iv (-1 : Int32), iv (-1 : Int32), iv (-1 : Int32), .unset] [(.int (1 : Int32)), (.int p1)] _
    refine own_go (fun t₀ k₀ => XS.iand X18.here hx rfl (Jvm.hb hby at_32) rfl k₀) ?_
    show Gm p e below T18 m 33 #[iv p0, iv p1, iv p2, iv p3, iv p4, iv (2 : Int32), rv b17, iv (-1 : Int32), iv (-1 : Int32), iv (-1 : Int32), .unset] [(.int (p1 &&& (1 : Int32)))] _
    by_cases c19 : (p1 &&& (1 : Int32)) = (0 : Int32)
    · have hfork := trivial
      refine own_go (fun t₀ k₀ => XS.ifYes X18.here hx rfl (pc0 := 33) (pc' := 47) rfl (Jvm.hb hby at_33) rfl (XT.i0_eq_t c19) (by decide) (by decide) k₀) ?_
      show Gm p e below T18 m 47 #[iv p0, iv p1, iv p2, iv p3, iv p4, iv (2 : Int32), rv b17, iv (-1 : Int32), iv (-1 : Int32), iv (-1 : Int32), .unset] [] _
      refine own_go (fun t₀ k₀ => XS.iload X18.here hx rfl (Jvm.hb hby at_47) rfl k₀) ?_
      show Gm p e below T18 m 49 #[iv p0, iv p1, iv p2, iv p3, iv p4, iv (2 : Int32), rv b17, iv (-1 : Int32), iv (-1 : Int32), iv (-1 : Int32), .unset] [(.int (2 : Int32))] _
      refine own_go (fun t₀ k₀ => XS.iconst X18.here hx rfl (Jvm.hb hby at_49) k₀) ?_
      show Gm p e below T18 m 50 #[iv p0, iv p1, iv p2, iv p3, iv p4, iv (2 : Int32), rv b17, iv (-1 : Int32), iv (-1 : Int32), iv (-1 : Int32), .unset] [(.int (1 : Int32)), (.int (2 : Int32))] _
      refine own_go (fun t₀ k₀ => XS.icmpNo X18.here hx rfl (Jvm.hb hby at_50) rfl (XT.ii_le_f (by decide)) k₀) ?_
      show Gm p e below T18 m 53 #[iv p0, iv p1, iv p2, iv p3, iv p4, iv (2 : Int32), rv b17, iv (-1 : Int32), iv (-1 : Int32), iv (-1 : Int32), .unset] [] _
      refine own_go (fun t₀ k₀ => XS.iloadN X18.here hx rfl (Jvm.hb hby at_53) rfl k₀) ?_
      show Gm p e below T18 m 54 #[iv p0, iv p1, iv p2, iv p3, iv p4, iv (2 : Int32), rv b17, iv (-1 : Int32), iv (-1 : Int32), iv (-1 : Int32), .unset] [(.int p1)] _
      refine own_go (fun t₀ k₀ => XS.iconst X18.here hx rfl (Jvm.hb hby at_54) k₀) ?_
      show Gm p e below T18 m 55 #[iv p0, iv p1, iv p2, iv p3, iv p4, iv (2 : Int32), rv b17, iv (-1 : Int32), iv (-1 : Int32), iv (-1 : Int32), .unset] [(.int (2 : Int32)), (.int p1)] _
      refine own_go (fun t₀ k₀ => XS.iand X18.here hx rfl (Jvm.hb hby at_55) rfl k₀) ?_
      show Gm p e below T18 m 56 #[iv p0, iv p1, iv p2, iv p3, iv p4, iv (2 : Int32), rv b17, iv (-1 : Int32), iv (-1 : Int32), iv (-1 : Int32), .unset] [(.int (p1 &&& (2 : Int32)))] _
      by_cases c20 : (p1 &&& (2 : Int32)) = (0 : Int32)
      · have hfork := trivial
        refine own_go (fun t₀ k₀ => XS.ifYes X18.here hx rfl (pc0 := 56) (pc' := 70) rfl (Jvm.hb hby at_56) rfl (XT.i0_eq_t c20) (by decide) (by decide) k₀) ?_
        show Gm p e below T18 m 70 #[iv p0, iv p1, iv p2, iv p3, iv p4, iv (2 : Int32), rv b17, iv (-1 : Int32), iv (-1 : Int32), iv (-1 : Int32), .unset] [] _
        refine own_go (fun t₀ k₀ => XS.iload X18.here hx rfl (Jvm.hb hby at_70) rfl k₀) ?_
        show Gm p e below T18 m 72 #[iv p0, iv p1, iv p2, iv p3, iv p4, iv (2 : Int32), rv b17, iv (-1 : Int32), iv (-1 : Int32), iv (-1 : Int32), .unset] [(.int (2 : Int32))] _
        refine own_go (fun t₀ k₀ => XS.iconst X18.here hx rfl (Jvm.hb hby at_72) k₀) ?_
        show Gm p e below T18 m 73 #[iv p0, iv p1, iv p2, iv p3, iv p4, iv (2 : Int32), rv b17, iv (-1 : Int32), iv (-1 : Int32), iv (-1 : Int32), .unset] [(.int (2 : Int32)), (.int (2 : Int32))] _
        refine own_go (fun t₀ k₀ => XS.icmpYes X18.here hx rfl (pc0 := 73) (pc' := 95) rfl (Jvm.hb hby at_73) rfl (XT.ii_le_t (by decide)) (by decide) (by decide) k₀) ?_
        show Gm p e below T18 m 95 #[iv p0, iv p1, iv p2, iv p3, iv p4, iv (2 : Int32), rv b17, iv (-1 : Int32), iv (-1 : Int32), iv (-1 : Int32), .unset] [] _
        refine own_go (fun t₀ k₀ => XS.iconst X18.here hx rfl (Jvm.hb hby at_95) k₀) ?_
        show Gm p e below T18 m 96 #[iv p0, iv p1, iv p2, iv p3, iv p4, iv (2 : Int32), rv b17, iv (-1 : Int32), iv (-1 : Int32), iv (-1 : Int32), .unset] [(.int (0 : Int32))] _
        refine own_go (fun t₀ k₀ => XS.istore X18.here hx rfl (Jvm.hb hby at_96) rfl (l' := #[iv p0, iv p1, iv p2, iv p3, iv p4, iv (2 : Int32), rv b17, iv (-1 : Int32), iv (-1 : Int32), iv (-1 : Int32), iv (0 : Int32)]) rfl k₀) ?_
        have k21 : ∀ P, Go p e below (T18.setTop (mkF m 139 #[iv p0, iv p1, iv p2, iv p3, iv p4, iv (2 : Int32), rv b17, iv (-1 : Int32), iv (-1 : Int32), iv (-1 : Int32), iv (1 : Int32)] [])) P → Go p e below (T18.setTop (mkF m 98 #[iv p0, iv p1, iv p2, iv p3, iv p4, iv (2 : Int32), rv b17, iv (-1 : Int32), iv (-1 : Int32), iv (-1 : Int32), iv (0 : Int32)] [])) P := by
          intro P kP
          show Gm p e below T18 m 98 #[iv p0, iv p1, iv p2, iv p3, iv p4, iv (2 : Int32), rv b17, iv (-1 : Int32), iv (-1 : Int32), iv (-1 : Int32), iv (0 : Int32)] [] _
          refine own_go (fun t₀ k₀ => XS.iload X18.here hx rfl (Jvm.hb hby at_98) rfl k₀) ?_
          show Gm p e below T18 m 100 #[iv p0, iv p1, iv p2, iv p3, iv p4, iv (2 : Int32), rv b17, iv (-1 : Int32), iv (-1 : Int32), iv (-1 : Int32), iv (0 : Int32)] [(.int (2 : Int32))] _
          refine own_go (fun t₀ k₀ => XS.ifNo X18.here hx rfl (Jvm.hb hby at_100) rfl (XT.i0_le_f (by decide)) k₀) ?_
          show Gm p e below T18 m 103 #[iv p0, iv p1, iv p2, iv p3, iv p4, iv (2 : Int32), rv b17, iv (-1 : Int32), iv (-1 : Int32), iv (-1 : Int32), iv (0 : Int32)] [] _
          refine own_go (fun t₀ k₀ => XS.iload X18.here hx rfl (Jvm.hb hby at_103) rfl k₀) ?_
          show Gm p e below T18 m 105 #[iv p0, iv p1, iv p2, iv p3, iv p4, iv (2 : Int32), rv b17, iv (-1 : Int32), iv (-1 : Int32), iv (-1 : Int32), iv (0 : Int32)] [(.int (-1 : Int32))] _
          refine own_go (fun t₀ k₀ => XS.ifNo X18.here hx rfl (Jvm.hb hby at_105) rfl (XT.i0_ge_f (by decide)) k₀) ?_
          show Gm p e below T18 m 108 #[iv p0, iv p1, iv p2, iv p3, iv p4, iv (2 : Int32), rv b17, iv (-1 : Int32), iv (-1 : Int32), iv (-1 : Int32), iv (0 : Int32)] [] _
          refine own_go (fun t₀ k₀ => XS.iconst X18.here hx rfl (Jvm.hb hby at_108) k₀) ?_
          show Gm p e below T18 m 109 #[iv p0, iv p1, iv p2, iv p3, iv p4, iv (2 : Int32), rv b17, iv (-1 : Int32), iv (-1 : Int32), iv (-1 : Int32), iv (0 : Int32)] [(.int (1 : Int32))] _
          refine own_go (fun t₀ k₀ => XS.istore X18.here hx rfl (Jvm.hb hby at_109) rfl (l' := #[iv p0, iv p1, iv p2, iv p3, iv p4, iv (2 : Int32), rv b17, iv (-1 : Int32), iv (-1 : Int32), iv (-1 : Int32), iv (1 : Int32)]) rfl k₀) ?_
          show Gm p e below T18 m 111 #[iv p0, iv p1, iv p2, iv p3, iv p4, iv (2 : Int32), rv b17, iv (-1 : Int32), iv (-1 : Int32), iv (-1 : Int32), iv (1 : Int32)] [] _
          refine own_go (fun t₀ k₀ => XS.iload X18.here hx rfl (Jvm.hb hby at_111) rfl k₀) ?_
          show Gm p e below T18 m 113 #[iv p0, iv p1, iv p2, iv p3, iv p4, iv (2 : Int32), rv b17, iv (-1 : Int32), iv (-1 : Int32), iv (-1 : Int32), iv (1 : Int32)] [(.int (2 : Int32))] _
          refine own_go (fun t₀ k₀ => XS.iconst X18.here hx rfl (Jvm.hb hby at_113) k₀) ?_
          show Gm p e below T18 m 114 #[iv p0, iv p1, iv p2, iv p3, iv p4, iv (2 : Int32), rv b17, iv (-1 : Int32), iv (-1 : Int32), iv (-1 : Int32), iv (1 : Int32)] [(.int (1 : Int32)), (.int (2 : Int32))] _
          refine own_go (fun t₀ k₀ => XS.icmpNo X18.here hx rfl (Jvm.hb hby at_114) rfl (XT.ii_le_f (by decide)) k₀) ?_
          show Gm p e below T18 m 117 #[iv p0, iv p1, iv p2, iv p3, iv p4, iv (2 : Int32), rv b17, iv (-1 : Int32), iv (-1 : Int32), iv (-1 : Int32), iv (1 : Int32)] [] _
          refine own_go (fun t₀ k₀ => XS.iload X18.here hx rfl (Jvm.hb hby at_117) rfl k₀) ?_
          show Gm p e below T18 m 119 #[iv p0, iv p1, iv p2, iv p3, iv p4, iv (2 : Int32), rv b17, iv (-1 : Int32), iv (-1 : Int32), iv (-1 : Int32), iv (1 : Int32)] [(.int (-1 : Int32))] _
          refine own_go (fun t₀ k₀ => XS.ifNo X18.here hx rfl (Jvm.hb hby at_119) rfl (XT.i0_ge_f (by decide)) k₀) ?_
          show Gm p e below T18 m 122 #[iv p0, iv p1, iv p2, iv p3, iv p4, iv (2 : Int32), rv b17, iv (-1 : Int32), iv (-1 : Int32), iv (-1 : Int32), iv (1 : Int32)] [] _
          refine own_go (fun t₀ k₀ => XS.iconst X18.here hx rfl (Jvm.hb hby at_122) k₀) ?_
          show Gm p e below T18 m 123 #[iv p0, iv p1, iv p2, iv p3, iv p4, iv (2 : Int32), rv b17, iv (-1 : Int32), iv (-1 : Int32), iv (-1 : Int32), iv (1 : Int32)] [(.int (1 : Int32))] _
          refine own_go (fun t₀ k₀ => XS.istore X18.here hx rfl (Jvm.hb hby at_123) rfl (l' := #[iv p0, iv p1, iv p2, iv p3, iv p4, iv (2 : Int32), rv b17, iv (-1 : Int32), iv (-1 : Int32), iv (-1 : Int32), iv (1 : Int32)]) rfl k₀) ?_
          show Gm p e below T18 m 125 #[iv p0, iv p1, iv p2, iv p3, iv p4, iv (2 : Int32), rv b17, iv (-1 : Int32), iv (-1 : Int32), iv (-1 : Int32), iv (1 : Int32)] [] _
          refine own_go (fun t₀ k₀ => XS.iload X18.here hx rfl (Jvm.hb hby at_125) rfl k₀) ?_
          show Gm p e below T18 m 127 #[iv p0, iv p1, iv p2, iv p3, iv p4, iv (2 : Int32), rv b17, iv (-1 : Int32), iv (-1 : Int32), iv (-1 : Int32), iv (1 : Int32)] [(.int (2 : Int32))] _
          refine own_go (fun t₀ k₀ => XS.iconst X18.here hx rfl (Jvm.hb hby at_127) k₀) ?_
          show Gm p e below T18 m 128 #[iv p0, iv p1, iv p2, iv p3, iv p4, iv (2 : Int32), rv b17, iv (-1 : Int32), iv (-1 : Int32), iv (-1 : Int32), iv (1 : Int32)] [(.int (2 : Int32)), (.int (2 : Int32))] _
          refine own_go (fun t₀ k₀ => XS.icmpYes X18.here hx rfl (pc0 := 128) (pc' := 139) rfl (Jvm.hb hby at_128) rfl (XT.ii_le_t (by decide)) (by decide) (by decide) k₀) ?_
          exact kP
        refine k21 _ ?_
        show Gm p e below T18 m 139 #[iv p0, iv p1, iv p2, iv p3, iv p4, iv (2 : Int32), rv b17, iv (-1 : Int32), iv (-1 : Int32), iv (-1 : Int32), iv (1 : Int32)] [] _
        refine own_go (fun t₀ k₀ => XS.aload X18.here hx rfl (Jvm.hb hby at_139) rfl rfl k₀) ?_
        show Gm p e below T18 m 141 #[iv p0, iv p1, iv p2, iv p3, iv p4, iv (2 : Int32), rv b17, iv (-1 : Int32), iv (-1 : Int32), iv (-1 : Int32), iv (1 : Int32)] [(.ref b17)] _
        obtain ⟨cq22, kq22, q22a, q22b, q22c⟩ := isOf hZ rfl Ec18
        obtain ⟨_, _, ⟨T22, L22, k22, n22⟩, -, X22, ⟨Lc22, hQ22, l22, y22, z22⟩, st22⟩ := X18.virtualBack hx (y := (⟨"com/example/throughfare/throughfare/simulation/Walkers", "anyoneInside", "()Z"⟩ : MethodName)) (z := (⟨"com/example/throughfare/throughfare/simulation/Walkers", "anyoneInside", "()Z"⟩ : MethodName)) hown (mvT hZ (hw _ (List.mem_of_getElem? (i := 42) rfl))) (mvT hZ (hw _ (List.mem_of_getElem? (i := 43) rfl))) (notFace_of_selects (args := #[]) (mvT hZ (hw _ (List.mem_of_getElem? (i := 45) rfl)))) (mvT hZ (hw _ (List.mem_of_getElem? (i := 45) rfl))) (mvT hZ (hw _ (List.mem_of_getElem? (i := 44) rfl))) (by decide) (backOf (W := 0) (rm5_2 l Z a0 hw [] b17 exit18 (fun _ => (.int (-1 : Int32))) (-1 : Int32) (-1 : Int32) T18.heap n0 Z18 Fc_exit18 Ac_exit18 rfl rfl) hZ (hw _ (List.mem_of_getElem? (i := 46) rfl)) (hw _ (List.mem_of_getElem? (i := 2) rfl)) (by decide) (by decide)) q22a q22c (g := (mkF m 141 #[iv p0, iv p1, iv p2, iv p3, iv p4, iv (2 : Int32), rv b17, iv (-1 : Int32), iv (-1 : Int32), iv (-1 : Int32), iv (1 : Int32)] [(.ref b17)])) rfl (by rw [hml]; rfl) (Steps.refl _) (argsL := []) (rest := []) (lenOf own_pd3 rfl) rfl (by show 2 * 0 + _ ≤ _; exact Nat.le_of_eq rfl) (Jvm.hb hby at_141) (fun _ _ => ⟨rfl, rfl, (by decide : 12 + 0 ≤ _), (by decide : 33 + 0 ≤ _)⟩)
        dsimp only [Pt.U, Pt.locs, Pt.cells, Pt.slots] at X22 l22 y22 z22 st22 hQ22
        subst l22 y22 z22
        obtain ⟨rfl, Nq22, eq22⟩ := hQ22
        have N22 := Fr.app N18 Nq22
        have e22 : T22.heap = T18.heap := eq22
        refine own_go (fun t k => st22.trans k) ?_
        show Gm p e below T22 m 144 #[iv p0, iv p1, iv p2, iv p3, iv p4, iv (2 : Int32), rv b17, iv (-1 : Int32), iv (-1 : Int32), iv (-1 : Int32), iv (1 : Int32)] [(.int (fA2 (-1 : Int32) (-1 : Int32)))] _
        refine own_go (fun t₀ k₀ => XS.iload X22.here hx rfl (Jvm.hb hby at_144) rfl k₀) ?_
        show Gm p e below T22 m 146 #[iv p0, iv p1, iv p2, iv p3, iv p4, iv (2 : Int32), rv b17, iv (-1 : Int32), iv (-1 : Int32), iv (-1 : Int32), iv (1 : Int32)] [(.int (1 : Int32)), (.int (fA2 (-1 : Int32) (-1 : Int32)))] _
        refine own_go (fun t₀ k₀ => XS.icmpNo X22.here hx rfl (Jvm.hb hby at_146) rfl (XT.ii_ne_f (by unfold fA2; rw [if_pos (by decide)])) k₀) ?_
        show Gm p e below T22 m 149 #[iv p0, iv p1, iv p2, iv p3, iv p4, iv (2 : Int32), rv b17, iv (-1 : Int32), iv (-1 : Int32), iv (-1 : Int32), iv (1 : Int32)] [] _
        refine own_go (fun t₀ k₀ => XS.iconst X22.here hx rfl (Jvm.hb hby at_149) k₀) ?_
        show Gm p e below T22 m 150 #[iv p0, iv p1, iv p2, iv p3, iv p4, iv (2 : Int32), rv b17, iv (-1 : Int32), iv (-1 : Int32), iv (-1 : Int32), iv (1 : Int32)] [(.int (1 : Int32))] _
        refine own_go (fun t₀ k₀ => XS.goto X22.here hx rfl (pc0 := 150) (pc' := 154) rfl (Jvm.hb hby at_150) (by decide) (by decide) k₀) ?_
        show Gm p e below T22 m 154 #[iv p0, iv p1, iv p2, iv p3, iv p4, iv (2 : Int32), rv b17, iv (-1 : Int32), iv (-1 : Int32), iv (-1 : Int32), iv (1 : Int32)] [(.int (1 : Int32))] _
        exact own_retI X22 hx hlk (t := .boolean) Bd.returns rfl (by simp) (Jvm.hb hby at_154) e22 ⟨rfl, N22⟩ (by decide) (by decide)
      · have hfork := trivial
        refine own_go (fun t₀ k₀ => XS.ifNo X18.here hx rfl (Jvm.hb hby at_56) rfl (XT.i0_eq_f c20) k₀) ?_
        show Gm p e below T18 m 59 #[iv p0, iv p1, iv p2, iv p3, iv p4, iv (2 : Int32), rv b17, iv (-1 : Int32), iv (-1 : Int32), iv (-1 : Int32), .unset] [] _
        refine own_go (fun t₀ k₀ => XS.aload X18.here hx rfl (Jvm.hb hby at_59) rfl rfl k₀) ?_
        show Gm p e below T18 m 61 #[iv p0, iv p1, iv p2, iv p3, iv p4, iv (2 : Int32), rv b17, iv (-1 : Int32), iv (-1 : Int32), iv (-1 : Int32), .unset] [(.ref b17)] _
        obtain ⟨T23, X23, e23, st23⟩ := getF X18 hx hZ hown (host := "") (Or.inl (hw _ (List.mem_of_getElem? (i := 47) rfl))) Via.refl rfl Fc_exit18 (g := (mkF m 61 #[iv p0, iv p1, iv p2, iv p3, iv p4, iv (2 : Int32), rv b17, iv (-1 : Int32), iv (-1 : Int32), iv (-1 : Int32), .unset] [(.ref b17)])) rfl rfl (Jvm.hb hby at_61)
        refine own_go st23 ?_
        show Gm p e below T23 m 64 #[iv p0, iv p1, iv p2, iv p3, iv p4, iv (2 : Int32), rv b17, iv (-1 : Int32), iv (-1 : Int32), iv (-1 : Int32), .unset] [(.ref exit18)] _
        refine own_go (fun t₀ k₀ => XS.iconst X23.here hx rfl (Jvm.hb hby at_64) k₀) ?_
        show Gm p e below T23 m 65 #[iv p0, iv p1, iv p2, iv p3, iv p4, iv (2 : Int32), rv b17, iv (-1 : Int32), iv (-1 : Int32), iv (-1 : Int32), .unset] [(.int (1 : Int32)), (.ref exit18)] _
        refine own_go (fun t₀ k₀ => XS.iloadN X23.here hx rfl (Jvm.hb hby at_65) rfl k₀) ?_
        show Gm p e below T23 m 66 #[iv p0, iv p1, iv p2, iv p3, iv p4, iv (2 : Int32), rv b17, iv (-1 : Int32), iv (-1 : Int32), iv (-1 : Int32), .unset] [(.int p3), (.int (1 : Int32)), (.ref exit18)] _
        obtain ⟨T24, h24, X24, e24, W24, A24, st24⟩ := own_stI X23 hx hZ e23 Ac_exit18 (j := (1 : Int32)) (k := 1) (by decide) rfl (by decide) (g := (mkF m 66 #[iv p0, iv p1, iv p2, iv p3, iv p4, iv (2 : Int32), rv b17, iv (-1 : Int32), iv (-1 : Int32), iv (-1 : Int32), .unset] [(.int p3), (.int (1 : Int32)), (.ref exit18)])) rfl rfl (Jvm.hb hby at_66)
        have N24 := Fr.snoc X24 N18 g_exit18
        have Z24 : n0 ≤ h24.size := W24.size ▸ Z18
        refine own_go st24 ?_
        show Gm p e below T24 m 67 #[iv p0, iv p1, iv p2, iv p3, iv p4, iv (2 : Int32), rv b17, iv (-1 : Int32), iv (-1 : Int32), iv (-1 : Int32), .unset] [] _
        refine own_go (fun t₀ k₀ => XS.iloadN X24.here hx rfl (Jvm.hb hby at_67) rfl k₀) ?_
        show Gm p e below T24 m 68 #[iv p0, iv p1, iv p2, iv p3, iv p4, iv (2 : Int32), rv b17, iv (-1 : Int32), iv (-1 : Int32), iv (-1 : Int32), .unset] [(.int p3)] _
        refine own_go (fun t₀ k₀ => XS.istore X24.here hx rfl (Jvm.hb hby at_68) rfl (l' := #[iv p0, iv p1, iv p2, iv p3, iv p4, iv (2 : Int32), rv b17, iv (-1 : Int32), iv p3, iv (-1 : Int32), .unset]) rfl k₀) ?_
        show Gm p e below T24 m 70 #[iv p0, iv p1, iv p2, iv p3, iv p4, iv (2 : Int32), rv b17, iv (-1 : Int32), iv p3, iv (-1 : Int32), .unset] [] _
        refine own_go (fun t₀ k₀ => XS.iload X24.here hx rfl (Jvm.hb hby at_70) rfl k₀) ?_
        show Gm p e below T24 m 72 #[iv p0, iv p1, iv p2, iv p3, iv p4, iv (2 : Int32), rv b17, iv (-1 : Int32), iv p3, iv (-1 : Int32), .unset] [(.int (2 : Int32))] _
        refine own_go (fun t₀ k₀ => XS.iconst X24.here hx rfl (Jvm.hb hby at_72) k₀) ?_
        show Gm p e below T24 m 73 #[iv p0, iv p1, iv p2, iv p3, iv p4, iv (2 : Int32), rv b17, iv (-1 : Int32), iv p3, iv (-1 : Int32), .unset] [(.int (2 : Int32)), (.int (2 : Int32))] _
        refine own_go (fun t₀ k₀ => XS.icmpYes X24.here hx rfl (pc0 := 73) (pc' := 95) rfl (Jvm.hb hby at_73) rfl (XT.ii_le_t (by decide)) (by decide) (by decide) k₀) ?_
        show Gm p e below T24 m 95 #[iv p0, iv p1, iv p2, iv p3, iv p4, iv (2 : Int32), rv b17, iv (-1 : Int32), iv p3, iv (-1 : Int32), .unset] [] _
        refine own_go (fun t₀ k₀ => XS.iconst X24.here hx rfl (Jvm.hb hby at_95) k₀) ?_
        show Gm p e below T24 m 96 #[iv p0, iv p1, iv p2, iv p3, iv p4, iv (2 : Int32), rv b17, iv (-1 : Int32), iv p3, iv (-1 : Int32), .unset] [(.int (0 : Int32))] _
        refine own_go (fun t₀ k₀ => XS.istore X24.here hx rfl (Jvm.hb hby at_96) rfl (l' := #[iv p0, iv p1, iv p2, iv p3, iv p4, iv (2 : Int32), rv b17, iv (-1 : Int32), iv p3, iv (-1 : Int32), iv (0 : Int32)]) rfl k₀) ?_
        obtain ⟨z25, hz25, k25⟩ : ∃ z : Int32, z = (if p3 < (0 : Int32) then (1 : Int32) else ((1 : Int32))) ∧ ∀ P, Go p e below (T24.setTop (mkF m 139 #[iv p0, iv p1, iv p2, iv p3, iv p4, iv (2 : Int32), rv b17, iv (-1 : Int32), iv p3, iv (-1 : Int32), iv z] [])) P → Go p e below (T24.setTop (mkF m 98 #[iv p0, iv p1, iv p2, iv p3, iv p4, iv (2 : Int32), rv b17, iv (-1 : Int32), iv p3, iv (-1 : Int32), iv (0 : Int32)] [])) P := by
          refine ⟨_, rfl, fun P kP => ?_⟩
          show Gm p e below T24 m 98 #[iv p0, iv p1, iv p2, iv p3, iv p4, iv (2 : Int32), rv b17, iv (-1 : Int32), iv p3, iv (-1 : Int32), iv (0 : Int32)] [] _
          refine own_go (fun t₀ k₀ => XS.iload X24.here hx rfl (Jvm.hb hby at_98) rfl k₀) ?_
          show Gm p e below T24 m 100 #[iv p0, iv p1, iv p2, iv p3, iv p4, iv (2 : Int32), rv b17, iv (-1 : Int32), iv p3, iv (-1 : Int32), iv (0 : Int32)] [(.int (2 : Int32))] _
          refine own_go (fun t₀ k₀ => XS.ifNo X24.here hx rfl (Jvm.hb hby at_100) rfl (XT.i0_le_f (by decide)) k₀) ?_
          show Gm p e below T24 m 103 #[iv p0, iv p1, iv p2, iv p3, iv p4, iv (2 : Int32), rv b17, iv (-1 : Int32), iv p3, iv (-1 : Int32), iv (0 : Int32)] [] _
          refine own_go (fun t₀ k₀ => XS.iload X24.here hx rfl (Jvm.hb hby at_103) rfl k₀) ?_
          show Gm p e below T24 m 105 #[iv p0, iv p1, iv p2, iv p3, iv p4, iv (2 : Int32), rv b17, iv (-1 : Int32), iv p3, iv (-1 : Int32), iv (0 : Int32)] [(.int (-1 : Int32))] _
          refine own_go (fun t₀ k₀ => XS.ifNo X24.here hx rfl (Jvm.hb hby at_105) rfl (XT.i0_ge_f (by decide)) k₀) ?_
          show Gm p e below T24 m 108 #[iv p0, iv p1, iv p2, iv p3, iv p4, iv (2 : Int32), rv b17, iv (-1 : Int32), iv p3, iv (-1 : Int32), iv (0 : Int32)] [] _
          refine own_go (fun t₀ k₀ => XS.iconst X24.here hx rfl (Jvm.hb hby at_108) k₀) ?_
          show Gm p e below T24 m 109 #[iv p0, iv p1, iv p2, iv p3, iv p4, iv (2 : Int32), rv b17, iv (-1 : Int32), iv p3, iv (-1 : Int32), iv (0 : Int32)] [(.int (1 : Int32))] _
          refine own_go (fun t₀ k₀ => XS.istore X24.here hx rfl (Jvm.hb hby at_109) rfl (l' := #[iv p0, iv p1, iv p2, iv p3, iv p4, iv (2 : Int32), rv b17, iv (-1 : Int32), iv p3, iv (-1 : Int32), iv (1 : Int32)]) rfl k₀) ?_
          show Gm p e below T24 m 111 #[iv p0, iv p1, iv p2, iv p3, iv p4, iv (2 : Int32), rv b17, iv (-1 : Int32), iv p3, iv (-1 : Int32), iv (1 : Int32)] [] _
          refine own_go (fun t₀ k₀ => XS.iload X24.here hx rfl (Jvm.hb hby at_111) rfl k₀) ?_
          show Gm p e below T24 m 113 #[iv p0, iv p1, iv p2, iv p3, iv p4, iv (2 : Int32), rv b17, iv (-1 : Int32), iv p3, iv (-1 : Int32), iv (1 : Int32)] [(.int (2 : Int32))] _
          refine own_go (fun t₀ k₀ => XS.iconst X24.here hx rfl (Jvm.hb hby at_113) k₀) ?_
          show Gm p e below T24 m 114 #[iv p0, iv p1, iv p2, iv p3, iv p4, iv (2 : Int32), rv b17, iv (-1 : Int32), iv p3, iv (-1 : Int32), iv (1 : Int32)] [(.int (1 : Int32)), (.int (2 : Int32))] _
          refine own_go (fun t₀ k₀ => XS.icmpNo X24.here hx rfl (Jvm.hb hby at_114) rfl (XT.ii_le_f (by decide)) k₀) ?_
          show Gm p e below T24 m 117 #[iv p0, iv p1, iv p2, iv p3, iv p4, iv (2 : Int32), rv b17, iv (-1 : Int32), iv p3, iv (-1 : Int32), iv (1 : Int32)] [] _
          refine own_go (fun t₀ k₀ => XS.iload X24.here hx rfl (Jvm.hb hby at_117) rfl k₀) ?_
          show Gm p e below T24 m 119 #[iv p0, iv p1, iv p2, iv p3, iv p4, iv (2 : Int32), rv b17, iv (-1 : Int32), iv p3, iv (-1 : Int32), iv (1 : Int32)] [(.int p3)] _
          by_cases c26 : p3 < (0 : Int32)
          · have hfork := trivial
            refine own_go (fun t₀ k₀ => XS.ifNo X24.here hx rfl (Jvm.hb hby at_119) rfl (XT.i0_ge_f c26) k₀) ?_
            show Gm p e below T24 m 122 #[iv p0, iv p1, iv p2, iv p3, iv p4, iv (2 : Int32), rv b17, iv (-1 : Int32), iv p3, iv (-1 : Int32), iv (1 : Int32)] [] _
            refine own_go (fun t₀ k₀ => XS.iconst X24.here hx rfl (Jvm.hb hby at_122) k₀) ?_
            show Gm p e below T24 m 123 #[iv p0, iv p1, iv p2, iv p3, iv p4, iv (2 : Int32), rv b17, iv (-1 : Int32), iv p3, iv (-1 : Int32), iv (1 : Int32)] [(.int (1 : Int32))] _
            refine own_go (fun t₀ k₀ => XS.istore X24.here hx rfl (Jvm.hb hby at_123) rfl (l' := #[iv p0, iv p1, iv p2, iv p3, iv p4, iv (2 : Int32), rv b17, iv (-1 : Int32), iv p3, iv (-1 : Int32), iv (1 : Int32)]) rfl k₀) ?_
            show Gm p e below T24 m 125 #[iv p0, iv p1, iv p2, iv p3, iv p4, iv (2 : Int32), rv b17, iv (-1 : Int32), iv p3, iv (-1 : Int32), iv (1 : Int32)] [] _
            refine own_go (fun t₀ k₀ => XS.iload X24.here hx rfl (Jvm.hb hby at_125) rfl k₀) ?_
            show Gm p e below T24 m 127 #[iv p0, iv p1, iv p2, iv p3, iv p4, iv (2 : Int32), rv b17, iv (-1 : Int32), iv p3, iv (-1 : Int32), iv (1 : Int32)] [(.int (2 : Int32))] _
            refine own_go (fun t₀ k₀ => XS.iconst X24.here hx rfl (Jvm.hb hby at_127) k₀) ?_
            show Gm p e below T24 m 128 #[iv p0, iv p1, iv p2, iv p3, iv p4, iv (2 : Int32), rv b17, iv (-1 : Int32), iv p3, iv (-1 : Int32), iv (1 : Int32)] [(.int (2 : Int32)), (.int (2 : Int32))] _
            refine own_go (fun t₀ k₀ => XS.icmpYes X24.here hx rfl (pc0 := 128) (pc' := 139) rfl (Jvm.hb hby at_128) rfl (XT.ii_le_t (by decide)) (by decide) (by decide) k₀) ?_
            rw [if_pos c26] at kP
            exact kP
          · have hfork := trivial
            refine own_go (fun t₀ k₀ => XS.ifYes X24.here hx rfl (pc0 := 119) (pc' := 125) rfl (Jvm.hb hby at_119) rfl (XT.i0_ge_t c26) (by decide) (by decide) k₀) ?_
            show Gm p e below T24 m 125 #[iv p0, iv p1, iv p2, iv p3, iv p4, iv (2 : Int32), rv b17, iv (-1 : Int32), iv p3, iv (-1 : Int32), iv (1 : Int32)] [] _
            refine own_go (fun t₀ k₀ => XS.iload X24.here hx rfl (Jvm.hb hby at_125) rfl k₀) ?_
            show Gm p e below T24 m 127 #[iv p0, iv p1, iv p2, iv p3, iv p4, iv (2 : Int32), rv b17, iv (-1 : Int32), iv p3, iv (-1 : Int32), iv (1 : Int32)] [(.int (2 : Int32))] _
            refine own_go (fun t₀ k₀ => XS.iconst X24.here hx rfl (Jvm.hb hby at_127) k₀) ?_
            show Gm p e below T24 m 128 #[iv p0, iv p1, iv p2, iv p3, iv p4, iv (2 : Int32), rv b17, iv (-1 : Int32), iv p3, iv (-1 : Int32), iv (1 : Int32)] [(.int (2 : Int32)), (.int (2 : Int32))] _
            refine own_go (fun t₀ k₀ => XS.icmpYes X24.here hx rfl (pc0 := 128) (pc' := 139) rfl (Jvm.hb hby at_128) rfl (XT.ii_le_t (by decide)) (by decide) (by decide) k₀) ?_
            rw [if_neg c26] at kP
            exact kP
        refine k25 _ ?_
        show Gm p e below T24 m 139 #[iv p0, iv p1, iv p2, iv p3, iv p4, iv (2 : Int32), rv b17, iv (-1 : Int32), iv p3, iv (-1 : Int32), iv z25] [] _
        refine own_go (fun t₀ k₀ => XS.aload X24.here hx rfl (Jvm.hb hby at_139) rfl rfl k₀) ?_
        show Gm p e below T24 m 141 #[iv p0, iv p1, iv p2, iv p3, iv p4, iv (2 : Int32), rv b17, iv (-1 : Int32), iv p3, iv (-1 : Int32), iv z25] [(.ref b17)] _
        have f27 := (Fld.other W24 Fc_exit18 (Or.inl ne_b17_exit18))
        have f29 := (Ec18.wr W24)
        obtain ⟨cq28, kq28, q28a, q28b, q28c⟩ := isOf hZ e24 f29
        obtain ⟨_, _, ⟨T28, L28, k28, n28⟩, -, X28, ⟨Lc28, hQ28, l28, y28, z28⟩, st28⟩ := X24.virtualBack hx (y := (⟨"com/example/throughfare/throughfare/simulation/Walkers", "anyoneInside", "()Z"⟩ : MethodName)) (z := (⟨"com/example/throughfare/throughfare/simulation/Walkers", "anyoneInside", "()Z"⟩ : MethodName)) hown (mvT hZ (hw _ (List.mem_of_getElem? (i := 42) rfl))) (mvT hZ (hw _ (List.mem_of_getElem? (i := 43) rfl))) (notFace_of_selects (args := #[]) (mvT hZ (hw _ (List.mem_of_getElem? (i := 45) rfl)))) (mvT hZ (hw _ (List.mem_of_getElem? (i := 45) rfl))) (mvT hZ (hw _ (List.mem_of_getElem? (i := 44) rfl))) (by decide) (backOf (W := 0) (rm5_2 l Z a0 hw [] b17 exit18 (fun i => if i = 1 then (.int p3) else (fun _ => (.int (-1 : Int32))) i) (-1 : Int32) p3 h24 n0 Z24 f27 A24 rfl rfl) hZ (hw _ (List.mem_of_getElem? (i := 46) rfl)) (hw _ (List.mem_of_getElem? (i := 2) rfl)) (by decide) (by decide)) q28a q28c (g := (mkF m 141 #[iv p0, iv p1, iv p2, iv p3, iv p4, iv (2 : Int32), rv b17, iv (-1 : Int32), iv p3, iv (-1 : Int32), iv z25] [(.ref b17)])) rfl (by rw [hml]; rfl) (Steps.refl _) (argsL := []) (rest := []) (lenOf own_pd3 rfl) rfl (by show 2 * 0 + _ ≤ _; exact Nat.le_of_eq rfl) (Jvm.hb hby at_141) (fun _ _ => ⟨rfl, e24, (by decide : 12 + 0 ≤ _), (by decide : 33 + 0 ≤ _)⟩)
        dsimp only [Pt.U, Pt.locs, Pt.cells, Pt.slots] at X28 l28 y28 z28 st28 hQ28
        subst l28 y28 z28
        obtain ⟨rfl, Nq28, eq28⟩ := hQ28
        have N28 := Fr.app N24 Nq28
        have e28 : T28.heap = h24 := eq28
        refine own_go (fun t k => st28.trans k) ?_
        show Gm p e below T28 m 144 #[iv p0, iv p1, iv p2, iv p3, iv p4, iv (2 : Int32), rv b17, iv (-1 : Int32), iv p3, iv (-1 : Int32), iv z25] [(.int (fA2 (-1 : Int32) p3))] _
        refine own_go (fun t₀ k₀ => XS.iload X28.here hx rfl (Jvm.hb hby at_144) rfl k₀) ?_
        show Gm p e below T28 m 146 #[iv p0, iv p1, iv p2, iv p3, iv p4, iv (2 : Int32), rv b17, iv (-1 : Int32), iv p3, iv (-1 : Int32), iv z25] [(.int z25), (.int (fA2 (-1 : Int32) p3))] _
        refine own_go (fun t₀ k₀ => XS.icmpNo X28.here hx rfl (Jvm.hb hby at_146) rfl (XT.ii_ne_f (by rw [hz25]; unfold fA2; first | rfl | (simp only [(by decide : ((-1 : Int32) < 0) = True), if_true]; done) | (simp only [(by decide : ((-1 : Int32) < 0) = True), if_true]; (repeat' split) <;> rfl) | ((repeat' split) <;> first | rfl | contradiction | (simp_all; done)))) k₀) ?_
        show Gm p e below T28 m 149 #[iv p0, iv p1, iv p2, iv p3, iv p4, iv (2 : Int32), rv b17, iv (-1 : Int32), iv p3, iv (-1 : Int32), iv z25] [] _
        refine own_go (fun t₀ k₀ => XS.iconst X28.here hx rfl (Jvm.hb hby at_149) k₀) ?_
        show Gm p e below T28 m 150 #[iv p0, iv p1, iv p2, iv p3, iv p4, iv (2 : Int32), rv b17, iv (-1 : Int32), iv p3, iv (-1 : Int32), iv z25] [(.int (1 : Int32))] _
        refine own_go (fun t₀ k₀ => XS.goto X28.here hx rfl (pc0 := 150) (pc' := 154) rfl (Jvm.hb hby at_150) (by decide) (by decide) k₀) ?_
        show Gm p e below T28 m 154 #[iv p0, iv p1, iv p2, iv p3, iv p4, iv (2 : Int32), rv b17, iv (-1 : Int32), iv p3, iv (-1 : Int32), iv z25] [(.int (1 : Int32))] _
        exact own_retI X28 hx hlk (t := .boolean) Bd.returns rfl (by simp) (Jvm.hb hby at_154) e28 ⟨rfl, N28⟩ (by decide) (by decide)
    · have hfork := trivial
      refine own_go (fun t₀ k₀ => XS.ifNo X18.here hx rfl (Jvm.hb hby at_33) rfl (XT.i0_eq_f c19) k₀) ?_
      show Gm p e below T18 m 36 #[iv p0, iv p1, iv p2, iv p3, iv p4, iv (2 : Int32), rv b17, iv (-1 : Int32), iv (-1 : Int32), iv (-1 : Int32), .unset] [] _
      refine own_go (fun t₀ k₀ => XS.aload X18.here hx rfl (Jvm.hb hby at_36) rfl rfl k₀) ?_
      show Gm p e below T18 m 38 #[iv p0, iv p1, iv p2, iv p3, iv p4, iv (2 : Int32), rv b17, iv (-1 : Int32), iv (-1 : Int32), iv (-1 : Int32), .unset] [(.ref b17)] _
      obtain ⟨T30, X30, e30, st30⟩ := getF X18 hx hZ hown (host := "") (Or.inl (hw _ (List.mem_of_getElem? (i := 47) rfl))) Via.refl rfl Fc_exit18 (g := (mkF m 38 #[iv p0, iv p1, iv p2, iv p3, iv p4, iv (2 : Int32), rv b17, iv (-1 : Int32), iv (-1 : Int32), iv (-1 : Int32), .unset] [(.ref b17)])) rfl rfl (Jvm.hb hby at_38)
      refine own_go st30 ?_
      show Gm p e below T30 m 41 #[iv p0, iv p1, iv p2, iv p3, iv p4, iv (2 : Int32), rv b17, iv (-1 : Int32), iv (-1 : Int32), iv (-1 : Int32), .unset] [(.ref exit18)] _
      refine own_go (fun t₀ k₀ => XS.iconst X30.here hx rfl (Jvm.hb hby at_41) k₀) ?_
      show Gm p e below T30 m 42 #[iv p0, iv p1, iv p2, iv p3, iv p4, iv (2 : Int32), rv b17, iv (-1 : Int32), iv (-1 : Int32), iv (-1 : Int32), .unset] [(.int (0 : Int32)), (.ref exit18)] _
      refine own_go (fun t₀ k₀ => XS.iloadN X30.here hx rfl (Jvm.hb hby at_42) rfl k₀) ?_
      show Gm p e below T30 m 43 #[iv p0, iv p1, iv p2, iv p3, iv p4, iv (2 : Int32), rv b17, iv (-1 : Int32), iv (-1 : Int32), iv (-1 : Int32), .unset] [(.int p2), (.int (0 : Int32)), (.ref exit18)] _
      obtain ⟨T31, h31, X31, e31, W31, A31, st31⟩ := own_stI X30 hx hZ e30 Ac_exit18 (j := (0 : Int32)) (k := 0) (by decide) rfl (by decide) (g := (mkF m 43 #[iv p0, iv p1, iv p2, iv p3, iv p4, iv (2 : Int32), rv b17, iv (-1 : Int32), iv (-1 : Int32), iv (-1 : Int32), .unset] [(.int p2), (.int (0 : Int32)), (.ref exit18)])) rfl rfl (Jvm.hb hby at_43)
      have N31 := Fr.snoc X31 N18 g_exit18
      have Z31 : n0 ≤ h31.size := W31.size ▸ Z18
      refine own_go st31 ?_
      show Gm p e below T31 m 44 #[iv p0, iv p1, iv p2, iv p3, iv p4, iv (2 : Int32), rv b17, iv (-1 : Int32), iv (-1 : Int32), iv (-1 : Int32), .unset] [] _
      refine own_go (fun t₀ k₀ => XS.iloadN X31.here hx rfl (Jvm.hb hby at_44) rfl k₀) ?_
      show Gm p e below T31 m 45 #[iv p0, iv p1, iv p2, iv p3, iv p4, iv (2 : Int32), rv b17, iv (-1 : Int32), iv (-1 : Int32), iv (-1 : Int32), .unset] [(.int p2)] _
      refine own_go (fun t₀ k₀ => XS.istore X31.here hx rfl (Jvm.hb hby at_45) rfl (l' := #[iv p0, iv p1, iv p2, iv p3, iv p4, iv (2 : Int32), rv b17, iv p2, iv (-1 : Int32), iv (-1 : Int32), .unset]) rfl k₀) ?_
      show Gm p e below T31 m 47 #[iv p0, iv p1, iv p2, iv p3, iv p4, iv (2 : Int32), rv b17, iv p2, iv (-1 : Int32), iv (-1 : Int32), .unset] [] _
      refine own_go (fun t₀ k₀ => XS.iload X31.here hx rfl (Jvm.hb hby at_47) rfl k₀) ?_
      show Gm p e below T31 m 49 #[iv p0, iv p1, iv p2, iv p3, iv p4, iv (2 : Int32), rv b17, iv p2, iv (-1 : Int32), iv (-1 : Int32), .unset] [(.int (2 : Int32))] _
      refine own_go (fun t₀ k₀ => XS.iconst X31.here hx rfl (Jvm.hb hby at_49) k₀) ?_
      show Gm p e below T31 m 50 #[iv p0, iv p1, iv p2, iv p3, iv p4, iv (2 : Int32), rv b17, iv p2, iv (-1 : Int32), iv (-1 : Int32), .unset] [(.int (1 : Int32)), (.int (2 : Int32))] _
      refine own_go (fun t₀ k₀ => XS.icmpNo X31.here hx rfl (Jvm.hb hby at_50) rfl (XT.ii_le_f (by decide)) k₀) ?_
      show Gm p e below T31 m 53 #[iv p0, iv p1, iv p2, iv p3, iv p4, iv (2 : Int32), rv b17, iv p2, iv (-1 : Int32), iv (-1 : Int32), .unset] [] _
      refine own_go (fun t₀ k₀ => XS.iloadN X31.here hx rfl (Jvm.hb hby at_53) rfl k₀) ?_
      show Gm p e below T31 m 54 #[iv p0, iv p1, iv p2, iv p3, iv p4, iv (2 : Int32), rv b17, iv p2, iv (-1 : Int32), iv (-1 : Int32), .unset] [(.int p1)] _
      refine own_go (fun t₀ k₀ => XS.iconst X31.here hx rfl (Jvm.hb hby at_54) k₀) ?_
      show Gm p e below T31 m 55 #[iv p0, iv p1, iv p2, iv p3, iv p4, iv (2 : Int32), rv b17, iv p2, iv (-1 : Int32), iv (-1 : Int32), .unset] [(.int (2 : Int32)), (.int p1)] _
      refine own_go (fun t₀ k₀ => XS.iand X31.here hx rfl (Jvm.hb hby at_55) rfl k₀) ?_
      show Gm p e below T31 m 56 #[iv p0, iv p1, iv p2, iv p3, iv p4, iv (2 : Int32), rv b17, iv p2, iv (-1 : Int32), iv (-1 : Int32), .unset] [(.int (p1 &&& (2 : Int32)))] _
      by_cases c32 : (p1 &&& (2 : Int32)) = (0 : Int32)
      · have hfork := trivial
        refine own_go (fun t₀ k₀ => XS.ifYes X31.here hx rfl (pc0 := 56) (pc' := 70) rfl (Jvm.hb hby at_56) rfl (XT.i0_eq_t c32) (by decide) (by decide) k₀) ?_
        show Gm p e below T31 m 70 #[iv p0, iv p1, iv p2, iv p3, iv p4, iv (2 : Int32), rv b17, iv p2, iv (-1 : Int32), iv (-1 : Int32), .unset] [] _
        refine own_go (fun t₀ k₀ => XS.iload X31.here hx rfl (Jvm.hb hby at_70) rfl k₀) ?_
        show Gm p e below T31 m 72 #[iv p0, iv p1, iv p2, iv p3, iv p4, iv (2 : Int32), rv b17, iv p2, iv (-1 : Int32), iv (-1 : Int32), .unset] [(.int (2 : Int32))] _
        refine own_go (fun t₀ k₀ => XS.iconst X31.here hx rfl (Jvm.hb hby at_72) k₀) ?_
        show Gm p e below T31 m 73 #[iv p0, iv p1, iv p2, iv p3, iv p4, iv (2 : Int32), rv b17, iv p2, iv (-1 : Int32), iv (-1 : Int32), .unset] [(.int (2 : Int32)), (.int (2 : Int32))] _
        refine own_go (fun t₀ k₀ => XS.icmpYes X31.here hx rfl (pc0 := 73) (pc' := 95) rfl (Jvm.hb hby at_73) rfl (XT.ii_le_t (by decide)) (by decide) (by decide) k₀) ?_
        show Gm p e below T31 m 95 #[iv p0, iv p1, iv p2, iv p3, iv p4, iv (2 : Int32), rv b17, iv p2, iv (-1 : Int32), iv (-1 : Int32), .unset] [] _
        refine own_go (fun t₀ k₀ => XS.iconst X31.here hx rfl (Jvm.hb hby at_95) k₀) ?_
        show Gm p e below T31 m 96 #[iv p0, iv p1, iv p2, iv p3, iv p4, iv (2 : Int32), rv b17, iv p2, iv (-1 : Int32), iv (-1 : Int32), .unset] [(.int (0 : Int32))] _
        refine own_go (fun t₀ k₀ => XS.istore X31.here hx rfl (Jvm.hb hby at_96) rfl (l' := #[iv p0, iv p1, iv p2, iv p3, iv p4, iv (2 : Int32), rv b17, iv p2, iv (-1 : Int32), iv (-1 : Int32), iv (0 : Int32)]) rfl k₀) ?_
        obtain ⟨z33, hz33, k33⟩ : ∃ z : Int32, z = (if p2 < (0 : Int32) then (1 : Int32) else ((1 : Int32))) ∧ ∀ P, Go p e below (T31.setTop (mkF m 139 #[iv p0, iv p1, iv p2, iv p3, iv p4, iv (2 : Int32), rv b17, iv p2, iv (-1 : Int32), iv (-1 : Int32), iv z] [])) P → Go p e below (T31.setTop (mkF m 98 #[iv p0, iv p1, iv p2, iv p3, iv p4, iv (2 : Int32), rv b17, iv p2, iv (-1 : Int32), iv (-1 : Int32), iv (0 : Int32)] [])) P := by
          refine ⟨_, rfl, fun P kP => ?_⟩
          show Gm p e below T31 m 98 #[iv p0, iv p1, iv p2, iv p3, iv p4, iv (2 : Int32), rv b17, iv p2, iv (-1 : Int32), iv (-1 : Int32), iv (0 : Int32)] [] _
          refine own_go (fun t₀ k₀ => XS.iload X31.here hx rfl (Jvm.hb hby at_98) rfl k₀) ?_
          show Gm p e below T31 m 100 #[iv p0, iv p1, iv p2, iv p3, iv p4, iv (2 : Int32), rv b17, iv p2, iv (-1 : Int32), iv (-1 : Int32), iv (0 : Int32)] [(.int (2 : Int32))] _
          refine own_go (fun t₀ k₀ => XS.ifNo X31.here hx rfl (Jvm.hb hby at_100) rfl (XT.i0_le_f (by decide)) k₀) ?_
          show Gm p e below T31 m 103 #[iv p0, iv p1, iv p2, iv p3, iv p4, iv (2 : Int32), rv b17, iv p2, iv (-1 : Int32), iv (-1 : Int32), iv (0 : Int32)] [] _
          refine own_go (fun t₀ k₀ => XS.iload X31.here hx rfl (Jvm.hb hby at_103) rfl k₀) ?_
          show Gm p e below T31 m 105 #[iv p0, iv p1, iv p2, iv p3, iv p4, iv (2 : Int32), rv b17, iv p2, iv (-1 : Int32), iv (-1 : Int32), iv (0 : Int32)] [(.int p2)] _
          by_cases c34 : p2 < (0 : Int32)
          · have hfork := trivial
            refine own_go (fun t₀ k₀ => XS.ifNo X31.here hx rfl (Jvm.hb hby at_105) rfl (XT.i0_ge_f c34) k₀) ?_
            show Gm p e below T31 m 108 #[iv p0, iv p1, iv p2, iv p3, iv p4, iv (2 : Int32), rv b17, iv p2, iv (-1 : Int32), iv (-1 : Int32), iv (0 : Int32)] [] _
            refine own_go (fun t₀ k₀ => XS.iconst X31.here hx rfl (Jvm.hb hby at_108) k₀) ?_
            show Gm p e below T31 m 109 #[iv p0, iv p1, iv p2, iv p3, iv p4, iv (2 : Int32), rv b17, iv p2, iv (-1 : Int32), iv (-1 : Int32), iv (0 : Int32)] [(.int (1 : Int32))] _
            refine own_go (fun t₀ k₀ => XS.istore X31.here hx rfl (Jvm.hb hby at_109) rfl (l' := #[iv p0, iv p1, iv p2, iv p3, iv p4, iv (2 : Int32), rv b17, iv p2, iv (-1 : Int32), iv (-1 : Int32), iv (1 : Int32)]) rfl k₀) ?_
            show Gm p e below T31 m 111 #[iv p0, iv p1, iv p2, iv p3, iv p4, iv (2 : Int32), rv b17, iv p2, iv (-1 : Int32), iv (-1 : Int32), iv (1 : Int32)] [] _
            refine own_go (fun t₀ k₀ => XS.iload X31.here hx rfl (Jvm.hb hby at_111) rfl k₀) ?_
            show Gm p e below T31 m 113 #[iv p0, iv p1, iv p2, iv p3, iv p4, iv (2 : Int32), rv b17, iv p2, iv (-1 : Int32), iv (-1 : Int32), iv (1 : Int32)] [(.int (2 : Int32))] _
            refine own_go (fun t₀ k₀ => XS.iconst X31.here hx rfl (Jvm.hb hby at_113) k₀) ?_
            show Gm p e below T31 m 114 #[iv p0, iv p1, iv p2, iv p3, iv p4, iv (2 : Int32), rv b17, iv p2, iv (-1 : Int32), iv (-1 : Int32), iv (1 : Int32)] [(.int (1 : Int32)), (.int (2 : Int32))] _
            refine own_go (fun t₀ k₀ => XS.icmpNo X31.here hx rfl (Jvm.hb hby at_114) rfl (XT.ii_le_f (by decide)) k₀) ?_
            show Gm p e below T31 m 117 #[iv p0, iv p1, iv p2, iv p3, iv p4, iv (2 : Int32), rv b17, iv p2, iv (-1 : Int32), iv (-1 : Int32), iv (1 : Int32)] [] _
            refine own_go (fun t₀ k₀ => XS.iload X31.here hx rfl (Jvm.hb hby at_117) rfl k₀) ?_
            show Gm p e below T31 m 119 #[iv p0, iv p1, iv p2, iv p3, iv p4, iv (2 : Int32), rv b17, iv p2, iv (-1 : Int32), iv (-1 : Int32), iv (1 : Int32)] [(.int (-1 : Int32))] _
            refine own_go (fun t₀ k₀ => XS.ifNo X31.here hx rfl (Jvm.hb hby at_119) rfl (XT.i0_ge_f (by decide)) k₀) ?_
            show Gm p e below T31 m 122 #[iv p0, iv p1, iv p2, iv p3, iv p4, iv (2 : Int32), rv b17, iv p2, iv (-1 : Int32), iv (-1 : Int32), iv (1 : Int32)] [] _
            refine own_go (fun t₀ k₀ => XS.iconst X31.here hx rfl (Jvm.hb hby at_122) k₀) ?_
            show Gm p e below T31 m 123 #[iv p0, iv p1, iv p2, iv p3, iv p4, iv (2 : Int32), rv b17, iv p2, iv (-1 : Int32), iv (-1 : Int32), iv (1 : Int32)] [(.int (1 : Int32))] _
            refine own_go (fun t₀ k₀ => XS.istore X31.here hx rfl (Jvm.hb hby at_123) rfl (l' := #[iv p0, iv p1, iv p2, iv p3, iv p4, iv (2 : Int32), rv b17, iv p2, iv (-1 : Int32), iv (-1 : Int32), iv (1 : Int32)]) rfl k₀) ?_
            show Gm p e below T31 m 125 #[iv p0, iv p1, iv p2, iv p3, iv p4, iv (2 : Int32), rv b17, iv p2, iv (-1 : Int32), iv (-1 : Int32), iv (1 : Int32)] [] _
            refine own_go (fun t₀ k₀ => XS.iload X31.here hx rfl (Jvm.hb hby at_125) rfl k₀) ?_
            show Gm p e below T31 m 127 #[iv p0, iv p1, iv p2, iv p3, iv p4, iv (2 : Int32), rv b17, iv p2, iv (-1 : Int32), iv (-1 : Int32), iv (1 : Int32)] [(.int (2 : Int32))] _
            refine own_go (fun t₀ k₀ => XS.iconst X31.here hx rfl (Jvm.hb hby at_127) k₀) ?_
            show Gm p e below T31 m 128 #[iv p0, iv p1, iv p2, iv p3, iv p4, iv (2 : Int32), rv b17, iv p2, iv (-1 : Int32), iv (-1 : Int32), iv (1 : Int32)] [(.int (2 : Int32)), (.int (2 : Int32))] _
            refine own_go (fun t₀ k₀ => XS.icmpYes X31.here hx rfl (pc0 := 128) (pc' := 139) rfl (Jvm.hb hby at_128) rfl (XT.ii_le_t (by decide)) (by decide) (by decide) k₀) ?_
            rw [if_pos c34] at kP
            exact kP
          · have hfork := trivial
            refine own_go (fun t₀ k₀ => XS.ifYes X31.here hx rfl (pc0 := 105) (pc' := 111) rfl (Jvm.hb hby at_105) rfl (XT.i0_ge_t c34) (by decide) (by decide) k₀) ?_
            show Gm p e below T31 m 111 #[iv p0, iv p1, iv p2, iv p3, iv p4, iv (2 : Int32), rv b17, iv p2, iv (-1 : Int32), iv (-1 : Int32), iv (0 : Int32)] [] _
            refine own_go (fun t₀ k₀ => XS.iload X31.here hx rfl (Jvm.hb hby at_111) rfl k₀) ?_
            show Gm p e below T31 m 113 #[iv p0, iv p1, iv p2, iv p3, iv p4, iv (2 : Int32), rv b17, iv p2, iv (-1 : Int32), iv (-1 : Int32), iv (0 : Int32)] [(.int (2 : Int32))] _
            refine own_go (fun t₀ k₀ => XS.iconst X31.here hx rfl (Jvm.hb hby at_113) k₀) ?_
            show Gm p e below T31 m 114 #[iv p0, iv p1, iv p2, iv p3, iv p4, iv (2 : Int32), rv b17, iv p2, iv (-1 : Int32), iv (-1 : Int32), iv (0 : Int32)] [(.int (1 : Int32)), (.int (2 : Int32))] _
            refine own_go (fun t₀ k₀ => XS.icmpNo X31.here hx rfl (Jvm.hb hby at_114) rfl (XT.ii_le_f (by decide)) k₀) ?_
            show Gm p e below T31 m 117 #[iv p0, iv p1, iv p2, iv p3, iv p4, iv (2 : Int32), rv b17, iv p2, iv (-1 : Int32), iv (-1 : Int32), iv (0 : Int32)] [] _
            refine own_go (fun t₀ k₀ => XS.iload X31.here hx rfl (Jvm.hb hby at_117) rfl k₀) ?_
            show Gm p e below T31 m 119 #[iv p0, iv p1, iv p2, iv p3, iv p4, iv (2 : Int32), rv b17, iv p2, iv (-1 : Int32), iv (-1 : Int32), iv (0 : Int32)] [(.int (-1 : Int32))] _
            refine own_go (fun t₀ k₀ => XS.ifNo X31.here hx rfl (Jvm.hb hby at_119) rfl (XT.i0_ge_f (by decide)) k₀) ?_
            show Gm p e below T31 m 122 #[iv p0, iv p1, iv p2, iv p3, iv p4, iv (2 : Int32), rv b17, iv p2, iv (-1 : Int32), iv (-1 : Int32), iv (0 : Int32)] [] _
            refine own_go (fun t₀ k₀ => XS.iconst X31.here hx rfl (Jvm.hb hby at_122) k₀) ?_
            show Gm p e below T31 m 123 #[iv p0, iv p1, iv p2, iv p3, iv p4, iv (2 : Int32), rv b17, iv p2, iv (-1 : Int32), iv (-1 : Int32), iv (0 : Int32)] [(.int (1 : Int32))] _
            refine own_go (fun t₀ k₀ => XS.istore X31.here hx rfl (Jvm.hb hby at_123) rfl (l' := #[iv p0, iv p1, iv p2, iv p3, iv p4, iv (2 : Int32), rv b17, iv p2, iv (-1 : Int32), iv (-1 : Int32), iv (1 : Int32)]) rfl k₀) ?_
            show Gm p e below T31 m 125 #[iv p0, iv p1, iv p2, iv p3, iv p4, iv (2 : Int32), rv b17, iv p2, iv (-1 : Int32), iv (-1 : Int32), iv (1 : Int32)] [] _
            refine own_go (fun t₀ k₀ => XS.iload X31.here hx rfl (Jvm.hb hby at_125) rfl k₀) ?_
            show Gm p e below T31 m 127 #[iv p0, iv p1, iv p2, iv p3, iv p4, iv (2 : Int32), rv b17, iv p2, iv (-1 : Int32), iv (-1 : Int32), iv (1 : Int32)] [(.int (2 : Int32))] _
            refine own_go (fun t₀ k₀ => XS.iconst X31.here hx rfl (Jvm.hb hby at_127) k₀) ?_
            show Gm p e below T31 m 128 #[iv p0, iv p1, iv p2, iv p3, iv p4, iv (2 : Int32), rv b17, iv p2, iv (-1 : Int32), iv (-1 : Int32), iv (1 : Int32)] [(.int (2 : Int32)), (.int (2 : Int32))] _
            refine own_go (fun t₀ k₀ => XS.icmpYes X31.here hx rfl (pc0 := 128) (pc' := 139) rfl (Jvm.hb hby at_128) rfl (XT.ii_le_t (by decide)) (by decide) (by decide) k₀) ?_
            rw [if_neg c34] at kP
            exact kP
        refine k33 _ ?_
        show Gm p e below T31 m 139 #[iv p0, iv p1, iv p2, iv p3, iv p4, iv (2 : Int32), rv b17, iv p2, iv (-1 : Int32), iv (-1 : Int32), iv z33] [] _
        refine own_go (fun t₀ k₀ => XS.aload X31.here hx rfl (Jvm.hb hby at_139) rfl rfl k₀) ?_
        show Gm p e below T31 m 141 #[iv p0, iv p1, iv p2, iv p3, iv p4, iv (2 : Int32), rv b17, iv p2, iv (-1 : Int32), iv (-1 : Int32), iv z33] [(.ref b17)] _
        have f35 := (Fld.other W31 Fc_exit18 (Or.inl ne_b17_exit18))
        have f37 := (Ec18.wr W31)
        obtain ⟨cq36, kq36, q36a, q36b, q36c⟩ := isOf hZ e31 f37
        obtain ⟨_, _, ⟨T36, L36, k36, n36⟩, -, X36, ⟨Lc36, hQ36, l36, y36, z36⟩, st36⟩ := X31.virtualBack hx (y := (⟨"com/example/throughfare/throughfare/simulation/Walkers", "anyoneInside", "()Z"⟩ : MethodName)) (z := (⟨"com/example/throughfare/throughfare/simulation/Walkers", "anyoneInside", "()Z"⟩ : MethodName)) hown (mvT hZ (hw _ (List.mem_of_getElem? (i := 42) rfl))) (mvT hZ (hw _ (List.mem_of_getElem? (i := 43) rfl))) (notFace_of_selects (args := #[]) (mvT hZ (hw _ (List.mem_of_getElem? (i := 45) rfl)))) (mvT hZ (hw _ (List.mem_of_getElem? (i := 45) rfl))) (mvT hZ (hw _ (List.mem_of_getElem? (i := 44) rfl))) (by decide) (backOf (W := 0) (rm5_2 l Z a0 hw [] b17 exit18 (fun i => if i = 0 then (.int p2) else (fun _ => (.int (-1 : Int32))) i) p2 (-1 : Int32) h31 n0 Z31 f35 A31 rfl rfl) hZ (hw _ (List.mem_of_getElem? (i := 46) rfl)) (hw _ (List.mem_of_getElem? (i := 2) rfl)) (by decide) (by decide)) q36a q36c (g := (mkF m 141 #[iv p0, iv p1, iv p2, iv p3, iv p4, iv (2 : Int32), rv b17, iv p2, iv (-1 : Int32), iv (-1 : Int32), iv z33] [(.ref b17)])) rfl (by rw [hml]; rfl) (Steps.refl _) (argsL := []) (rest := []) (lenOf own_pd3 rfl) rfl (by show 2 * 0 + _ ≤ _; exact Nat.le_of_eq rfl) (Jvm.hb hby at_141) (fun _ _ => ⟨rfl, e31, (by decide : 12 + 0 ≤ _), (by decide : 33 + 0 ≤ _)⟩)
        dsimp only [Pt.U, Pt.locs, Pt.cells, Pt.slots] at X36 l36 y36 z36 st36 hQ36
        subst l36 y36 z36
        obtain ⟨rfl, Nq36, eq36⟩ := hQ36
        have N36 := Fr.app N31 Nq36
        have e36 : T36.heap = h31 := eq36
        refine own_go (fun t k => st36.trans k) ?_
        show Gm p e below T36 m 144 #[iv p0, iv p1, iv p2, iv p3, iv p4, iv (2 : Int32), rv b17, iv p2, iv (-1 : Int32), iv (-1 : Int32), iv z33] [(.int (fA2 p2 (-1 : Int32)))] _
        refine own_go (fun t₀ k₀ => XS.iload X36.here hx rfl (Jvm.hb hby at_144) rfl k₀) ?_
        show Gm p e below T36 m 146 #[iv p0, iv p1, iv p2, iv p3, iv p4, iv (2 : Int32), rv b17, iv p2, iv (-1 : Int32), iv (-1 : Int32), iv z33] [(.int z33), (.int (fA2 p2 (-1 : Int32)))] _
        refine own_go (fun t₀ k₀ => XS.icmpNo X36.here hx rfl (Jvm.hb hby at_146) rfl (XT.ii_ne_f (by rw [hz33]; unfold fA2; first | rfl | (simp only [(by decide : ((-1 : Int32) < 0) = True), if_true]; done) | (simp only [(by decide : ((-1 : Int32) < 0) = True), if_true]; (repeat' split) <;> rfl) | ((repeat' split) <;> first | rfl | contradiction | (simp_all; done)))) k₀) ?_
        show Gm p e below T36 m 149 #[iv p0, iv p1, iv p2, iv p3, iv p4, iv (2 : Int32), rv b17, iv p2, iv (-1 : Int32), iv (-1 : Int32), iv z33] [] _
        refine own_go (fun t₀ k₀ => XS.iconst X36.here hx rfl (Jvm.hb hby at_149) k₀) ?_
        show Gm p e below T36 m 150 #[iv p0, iv p1, iv p2, iv p3, iv p4, iv (2 : Int32), rv b17, iv p2, iv (-1 : Int32), iv (-1 : Int32), iv z33] [(.int (1 : Int32))] _
        refine own_go (fun t₀ k₀ => XS.goto X36.here hx rfl (pc0 := 150) (pc' := 154) rfl (Jvm.hb hby at_150) (by decide) (by decide) k₀) ?_
        show Gm p e below T36 m 154 #[iv p0, iv p1, iv p2, iv p3, iv p4, iv (2 : Int32), rv b17, iv p2, iv (-1 : Int32), iv (-1 : Int32), iv z33] [(.int (1 : Int32))] _
        exact own_retI X36 hx hlk (t := .boolean) Bd.returns rfl (by simp) (Jvm.hb hby at_154) e36 ⟨rfl, N36⟩ (by decide) (by decide)
      · have hfork := trivial
        refine own_go (fun t₀ k₀ => XS.ifNo X31.here hx rfl (Jvm.hb hby at_56) rfl (XT.i0_eq_f c32) k₀) ?_
        show Gm p e below T31 m 59 #[iv p0, iv p1, iv p2, iv p3, iv p4, iv (2 : Int32), rv b17, iv p2, iv (-1 : Int32), iv (-1 : Int32), .unset] [] _
        refine own_go (fun t₀ k₀ => XS.aload X31.here hx rfl (Jvm.hb hby at_59) rfl rfl k₀) ?_
        show Gm p e below T31 m 61 #[iv p0, iv p1, iv p2, iv p3, iv p4, iv (2 : Int32), rv b17, iv p2, iv (-1 : Int32), iv (-1 : Int32), .unset] [(.ref b17)] _
        have f38 := (Fld.other W31 Fc_exit18 (Or.inl ne_b17_exit18))
        obtain ⟨T39, X39, e39, st39⟩ := getF X31 hx hZ hown (host := "") (Or.inl (hw _ (List.mem_of_getElem? (i := 47) rfl))) Via.refl e31 f38 (g := (mkF m 61 #[iv p0, iv p1, iv p2, iv p3, iv p4, iv (2 : Int32), rv b17, iv p2, iv (-1 : Int32), iv (-1 : Int32), .unset] [(.ref b17)])) rfl rfl (Jvm.hb hby at_61)
        refine own_go st39 ?_
        show Gm p e below T39 m 64 #[iv p0, iv p1, iv p2, iv p3, iv p4, iv (2 : Int32), rv b17, iv p2, iv (-1 : Int32), iv (-1 : Int32), .unset] [(.ref exit18)] _
        refine own_go (fun t₀ k₀ => XS.iconst X39.here hx rfl (Jvm.hb hby at_64) k₀) ?_
        show Gm p e below T39 m 65 #[iv p0, iv p1, iv p2, iv p3, iv p4, iv (2 : Int32), rv b17, iv p2, iv (-1 : Int32), iv (-1 : Int32), .unset] [(.int (1 : Int32)), (.ref exit18)] _
        refine own_go (fun t₀ k₀ => XS.iloadN X39.here hx rfl (Jvm.hb hby at_65) rfl k₀) ?_
        show Gm p e below T39 m 66 #[iv p0, iv p1, iv p2, iv p3, iv p4, iv (2 : Int32), rv b17, iv p2, iv (-1 : Int32), iv (-1 : Int32), .unset] [(.int p3), (.int (1 : Int32)), (.ref exit18)] _
        obtain ⟨T40, h40, X40, e40, W40, A40, st40⟩ := own_stI X39 hx hZ e39 A31 (j := (1 : Int32)) (k := 1) (by decide) rfl (by decide) (g := (mkF m 66 #[iv p0, iv p1, iv p2, iv p3, iv p4, iv (2 : Int32), rv b17, iv p2, iv (-1 : Int32), iv (-1 : Int32), .unset] [(.int p3), (.int (1 : Int32)), (.ref exit18)])) rfl rfl (Jvm.hb hby at_66)
        have N40 := Fr.snoc X40 N31 g_exit18
        have Z40 : n0 ≤ h40.size := W40.size ▸ Z31
        refine own_go st40 ?_
        show Gm p e below T40 m 67 #[iv p0, iv p1, iv p2, iv p3, iv p4, iv (2 : Int32), rv b17, iv p2, iv (-1 : Int32), iv (-1 : Int32), .unset] [] _
        refine own_go (fun t₀ k₀ => XS.iloadN X40.here hx rfl (Jvm.hb hby at_67) rfl k₀) ?_
        show Gm p e below T40 m 68 #[iv p0, iv p1, iv p2, iv p3, iv p4, iv (2 : Int32), rv b17, iv p2, iv (-1 : Int32), iv (-1 : Int32), .unset] [(.int p3)] _
        refine own_go (fun t₀ k₀ => XS.istore X40.here hx rfl (Jvm.hb hby at_68) rfl (l' := #[iv p0, iv p1, iv p2, iv p3, iv p4, iv (2 : Int32), rv b17, iv p2, iv p3, iv (-1 : Int32), .unset]) rfl k₀) ?_
        show Gm p e below T40 m 70 #[iv p0, iv p1, iv p2, iv p3, iv p4, iv (2 : Int32), rv b17, iv p2, iv p3, iv (-1 : Int32), .unset] [] _
        refine own_go (fun t₀ k₀ => XS.iload X40.here hx rfl (Jvm.hb hby at_70) rfl k₀) ?_
        show Gm p e below T40 m 72 #[iv p0, iv p1, iv p2, iv p3, iv p4, iv (2 : Int32), rv b17, iv p2, iv p3, iv (-1 : Int32), .unset] [(.int (2 : Int32))] _
        refine own_go (fun t₀ k₀ => XS.iconst X40.here hx rfl (Jvm.hb hby at_72) k₀) ?_
        show Gm p e below T40 m 73 #[iv p0, iv p1, iv p2, iv p3, iv p4, iv (2 : Int32), rv b17, iv p2, iv p3, iv (-1 : Int32), .unset] [(.int (2 : Int32)), (.int (2 : Int32))] _
        refine own_go (fun t₀ k₀ => XS.icmpYes X40.here hx rfl (pc0 := 73) (pc' := 95) rfl (Jvm.hb hby at_73) rfl (XT.ii_le_t (by decide)) (by decide) (by decide) k₀) ?_
        show Gm p e below T40 m 95 #[iv p0, iv p1, iv p2, iv p3, iv p4, iv (2 : Int32), rv b17, iv p2, iv p3, iv (-1 : Int32), .unset] [] _
        refine own_go (fun t₀ k₀ => XS.iconst X40.here hx rfl (Jvm.hb hby at_95) k₀) ?_
        show Gm p e below T40 m 96 #[iv p0, iv p1, iv p2, iv p3, iv p4, iv (2 : Int32), rv b17, iv p2, iv p3, iv (-1 : Int32), .unset] [(.int (0 : Int32))] _
        refine own_go (fun t₀ k₀ => XS.istore X40.here hx rfl (Jvm.hb hby at_96) rfl (l' := #[iv p0, iv p1, iv p2, iv p3, iv p4, iv (2 : Int32), rv b17, iv p2, iv p3, iv (-1 : Int32), iv (0 : Int32)]) rfl k₀) ?_
        obtain ⟨z41, hz41, k41⟩ : ∃ z : Int32, z = (if p2 < (0 : Int32) then if p3 < (0 : Int32) then (1 : Int32) else ((1 : Int32)) else (if p3 < (0 : Int32) then (1 : Int32) else ((0 : Int32)))) ∧ ∀ P, Go p e below (T40.setTop (mkF m 139 #[iv p0, iv p1, iv p2, iv p3, iv p4, iv (2 : Int32), rv b17, iv p2, iv p3, iv (-1 : Int32), iv z] [])) P → Go p e below (T40.setTop (mkF m 98 #[iv p0, iv p1, iv p2, iv p3, iv p4, iv (2 : Int32), rv b17, iv p2, iv p3, iv (-1 : Int32), iv (0 : Int32)] [])) P := by
          refine ⟨_, rfl, fun P kP => ?_⟩
          show Gm p e below T40 m 98 #[iv p0, iv p1, iv p2, iv p3, iv p4, iv (2 : Int32), rv b17, iv p2, iv p3, iv (-1 : Int32), iv (0 : Int32)] [] _
          refine own_go (fun t₀ k₀ => XS.iload X40.here hx rfl (Jvm.hb hby at_98) rfl k₀) ?_
          show Gm p e below T40 m 100 #[iv p0, iv p1, iv p2, iv p3, iv p4, iv (2 : Int32), rv b17, iv p2, iv p3, iv (-1 : Int32), iv (0 : Int32)] [(.int (2 : Int32))] _
          refine own_go (fun t₀ k₀ => XS.ifNo X40.here hx rfl (Jvm.hb hby at_100) rfl (XT.i0_le_f (by decide)) k₀) ?_
          show Gm p e below T40 m 103 #[iv p0, iv p1, iv p2, iv p3, iv p4, iv (2 : Int32), rv b17, iv p2, iv p3, iv (-1 : Int32), iv (0 : Int32)] [] _
          refine own_go (fun t₀ k₀ => XS.iload X40.here hx rfl (Jvm.hb hby at_103) rfl k₀) ?_
          show Gm p e below T40 m 105 #[iv p0, iv p1, iv p2, iv p3, iv p4, iv (2 : Int32), rv b17, iv p2, iv p3, iv (-1 : Int32), iv (0 : Int32)] [(.int p2)] _
          by_cases c42 : p2 < (0 : Int32)
          · have hfork := trivial
            refine own_go (fun t₀ k₀ => XS.ifNo X40.here hx rfl (Jvm.hb hby at_105) rfl (XT.i0_ge_f c42) k₀) ?_
            show Gm p e below T40 m 108 #[iv p0, iv p1, iv p2, iv p3, iv p4, iv (2 : Int32), rv b17, iv p2, iv p3, iv (-1 : Int32), iv (0 : Int32)] [] _
            refine own_go (fun t₀ k₀ => XS.iconst X40.here hx rfl (Jvm.hb hby at_108) k₀) ?_
            show Gm p e below T40 m 109 #[iv p0, iv p1, iv p2, iv p3, iv p4, iv (2 : Int32), rv b17, iv p2, iv p3, iv (-1 : Int32), iv (0 : Int32)] [(.int (1 : Int32))] _
            refine own_go (fun t₀ k₀ => XS.istore X40.here hx rfl (Jvm.hb hby at_109) rfl (l' := #[iv p0, iv p1, iv p2, iv p3, iv p4, iv (2 : Int32), rv b17, iv p2, iv p3, iv (-1 : Int32), iv (1 : Int32)]) rfl k₀) ?_
            show Gm p e below T40 m 111 #[iv p0, iv p1, iv p2, iv p3, iv p4, iv (2 : Int32), rv b17, iv p2, iv p3, iv (-1 : Int32), iv (1 : Int32)] [] _
            refine own_go (fun t₀ k₀ => XS.iload X40.here hx rfl (Jvm.hb hby at_111) rfl k₀) ?_
            show Gm p e below T40 m 113 #[iv p0, iv p1, iv p2, iv p3, iv p4, iv (2 : Int32), rv b17, iv p2, iv p3, iv (-1 : Int32), iv (1 : Int32)] [(.int (2 : Int32))] _
            refine own_go (fun t₀ k₀ => XS.iconst X40.here hx rfl (Jvm.hb hby at_113) k₀) ?_
            show Gm p e below T40 m 114 #[iv p0, iv p1, iv p2, iv p3, iv p4, iv (2 : Int32), rv b17, iv p2, iv p3, iv (-1 : Int32), iv (1 : Int32)] [(.int (1 : Int32)), (.int (2 : Int32))] _
            refine own_go (fun t₀ k₀ => XS.icmpNo X40.here hx rfl (Jvm.hb hby at_114) rfl (XT.ii_le_f (by decide)) k₀) ?_
            show Gm p e below T40 m 117 #[iv p0, iv p1, iv p2, iv p3, iv p4, iv (2 : Int32), rv b17, iv p2, iv p3, iv (-1 : Int32), iv (1 : Int32)] [] _
            refine own_go (fun t₀ k₀ => XS.iload X40.here hx rfl (Jvm.hb hby at_117) rfl k₀) ?_
            show Gm p e below T40 m 119 #[iv p0, iv p1, iv p2, iv p3, iv p4, iv (2 : Int32), rv b17, iv p2, iv p3, iv (-1 : Int32), iv (1 : Int32)] [(.int p3)] _
            by_cases c43 : p3 < (0 : Int32)
            · have hfork := trivial
              refine own_go (fun t₀ k₀ => XS.ifNo X40.here hx rfl (Jvm.hb hby at_119) rfl (XT.i0_ge_f c43) k₀) ?_
              show Gm p e below T40 m 122 #[iv p0, iv p1, iv p2, iv p3, iv p4, iv (2 : Int32), rv b17, iv p2, iv p3, iv (-1 : Int32), iv (1 : Int32)] [] _
              refine own_go (fun t₀ k₀ => XS.iconst X40.here hx rfl (Jvm.hb hby at_122) k₀) ?_
              show Gm p e below T40 m 123 #[iv p0, iv p1, iv p2, iv p3, iv p4, iv (2 : Int32), rv b17, iv p2, iv p3, iv (-1 : Int32), iv (1 : Int32)] [(.int (1 : Int32))] _
              refine own_go (fun t₀ k₀ => XS.istore X40.here hx rfl (Jvm.hb hby at_123) rfl (l' := #[iv p0, iv p1, iv p2, iv p3, iv p4, iv (2 : Int32), rv b17, iv p2, iv p3, iv (-1 : Int32), iv (1 : Int32)]) rfl k₀) ?_
              show Gm p e below T40 m 125 #[iv p0, iv p1, iv p2, iv p3, iv p4, iv (2 : Int32), rv b17, iv p2, iv p3, iv (-1 : Int32), iv (1 : Int32)] [] _
              refine own_go (fun t₀ k₀ => XS.iload X40.here hx rfl (Jvm.hb hby at_125) rfl k₀) ?_
              show Gm p e below T40 m 127 #[iv p0, iv p1, iv p2, iv p3, iv p4, iv (2 : Int32), rv b17, iv p2, iv p3, iv (-1 : Int32), iv (1 : Int32)] [(.int (2 : Int32))] _
              refine own_go (fun t₀ k₀ => XS.iconst X40.here hx rfl (Jvm.hb hby at_127) k₀) ?_
              show Gm p e below T40 m 128 #[iv p0, iv p1, iv p2, iv p3, iv p4, iv (2 : Int32), rv b17, iv p2, iv p3, iv (-1 : Int32), iv (1 : Int32)] [(.int (2 : Int32)), (.int (2 : Int32))] _
              refine own_go (fun t₀ k₀ => XS.icmpYes X40.here hx rfl (pc0 := 128) (pc' := 139) rfl (Jvm.hb hby at_128) rfl (XT.ii_le_t (by decide)) (by decide) (by decide) k₀) ?_
              rw [if_pos c42, if_pos c43] at kP
              exact kP
            · have hfork := trivial
              refine own_go (fun t₀ k₀ => XS.ifYes X40.here hx rfl (pc0 := 119) (pc' := 125) rfl (Jvm.hb hby at_119) rfl (XT.i0_ge_t c43) (by decide) (by decide) k₀) ?_
              show Gm p e below T40 m 125 #[iv p0, iv p1, iv p2, iv p3, iv p4, iv (2 : Int32), rv b17, iv p2, iv p3, iv (-1 : Int32), iv (1 : Int32)] [] _
              refine own_go (fun t₀ k₀ => XS.iload X40.here hx rfl (Jvm.hb hby at_125) rfl k₀) ?_
              show Gm p e below T40 m 127 #[iv p0, iv p1, iv p2, iv p3, iv p4, iv (2 : Int32), rv b17, iv p2, iv p3, iv (-1 : Int32), iv (1 : Int32)] [(.int (2 : Int32))] _
              refine own_go (fun t₀ k₀ => XS.iconst X40.here hx rfl (Jvm.hb hby at_127) k₀) ?_
              show Gm p e below T40 m 128 #[iv p0, iv p1, iv p2, iv p3, iv p4, iv (2 : Int32), rv b17, iv p2, iv p3, iv (-1 : Int32), iv (1 : Int32)] [(.int (2 : Int32)), (.int (2 : Int32))] _
              refine own_go (fun t₀ k₀ => XS.icmpYes X40.here hx rfl (pc0 := 128) (pc' := 139) rfl (Jvm.hb hby at_128) rfl (XT.ii_le_t (by decide)) (by decide) (by decide) k₀) ?_
              rw [if_pos c42, if_neg c43] at kP
              exact kP
          · have hfork := trivial
            refine own_go (fun t₀ k₀ => XS.ifYes X40.here hx rfl (pc0 := 105) (pc' := 111) rfl (Jvm.hb hby at_105) rfl (XT.i0_ge_t c42) (by decide) (by decide) k₀) ?_
            show Gm p e below T40 m 111 #[iv p0, iv p1, iv p2, iv p3, iv p4, iv (2 : Int32), rv b17, iv p2, iv p3, iv (-1 : Int32), iv (0 : Int32)] [] _
            refine own_go (fun t₀ k₀ => XS.iload X40.here hx rfl (Jvm.hb hby at_111) rfl k₀) ?_
            show Gm p e below T40 m 113 #[iv p0, iv p1, iv p2, iv p3, iv p4, iv (2 : Int32), rv b17, iv p2, iv p3, iv (-1 : Int32), iv (0 : Int32)] [(.int (2 : Int32))] _
            refine own_go (fun t₀ k₀ => XS.iconst X40.here hx rfl (Jvm.hb hby at_113) k₀) ?_
            show Gm p e below T40 m 114 #[iv p0, iv p1, iv p2, iv p3, iv p4, iv (2 : Int32), rv b17, iv p2, iv p3, iv (-1 : Int32), iv (0 : Int32)] [(.int (1 : Int32)), (.int (2 : Int32))] _
            refine own_go (fun t₀ k₀ => XS.icmpNo X40.here hx rfl (Jvm.hb hby at_114) rfl (XT.ii_le_f (by decide)) k₀) ?_
            show Gm p e below T40 m 117 #[iv p0, iv p1, iv p2, iv p3, iv p4, iv (2 : Int32), rv b17, iv p2, iv p3, iv (-1 : Int32), iv (0 : Int32)] [] _
            refine own_go (fun t₀ k₀ => XS.iload X40.here hx rfl (Jvm.hb hby at_117) rfl k₀) ?_
            show Gm p e below T40 m 119 #[iv p0, iv p1, iv p2, iv p3, iv p4, iv (2 : Int32), rv b17, iv p2, iv p3, iv (-1 : Int32), iv (0 : Int32)] [(.int p3)] _
            by_cases c44 : p3 < (0 : Int32)
            · have hfork := trivial
              refine own_go (fun t₀ k₀ => XS.ifNo X40.here hx rfl (Jvm.hb hby at_119) rfl (XT.i0_ge_f c44) k₀) ?_
              show Gm p e below T40 m 122 #[iv p0, iv p1, iv p2, iv p3, iv p4, iv (2 : Int32), rv b17, iv p2, iv p3, iv (-1 : Int32), iv (0 : Int32)] [] _
              refine own_go (fun t₀ k₀ => XS.iconst X40.here hx rfl (Jvm.hb hby at_122) k₀) ?_
              show Gm p e below T40 m 123 #[iv p0, iv p1, iv p2, iv p3, iv p4, iv (2 : Int32), rv b17, iv p2, iv p3, iv (-1 : Int32), iv (0 : Int32)] [(.int (1 : Int32))] _
              refine own_go (fun t₀ k₀ => XS.istore X40.here hx rfl (Jvm.hb hby at_123) rfl (l' := #[iv p0, iv p1, iv p2, iv p3, iv p4, iv (2 : Int32), rv b17, iv p2, iv p3, iv (-1 : Int32), iv (1 : Int32)]) rfl k₀) ?_
              show Gm p e below T40 m 125 #[iv p0, iv p1, iv p2, iv p3, iv p4, iv (2 : Int32), rv b17, iv p2, iv p3, iv (-1 : Int32), iv (1 : Int32)] [] _
              refine own_go (fun t₀ k₀ => XS.iload X40.here hx rfl (Jvm.hb hby at_125) rfl k₀) ?_
              show Gm p e below T40 m 127 #[iv p0, iv p1, iv p2, iv p3, iv p4, iv (2 : Int32), rv b17, iv p2, iv p3, iv (-1 : Int32), iv (1 : Int32)] [(.int (2 : Int32))] _
              refine own_go (fun t₀ k₀ => XS.iconst X40.here hx rfl (Jvm.hb hby at_127) k₀) ?_
              show Gm p e below T40 m 128 #[iv p0, iv p1, iv p2, iv p3, iv p4, iv (2 : Int32), rv b17, iv p2, iv p3, iv (-1 : Int32), iv (1 : Int32)] [(.int (2 : Int32)), (.int (2 : Int32))] _
              refine own_go (fun t₀ k₀ => XS.icmpYes X40.here hx rfl (pc0 := 128) (pc' := 139) rfl (Jvm.hb hby at_128) rfl (XT.ii_le_t (by decide)) (by decide) (by decide) k₀) ?_
              rw [if_neg c42, if_pos c44] at kP
              exact kP
            · have hfork := trivial
              refine own_go (fun t₀ k₀ => XS.ifYes X40.here hx rfl (pc0 := 119) (pc' := 125) rfl (Jvm.hb hby at_119) rfl (XT.i0_ge_t c44) (by decide) (by decide) k₀) ?_
              show Gm p e below T40 m 125 #[iv p0, iv p1, iv p2, iv p3, iv p4, iv (2 : Int32), rv b17, iv p2, iv p3, iv (-1 : Int32), iv (0 : Int32)] [] _
              refine own_go (fun t₀ k₀ => XS.iload X40.here hx rfl (Jvm.hb hby at_125) rfl k₀) ?_
              show Gm p e below T40 m 127 #[iv p0, iv p1, iv p2, iv p3, iv p4, iv (2 : Int32), rv b17, iv p2, iv p3, iv (-1 : Int32), iv (0 : Int32)] [(.int (2 : Int32))] _
              refine own_go (fun t₀ k₀ => XS.iconst X40.here hx rfl (Jvm.hb hby at_127) k₀) ?_
              show Gm p e below T40 m 128 #[iv p0, iv p1, iv p2, iv p3, iv p4, iv (2 : Int32), rv b17, iv p2, iv p3, iv (-1 : Int32), iv (0 : Int32)] [(.int (2 : Int32)), (.int (2 : Int32))] _
              refine own_go (fun t₀ k₀ => XS.icmpYes X40.here hx rfl (pc0 := 128) (pc' := 139) rfl (Jvm.hb hby at_128) rfl (XT.ii_le_t (by decide)) (by decide) (by decide) k₀) ?_
              rw [if_neg c42, if_neg c44] at kP
              exact kP
        refine k41 _ ?_
        show Gm p e below T40 m 139 #[iv p0, iv p1, iv p2, iv p3, iv p4, iv (2 : Int32), rv b17, iv p2, iv p3, iv (-1 : Int32), iv z41] [] _
        refine own_go (fun t₀ k₀ => XS.aload X40.here hx rfl (Jvm.hb hby at_139) rfl rfl k₀) ?_
        show Gm p e below T40 m 141 #[iv p0, iv p1, iv p2, iv p3, iv p4, iv (2 : Int32), rv b17, iv p2, iv p3, iv (-1 : Int32), iv z41] [(.ref b17)] _
        have f45 := (Fld.other W40 f38 (Or.inl ne_b17_exit18))
        have f47 := ((Ec18.wr W31).wr W40)
        obtain ⟨cq46, kq46, q46a, q46b, q46c⟩ := isOf hZ e40 f47
        obtain ⟨_, _, ⟨T46, L46, k46, n46⟩, -, X46, ⟨Lc46, hQ46, l46, y46, z46⟩, st46⟩ := X40.virtualBack hx (y := (⟨"com/example/throughfare/throughfare/simulation/Walkers", "anyoneInside", "()Z"⟩ : MethodName)) (z := (⟨"com/example/throughfare/throughfare/simulation/Walkers", "anyoneInside", "()Z"⟩ : MethodName)) hown (mvT hZ (hw _ (List.mem_of_getElem? (i := 42) rfl))) (mvT hZ (hw _ (List.mem_of_getElem? (i := 43) rfl))) (notFace_of_selects (args := #[]) (mvT hZ (hw _ (List.mem_of_getElem? (i := 45) rfl)))) (mvT hZ (hw _ (List.mem_of_getElem? (i := 45) rfl))) (mvT hZ (hw _ (List.mem_of_getElem? (i := 44) rfl))) (by decide) (backOf (W := 0) (rm5_2 l Z a0 hw [] b17 exit18 (fun i => if i = 1 then (.int p3) else (fun i => if i = 0 then (.int p2) else (fun _ => (.int (-1 : Int32))) i) i) p2 p3 h40 n0 Z40 f45 A40 rfl rfl) hZ (hw _ (List.mem_of_getElem? (i := 46) rfl)) (hw _ (List.mem_of_getElem? (i := 2) rfl)) (by decide) (by decide)) q46a q46c (g := (mkF m 141 #[iv p0, iv p1, iv p2, iv p3, iv p4, iv (2 : Int32), rv b17, iv p2, iv p3, iv (-1 : Int32), iv z41] [(.ref b17)])) rfl (by rw [hml]; rfl) (Steps.refl _) (argsL := []) (rest := []) (lenOf own_pd3 rfl) rfl (by show 2 * 0 + _ ≤ _; exact Nat.le_of_eq rfl) (Jvm.hb hby at_141) (fun _ _ => ⟨rfl, e40, (by decide : 12 + 0 ≤ _), (by decide : 33 + 0 ≤ _)⟩)
        dsimp only [Pt.U, Pt.locs, Pt.cells, Pt.slots] at X46 l46 y46 z46 st46 hQ46
        subst l46 y46 z46
        obtain ⟨rfl, Nq46, eq46⟩ := hQ46
        have N46 := Fr.app N40 Nq46
        have e46 : T46.heap = h40 := eq46
        refine own_go (fun t k => st46.trans k) ?_
        show Gm p e below T46 m 144 #[iv p0, iv p1, iv p2, iv p3, iv p4, iv (2 : Int32), rv b17, iv p2, iv p3, iv (-1 : Int32), iv z41] [(.int (fA2 p2 p3))] _
        refine own_go (fun t₀ k₀ => XS.iload X46.here hx rfl (Jvm.hb hby at_144) rfl k₀) ?_
        show Gm p e below T46 m 146 #[iv p0, iv p1, iv p2, iv p3, iv p4, iv (2 : Int32), rv b17, iv p2, iv p3, iv (-1 : Int32), iv z41] [(.int z41), (.int (fA2 p2 p3))] _
        refine own_go (fun t₀ k₀ => XS.icmpNo X46.here hx rfl (Jvm.hb hby at_146) rfl (XT.ii_ne_f (by rw [hz41]; unfold fA2; first | rfl | (simp only [(by decide : ((-1 : Int32) < 0) = True), if_true]; done) | (simp only [(by decide : ((-1 : Int32) < 0) = True), if_true]; (repeat' split) <;> rfl) | ((repeat' split) <;> first | rfl | contradiction | (simp_all; done)))) k₀) ?_
        show Gm p e below T46 m 149 #[iv p0, iv p1, iv p2, iv p3, iv p4, iv (2 : Int32), rv b17, iv p2, iv p3, iv (-1 : Int32), iv z41] [] _
        refine own_go (fun t₀ k₀ => XS.iconst X46.here hx rfl (Jvm.hb hby at_149) k₀) ?_
        show Gm p e below T46 m 150 #[iv p0, iv p1, iv p2, iv p3, iv p4, iv (2 : Int32), rv b17, iv p2, iv p3, iv (-1 : Int32), iv z41] [(.int (1 : Int32))] _
        refine own_go (fun t₀ k₀ => XS.goto X46.here hx rfl (pc0 := 150) (pc' := 154) rfl (Jvm.hb hby at_150) (by decide) (by decide) k₀) ?_
        show Gm p e below T46 m 154 #[iv p0, iv p1, iv p2, iv p3, iv p4, iv (2 : Int32), rv b17, iv p2, iv p3, iv (-1 : Int32), iv z41] [(.int (1 : Int32))] _
        exact own_retI X46 hx hlk (t := .boolean) Bd.returns rfl (by simp) (Jvm.hb hby at_154) e46 ⟨rfl, N46⟩ (by decide) (by decide)
  · rw [hk]
    show Gm p e below s₁ m 5 #[iv p0, iv p1, iv p2, iv p3, iv p4, iv (3 : Int32), .unset, .unset, .unset, .unset, .unset] [] _
    obtain ⟨T48, h48, X48, e48, E48, A48, D48, -, st48⟩ := newO X0 hx hZ hown (hw _ (List.mem_of_getElem? (i := 0) rfl)) (hw _ (List.mem_of_getElem? (i := 1) rfl)) (hw _ (List.mem_of_getElem? (i := 2) rfl)) e0 (g := (mkF m 5 #[iv p0, iv p1, iv p2, iv p3, iv p4, iv (3 : Int32), .unset, .unset, .unset, .unset, .unset] [])) rfl (Jvm.hb hby at_5) (by decide) (by decide)
    obtain ⟨b48, g48⟩ : ∃ z, z = h0.size := ⟨_, rfl⟩
    rw [← g48] at A48 D48 st48
    have g_b48 : n0 ≤ b48 := Nat.le_trans Z0 (Nat.le_of_eq g48.symm)
    have Z48 : n0 ≤ h48.size := Nat.le_trans Z0 E48.1
    have F_floor_b48 : Fld Z h48 b48 "com/example/throughfare/throughfare/simulation/Walkers" "floor" "[I" .null := D48 (Or.inr (hw _ (List.mem_of_getElem? (i := 11) rfl))) (ty := (.array .int)) (by decide)
    have F_startCell_b48 : Fld Z h48 b48 "com/example/throughfare/throughfare/simulation/Walkers" "startCell" "[I" .null := D48 (Or.inr (hw _ (List.mem_of_getElem? (i := 13) rfl))) (ty := (.array .int)) (by decide)
    have F_cell_b48 : Fld Z h48 b48 "com/example/throughfare/throughfare/simulation/Walkers" "cell" "[I" .null := D48 (Or.inr (hw _ (List.mem_of_getElem? (i := 15) rfl))) (ty := (.array .int)) (by decide)
    have F_speedMps_b48 : Fld Z h48 b48 "com/example/throughfare/throughfare/simulation/Walkers" "speedMps" "[D" .null := D48 (Or.inr (hw _ (List.mem_of_getElem? (i := 18) rfl))) (ty := (.array .double)) (by decide)
    have F_reactionS_b48 : Fld Z h48 b48 "com/example/throughfare/throughfare/simulation/Walkers" "reactionS" "[D" .null := D48 (Or.inr (hw _ (List.mem_of_getElem? (i := 20) rfl))) (ty := (.array .double)) (by decide)
    have F_heading_b48 : Fld Z h48 b48 "com/example/throughfare/throughfare/simulation/Walkers" "heading" "[I" .null := D48 (Or.inr (hw _ (List.mem_of_getElem? (i := 22) rfl))) (ty := (.array .int)) (by decide)
    have F_heldUpS_b48 : Fld Z h48 b48 "com/example/throughfare/throughfare/simulation/Walkers" "heldUpS" "[D" .null := D48 (Or.inr (hw _ (List.mem_of_getElem? (i := 24) rfl))) (ty := (.array .double)) (by decide)
    have F_exitTimeS_b48 : Fld Z h48 b48 "com/example/throughfare/throughfare/simulation/Walkers" "exitTimeS" "[D" .null := D48 (Or.inr (hw _ (List.mem_of_getElem? (i := 31) rfl))) (ty := (.array .double)) (by decide)
    have F_leaving_b48 : Fld Z h48 b48 "com/example/throughfare/throughfare/simulation/Walkers" "leaving" "[I" .null := D48 (Or.inr (hw _ (List.mem_of_getElem? (i := 34) rfl))) (ty := (.array .int)) (by decide)
    have F_exit_b48 : Fld Z h48 b48 "com/example/throughfare/throughfare/simulation/Walkers" "exit" "[I" .null := D48 (Or.inr (hw _ (List.mem_of_getElem? (i := 39) rfl))) (ty := (.array .int)) (by decide)
    have F_distanceM_b48 : Fld Z h48 b48 "com/example/throughfare/throughfare/simulation/Walkers" "distanceM" "[D" .null := D48 (Or.inr (hw _ (List.mem_of_getElem? (i := 41) rfl))) (ty := (.array .double)) (by decide)
    refine own_go st48 ?_
    show Gm p e below T48 m 8 #[iv p0, iv p1, iv p2, iv p3, iv p4, iv (3 : Int32), .unset, .unset, .unset, .unset, .unset] [(.ref b48)] _
    refine own_go (fun t₀ k₀ => XS.dup X48.here hx rfl (Jvm.hb hby at_8) rfl rfl k₀) ?_
    show Gm p e below T48 m 9 #[iv p0, iv p1, iv p2, iv p3, iv p4, iv (3 : Int32), .unset, .unset, .unset, .unset, .unset] [(.ref b48), (.ref b48)] _
    refine own_go (fun t₀ k₀ => XS.iload X48.here hx rfl (Jvm.hb hby at_9) rfl k₀) ?_
    show Gm p e below T48 m 11 #[iv p0, iv p1, iv p2, iv p3, iv p4, iv (3 : Int32), .unset, .unset, .unset, .unset, .unset] [(.int (3 : Int32)), (.ref b48), (.ref b48)] _
    obtain ⟨_, _, ⟨T49, L49, k49, n49⟩, -, X49, ⟨Lc49, hQ49, l49, y49, z49⟩, st49⟩ := X48.specialBack hx (y := (⟨"com/example/throughfare/throughfare/simulation/Walkers", "<init>", "(I)V"⟩ : MethodName)) rfl hown (mvT hZ (hw _ (List.mem_of_getElem? (i := 3) rfl))) (mvT hZ (hw _ (List.mem_of_getElem? (i := 4) rfl))) (mvT hZ (hw _ (List.mem_of_getElem? (i := 5) rfl))) (by decide) (backOf (W := 1) (rm1_3 l Z a0 hw [] b48 h48 n0 Z48 A48 F_floor_b48 F_startCell_b48 F_cell_b48 F_speedMps_b48 F_reactionS_b48 F_heading_b48 F_heldUpS_b48 F_exitTimeS_b48 F_leaving_b48 F_exit_b48 F_distanceM_b48 g_b48) hZ (hw _ (List.mem_of_getElem? (i := 5) rfl)) (hw _ (List.mem_of_getElem? (i := 2) rfl)) (by decide) (by decide)) (g := (mkF m 11 #[iv p0, iv p1, iv p2, iv p3, iv p4, iv (3 : Int32), .unset, .unset, .unset, .unset, .unset] [(.int (3 : Int32)), (.ref b48), (.ref b48)])) rfl (by rw [hml]; rfl) (Steps.refl _) (a := b48) (argsL := [(.int (3 : Int32))]) (rest := [(.ref b48)]) (lenOf own_pd2 rfl) rfl (by show 2 * 0 + _ ≤ _; exact Nat.le_of_eq rfl) (Jvm.hb hby at_11) (fun _ _ => ⟨rfl, e48, (by decide : 1 + 11 ≤ _), (by decide : 11 + 33 ≤ _)⟩)
    dsimp only [Pt.U, Pt.locs, Pt.cells, Pt.slots] at X49 l49 y49 z49 st49 hQ49
    subst l49 y49 z49
    obtain ⟨exit49, rfl, Nq49, Kc49, Ec49, hs_exit49, Fc_exit49, Ac_exit49⟩ := hQ49
    have N49 := Fr.app N0 Nq49
    refine own_go (fun t k => st49.trans k) ?_
    have ne_b48_exit49 : b48 ≠ exit49 := Nat.ne_of_lt (Nat.lt_of_lt_of_le A48.lt hs_exit49)
    have g_exit49 : n0 ≤ exit49 := Nat.le_trans Z48 hs_exit49
    have Z49 : n0 ≤ T49.heap.size := Nat.le_trans Z48 Kc49.1
    show Gm p e below T49 m 14 #[iv p0, iv p1, iv p2, iv p3, iv p4, iv (3 : Int32), .unset, .unset, .unset, .unset, .unset] [(.ref b48)] _
    refine own_go (fun t₀ k₀ => XS.astore X49.here hx rfl (Jvm.hb hby at_14) rfl rfl (l' := #[iv p0, iv p1, iv p2, iv p3, iv p4, iv (3 : Int32), rv b48, .unset, .unset, .unset, .unset]) rfl k₀) ?_
    show Gm p e below T49 m 16 #[iv p0, iv p1, iv p2, iv p3, iv p4, iv (3 : Int32), rv b48, .unset, .unset, .unset, .unset] [] _
    refine own_go (fun t₀ k₀ => XS.iconst X49.here hx rfl (Jvm.hb hby at_16) k₀) ?_
    show Gm p e below T49 m 17 #[iv p0, iv p1, iv p2, iv p3, iv p4, iv (3 : Int32), rv b48, .unset, .unset, .unset, .unset] [(.int (-1 : Int32))] _
    refine own_go (fun t₀ k₀ => XS.istore X49.here hx rfl (Jvm.hb hby at_17) rfl (l' := #[iv p0, iv p1, iv p2, iv p3, iv p4, iv (3 : Int32), rv b48, iv (-1 : Int32), .unset, .unset, .unset]) rfl k₀) ?_
    show Gm p e below T49 m 19 #[iv p0, iv p1, iv p2, iv p3, iv p4, iv (3 : Int32), rv b48, iv (-1 : Int32), .unset, .unset, .unset] [] _
    refine own_go (fun t₀ k₀ => XS.iconst X49.here hx rfl (Jvm.hb hby at_19) k₀) ?_
    show Gm p e below T49 m 20 #[iv p0, iv p1, iv p2, iv p3, iv p4, iv (3 : Int32), rv b48, iv (-1 : Int32), .unset, .unset, .unset] [(.int (-1 : Int32))] _
    refine own_go (fun t₀ k₀ => XS.istore X49.here hx rfl (Jvm.hb hby at_20) rfl (l' := #[iv p0, iv p1, iv p2, iv p3, iv p4, iv (3 : Int32), rv b48, iv (-1 : Int32), iv (-1 : Int32), .unset, .unset]) rfl k₀) ?_
    show Gm p e below T49 m 22 #[iv p0, iv p1, iv p2, iv p3, iv p4, iv (3 : Int32), rv b48, iv (-1 : Int32), iv (-1 : Int32), .unset, .unset] [] _
    refine own_go (fun t₀ k₀ => XS.iconst X49.here hx rfl (Jvm.hb hby at_22) k₀) ?_
    show Gm p e below T49 m 23 #[iv p0, iv p1, iv p2, iv p3, iv p4, iv (3 : Int32), rv b48, iv (-1 : Int32), iv (-1 : Int32), .unset, .unset] [(.int (-1 : Int32))] _
    refine own_go (fun t₀ k₀ => XS.istore X49.here hx rfl (Jvm.hb hby at_23) rfl (l' := #[iv p0, iv p1, iv p2, iv p3, iv p4, iv (3 : Int32), rv b48, iv (-1 : Int32), iv (-1 : Int32), iv (-1 : Int32), .unset]) rfl k₀) ?_
    show Gm p e below T49 m 25 #[iv p0, iv p1, iv p2, iv p3, iv p4, iv (3 : Int32), rv b48, iv (-1 : Int32), iv (-1 : Int32), iv (-1 : Int32), .unset] [] _
    refine own_go (fun t₀ k₀ => XS.iload X49.here hx rfl (Jvm.hb hby at_25) rfl k₀) ?_
    show Gm p e below T49 m 27 #[iv p0, iv p1, iv p2, iv p3, iv p4, iv (3 : Int32), rv b48, iv (-1 : Int32), iv (-1 : Int32), iv (-1 : Int32), .unset] [(.int (3 : Int32))] _
    refine own_go (fun t₀ k₀ => XS.ifNo X49.here hx rfl (Jvm.hb hby at_27) rfl (XT.i0_le_f (by decide)) k₀) ?_
    show Gm p e below T49 m 30 #[iv p0, iv p1, iv p2, iv p3, iv p4, iv (3 : Int32), rv b48, iv (-1 : Int32), iv (-1 : Int32), iv (-1 : Int32), .unset] [] _
    refine own_go (fun t₀ k₀ => XS.iloadN X49.here hx rfl (Jvm.hb hby at_30) rfl k₀) ?_
    show Gm p e below T49 m 31 #[iv p0, iv p1, iv p2, iv p3, iv p4, iv (3 : Int32), rv b48, iv (-1 : Int32), iv (-1 : Int32), iv (-1 : Int32), .unset] [(.int p1)] _
    refine own_go (fun t₀ k₀ => XS.iconst X49.here hx rfl (Jvm.hb hby at_31) k₀) ?_
    show Gm p e below T49 m 32 #[iv p0, iv p1, iv p2, iv p3, iv p4, iv (3 : Int32), rv b48, iv (-1 : Int32), iv (-1 : Int32), iv (-1 : Int32), .unset] [(.int (1 : Int32)), (.int p1)] _
    refine own_go (fun t₀ k₀ => XS.iand X49.here hx rfl (Jvm.hb hby at_32) rfl k₀) ?_
    show Gm p e below T49 m 33 #[iv p0, iv p1, iv p2, iv p3, iv p4, iv (3 : Int32), rv b48, iv (-1 : Int32), iv (-1 : Int32), iv (-1 : Int32), .unset] [(.int (p1 &&& (1 : Int32)))] _
    by_cases c50 : (p1 &&& (1 : Int32)) = (0 : Int32)
    · have hfork := trivial
      refine own_go (fun t₀ k₀ => XS.ifYes X49.here hx rfl (pc0 := 33) (pc' := 47) rfl (Jvm.hb hby at_33) rfl (XT.i0_eq_t c50) (by decide) (by decide) k₀) ?_
      show Gm p e below T49 m 47 #[iv p0, iv p1, iv p2, iv p3, iv p4, iv (3 : Int32), rv b48, iv (-1 : Int32), iv (-1 : Int32), iv (-1 : Int32), .unset] [] _
      refine own_go (fun t₀ k₀ => XS.iload X49.here hx rfl (Jvm.hb hby at_47) rfl k₀) ?_
      show Gm p e below T49 m 49 #[iv p0, iv p1, iv p2, iv p3, iv p4, iv (3 : Int32), rv b48, iv (-1 : Int32), iv (-1 : Int32), iv (-1 : Int32), .unset] [(.int (3 : Int32))] _
      refine own_go (fun t₀ k₀ => XS.iconst X49.here hx rfl (Jvm.hb hby at_49) k₀) ?_
      show Gm p e below T49 m 50 #[iv p0, iv p1, iv p2, iv p3, iv p4, iv (3 : Int32), rv b48, iv (-1 : Int32), iv (-1 : Int32), iv (-1 : Int32), .unset] [(.int (1 : Int32)), (.int (3 : Int32))] _
      refine own_go (fun t₀ k₀ => XS.icmpNo X49.here hx rfl (Jvm.hb hby at_50) rfl (XT.ii_le_f (by decide)) k₀) ?_
      show Gm p e below T49 m 53 #[iv p0, iv p1, iv p2, iv p3, iv p4, iv (3 : Int32), rv b48, iv (-1 : Int32), iv (-1 : Int32), iv (-1 : Int32), .unset] [] _
      refine own_go (fun t₀ k₀ => XS.iloadN X49.here hx rfl (Jvm.hb hby at_53) rfl k₀) ?_
      show Gm p e below T49 m 54 #[iv p0, iv p1, iv p2, iv p3, iv p4, iv (3 : Int32), rv b48, iv (-1 : Int32), iv (-1 : Int32), iv (-1 : Int32), .unset] [(.int p1)] _
      refine own_go (fun t₀ k₀ => XS.iconst X49.here hx rfl (Jvm.hb hby at_54) k₀) ?_
      show Gm p e below T49 m 55 #[iv p0, iv p1, iv p2, iv p3, iv p4, iv (3 : Int32), rv b48, iv (-1 : Int32), iv (-1 : Int32), iv (-1 : Int32), .unset] [(.int (2 : Int32)), (.int p1)] _
      refine own_go (fun t₀ k₀ => XS.iand X49.here hx rfl (Jvm.hb hby at_55) rfl k₀) ?_
      show Gm p e below T49 m 56 #[iv p0, iv p1, iv p2, iv p3, iv p4, iv (3 : Int32), rv b48, iv (-1 : Int32), iv (-1 : Int32), iv (-1 : Int32), .unset] [(.int (p1 &&& (2 : Int32)))] _
      by_cases c51 : (p1 &&& (2 : Int32)) = (0 : Int32)
      · have hfork := trivial
        refine own_go (fun t₀ k₀ => XS.ifYes X49.here hx rfl (pc0 := 56) (pc' := 70) rfl (Jvm.hb hby at_56) rfl (XT.i0_eq_t c51) (by decide) (by decide) k₀) ?_
        show Gm p e below T49 m 70 #[iv p0, iv p1, iv p2, iv p3, iv p4, iv (3 : Int32), rv b48, iv (-1 : Int32), iv (-1 : Int32), iv (-1 : Int32), .unset] [] _
        refine own_go (fun t₀ k₀ => XS.iload X49.here hx rfl (Jvm.hb hby at_70) rfl k₀) ?_
        show Gm p e below T49 m 72 #[iv p0, iv p1, iv p2, iv p3, iv p4, iv (3 : Int32), rv b48, iv (-1 : Int32), iv (-1 : Int32), iv (-1 : Int32), .unset] [(.int (3 : Int32))] _
        refine own_go (fun t₀ k₀ => XS.iconst X49.here hx rfl (Jvm.hb hby at_72) k₀) ?_
        show Gm p e below T49 m 73 #[iv p0, iv p1, iv p2, iv p3, iv p4, iv (3 : Int32), rv b48, iv (-1 : Int32), iv (-1 : Int32), iv (-1 : Int32), .unset] [(.int (2 : Int32)), (.int (3 : Int32))] _
        refine own_go (fun t₀ k₀ => XS.icmpNo X49.here hx rfl (Jvm.hb hby at_73) rfl (XT.ii_le_f (by decide)) k₀) ?_
        show Gm p e below T49 m 76 #[iv p0, iv p1, iv p2, iv p3, iv p4, iv (3 : Int32), rv b48, iv (-1 : Int32), iv (-1 : Int32), iv (-1 : Int32), .unset] [] _
        refine own_go (fun t₀ k₀ => XS.iloadN X49.here hx rfl (Jvm.hb hby at_76) rfl k₀) ?_
        show Gm p e below T49 m 77 #[iv p0, iv p1, iv p2, iv p3, iv p4, iv (3 : Int32), rv b48, iv (-1 : Int32), iv (-1 : Int32), iv (-1 : Int32), .unset] [(.int p1)] _
        refine own_go (fun t₀ k₀ => XS.iconst X49.here hx rfl (Jvm.hb hby at_77) k₀) ?_
        show Gm p e below T49 m 78 #[iv p0, iv p1, iv p2, iv p3, iv p4, iv (3 : Int32), rv b48, iv (-1 : Int32), iv (-1 : Int32), iv (-1 : Int32), .unset] [(.int (4 : Int32)), (.int p1)] _
        refine own_go (fun t₀ k₀ => XS.iand X49.here hx rfl (Jvm.hb hby at_78) rfl k₀) ?_
        show Gm p e below T49 m 79 #[iv p0, iv p1, iv p2, iv p3, iv p4, iv (3 : Int32), rv b48, iv (-1 : Int32), iv (-1 : Int32), iv (-1 : Int32), .unset] [(.int (p1 &&& (4 : Int32)))] _
        by_cases c52 : (p1 &&& (4 : Int32)) = (0 : Int32)
        · have hfork := trivial
          refine own_go (fun t₀ k₀ => XS.ifYes X49.here hx rfl (pc0 := 79) (pc' := 95) rfl (Jvm.hb hby at_79) rfl (XT.i0_eq_t c52) (by decide) (by decide) k₀) ?_
          show Gm p e below T49 m 95 #[iv p0, iv p1, iv p2, iv p3, iv p4, iv (3 : Int32), rv b48, iv (-1 : Int32), iv (-1 : Int32), iv (-1 : Int32), .unset] [] _
          refine own_go (fun t₀ k₀ => XS.iconst X49.here hx rfl (Jvm.hb hby at_95) k₀) ?_
          show Gm p e below T49 m 96 #[iv p0, iv p1, iv p2, iv p3, iv p4, iv (3 : Int32), rv b48, iv (-1 : Int32), iv (-1 : Int32), iv (-1 : Int32), .unset] [(.int (0 : Int32))] _
          refine own_go (fun t₀ k₀ => XS.istore X49.here hx rfl (Jvm.hb hby at_96) rfl (l' := #[iv p0, iv p1, iv p2, iv p3, iv p4, iv (3 : Int32), rv b48, iv (-1 : Int32), iv (-1 : Int32), iv (-1 : Int32), iv (0 : Int32)]) rfl k₀) ?_
          have k53 : ∀ P, Go p e below (T49.setTop (mkF m 139 #[iv p0, iv p1, iv p2, iv p3, iv p4, iv (3 : Int32), rv b48, iv (-1 : Int32), iv (-1 : Int32), iv (-1 : Int32), iv (1 : Int32)] [])) P → Go p e below (T49.setTop (mkF m 98 #[iv p0, iv p1, iv p2, iv p3, iv p4, iv (3 : Int32), rv b48, iv (-1 : Int32), iv (-1 : Int32), iv (-1 : Int32), iv (0 : Int32)] [])) P := by
            intro P kP
            show Gm p e below T49 m 98 #[iv p0, iv p1, iv p2, iv p3, iv p4, iv (3 : Int32), rv b48, iv (-1 : Int32), iv (-1 : Int32), iv (-1 : Int32), iv (0 : Int32)] [] _
            refine own_go (fun t₀ k₀ => XS.iload X49.here hx rfl (Jvm.hb hby at_98) rfl k₀) ?_
            show Gm p e below T49 m 100 #[iv p0, iv p1, iv p2, iv p3, iv p4, iv (3 : Int32), rv b48, iv (-1 : Int32), iv (-1 : Int32), iv (-1 : Int32), iv (0 : Int32)] [(.int (3 : Int32))] _
            refine own_go (fun t₀ k₀ => XS.ifNo X49.here hx rfl (Jvm.hb hby at_100) rfl (XT.i0_le_f (by decide)) k₀) ?_
            show Gm p e below T49 m 103 #[iv p0, iv p1, iv p2, iv p3, iv p4, iv (3 : Int32), rv b48, iv (-1 : Int32), iv (-1 : Int32), iv (-1 : Int32), iv (0 : Int32)] [] _
            refine own_go (fun t₀ k₀ => XS.iload X49.here hx rfl (Jvm.hb hby at_103) rfl k₀) ?_
            show Gm p e below T49 m 105 #[iv p0, iv p1, iv p2, iv p3, iv p4, iv (3 : Int32), rv b48, iv (-1 : Int32), iv (-1 : Int32), iv (-1 : Int32), iv (0 : Int32)] [(.int (-1 : Int32))] _
            refine own_go (fun t₀ k₀ => XS.ifNo X49.here hx rfl (Jvm.hb hby at_105) rfl (XT.i0_ge_f (by decide)) k₀) ?_
            show Gm p e below T49 m 108 #[iv p0, iv p1, iv p2, iv p3, iv p4, iv (3 : Int32), rv b48, iv (-1 : Int32), iv (-1 : Int32), iv (-1 : Int32), iv (0 : Int32)] [] _
            refine own_go (fun t₀ k₀ => XS.iconst X49.here hx rfl (Jvm.hb hby at_108) k₀) ?_
            show Gm p e below T49 m 109 #[iv p0, iv p1, iv p2, iv p3, iv p4, iv (3 : Int32), rv b48, iv (-1 : Int32), iv (-1 : Int32), iv (-1 : Int32), iv (0 : Int32)] [(.int (1 : Int32))] _
            refine own_go (fun t₀ k₀ => XS.istore X49.here hx rfl (Jvm.hb hby at_109) rfl (l' := #[iv p0, iv p1, iv p2, iv p3, iv p4, iv (3 : Int32), rv b48, iv (-1 : Int32), iv (-1 : Int32), iv (-1 : Int32), iv (1 : Int32)]) rfl k₀) ?_
            show Gm p e below T49 m 111 #[iv p0, iv p1, iv p2, iv p3, iv p4, iv (3 : Int32), rv b48, iv (-1 : Int32), iv (-1 : Int32), iv (-1 : Int32), iv (1 : Int32)] [] _
            refine own_go (fun t₀ k₀ => XS.iload X49.here hx rfl (Jvm.hb hby at_111) rfl k₀) ?_
            show Gm p e below T49 m 113 #[iv p0, iv p1, iv p2, iv p3, iv p4, iv (3 : Int32), rv b48, iv (-1 : Int32), iv (-1 : Int32), iv (-1 : Int32), iv (1 : Int32)] [(.int (3 : Int32))] _
            refine own_go (fun t₀ k₀ => XS.iconst X49.here hx rfl (Jvm.hb hby at_113) k₀) ?_
            show Gm p e below T49 m 114 #[iv p0, iv p1, iv p2, iv p3, iv p4, iv (3 : Int32), rv b48, iv (-1 : Int32), iv (-1 : Int32), iv (-1 : Int32), iv (1 : Int32)] [(.int (1 : Int32)), (.int (3 : Int32))] _
            refine own_go (fun t₀ k₀ => XS.icmpNo X49.here hx rfl (Jvm.hb hby at_114) rfl (XT.ii_le_f (by decide)) k₀) ?_
            show Gm p e below T49 m 117 #[iv p0, iv p1, iv p2, iv p3, iv p4, iv (3 : Int32), rv b48, iv (-1 : Int32), iv (-1 : Int32), iv (-1 : Int32), iv (1 : Int32)] [] _
            refine own_go (fun t₀ k₀ => XS.iload X49.here hx rfl (Jvm.hb hby at_117) rfl k₀) ?_
            show Gm p e below T49 m 119 #[iv p0, iv p1, iv p2, iv p3, iv p4, iv (3 : Int32), rv b48, iv (-1 : Int32), iv (-1 : Int32), iv (-1 : Int32), iv (1 : Int32)] [(.int (-1 : Int32))] _
            refine own_go (fun t₀ k₀ => XS.ifNo X49.here hx rfl (Jvm.hb hby at_119) rfl (XT.i0_ge_f (by decide)) k₀) ?_
            show Gm p e below T49 m 122 #[iv p0, iv p1, iv p2, iv p3, iv p4, iv (3 : Int32), rv b48, iv (-1 : Int32), iv (-1 : Int32), iv (-1 : Int32), iv (1 : Int32)] [] _
            refine own_go (fun t₀ k₀ => XS.iconst X49.here hx rfl (Jvm.hb hby at_122) k₀) ?_
            show Gm p e below T49 m 123 #[iv p0, iv p1, iv p2, iv p3, iv p4, iv (3 : Int32), rv b48, iv (-1 : Int32), iv (-1 : Int32), iv (-1 : Int32), iv (1 : Int32)] [(.int (1 : Int32))] _
            refine own_go (fun t₀ k₀ => XS.istore X49.here hx rfl (Jvm.hb hby at_123) rfl (l' := #[iv p0, iv p1, iv p2, iv p3, iv p4, iv (3 : Int32), rv b48, iv (-1 : Int32), iv (-1 : Int32), iv (-1 : Int32), iv (1 : Int32)]) rfl k₀) ?_
            show Gm p e below T49 m 125 #[iv p0, iv p1, iv p2, iv p3, iv p4, iv (3 : Int32), rv b48, iv (-1 : Int32), iv (-1 : Int32), iv (-1 : Int32), iv (1 : Int32)] [] _
            refine own_go (fun t₀ k₀ => XS.iload X49.here hx rfl (Jvm.hb hby at_125) rfl k₀) ?_
            show Gm p e below T49 m 127 #[iv p0, iv p1, iv p2, iv p3, iv p4, iv (3 : Int32), rv b48, iv (-1 : Int32), iv (-1 : Int32), iv (-1 : Int32), iv (1 : Int32)] [(.int (3 : Int32))] _
            refine own_go (fun t₀ k₀ => XS.iconst X49.here hx rfl (Jvm.hb hby at_127) k₀) ?_
            show Gm p e below T49 m 128 #[iv p0, iv p1, iv p2, iv p3, iv p4, iv (3 : Int32), rv b48, iv (-1 : Int32), iv (-1 : Int32), iv (-1 : Int32), iv (1 : Int32)] [(.int (2 : Int32)), (.int (3 : Int32))] _
            refine own_go (fun t₀ k₀ => XS.icmpNo X49.here hx rfl (Jvm.hb hby at_128) rfl (XT.ii_le_f (by decide)) k₀) ?_
            show Gm p e below T49 m 131 #[iv p0, iv p1, iv p2, iv p3, iv p4, iv (3 : Int32), rv b48, iv (-1 : Int32), iv (-1 : Int32), iv (-1 : Int32), iv (1 : Int32)] [] _
            refine own_go (fun t₀ k₀ => XS.iload X49.here hx rfl (Jvm.hb hby at_131) rfl k₀) ?_
            show Gm p e below T49 m 133 #[iv p0, iv p1, iv p2, iv p3, iv p4, iv (3 : Int32), rv b48, iv (-1 : Int32), iv (-1 : Int32), iv (-1 : Int32), iv (1 : Int32)] [(.int (-1 : Int32))] _
            refine own_go (fun t₀ k₀ => XS.ifNo X49.here hx rfl (Jvm.hb hby at_133) rfl (XT.i0_ge_f (by decide)) k₀) ?_
            show Gm p e below T49 m 136 #[iv p0, iv p1, iv p2, iv p3, iv p4, iv (3 : Int32), rv b48, iv (-1 : Int32), iv (-1 : Int32), iv (-1 : Int32), iv (1 : Int32)] [] _
            refine own_go (fun t₀ k₀ => XS.iconst X49.here hx rfl (Jvm.hb hby at_136) k₀) ?_
            show Gm p e below T49 m 137 #[iv p0, iv p1, iv p2, iv p3, iv p4, iv (3 : Int32), rv b48, iv (-1 : Int32), iv (-1 : Int32), iv (-1 : Int32), iv (1 : Int32)] [(.int (1 : Int32))] _
            refine own_go (fun t₀ k₀ => XS.istore X49.here hx rfl (Jvm.hb hby at_137) rfl (l' := #[iv p0, iv p1, iv p2, iv p3, iv p4, iv (3 : Int32), rv b48, iv (-1 : Int32), iv (-1 : Int32), iv (-1 : Int32), iv (1 : Int32)]) rfl k₀) ?_
            exact kP
          refine k53 _ ?_
          show Gm p e below T49 m 139 #[iv p0, iv p1, iv p2, iv p3, iv p4, iv (3 : Int32), rv b48, iv (-1 : Int32), iv (-1 : Int32), iv (-1 : Int32), iv (1 : Int32)] [] _
          refine own_go (fun t₀ k₀ => XS.aload X49.here hx rfl (Jvm.hb hby at_139) rfl rfl k₀) ?_
          show Gm p e below T49 m 141 #[iv p0, iv p1, iv p2, iv p3, iv p4, iv (3 : Int32), rv b48, iv (-1 : Int32), iv (-1 : Int32), iv (-1 : Int32), iv (1 : Int32)] [(.ref b48)] _
          obtain ⟨cq54, kq54, q54a, q54b, q54c⟩ := isOf hZ rfl Ec49
          obtain ⟨_, _, ⟨T54, L54, k54, n54⟩, -, X54, ⟨Lc54, hQ54, l54, y54, z54⟩, st54⟩ := X49.virtualBack hx (y := (⟨"com/example/throughfare/throughfare/simulation/Walkers", "anyoneInside", "()Z"⟩ : MethodName)) (z := (⟨"com/example/throughfare/throughfare/simulation/Walkers", "anyoneInside", "()Z"⟩ : MethodName)) hown (mvT hZ (hw _ (List.mem_of_getElem? (i := 42) rfl))) (mvT hZ (hw _ (List.mem_of_getElem? (i := 43) rfl))) (notFace_of_selects (args := #[]) (mvT hZ (hw _ (List.mem_of_getElem? (i := 45) rfl)))) (mvT hZ (hw _ (List.mem_of_getElem? (i := 45) rfl))) (mvT hZ (hw _ (List.mem_of_getElem? (i := 44) rfl))) (by decide) (backOf (W := 0) (rm5_3 l Z a0 hw [] b48 exit49 (fun _ => (.int (-1 : Int32))) (-1 : Int32) (-1 : Int32) (-1 : Int32) T49.heap n0 Z49 Fc_exit49 Ac_exit49 rfl rfl rfl) hZ (hw _ (List.mem_of_getElem? (i := 46) rfl)) (hw _ (List.mem_of_getElem? (i := 2) rfl)) (by decide) (by decide)) q54a q54c (g := (mkF m 141 #[iv p0, iv p1, iv p2, iv p3, iv p4, iv (3 : Int32), rv b48, iv (-1 : Int32), iv (-1 : Int32), iv (-1 : Int32), iv (1 : Int32)] [(.ref b48)])) rfl (by rw [hml]; rfl) (Steps.refl _) (argsL := []) (rest := []) (lenOf own_pd3 rfl) rfl (by show 2 * 0 + _ ≤ _; exact Nat.le_of_eq rfl) (Jvm.hb hby at_141) (fun _ _ => ⟨rfl, rfl, (by decide : 12 + 0 ≤ _), (by decide : 44 + 0 ≤ _)⟩)
          dsimp only [Pt.U, Pt.locs, Pt.cells, Pt.slots] at X54 l54 y54 z54 st54 hQ54
          subst l54 y54 z54
          obtain ⟨rfl, Nq54, eq54⟩ := hQ54
          have N54 := Fr.app N49 Nq54
          have e54 : T54.heap = T49.heap := eq54
          refine own_go (fun t k => st54.trans k) ?_
          show Gm p e below T54 m 144 #[iv p0, iv p1, iv p2, iv p3, iv p4, iv (3 : Int32), rv b48, iv (-1 : Int32), iv (-1 : Int32), iv (-1 : Int32), iv (1 : Int32)] [(.int (fA3 (-1 : Int32) (-1 : Int32) (-1 : Int32)))] _
          refine own_go (fun t₀ k₀ => XS.iload X54.here hx rfl (Jvm.hb hby at_144) rfl k₀) ?_
          show Gm p e below T54 m 146 #[iv p0, iv p1, iv p2, iv p3, iv p4, iv (3 : Int32), rv b48, iv (-1 : Int32), iv (-1 : Int32), iv (-1 : Int32), iv (1 : Int32)] [(.int (1 : Int32)), (.int (fA3 (-1 : Int32) (-1 : Int32) (-1 : Int32)))] _
          refine own_go (fun t₀ k₀ => XS.icmpNo X54.here hx rfl (Jvm.hb hby at_146) rfl (XT.ii_ne_f (by unfold fA3; rw [if_pos (by decide)])) k₀) ?_
          show Gm p e below T54 m 149 #[iv p0, iv p1, iv p2, iv p3, iv p4, iv (3 : Int32), rv b48, iv (-1 : Int32), iv (-1 : Int32), iv (-1 : Int32), iv (1 : Int32)] [] _
          refine own_go (fun t₀ k₀ => XS.iconst X54.here hx rfl (Jvm.hb hby at_149) k₀) ?_
          show Gm p e below T54 m 150 #[iv p0, iv p1, iv p2, iv p3, iv p4, iv (3 : Int32), rv b48, iv (-1 : Int32), iv (-1 : Int32), iv (-1 : Int32), iv (1 : Int32)] [(.int (1 : Int32))] _
          refine own_go (fun t₀ k₀ => XS.goto X54.here hx rfl (pc0 := 150) (pc' := 154) rfl (Jvm.hb hby at_150) (by decide) (by decide) k₀) ?_
          show Gm p e below T54 m 154 #[iv p0, iv p1, iv p2, iv p3, iv p4, iv (3 : Int32), rv b48, iv (-1 : Int32), iv (-1 : Int32), iv (-1 : Int32), iv (1 : Int32)] [(.int (1 : Int32))] _
          exact own_retI X54 hx hlk (t := .boolean) Bd.returns rfl (by simp) (Jvm.hb hby at_154) e54 ⟨rfl, N54⟩ (by decide) (by decide)
        · have hfork := trivial
          refine own_go (fun t₀ k₀ => XS.ifNo X49.here hx rfl (Jvm.hb hby at_79) rfl (XT.i0_eq_f c52) k₀) ?_
          show Gm p e below T49 m 82 #[iv p0, iv p1, iv p2, iv p3, iv p4, iv (3 : Int32), rv b48, iv (-1 : Int32), iv (-1 : Int32), iv (-1 : Int32), .unset] [] _
          refine own_go (fun t₀ k₀ => XS.aload X49.here hx rfl (Jvm.hb hby at_82) rfl rfl k₀) ?_
          show Gm p e below T49 m 84 #[iv p0, iv p1, iv p2, iv p3, iv p4, iv (3 : Int32), rv b48, iv (-1 : Int32), iv (-1 : Int32), iv (-1 : Int32), .unset] [(.ref b48)] _
          obtain ⟨T55, X55, e55, st55⟩ := getF X49 hx hZ hown (host := "") (Or.inl (hw _ (List.mem_of_getElem? (i := 47) rfl))) Via.refl rfl Fc_exit49 (g := (mkF m 84 #[iv p0, iv p1, iv p2, iv p3, iv p4, iv (3 : Int32), rv b48, iv (-1 : Int32), iv (-1 : Int32), iv (-1 : Int32), .unset] [(.ref b48)])) rfl rfl (Jvm.hb hby at_84)
          refine own_go st55 ?_
          show Gm p e below T55 m 87 #[iv p0, iv p1, iv p2, iv p3, iv p4, iv (3 : Int32), rv b48, iv (-1 : Int32), iv (-1 : Int32), iv (-1 : Int32), .unset] [(.ref exit49)] _
          refine own_go (fun t₀ k₀ => XS.iconst X55.here hx rfl (Jvm.hb hby at_87) k₀) ?_
          show Gm p e below T55 m 88 #[iv p0, iv p1, iv p2, iv p3, iv p4, iv (3 : Int32), rv b48, iv (-1 : Int32), iv (-1 : Int32), iv (-1 : Int32), .unset] [(.int (2 : Int32)), (.ref exit49)] _
          refine own_go (fun t₀ k₀ => XS.iload X55.here hx rfl (Jvm.hb hby at_88) rfl k₀) ?_
          show Gm p e below T55 m 90 #[iv p0, iv p1, iv p2, iv p3, iv p4, iv (3 : Int32), rv b48, iv (-1 : Int32), iv (-1 : Int32), iv (-1 : Int32), .unset] [(.int p4), (.int (2 : Int32)), (.ref exit49)] _
          obtain ⟨T56, h56, X56, e56, W56, A56, st56⟩ := own_stI X55 hx hZ e55 Ac_exit49 (j := (2 : Int32)) (k := 2) (by decide) rfl (by decide) (g := (mkF m 90 #[iv p0, iv p1, iv p2, iv p3, iv p4, iv (3 : Int32), rv b48, iv (-1 : Int32), iv (-1 : Int32), iv (-1 : Int32), .unset] [(.int p4), (.int (2 : Int32)), (.ref exit49)])) rfl rfl (Jvm.hb hby at_90)
          have N56 := Fr.snoc X56 N49 g_exit49
          have Z56 : n0 ≤ h56.size := W56.size ▸ Z49
          refine own_go st56 ?_
          show Gm p e below T56 m 91 #[iv p0, iv p1, iv p2, iv p3, iv p4, iv (3 : Int32), rv b48, iv (-1 : Int32), iv (-1 : Int32), iv (-1 : Int32), .unset] [] _
          refine own_go (fun t₀ k₀ => XS.iload X56.here hx rfl (Jvm.hb hby at_91) rfl k₀) ?_
          show Gm p e below T56 m 93 #[iv p0, iv p1, iv p2, iv p3, iv p4, iv (3 : Int32), rv b48, iv (-1 : Int32), iv (-1 : Int32), iv (-1 : Int32), .unset] [(.int p4)] _
          refine own_go (fun t₀ k₀ => XS.istore X56.here hx rfl (Jvm.hb hby at_93) rfl (l' := #[iv p0, iv p1, iv p2, iv p3, iv p4, iv (3 : Int32), rv b48, iv (-1 : Int32), iv (-1 : Int32), iv p4, .unset]) rfl k₀) ?_
          show Gm p e below T56 m 95 #[iv p0, iv p1, iv p2, iv p3, iv p4, iv (3 : Int32), rv b48, iv (-1 : Int32), iv (-1 : Int32), iv p4, .unset] [] _
          refine own_go (fun t₀ k₀ => XS.iconst X56.here hx rfl (Jvm.hb hby at_95) k₀) ?_
          show Gm p e below T56 m 96 #[iv p0, iv p1, iv p2, iv p3, iv p4, iv (3 : Int32), rv b48, iv (-1 : Int32), iv (-1 : Int32), iv p4, .unset] [(.int (0 : Int32))] _
          refine own_go (fun t₀ k₀ => XS.istore X56.here hx rfl (Jvm.hb hby at_96) rfl (l' := #[iv p0, iv p1, iv p2, iv p3, iv p4, iv (3 : Int32), rv b48, iv (-1 : Int32), iv (-1 : Int32), iv p4, iv (0 : Int32)]) rfl k₀) ?_
          obtain ⟨z57, hz57, k57⟩ : ∃ z : Int32, z = (if p4 < (0 : Int32) then (1 : Int32) else ((1 : Int32))) ∧ ∀ P, Go p e below (T56.setTop (mkF m 139 #[iv p0, iv p1, iv p2, iv p3, iv p4, iv (3 : Int32), rv b48, iv (-1 : Int32), iv (-1 : Int32), iv p4, iv z] [])) P → Go p e below (T56.setTop (mkF m 98 #[iv p0, iv p1, iv p2, iv p3, iv p4, iv (3 : Int32), rv b48, iv (-1 : Int32), iv (-1 : Int32), iv p4, iv (0 : Int32)] [])) P := by
            refine ⟨_, rfl, fun P kP => ?_⟩
            show Gm p e below T56 m 98 #[iv p0, iv p1, iv p2, iv p3, iv p4, iv (3 : Int32), rv b48, iv (-1 : Int32), iv (-1 : Int32), iv p4, iv (0 : Int32)] [] _
            refine own_go (fun t₀ k₀ => XS.iload X56.here hx rfl (Jvm.hb hby at_98) rfl k₀) ?_
            show Gm p e below T56 m 100 #[iv p0, iv p1, iv p2, iv p3, iv p4, iv (3 : Int32), rv b48, iv (-1 : Int32), iv (-1 : Int32), iv p4, iv (0 : Int32)] [(.int (3 : Int32))] _
            refine own_go (fun t₀ k₀ => XS.ifNo X56.here hx rfl (Jvm.hb hby at_100) rfl (XT.i0_le_f (by decide)) k₀) ?_
            show Gm p e below T56 m 103 #[iv p0, iv p1, iv p2, iv p3, iv p4, iv (3 : Int32), rv b48, iv (-1 : Int32), iv (-1 : Int32), iv p4, iv (0 : Int32)] [] _
            refine own_go (fun t₀ k₀ => XS.iload X56.here hx rfl (Jvm.hb hby at_103) rfl k₀) ?_
            show Gm p e below T56 m 105 #[iv p0, iv p1, iv p2, iv p3, iv p4, iv (3 : Int32), rv b48, iv (-1 : Int32), iv (-1 : Int32), iv p4, iv (0 : Int32)] [(.int (-1 : Int32))] _
            refine own_go (fun t₀ k₀ => XS.ifNo X56.here hx rfl (Jvm.hb hby at_105) rfl (XT.i0_ge_f (by decide)) k₀) ?_
            show Gm p e below T56 m 108 #[iv p0, iv p1, iv p2, iv p3, iv p4, iv (3 : Int32), rv b48, iv (-1 : Int32), iv (-1 : Int32), iv p4, iv (0 : Int32)] [] _
            refine own_go (fun t₀ k₀ => XS.iconst X56.here hx rfl (Jvm.hb hby at_108) k₀) ?_
            show Gm p e below T56 m 109 #[iv p0, iv p1, iv p2, iv p3, iv p4, iv (3 : Int32), rv b48, iv (-1 : Int32), iv (-1 : Int32), iv p4, iv (0 : Int32)] [(.int (1 : Int32))] _
            refine own_go (fun t₀ k₀ => XS.istore X56.here hx rfl (Jvm.hb hby at_109) rfl (l' := #[iv p0, iv p1, iv p2, iv p3, iv p4, iv (3 : Int32), rv b48, iv (-1 : Int32), iv (-1 : Int32), iv p4, iv (1 : Int32)]) rfl k₀) ?_
            show Gm p e below T56 m 111 #[iv p0, iv p1, iv p2, iv p3, iv p4, iv (3 : Int32), rv b48, iv (-1 : Int32), iv (-1 : Int32), iv p4, iv (1 : Int32)] [] _
            refine own_go (fun t₀ k₀ => XS.iload X56.here hx rfl (Jvm.hb hby at_111) rfl k₀) ?_
            show Gm p e below T56 m 113 #[iv p0, iv p1, iv p2, iv p3, iv p4, iv (3 : Int32), rv b48, iv (-1 : Int32), iv (-1 : Int32), iv p4, iv (1 : Int32)] [(.int (3 : Int32))] _
            refine own_go (fun t₀ k₀ => XS.iconst X56.here hx rfl (Jvm.hb hby at_113) k₀) ?_
            show Gm p e below T56 m 114 #[iv p0, iv p1, iv p2, iv p3, iv p4, iv (3 : Int32), rv b48, iv (-1 : Int32), iv (-1 : Int32), iv p4, iv (1 : Int32)] [(.int (1 : Int32)), (.int (3 : Int32))] _
            refine own_go (fun t₀ k₀ => XS.icmpNo X56.here hx rfl (Jvm.hb hby at_114) rfl (XT.ii_le_f (by decide)) k₀) ?_
            show Gm p e below T56 m 117 #[iv p0, iv p1, iv p2, iv p3, iv p4, iv (3 : Int32), rv b48, iv (-1 : Int32), iv (-1 : Int32), iv p4, iv (1 : Int32)] [] _
            refine own_go (fun t₀ k₀ => XS.iload X56.here hx rfl (Jvm.hb hby at_117) rfl k₀) ?_
            show Gm p e below T56 m 119 #[iv p0, iv p1, iv p2, iv p3, iv p4, iv (3 : Int32), rv b48, iv (-1 : Int32), iv (-1 : Int32), iv p4, iv (1 : Int32)] [(.int (-1 : Int32))] _
            refine own_go (fun t₀ k₀ => XS.ifNo X56.here hx rfl (Jvm.hb hby at_119) rfl (XT.i0_ge_f (by decide)) k₀) ?_
            show Gm p e below T56 m 122 #[iv p0, iv p1, iv p2, iv p3, iv p4, iv (3 : Int32), rv b48, iv (-1 : Int32), iv (-1 : Int32), iv p4, iv (1 : Int32)] [] _
            refine own_go (fun t₀ k₀ => XS.iconst X56.here hx rfl (Jvm.hb hby at_122) k₀) ?_
            show Gm p e below T56 m 123 #[iv p0, iv p1, iv p2, iv p3, iv p4, iv (3 : Int32), rv b48, iv (-1 : Int32), iv (-1 : Int32), iv p4, iv (1 : Int32)] [(.int (1 : Int32))] _
            refine own_go (fun t₀ k₀ => XS.istore X56.here hx rfl (Jvm.hb hby at_123) rfl (l' := #[iv p0, iv p1, iv p2, iv p3, iv p4, iv (3 : Int32), rv b48, iv (-1 : Int32), iv (-1 : Int32), iv p4, iv (1 : Int32)]) rfl k₀) ?_
            show Gm p e below T56 m 125 #[iv p0, iv p1, iv p2, iv p3, iv p4, iv (3 : Int32), rv b48, iv (-1 : Int32), iv (-1 : Int32), iv p4, iv (1 : Int32)] [] _
            refine own_go (fun t₀ k₀ => XS.iload X56.here hx rfl (Jvm.hb hby at_125) rfl k₀) ?_
            show Gm p e below T56 m 127 #[iv p0, iv p1, iv p2, iv p3, iv p4, iv (3 : Int32), rv b48, iv (-1 : Int32), iv (-1 : Int32), iv p4, iv (1 : Int32)] [(.int (3 : Int32))] _
            refine own_go (fun t₀ k₀ => XS.iconst X56.here hx rfl (Jvm.hb hby at_127) k₀) ?_
            show Gm p e below T56 m 128 #[iv p0, iv p1, iv p2, iv p3, iv p4, iv (3 : Int32), rv b48, iv (-1 : Int32), iv (-1 : Int32), iv p4, iv (1 : Int32)] [(.int (2 : Int32)), (.int (3 : Int32))] _
            refine own_go (fun t₀ k₀ => XS.icmpNo X56.here hx rfl (Jvm.hb hby at_128) rfl (XT.ii_le_f (by decide)) k₀) ?_
            show Gm p e below T56 m 131 #[iv p0, iv p1, iv p2, iv p3, iv p4, iv (3 : Int32), rv b48, iv (-1 : Int32), iv (-1 : Int32), iv p4, iv (1 : Int32)] [] _
            refine own_go (fun t₀ k₀ => XS.iload X56.here hx rfl (Jvm.hb hby at_131) rfl k₀) ?_
            show Gm p e below T56 m 133 #[iv p0, iv p1, iv p2, iv p3, iv p4, iv (3 : Int32), rv b48, iv (-1 : Int32), iv (-1 : Int32), iv p4, iv (1 : Int32)] [(.int p4)] _
            by_cases c58 : p4 < (0 : Int32)
            · have hfork := trivial
              refine own_go (fun t₀ k₀ => XS.ifNo X56.here hx rfl (Jvm.hb hby at_133) rfl (XT.i0_ge_f c58) k₀) ?_
              show Gm p e below T56 m 136 #[iv p0, iv p1, iv p2, iv p3, iv p4, iv (3 : Int32), rv b48, iv (-1 : Int32), iv (-1 : Int32), iv p4, iv (1 : Int32)] [] _
              refine own_go (fun t₀ k₀ => XS.iconst X56.here hx rfl (Jvm.hb hby at_136) k₀) ?_
              show Gm p e below T56 m 137 #[iv p0, iv p1, iv p2, iv p3, iv p4, iv (3 : Int32), rv b48, iv (-1 : Int32), iv (-1 : Int32), iv p4, iv (1 : Int32)] [(.int (1 : Int32))] _
              refine own_go (fun t₀ k₀ => XS.istore X56.here hx rfl (Jvm.hb hby at_137) rfl (l' := #[iv p0, iv p1, iv p2, iv p3, iv p4, iv (3 : Int32), rv b48, iv (-1 : Int32), iv (-1 : Int32), iv p4, iv (1 : Int32)]) rfl k₀) ?_
              rw [if_pos c58] at kP
              exact kP
            · have hfork := trivial
              refine own_go (fun t₀ k₀ => XS.ifYes X56.here hx rfl (pc0 := 133) (pc' := 139) rfl (Jvm.hb hby at_133) rfl (XT.i0_ge_t c58) (by decide) (by decide) k₀) ?_
              rw [if_neg c58] at kP
              exact kP
          refine k57 _ ?_
          show Gm p e below T56 m 139 #[iv p0, iv p1, iv p2, iv p3, iv p4, iv (3 : Int32), rv b48, iv (-1 : Int32), iv (-1 : Int32), iv p4, iv z57] [] _
          refine own_go (fun t₀ k₀ => XS.aload X56.here hx rfl (Jvm.hb hby at_139) rfl rfl k₀) ?_
          show Gm p e below T56 m 141 #[iv p0, iv p1, iv p2, iv p3, iv p4, iv (3 : Int32), rv b48, iv (-1 : Int32), iv (-1 : Int32), iv p4, iv z57] [(.ref b48)] _
          have f59 := (Fld.other W56 Fc_exit49 (Or.inl ne_b48_exit49))
          have f61 := (Ec49.wr W56)
          obtain ⟨cq60, kq60, q60a, q60b, q60c⟩ := isOf hZ e56 f61
          obtain ⟨_, _, ⟨T60, L60, k60, n60⟩, -, X60, ⟨Lc60, hQ60, l60, y60, z60⟩, st60⟩ := X56.virtualBack hx (y := (⟨"com/example/throughfare/throughfare/simulation/Walkers", "anyoneInside", "()Z"⟩ : MethodName)) (z := (⟨"com/example/throughfare/throughfare/simulation/Walkers", "anyoneInside", "()Z"⟩ : MethodName)) hown (mvT hZ (hw _ (List.mem_of_getElem? (i := 42) rfl))) (mvT hZ (hw _ (List.mem_of_getElem? (i := 43) rfl))) (notFace_of_selects (args := #[]) (mvT hZ (hw _ (List.mem_of_getElem? (i := 45) rfl)))) (mvT hZ (hw _ (List.mem_of_getElem? (i := 45) rfl))) (mvT hZ (hw _ (List.mem_of_getElem? (i := 44) rfl))) (by decide) (backOf (W := 0) (rm5_3 l Z a0 hw [] b48 exit49 (fun i => if i = 2 then (.int p4) else (fun _ => (.int (-1 : Int32))) i) (-1 : Int32) (-1 : Int32) p4 h56 n0 Z56 f59 A56 rfl rfl rfl) hZ (hw _ (List.mem_of_getElem? (i := 46) rfl)) (hw _ (List.mem_of_getElem? (i := 2) rfl)) (by decide) (by decide)) q60a q60c (g := (mkF m 141 #[iv p0, iv p1, iv p2, iv p3, iv p4, iv (3 : Int32), rv b48, iv (-1 : Int32), iv (-1 : Int32), iv p4, iv z57] [(.ref b48)])) rfl (by rw [hml]; rfl) (Steps.refl _) (argsL := []) (rest := []) (lenOf own_pd3 rfl) rfl (by show 2 * 0 + _ ≤ _; exact Nat.le_of_eq rfl) (Jvm.hb hby at_141) (fun _ _ => ⟨rfl, e56, (by decide : 12 + 0 ≤ _), (by decide : 44 + 0 ≤ _)⟩)
          dsimp only [Pt.U, Pt.locs, Pt.cells, Pt.slots] at X60 l60 y60 z60 st60 hQ60
          subst l60 y60 z60
          obtain ⟨rfl, Nq60, eq60⟩ := hQ60
          have N60 := Fr.app N56 Nq60
          have e60 : T60.heap = h56 := eq60
          refine own_go (fun t k => st60.trans k) ?_
          show Gm p e below T60 m 144 #[iv p0, iv p1, iv p2, iv p3, iv p4, iv (3 : Int32), rv b48, iv (-1 : Int32), iv (-1 : Int32), iv p4, iv z57] [(.int (fA3 (-1 : Int32) (-1 : Int32) p4))] _
          refine own_go (fun t₀ k₀ => XS.iload X60.here hx rfl (Jvm.hb hby at_144) rfl k₀) ?_
          show Gm p e below T60 m 146 #[iv p0, iv p1, iv p2, iv p3, iv p4, iv (3 : Int32), rv b48, iv (-1 : Int32), iv (-1 : Int32), iv p4, iv z57] [(.int z57), (.int (fA3 (-1 : Int32) (-1 : Int32) p4))] _
          refine own_go (fun t₀ k₀ => XS.icmpNo X60.here hx rfl (Jvm.hb hby at_146) rfl (XT.ii_ne_f (by rw [hz57]; unfold fA3; first | rfl | (simp only [(by decide : ((-1 : Int32) < 0) = True), if_true]; done) | (simp only [(by decide : ((-1 : Int32) < 0) = True), if_true]; (repeat' split) <;> rfl) | ((repeat' split) <;> first | rfl | contradiction | (simp_all; done)))) k₀) ?_
          show Gm p e below T60 m 149 #[iv p0, iv p1, iv p2, iv p3, iv p4, iv (3 : Int32), rv b48, iv (-1 : Int32), iv (-1 : Int32), iv p4, iv z57] [] _
          refine own_go (fun t₀ k₀ => XS.iconst X60.here hx rfl (Jvm.hb hby at_149) k₀) ?_
          show Gm p e below T60 m 150 #[iv p0, iv p1, iv p2, iv p3, iv p4, iv (3 : Int32), rv b48, iv (-1 : Int32), iv (-1 : Int32), iv p4, iv z57] [(.int (1 : Int32))] _
          refine own_go (fun t₀ k₀ => XS.goto X60.here hx rfl (pc0 := 150) (pc' := 154) rfl (Jvm.hb hby at_150) (by decide) (by decide) k₀) ?_
          show Gm p e below T60 m 154 #[iv p0, iv p1, iv p2, iv p3, iv p4, iv (3 : Int32), rv b48, iv (-1 : Int32), iv (-1 : Int32), iv p4, iv z57] [(.int (1 : Int32))] _
          exact own_retI X60 hx hlk (t := .boolean) Bd.returns rfl (by simp) (Jvm.hb hby at_154) e60 ⟨rfl, N60⟩ (by decide) (by decide)
      · have hfork := trivial
        refine own_go (fun t₀ k₀ => XS.ifNo X49.here hx rfl (Jvm.hb hby at_56) rfl (XT.i0_eq_f c51) k₀) ?_
        show Gm p e below T49 m 59 #[iv p0, iv p1, iv p2, iv p3, iv p4, iv (3 : Int32), rv b48, iv (-1 : Int32), iv (-1 : Int32), iv (-1 : Int32), .unset] [] _
        refine own_go (fun t₀ k₀ => XS.aload X49.here hx rfl (Jvm.hb hby at_59) rfl rfl k₀) ?_
        show Gm p e below T49 m 61 #[iv p0, iv p1, iv p2, iv p3, iv p4, iv (3 : Int32), rv b48, iv (-1 : Int32), iv (-1 : Int32), iv (-1 : Int32), .unset] [(.ref b48)] _
        obtain ⟨T62, X62, e62, st62⟩ := getF X49 hx hZ hown (host := "") (Or.inl (hw _ (List.mem_of_getElem? (i := 47) rfl))) Via.refl rfl Fc_exit49 (g := (mkF m 61 #[iv p0, iv p1, iv p2, iv p3, iv p4, iv (3 : Int32), rv b48, iv (-1 : Int32), iv (-1 : Int32), iv (-1 : Int32), .unset] [(.ref b48)])) rfl rfl (Jvm.hb hby at_61)
        refine own_go st62 ?_
        show Gm p e below T62 m 64 #[iv p0, iv p1, iv p2, iv p3, iv p4, iv (3 : Int32), rv b48, iv (-1 : Int32), iv (-1 : Int32), iv (-1 : Int32), .unset] [(.ref exit49)] _
        refine own_go (fun t₀ k₀ => XS.iconst X62.here hx rfl (Jvm.hb hby at_64) k₀) ?_
        show Gm p e below T62 m 65 #[iv p0, iv p1, iv p2, iv p3, iv p4, iv (3 : Int32), rv b48, iv (-1 : Int32), iv (-1 : Int32), iv (-1 : Int32), .unset] [(.int (1 : Int32)), (.ref exit49)] _
        refine own_go (fun t₀ k₀ => XS.iloadN X62.here hx rfl (Jvm.hb hby at_65) rfl k₀) ?_
        show Gm p e below T62 m 66 #[iv p0, iv p1, iv p2, iv p3, iv p4, iv (3 : Int32), rv b48, iv (-1 : Int32), iv (-1 : Int32), iv (-1 : Int32), .unset] [(.int p3), (.int (1 : Int32)), (.ref exit49)] _
        obtain ⟨T63, h63, X63, e63, W63, A63, st63⟩ := own_stI X62 hx hZ e62 Ac_exit49 (j := (1 : Int32)) (k := 1) (by decide) rfl (by decide) (g := (mkF m 66 #[iv p0, iv p1, iv p2, iv p3, iv p4, iv (3 : Int32), rv b48, iv (-1 : Int32), iv (-1 : Int32), iv (-1 : Int32), .unset] [(.int p3), (.int (1 : Int32)), (.ref exit49)])) rfl rfl (Jvm.hb hby at_66)
        have N63 := Fr.snoc X63 N49 g_exit49
        have Z63 : n0 ≤ h63.size := W63.size ▸ Z49
        refine own_go st63 ?_
        show Gm p e below T63 m 67 #[iv p0, iv p1, iv p2, iv p3, iv p4, iv (3 : Int32), rv b48, iv (-1 : Int32), iv (-1 : Int32), iv (-1 : Int32), .unset] [] _
        refine own_go (fun t₀ k₀ => XS.iloadN X63.here hx rfl (Jvm.hb hby at_67) rfl k₀) ?_
        show Gm p e below T63 m 68 #[iv p0, iv p1, iv p2, iv p3, iv p4, iv (3 : Int32), rv b48, iv (-1 : Int32), iv (-1 : Int32), iv (-1 : Int32), .unset] [(.int p3)] _
        refine own_go (fun t₀ k₀ => XS.istore X63.here hx rfl (Jvm.hb hby at_68) rfl (l' := #[iv p0, iv p1, iv p2, iv p3, iv p4, iv (3 : Int32), rv b48, iv (-1 : Int32), iv p3, iv (-1 : Int32), .unset]) rfl k₀) ?_
        show Gm p e below T63 m 70 #[iv p0, iv p1, iv p2, iv p3, iv p4, iv (3 : Int32), rv b48, iv (-1 : Int32), iv p3, iv (-1 : Int32), .unset] [] _
        refine own_go (fun t₀ k₀ => XS.iload X63.here hx rfl (Jvm.hb hby at_70) rfl k₀) ?_
        show Gm p e below T63 m 72 #[iv p0, iv p1, iv p2, iv p3, iv p4, iv (3 : Int32), rv b48, iv (-1 : Int32), iv p3, iv (-1 : Int32), .unset] [(.int (3 : Int32))] _
        refine own_go (fun t₀ k₀ => XS.iconst X63.here hx rfl (Jvm.hb hby at_72) k₀) ?_
        show Gm p e below T63 m 73 #[iv p0, iv p1, iv p2, iv p3, iv p4, iv (3 : Int32), rv b48, iv (-1 : Int32), iv p3, iv (-1 : Int32), .unset] [(.int (2 : Int32)), (.int (3 : Int32))] _
        refine own_go (fun t₀ k₀ => XS.icmpNo X63.here hx rfl (Jvm.hb hby at_73) rfl (XT.ii_le_f (by decide)) k₀) ?_
        show Gm p e below T63 m 76 #[iv p0, iv p1, iv p2, iv p3, iv p4, iv (3 : Int32), rv b48, iv (-1 : Int32), iv p3, iv (-1 : Int32), .unset] [] _
        refine own_go (fun t₀ k₀ => XS.iloadN X63.here hx rfl (Jvm.hb hby at_76) rfl k₀) ?_
        show Gm p e below T63 m 77 #[iv p0, iv p1, iv p2, iv p3, iv p4, iv (3 : Int32), rv b48, iv (-1 : Int32), iv p3, iv (-1 : Int32), .unset] [(.int p1)] _
        refine own_go (fun t₀ k₀ => XS.iconst X63.here hx rfl (Jvm.hb hby at_77) k₀) ?_
        show Gm p e below T63 m 78 #[iv p0, iv p1, iv p2, iv p3, iv p4, iv (3 : Int32), rv b48, iv (-1 : Int32), iv p3, iv (-1 : Int32), .unset] [(.int (4 : Int32)), (.int p1)] _
        refine own_go (fun t₀ k₀ => XS.iand X63.here hx rfl (Jvm.hb hby at_78) rfl k₀) ?_
        show Gm p e below T63 m 79 #[iv p0, iv p1, iv p2, iv p3, iv p4, iv (3 : Int32), rv b48, iv (-1 : Int32), iv p3, iv (-1 : Int32), .unset] [(.int (p1 &&& (4 : Int32)))] _
        by_cases c64 : (p1 &&& (4 : Int32)) = (0 : Int32)
        · have hfork := trivial
          refine own_go (fun t₀ k₀ => XS.ifYes X63.here hx rfl (pc0 := 79) (pc' := 95) rfl (Jvm.hb hby at_79) rfl (XT.i0_eq_t c64) (by decide) (by decide) k₀) ?_
          show Gm p e below T63 m 95 #[iv p0, iv p1, iv p2, iv p3, iv p4, iv (3 : Int32), rv b48, iv (-1 : Int32), iv p3, iv (-1 : Int32), .unset] [] _
          refine own_go (fun t₀ k₀ => XS.iconst X63.here hx rfl (Jvm.hb hby at_95) k₀) ?_
          show Gm p e below T63 m 96 #[iv p0, iv p1, iv p2, iv p3, iv p4, iv (3 : Int32), rv b48, iv (-1 : Int32), iv p3, iv (-1 : Int32), .unset] [(.int (0 : Int32))] _
          refine own_go (fun t₀ k₀ => XS.istore X63.here hx rfl (Jvm.hb hby at_96) rfl (l' := #[iv p0, iv p1, iv p2, iv p3, iv p4, iv (3 : Int32), rv b48, iv (-1 : Int32), iv p3, iv (-1 : Int32), iv (0 : Int32)]) rfl k₀) ?_
          obtain ⟨z65, hz65, k65⟩ : ∃ z : Int32, z = (if p3 < (0 : Int32) then (1 : Int32) else ((1 : Int32))) ∧ ∀ P, Go p e below (T63.setTop (mkF m 139 #[iv p0, iv p1, iv p2, iv p3, iv p4, iv (3 : Int32), rv b48, iv (-1 : Int32), iv p3, iv (-1 : Int32), iv z] [])) P → Go p e below (T63.setTop (mkF m 98 #[iv p0, iv p1, iv p2, iv p3, iv p4, iv (3 : Int32), rv b48, iv (-1 : Int32), iv p3, iv (-1 : Int32), iv (0 : Int32)] [])) P := by
            refine ⟨_, rfl, fun P kP => ?_⟩
            show Gm p e below T63 m 98 #[iv p0, iv p1, iv p2, iv p3, iv p4, iv (3 : Int32), rv b48, iv (-1 : Int32), iv p3, iv (-1 : Int32), iv (0 : Int32)] [] _
            refine own_go (fun t₀ k₀ => XS.iload X63.here hx rfl (Jvm.hb hby at_98) rfl k₀) ?_
            show Gm p e below T63 m 100 #[iv p0, iv p1, iv p2, iv p3, iv p4, iv (3 : Int32), rv b48, iv (-1 : Int32), iv p3, iv (-1 : Int32), iv (0 : Int32)] [(.int (3 : Int32))] _
            refine own_go (fun t₀ k₀ => XS.ifNo X63.here hx rfl (Jvm.hb hby at_100) rfl (XT.i0_le_f (by decide)) k₀) ?_
            show Gm p e below T63 m 103 #[iv p0, iv p1, iv p2, iv p3, iv p4, iv (3 : Int32), rv b48, iv (-1 : Int32), iv p3, iv (-1 : Int32), iv (0 : Int32)] [] _
            refine own_go (fun t₀ k₀ => XS.iload X63.here hx rfl (Jvm.hb hby at_103) rfl k₀) ?_
            show Gm p e below T63 m 105 #[iv p0, iv p1, iv p2, iv p3, iv p4, iv (3 : Int32), rv b48, iv (-1 : Int32), iv p3, iv (-1 : Int32), iv (0 : Int32)] [(.int (-1 : Int32))] _
            refine own_go (fun t₀ k₀ => XS.ifNo X63.here hx rfl (Jvm.hb hby at_105) rfl (XT.i0_ge_f (by decide)) k₀) ?_
            show Gm p e below T63 m 108 #[iv p0, iv p1, iv p2, iv p3, iv p4, iv (3 : Int32), rv b48, iv (-1 : Int32), iv p3, iv (-1 : Int32), iv (0 : Int32)] [] _
            refine own_go (fun t₀ k₀ => XS.iconst X63.here hx rfl (Jvm.hb hby at_108) k₀) ?_
            show Gm p e below T63 m 109 #[iv p0, iv p1, iv p2, iv p3, iv p4, iv (3 : Int32), rv b48, iv (-1 : Int32), iv p3, iv (-1 : Int32), iv (0 : Int32)] [(.int (1 : Int32))] _
            refine own_go (fun t₀ k₀ => XS.istore X63.here hx rfl (Jvm.hb hby at_109) rfl (l' := #[iv p0, iv p1, iv p2, iv p3, iv p4, iv (3 : Int32), rv b48, iv (-1 : Int32), iv p3, iv (-1 : Int32), iv (1 : Int32)]) rfl k₀) ?_
            show Gm p e below T63 m 111 #[iv p0, iv p1, iv p2, iv p3, iv p4, iv (3 : Int32), rv b48, iv (-1 : Int32), iv p3, iv (-1 : Int32), iv (1 : Int32)] [] _
            refine own_go (fun t₀ k₀ => XS.iload X63.here hx rfl (Jvm.hb hby at_111) rfl k₀) ?_
            show Gm p e below T63 m 113 #[iv p0, iv p1, iv p2, iv p3, iv p4, iv (3 : Int32), rv b48, iv (-1 : Int32), iv p3, iv (-1 : Int32), iv (1 : Int32)] [(.int (3 : Int32))] _
            refine own_go (fun t₀ k₀ => XS.iconst X63.here hx rfl (Jvm.hb hby at_113) k₀) ?_
            show Gm p e below T63 m 114 #[iv p0, iv p1, iv p2, iv p3, iv p4, iv (3 : Int32), rv b48, iv (-1 : Int32), iv p3, iv (-1 : Int32), iv (1 : Int32)] [(.int (1 : Int32)), (.int (3 : Int32))] _
            refine own_go (fun t₀ k₀ => XS.icmpNo X63.here hx rfl (Jvm.hb hby at_114) rfl (XT.ii_le_f (by decide)) k₀) ?_
            show Gm p e below T63 m 117 #[iv p0, iv p1, iv p2, iv p3, iv p4, iv (3 : Int32), rv b48, iv (-1 : Int32), iv p3, iv (-1 : Int32), iv (1 : Int32)] [] _
            refine own_go (fun t₀ k₀ => XS.iload X63.here hx rfl (Jvm.hb hby at_117) rfl k₀) ?_
            show Gm p e below T63 m 119 #[iv p0, iv p1, iv p2, iv p3, iv p4, iv (3 : Int32), rv b48, iv (-1 : Int32), iv p3, iv (-1 : Int32), iv (1 : Int32)] [(.int p3)] _
            by_cases c66 : p3 < (0 : Int32)
            · have hfork := trivial
              refine own_go (fun t₀ k₀ => XS.ifNo X63.here hx rfl (Jvm.hb hby at_119) rfl (XT.i0_ge_f c66) k₀) ?_
              show Gm p e below T63 m 122 #[iv p0, iv p1, iv p2, iv p3, iv p4, iv (3 : Int32), rv b48, iv (-1 : Int32), iv p3, iv (-1 : Int32), iv (1 : Int32)] [] _
              refine own_go (fun t₀ k₀ => XS.iconst X63.here hx rfl (Jvm.hb hby at_122) k₀) ?_
              show Gm p e below T63 m 123 #[iv p0, iv p1, iv p2, iv p3, iv p4, iv (3 : Int32), rv b48, iv (-1 : Int32), iv p3, iv (-1 : Int32), iv (1 : Int32)] [(.int (1 : Int32))] _
              refine own_go (fun t₀ k₀ => XS.istore X63.here hx rfl (Jvm.hb hby at_123) rfl (l' := #[iv p0, iv p1, iv p2, iv p3, iv p4, iv (3 : Int32), rv b48, iv (-1 : Int32), iv p3, iv (-1 : Int32), iv (1 : Int32)]) rfl k₀) ?_
              show Gm p e below T63 m 125 #[iv p0, iv p1, iv p2, iv p3, iv p4, iv (3 : Int32), rv b48, iv (-1 : Int32), iv p3, iv (-1 : Int32), iv (1 : Int32)] [] _
              refine own_go (fun t₀ k₀ => XS.iload X63.here hx rfl (Jvm.hb hby at_125) rfl k₀) ?_
              show Gm p e below T63 m 127 #[iv p0, iv p1, iv p2, iv p3, iv p4, iv (3 : Int32), rv b48, iv (-1 : Int32), iv p3, iv (-1 : Int32), iv (1 : Int32)] [(.int (3 : Int32))] _
              refine own_go (fun t₀ k₀ => XS.iconst X63.here hx rfl (Jvm.hb hby at_127) k₀) ?_
              show Gm p e below T63 m 128 #[iv p0, iv p1, iv p2, iv p3, iv p4, iv (3 : Int32), rv b48, iv (-1 : Int32), iv p3, iv (-1 : Int32), iv (1 : Int32)] [(.int (2 : Int32)), (.int (3 : Int32))] _
              refine own_go (fun t₀ k₀ => XS.icmpNo X63.here hx rfl (Jvm.hb hby at_128) rfl (XT.ii_le_f (by decide)) k₀) ?_
              show Gm p e below T63 m 131 #[iv p0, iv p1, iv p2, iv p3, iv p4, iv (3 : Int32), rv b48, iv (-1 : Int32), iv p3, iv (-1 : Int32), iv (1 : Int32)] [] _
              refine own_go (fun t₀ k₀ => XS.iload X63.here hx rfl (Jvm.hb hby at_131) rfl k₀) ?_
              show Gm p e below T63 m 133 #[iv p0, iv p1, iv p2, iv p3, iv p4, iv (3 : Int32), rv b48, iv (-1 : Int32), iv p3, iv (-1 : Int32), iv (1 : Int32)] [(.int (-1 : Int32))] _
              refine own_go (fun t₀ k₀ => XS.ifNo X63.here hx rfl (Jvm.hb hby at_133) rfl (XT.i0_ge_f (by decide)) k₀) ?_
              show Gm p e below T63 m 136 #[iv p0, iv p1, iv p2, iv p3, iv p4, iv (3 : Int32), rv b48, iv (-1 : Int32), iv p3, iv (-1 : Int32), iv (1 : Int32)] [] _
              refine own_go (fun t₀ k₀ => XS.iconst X63.here hx rfl (Jvm.hb hby at_136) k₀) ?_
              show Gm p e below T63 m 137 #[iv p0, iv p1, iv p2, iv p3, iv p4, iv (3 : Int32), rv b48, iv (-1 : Int32), iv p3, iv (-1 : Int32), iv (1 : Int32)] [(.int (1 : Int32))] _
              refine own_go (fun t₀ k₀ => XS.istore X63.here hx rfl (Jvm.hb hby at_137) rfl (l' := #[iv p0, iv p1, iv p2, iv p3, iv p4, iv (3 : Int32), rv b48, iv (-1 : Int32), iv p3, iv (-1 : Int32), iv (1 : Int32)]) rfl k₀) ?_
              rw [if_pos c66] at kP
              exact kP
            · have hfork := trivial
              refine own_go (fun t₀ k₀ => XS.ifYes X63.here hx rfl (pc0 := 119) (pc' := 125) rfl (Jvm.hb hby at_119) rfl (XT.i0_ge_t c66) (by decide) (by decide) k₀) ?_
              show Gm p e below T63 m 125 #[iv p0, iv p1, iv p2, iv p3, iv p4, iv (3 : Int32), rv b48, iv (-1 : Int32), iv p3, iv (-1 : Int32), iv (1 : Int32)] [] _
              refine own_go (fun t₀ k₀ => XS.iload X63.here hx rfl (Jvm.hb hby at_125) rfl k₀) ?_
              show Gm p e below T63 m 127 #[iv p0, iv p1, iv p2, iv p3, iv p4, iv (3 : Int32), rv b48, iv (-1 : Int32), iv p3, iv (-1 : Int32), iv (1 : Int32)] [(.int (3 : Int32))] _
              refine own_go (fun t₀ k₀ => XS.iconst X63.here hx rfl (Jvm.hb hby at_127) k₀) ?_
              show Gm p e below T63 m 128 #[iv p0, iv p1, iv p2, iv p3, iv p4, iv (3 : Int32), rv b48, iv (-1 : Int32), iv p3, iv (-1 : Int32), iv (1 : Int32)] [(.int (2 : Int32)), (.int (3 : Int32))] _
              refine own_go (fun t₀ k₀ => XS.icmpNo X63.here hx rfl (Jvm.hb hby at_128) rfl (XT.ii_le_f (by decide)) k₀) ?_
              show Gm p e below T63 m 131 #[iv p0, iv p1, iv p2, iv p3, iv p4, iv (3 : Int32), rv b48, iv (-1 : Int32), iv p3, iv (-1 : Int32), iv (1 : Int32)] [] _
              refine own_go (fun t₀ k₀ => XS.iload X63.here hx rfl (Jvm.hb hby at_131) rfl k₀) ?_
              show Gm p e below T63 m 133 #[iv p0, iv p1, iv p2, iv p3, iv p4, iv (3 : Int32), rv b48, iv (-1 : Int32), iv p3, iv (-1 : Int32), iv (1 : Int32)] [(.int (-1 : Int32))] _
              refine own_go (fun t₀ k₀ => XS.ifNo X63.here hx rfl (Jvm.hb hby at_133) rfl (XT.i0_ge_f (by decide)) k₀) ?_
              show Gm p e below T63 m 136 #[iv p0, iv p1, iv p2, iv p3, iv p4, iv (3 : Int32), rv b48, iv (-1 : Int32), iv p3, iv (-1 : Int32), iv (1 : Int32)] [] _
              refine own_go (fun t₀ k₀ => XS.iconst X63.here hx rfl (Jvm.hb hby at_136) k₀) ?_
              show Gm p e below T63 m 137 #[iv p0, iv p1, iv p2, iv p3, iv p4, iv (3 : Int32), rv b48, iv (-1 : Int32), iv p3, iv (-1 : Int32), iv (1 : Int32)] [(.int (1 : Int32))] _
              refine own_go (fun t₀ k₀ => XS.istore X63.here hx rfl (Jvm.hb hby at_137) rfl (l' := #[iv p0, iv p1, iv p2, iv p3, iv p4, iv (3 : Int32), rv b48, iv (-1 : Int32), iv p3, iv (-1 : Int32), iv (1 : Int32)]) rfl k₀) ?_
              rw [if_neg c66] at kP
              exact kP
          refine k65 _ ?_
          show Gm p e below T63 m 139 #[iv p0, iv p1, iv p2, iv p3, iv p4, iv (3 : Int32), rv b48, iv (-1 : Int32), iv p3, iv (-1 : Int32), iv z65] [] _
          refine own_go (fun t₀ k₀ => XS.aload X63.here hx rfl (Jvm.hb hby at_139) rfl rfl k₀) ?_
          show Gm p e below T63 m 141 #[iv p0, iv p1, iv p2, iv p3, iv p4, iv (3 : Int32), rv b48, iv (-1 : Int32), iv p3, iv (-1 : Int32), iv z65] [(.ref b48)] _
          have f67 := (Fld.other W63 Fc_exit49 (Or.inl ne_b48_exit49))
          have f69 := (Ec49.wr W63)
          obtain ⟨cq68, kq68, q68a, q68b, q68c⟩ := isOf hZ e63 f69
          obtain ⟨_, _, ⟨T68, L68, k68, n68⟩, -, X68, ⟨Lc68, hQ68, l68, y68, z68⟩, st68⟩ := X63.virtualBack hx (y := (⟨"com/example/throughfare/throughfare/simulation/Walkers", "anyoneInside", "()Z"⟩ : MethodName)) (z := (⟨"com/example/throughfare/throughfare/simulation/Walkers", "anyoneInside", "()Z"⟩ : MethodName)) hown (mvT hZ (hw _ (List.mem_of_getElem? (i := 42) rfl))) (mvT hZ (hw _ (List.mem_of_getElem? (i := 43) rfl))) (notFace_of_selects (args := #[]) (mvT hZ (hw _ (List.mem_of_getElem? (i := 45) rfl)))) (mvT hZ (hw _ (List.mem_of_getElem? (i := 45) rfl))) (mvT hZ (hw _ (List.mem_of_getElem? (i := 44) rfl))) (by decide) (backOf (W := 0) (rm5_3 l Z a0 hw [] b48 exit49 (fun i => if i = 1 then (.int p3) else (fun _ => (.int (-1 : Int32))) i) (-1 : Int32) p3 (-1 : Int32) h63 n0 Z63 f67 A63 rfl rfl rfl) hZ (hw _ (List.mem_of_getElem? (i := 46) rfl)) (hw _ (List.mem_of_getElem? (i := 2) rfl)) (by decide) (by decide)) q68a q68c (g := (mkF m 141 #[iv p0, iv p1, iv p2, iv p3, iv p4, iv (3 : Int32), rv b48, iv (-1 : Int32), iv p3, iv (-1 : Int32), iv z65] [(.ref b48)])) rfl (by rw [hml]; rfl) (Steps.refl _) (argsL := []) (rest := []) (lenOf own_pd3 rfl) rfl (by show 2 * 0 + _ ≤ _; exact Nat.le_of_eq rfl) (Jvm.hb hby at_141) (fun _ _ => ⟨rfl, e63, (by decide : 12 + 0 ≤ _), (by decide : 44 + 0 ≤ _)⟩)
          dsimp only [Pt.U, Pt.locs, Pt.cells, Pt.slots] at X68 l68 y68 z68 st68 hQ68
          subst l68 y68 z68
          obtain ⟨rfl, Nq68, eq68⟩ := hQ68
          have N68 := Fr.app N63 Nq68
          have e68 : T68.heap = h63 := eq68
          refine own_go (fun t k => st68.trans k) ?_
          show Gm p e below T68 m 144 #[iv p0, iv p1, iv p2, iv p3, iv p4, iv (3 : Int32), rv b48, iv (-1 : Int32), iv p3, iv (-1 : Int32), iv z65] [(.int (fA3 (-1 : Int32) p3 (-1 : Int32)))] _
          refine own_go (fun t₀ k₀ => XS.iload X68.here hx rfl (Jvm.hb hby at_144) rfl k₀) ?_
          show Gm p e below T68 m 146 #[iv p0, iv p1, iv p2, iv p3, iv p4, iv (3 : Int32), rv b48, iv (-1 : Int32), iv p3, iv (-1 : Int32), iv z65] [(.int z65), (.int (fA3 (-1 : Int32) p3 (-1 : Int32)))] _
          refine own_go (fun t₀ k₀ => XS.icmpNo X68.here hx rfl (Jvm.hb hby at_146) rfl (XT.ii_ne_f (by rw [hz65]; unfold fA3; first | rfl | (simp only [(by decide : ((-1 : Int32) < 0) = True), if_true]; done) | (simp only [(by decide : ((-1 : Int32) < 0) = True), if_true]; (repeat' split) <;> rfl) | ((repeat' split) <;> first | rfl | contradiction | (simp_all; done)))) k₀) ?_
          show Gm p e below T68 m 149 #[iv p0, iv p1, iv p2, iv p3, iv p4, iv (3 : Int32), rv b48, iv (-1 : Int32), iv p3, iv (-1 : Int32), iv z65] [] _
          refine own_go (fun t₀ k₀ => XS.iconst X68.here hx rfl (Jvm.hb hby at_149) k₀) ?_
          show Gm p e below T68 m 150 #[iv p0, iv p1, iv p2, iv p3, iv p4, iv (3 : Int32), rv b48, iv (-1 : Int32), iv p3, iv (-1 : Int32), iv z65] [(.int (1 : Int32))] _
          refine own_go (fun t₀ k₀ => XS.goto X68.here hx rfl (pc0 := 150) (pc' := 154) rfl (Jvm.hb hby at_150) (by decide) (by decide) k₀) ?_
          show Gm p e below T68 m 154 #[iv p0, iv p1, iv p2, iv p3, iv p4, iv (3 : Int32), rv b48, iv (-1 : Int32), iv p3, iv (-1 : Int32), iv z65] [(.int (1 : Int32))] _
          exact own_retI X68 hx hlk (t := .boolean) Bd.returns rfl (by simp) (Jvm.hb hby at_154) e68 ⟨rfl, N68⟩ (by decide) (by decide)
        · have hfork := trivial
          refine own_go (fun t₀ k₀ => XS.ifNo X63.here hx rfl (Jvm.hb hby at_79) rfl (XT.i0_eq_f c64) k₀) ?_
          show Gm p e below T63 m 82 #[iv p0, iv p1, iv p2, iv p3, iv p4, iv (3 : Int32), rv b48, iv (-1 : Int32), iv p3, iv (-1 : Int32), .unset] [] _
          refine own_go (fun t₀ k₀ => XS.aload X63.here hx rfl (Jvm.hb hby at_82) rfl rfl k₀) ?_
          show Gm p e below T63 m 84 #[iv p0, iv p1, iv p2, iv p3, iv p4, iv (3 : Int32), rv b48, iv (-1 : Int32), iv p3, iv (-1 : Int32), .unset] [(.ref b48)] _
          have f70 := (Fld.other W63 Fc_exit49 (Or.inl ne_b48_exit49))
          obtain ⟨T71, X71, e71, st71⟩ := getF X63 hx hZ hown (host := "") (Or.inl (hw _ (List.mem_of_getElem? (i := 47) rfl))) Via.refl e63 f70 (g := (mkF m 84 #[iv p0, iv p1, iv p2, iv p3, iv p4, iv (3 : Int32), rv b48, iv (-1 : Int32), iv p3, iv (-1 : Int32), .unset] [(.ref b48)])) rfl rfl (Jvm.hb hby at_84)
          refine own_go st71 ?_
          show Gm p e below T71 m 87 #[iv p0, iv p1, iv p2, iv p3, iv p4, iv (3 : Int32), rv b48, iv (-1 : Int32), iv p3, iv (-1 : Int32), .unset] [(.ref exit49)] _
          refine own_go (fun t₀ k₀ => XS.iconst X71.here hx rfl (Jvm.hb hby at_87) k₀) ?_
          show Gm p e below T71 m 88 #[iv p0, iv p1, iv p2, iv p3, iv p4, iv (3 : Int32), rv b48, iv (-1 : Int32), iv p3, iv (-1 : Int32), .unset] [(.int (2 : Int32)), (.ref exit49)] _
          refine own_go (fun t₀ k₀ => XS.iload X71.here hx rfl (Jvm.hb hby at_88) rfl k₀) ?_
          show Gm p e below T71 m 90 #[iv p0, iv p1, iv p2, iv p3, iv p4, iv (3 : Int32), rv b48, iv (-1 : Int32), iv p3, iv (-1 : Int32), .unset] [(.int p4), (.int (2 : Int32)), (.ref exit49)] _
          obtain ⟨T72, h72, X72, e72, W72, A72, st72⟩ := own_stI X71 hx hZ e71 A63 (j := (2 : Int32)) (k := 2) (by decide) rfl (by decide) (g := (mkF m 90 #[iv p0, iv p1, iv p2, iv p3, iv p4, iv (3 : Int32), rv b48, iv (-1 : Int32), iv p3, iv (-1 : Int32), .unset] [(.int p4), (.int (2 : Int32)), (.ref exit49)])) rfl rfl (Jvm.hb hby at_90)
          have N72 := Fr.snoc X72 N63 g_exit49
          have Z72 : n0 ≤ h72.size := W72.size ▸ Z63
          refine own_go st72 ?_
          show Gm p e below T72 m 91 #[iv p0, iv p1, iv p2, iv p3, iv p4, iv (3 : Int32), rv b48, iv (-1 : Int32), iv p3, iv (-1 : Int32), .unset] [] _
          refine own_go (fun t₀ k₀ => XS.iload X72.here hx rfl (Jvm.hb hby at_91) rfl k₀) ?_
          show Gm p e below T72 m 93 #[iv p0, iv p1, iv p2, iv p3, iv p4, iv (3 : Int32), rv b48, iv (-1 : Int32), iv p3, iv (-1 : Int32), .unset] [(.int p4)] _
          refine own_go (fun t₀ k₀ => XS.istore X72.here hx rfl (Jvm.hb hby at_93) rfl (l' := #[iv p0, iv p1, iv p2, iv p3, iv p4, iv (3 : Int32), rv b48, iv (-1 : Int32), iv p3, iv p4, .unset]) rfl k₀) ?_
          show Gm p e below T72 m 95 #[iv p0, iv p1, iv p2, iv p3, iv p4, iv (3 : Int32), rv b48, iv (-1 : Int32), iv p3, iv p4, .unset] [] _
          refine own_go (fun t₀ k₀ => XS.iconst X72.here hx rfl (Jvm.hb hby at_95) k₀) ?_
          show Gm p e below T72 m 96 #[iv p0, iv p1, iv p2, iv p3, iv p4, iv (3 : Int32), rv b48, iv (-1 : Int32), iv p3, iv p4, .unset] [(.int (0 : Int32))] _
          refine own_go (fun t₀ k₀ => XS.istore X72.here hx rfl (Jvm.hb hby at_96) rfl (l' := #[iv p0, iv p1, iv p2, iv p3, iv p4, iv (3 : Int32), rv b48, iv (-1 : Int32), iv p3, iv p4, iv (0 : Int32)]) rfl k₀) ?_
          obtain ⟨z73, hz73, k73⟩ : ∃ z : Int32, z = (if p3 < (0 : Int32) then if p4 < (0 : Int32) then (1 : Int32) else ((1 : Int32)) else (if p4 < (0 : Int32) then (1 : Int32) else ((1 : Int32)))) ∧ ∀ P, Go p e below (T72.setTop (mkF m 139 #[iv p0, iv p1, iv p2, iv p3, iv p4, iv (3 : Int32), rv b48, iv (-1 : Int32), iv p3, iv p4, iv z] [])) P → Go p e below (T72.setTop (mkF m 98 #[iv p0, iv p1, iv p2, iv p3, iv p4, iv (3 : Int32), rv b48, iv (-1 : Int32), iv p3, iv p4, iv (0 : Int32)] [])) P := by
            refine ⟨_, rfl, fun P kP => ?_⟩
            show Gm p e below T72 m 98 #[iv p0, iv p1, iv p2, iv p3, iv p4, iv (3 : Int32), rv b48, iv (-1 : Int32), iv p3, iv p4, iv (0 : Int32)] [] _
            refine own_go (fun t₀ k₀ => XS.iload X72.here hx rfl (Jvm.hb hby at_98) rfl k₀) ?_
            show Gm p e below T72 m 100 #[iv p0, iv p1, iv p2, iv p3, iv p4, iv (3 : Int32), rv b48, iv (-1 : Int32), iv p3, iv p4, iv (0 : Int32)] [(.int (3 : Int32))] _
            refine own_go (fun t₀ k₀ => XS.ifNo X72.here hx rfl (Jvm.hb hby at_100) rfl (XT.i0_le_f (by decide)) k₀) ?_
            show Gm p e below T72 m 103 #[iv p0, iv p1, iv p2, iv p3, iv p4, iv (3 : Int32), rv b48, iv (-1 : Int32), iv p3, iv p4, iv (0 : Int32)] [] _
            refine own_go (fun t₀ k₀ => XS.iload X72.here hx rfl (Jvm.hb hby at_103) rfl k₀) ?_
            show Gm p e below T72 m 105 #[iv p0, iv p1, iv p2, iv p3, iv p4, iv (3 : Int32), rv b48, iv (-1 : Int32), iv p3, iv p4, iv (0 : Int32)] [(.int (-1 : Int32))] _
            refine own_go (fun t₀ k₀ => XS.ifNo X72.here hx rfl (Jvm.hb hby at_105) rfl (XT.i0_ge_f (by decide)) k₀) ?_
            show Gm p e below T72 m 108 #[iv p0, iv p1, iv p2, iv p3, iv p4, iv (3 : Int32), rv b48, iv (-1 : Int32), iv p3, iv p4, iv (0 : Int32)] [] _
            refine own_go (fun t₀ k₀ => XS.iconst X72.here hx rfl (Jvm.hb hby at_108) k₀) ?_
            show Gm p e below T72 m 109 #[iv p0, iv p1, iv p2, iv p3, iv p4, iv (3 : Int32), rv b48, iv (-1 : Int32), iv p3, iv p4, iv (0 : Int32)] [(.int (1 : Int32))] _
            refine own_go (fun t₀ k₀ => XS.istore X72.here hx rfl (Jvm.hb hby at_109) rfl (l' := #[iv p0, iv p1, iv p2, iv p3, iv p4, iv (3 : Int32), rv b48, iv (-1 : Int32), iv p3, iv p4, iv (1 : Int32)]) rfl k₀) ?_
            show Gm p e below T72 m 111 #[iv p0, iv p1, iv p2, iv p3, iv p4, iv (3 : Int32), rv b48, iv (-1 : Int32), iv p3, iv p4, iv (1 : Int32)] [] _
            refine own_go (fun t₀ k₀ => XS.iload X72.here hx rfl (Jvm.hb hby at_111) rfl k₀) ?_
            show Gm p e below T72 m 113 #[iv p0, iv p1, iv p2, iv p3, iv p4, iv (3 : Int32), rv b48, iv (-1 : Int32), iv p3, iv p4, iv (1 : Int32)] [(.int (3 : Int32))] _
            refine own_go (fun t₀ k₀ => XS.iconst X72.here hx rfl (Jvm.hb hby at_113) k₀) ?_
            show Gm p e below T72 m 114 #[iv p0, iv p1, iv p2, iv p3, iv p4, iv (3 : Int32), rv b48, iv (-1 : Int32), iv p3, iv p4, iv (1 : Int32)] [(.int (1 : Int32)), (.int (3 : Int32))] _
            refine own_go (fun t₀ k₀ => XS.icmpNo X72.here hx rfl (Jvm.hb hby at_114) rfl (XT.ii_le_f (by decide)) k₀) ?_
            show Gm p e below T72 m 117 #[iv p0, iv p1, iv p2, iv p3, iv p4, iv (3 : Int32), rv b48, iv (-1 : Int32), iv p3, iv p4, iv (1 : Int32)] [] _
            refine own_go (fun t₀ k₀ => XS.iload X72.here hx rfl (Jvm.hb hby at_117) rfl k₀) ?_
            show Gm p e below T72 m 119 #[iv p0, iv p1, iv p2, iv p3, iv p4, iv (3 : Int32), rv b48, iv (-1 : Int32), iv p3, iv p4, iv (1 : Int32)] [(.int p3)] _
            by_cases c74 : p3 < (0 : Int32)
            · have hfork := trivial
              refine own_go (fun t₀ k₀ => XS.ifNo X72.here hx rfl (Jvm.hb hby at_119) rfl (XT.i0_ge_f c74) k₀) ?_
              show Gm p e below T72 m 122 #[iv p0, iv p1, iv p2, iv p3, iv p4, iv (3 : Int32), rv b48, iv (-1 : Int32), iv p3, iv p4, iv (1 : Int32)] [] _
              refine own_go (fun t₀ k₀ => XS.iconst X72.here hx rfl (Jvm.hb hby at_122) k₀) ?_
              show Gm p e below T72 m 123 #[iv p0, iv p1, iv p2, iv p3, iv p4, iv (3 : Int32), rv b48, iv (-1 : Int32), iv p3, iv p4, iv (1 : Int32)] [(.int (1 : Int32))] _
              refine own_go (fun t₀ k₀ => XS.istore X72.here hx rfl (Jvm.hb hby at_123) rfl (l' := #[iv p0, iv p1, iv p2, iv p3, iv p4, iv (3 : Int32), rv b48, iv (-1 : Int32), iv p3, iv p4, iv (1 : Int32)]) rfl k₀) ?_
              show Gm p e below T72 m 125 #[iv p0, iv p1, iv p2, iv p3, iv p4, iv (3 : Int32), rv b48, iv (-1 : Int32), iv p3, iv p4, iv (1 : Int32)] [] _
              refine own_go (fun t₀ k₀ => XS.iload X72.here hx rfl (Jvm.hb hby at_125) rfl k₀) ?_
              show Gm p e below T72 m 127 #[iv p0, iv p1, iv p2, iv p3, iv p4, iv (3 : Int32), rv b48, iv (-1 : Int32), iv p3, iv p4, iv (1 : Int32)] [(.int (3 : Int32))] _
              refine own_go (fun t₀ k₀ => XS.iconst X72.here hx rfl (Jvm.hb hby at_127) k₀) ?_
              show Gm p e below T72 m 128 #[iv p0, iv p1, iv p2, iv p3, iv p4, iv (3 : Int32), rv b48, iv (-1 : Int32), iv p3, iv p4, iv (1 : Int32)] [(.int (2 : Int32)), (.int (3 : Int32))] _
              refine own_go (fun t₀ k₀ => XS.icmpNo X72.here hx rfl (Jvm.hb hby at_128) rfl (XT.ii_le_f (by decide)) k₀) ?_
              show Gm p e below T72 m 131 #[iv p0, iv p1, iv p2, iv p3, iv p4, iv (3 : Int32), rv b48, iv (-1 : Int32), iv p3, iv p4, iv (1 : Int32)] [] _
              refine own_go (fun t₀ k₀ => XS.iload X72.here hx rfl (Jvm.hb hby at_131) rfl k₀) ?_
              show Gm p e below T72 m 133 #[iv p0, iv p1, iv p2, iv p3, iv p4, iv (3 : Int32), rv b48, iv (-1 : Int32), iv p3, iv p4, iv (1 : Int32)] [(.int p4)] _
              by_cases c75 : p4 < (0 : Int32)
              · have hfork := trivial
                refine own_go (fun t₀ k₀ => XS.ifNo X72.here hx rfl (Jvm.hb hby at_133) rfl (XT.i0_ge_f c75) k₀) ?_
                show Gm p e below T72 m 136 #[iv p0, iv p1, iv p2, iv p3, iv p4, iv (3 : Int32), rv b48, iv (-1 : Int32), iv p3, iv p4, iv (1 : Int32)] [] _
                refine own_go (fun t₀ k₀ => XS.iconst X72.here hx rfl (Jvm.hb hby at_136) k₀) ?_
                show Gm p e below T72 m 137 #[iv p0, iv p1, iv p2, iv p3, iv p4, iv (3 : Int32), rv b48, iv (-1 : Int32), iv p3, iv p4, iv (1 : Int32)] [(.int (1 : Int32))] _
                refine own_go (fun t₀ k₀ => XS.istore X72.here hx rfl (Jvm.hb hby at_137) rfl (l' := #[iv p0, iv p1, iv p2, iv p3, iv p4, iv (3 : Int32), rv b48, iv (-1 : Int32), iv p3, iv p4, iv (1 : Int32)]) rfl k₀) ?_
                rw [if_pos c74, if_pos c75] at kP
                exact kP
              · have hfork := trivial
                refine own_go (fun t₀ k₀ => XS.ifYes X72.here hx rfl (pc0 := 133) (pc' := 139) rfl (Jvm.hb hby at_133) rfl (XT.i0_ge_t c75) (by decide) (by decide) k₀) ?_
                rw [if_pos c74, if_neg c75] at kP
                exact kP
            · have hfork := trivial
              refine own_go (fun t₀ k₀ => XS.ifYes X72.here hx rfl (pc0 := 119) (pc' := 125) rfl (Jvm.hb hby at_119) rfl (XT.i0_ge_t c74) (by decide) (by decide) k₀) ?_
              show Gm p e below T72 m 125 #[iv p0, iv p1, iv p2, iv p3, iv p4, iv (3 : Int32), rv b48, iv (-1 : Int32), iv p3, iv p4, iv (1 : Int32)] [] _
              refine own_go (fun t₀ k₀ => XS.iload X72.here hx rfl (Jvm.hb hby at_125) rfl k₀) ?_
              show Gm p e below T72 m 127 #[iv p0, iv p1, iv p2, iv p3, iv p4, iv (3 : Int32), rv b48, iv (-1 : Int32), iv p3, iv p4, iv (1 : Int32)] [(.int (3 : Int32))] _
              refine own_go (fun t₀ k₀ => XS.iconst X72.here hx rfl (Jvm.hb hby at_127) k₀) ?_
              show Gm p e below T72 m 128 #[iv p0, iv p1, iv p2, iv p3, iv p4, iv (3 : Int32), rv b48, iv (-1 : Int32), iv p3, iv p4, iv (1 : Int32)] [(.int (2 : Int32)), (.int (3 : Int32))] _
              refine own_go (fun t₀ k₀ => XS.icmpNo X72.here hx rfl (Jvm.hb hby at_128) rfl (XT.ii_le_f (by decide)) k₀) ?_
              show Gm p e below T72 m 131 #[iv p0, iv p1, iv p2, iv p3, iv p4, iv (3 : Int32), rv b48, iv (-1 : Int32), iv p3, iv p4, iv (1 : Int32)] [] _
              refine own_go (fun t₀ k₀ => XS.iload X72.here hx rfl (Jvm.hb hby at_131) rfl k₀) ?_
              show Gm p e below T72 m 133 #[iv p0, iv p1, iv p2, iv p3, iv p4, iv (3 : Int32), rv b48, iv (-1 : Int32), iv p3, iv p4, iv (1 : Int32)] [(.int p4)] _
              by_cases c76 : p4 < (0 : Int32)
              · have hfork := trivial
                refine own_go (fun t₀ k₀ => XS.ifNo X72.here hx rfl (Jvm.hb hby at_133) rfl (XT.i0_ge_f c76) k₀) ?_
                show Gm p e below T72 m 136 #[iv p0, iv p1, iv p2, iv p3, iv p4, iv (3 : Int32), rv b48, iv (-1 : Int32), iv p3, iv p4, iv (1 : Int32)] [] _
                refine own_go (fun t₀ k₀ => XS.iconst X72.here hx rfl (Jvm.hb hby at_136) k₀) ?_
                show Gm p e below T72 m 137 #[iv p0, iv p1, iv p2, iv p3, iv p4, iv (3 : Int32), rv b48, iv (-1 : Int32), iv p3, iv p4, iv (1 : Int32)] [(.int (1 : Int32))] _
                refine own_go (fun t₀ k₀ => XS.istore X72.here hx rfl (Jvm.hb hby at_137) rfl (l' := #[iv p0, iv p1, iv p2, iv p3, iv p4, iv (3 : Int32), rv b48, iv (-1 : Int32), iv p3, iv p4, iv (1 : Int32)]) rfl k₀) ?_
                rw [if_neg c74, if_pos c76] at kP
                exact kP
              · have hfork := trivial
                refine own_go (fun t₀ k₀ => XS.ifYes X72.here hx rfl (pc0 := 133) (pc' := 139) rfl (Jvm.hb hby at_133) rfl (XT.i0_ge_t c76) (by decide) (by decide) k₀) ?_
                rw [if_neg c74, if_neg c76] at kP
                exact kP
          refine k73 _ ?_
          show Gm p e below T72 m 139 #[iv p0, iv p1, iv p2, iv p3, iv p4, iv (3 : Int32), rv b48, iv (-1 : Int32), iv p3, iv p4, iv z73] [] _
          refine own_go (fun t₀ k₀ => XS.aload X72.here hx rfl (Jvm.hb hby at_139) rfl rfl k₀) ?_
          show Gm p e below T72 m 141 #[iv p0, iv p1, iv p2, iv p3, iv p4, iv (3 : Int32), rv b48, iv (-1 : Int32), iv p3, iv p4, iv z73] [(.ref b48)] _
          have f77 := (Fld.other W72 f70 (Or.inl ne_b48_exit49))
          have f79 := ((Ec49.wr W63).wr W72)
          obtain ⟨cq78, kq78, q78a, q78b, q78c⟩ := isOf hZ e72 f79
          obtain ⟨_, _, ⟨T78, L78, k78, n78⟩, -, X78, ⟨Lc78, hQ78, l78, y78, z78⟩, st78⟩ := X72.virtualBack hx (y := (⟨"com/example/throughfare/throughfare/simulation/Walkers", "anyoneInside", "()Z"⟩ : MethodName)) (z := (⟨"com/example/throughfare/throughfare/simulation/Walkers", "anyoneInside", "()Z"⟩ : MethodName)) hown (mvT hZ (hw _ (List.mem_of_getElem? (i := 42) rfl))) (mvT hZ (hw _ (List.mem_of_getElem? (i := 43) rfl))) (notFace_of_selects (args := #[]) (mvT hZ (hw _ (List.mem_of_getElem? (i := 45) rfl)))) (mvT hZ (hw _ (List.mem_of_getElem? (i := 45) rfl))) (mvT hZ (hw _ (List.mem_of_getElem? (i := 44) rfl))) (by decide) (backOf (W := 0) (rm5_3 l Z a0 hw [] b48 exit49 (fun i => if i = 2 then (.int p4) else (fun i => if i = 1 then (.int p3) else (fun _ => (.int (-1 : Int32))) i) i) (-1 : Int32) p3 p4 h72 n0 Z72 f77 A72 rfl rfl rfl) hZ (hw _ (List.mem_of_getElem? (i := 46) rfl)) (hw _ (List.mem_of_getElem? (i := 2) rfl)) (by decide) (by decide)) q78a q78c (g := (mkF m 141 #[iv p0, iv p1, iv p2, iv p3, iv p4, iv (3 : Int32), rv b48, iv (-1 : Int32), iv p3, iv p4, iv z73] [(.ref b48)])) rfl (by rw [hml]; rfl) (Steps.refl _) (argsL := []) (rest := []) (lenOf own_pd3 rfl) rfl (by show 2 * 0 + _ ≤ _; exact Nat.le_of_eq rfl) (Jvm.hb hby at_141) (fun _ _ => ⟨rfl, e72, (by decide : 12 + 0 ≤ _), (by decide : 44 + 0 ≤ _)⟩)
          dsimp only [Pt.U, Pt.locs, Pt.cells, Pt.slots] at X78 l78 y78 z78 st78 hQ78
          subst l78 y78 z78
          obtain ⟨rfl, Nq78, eq78⟩ := hQ78
          have N78 := Fr.app N72 Nq78
          have e78 : T78.heap = h72 := eq78
          refine own_go (fun t k => st78.trans k) ?_
          show Gm p e below T78 m 144 #[iv p0, iv p1, iv p2, iv p3, iv p4, iv (3 : Int32), rv b48, iv (-1 : Int32), iv p3, iv p4, iv z73] [(.int (fA3 (-1 : Int32) p3 p4))] _
          refine own_go (fun t₀ k₀ => XS.iload X78.here hx rfl (Jvm.hb hby at_144) rfl k₀) ?_
          show Gm p e below T78 m 146 #[iv p0, iv p1, iv p2, iv p3, iv p4, iv (3 : Int32), rv b48, iv (-1 : Int32), iv p3, iv p4, iv z73] [(.int z73), (.int (fA3 (-1 : Int32) p3 p4))] _
          refine own_go (fun t₀ k₀ => XS.icmpNo X78.here hx rfl (Jvm.hb hby at_146) rfl (XT.ii_ne_f (by rw [hz73]; unfold fA3; first | rfl | (simp only [(by decide : ((-1 : Int32) < 0) = True), if_true]; done) | (simp only [(by decide : ((-1 : Int32) < 0) = True), if_true]; (repeat' split) <;> rfl) | ((repeat' split) <;> first | rfl | contradiction | (simp_all; done)))) k₀) ?_
          show Gm p e below T78 m 149 #[iv p0, iv p1, iv p2, iv p3, iv p4, iv (3 : Int32), rv b48, iv (-1 : Int32), iv p3, iv p4, iv z73] [] _
          refine own_go (fun t₀ k₀ => XS.iconst X78.here hx rfl (Jvm.hb hby at_149) k₀) ?_
          show Gm p e below T78 m 150 #[iv p0, iv p1, iv p2, iv p3, iv p4, iv (3 : Int32), rv b48, iv (-1 : Int32), iv p3, iv p4, iv z73] [(.int (1 : Int32))] _
          refine own_go (fun t₀ k₀ => XS.goto X78.here hx rfl (pc0 := 150) (pc' := 154) rfl (Jvm.hb hby at_150) (by decide) (by decide) k₀) ?_
          show Gm p e below T78 m 154 #[iv p0, iv p1, iv p2, iv p3, iv p4, iv (3 : Int32), rv b48, iv (-1 : Int32), iv p3, iv p4, iv z73] [(.int (1 : Int32))] _
          exact own_retI X78 hx hlk (t := .boolean) Bd.returns rfl (by simp) (Jvm.hb hby at_154) e78 ⟨rfl, N78⟩ (by decide) (by decide)
    · have hfork := trivial
      refine own_go (fun t₀ k₀ => XS.ifNo X49.here hx rfl (Jvm.hb hby at_33) rfl (XT.i0_eq_f c50) k₀) ?_
      show Gm p e below T49 m 36 #[iv p0, iv p1, iv p2, iv p3, iv p4, iv (3 : Int32), rv b48, iv (-1 : Int32), iv (-1 : Int32), iv (-1 : Int32), .unset] [] _
      refine own_go (fun t₀ k₀ => XS.aload X49.here hx rfl (Jvm.hb hby at_36) rfl rfl k₀) ?_
      show Gm p e below T49 m 38 #[iv p0, iv p1, iv p2, iv p3, iv p4, iv (3 : Int32), rv b48, iv (-1 : Int32), iv (-1 : Int32), iv (-1 : Int32), .unset] [(.ref b48)] _
      obtain ⟨T80, X80, e80, st80⟩ := getF X49 hx hZ hown (host := "") (Or.inl (hw _ (List.mem_of_getElem? (i := 47) rfl))) Via.refl rfl Fc_exit49 (g := (mkF m 38 #[iv p0, iv p1, iv p2, iv p3, iv p4, iv (3 : Int32), rv b48, iv (-1 : Int32), iv (-1 : Int32), iv (-1 : Int32), .unset] [(.ref b48)])) rfl rfl (Jvm.hb hby at_38)
      refine own_go st80 ?_
      show Gm p e below T80 m 41 #[iv p0, iv p1, iv p2, iv p3, iv p4, iv (3 : Int32), rv b48, iv (-1 : Int32), iv (-1 : Int32), iv (-1 : Int32), .unset] [(.ref exit49)] _
      refine own_go (fun t₀ k₀ => XS.iconst X80.here hx rfl (Jvm.hb hby at_41) k₀) ?_
      show Gm p e below T80 m 42 #[iv p0, iv p1, iv p2, iv p3, iv p4, iv (3 : Int32), rv b48, iv (-1 : Int32), iv (-1 : Int32), iv (-1 : Int32), .unset] [(.int (0 : Int32)), (.ref exit49)] _
      refine own_go (fun t₀ k₀ => XS.iloadN X80.here hx rfl (Jvm.hb hby at_42) rfl k₀) ?_
      show Gm p e below T80 m 43 #[iv p0, iv p1, iv p2, iv p3, iv p4, iv (3 : Int32), rv b48, iv (-1 : Int32), iv (-1 : Int32), iv (-1 : Int32), .unset] [(.int p2), (.int (0 : Int32)), (.ref exit49)] _
      obtain ⟨T81, h81, X81, e81, W81, A81, st81⟩ := own_stI X80 hx hZ e80 Ac_exit49 (j := (0 : Int32)) (k := 0) (by decide) rfl (by decide) (g := (mkF m 43 #[iv p0, iv p1, iv p2, iv p3, iv p4, iv (3 : Int32), rv b48, iv (-1 : Int32), iv (-1 : Int32), iv (-1 : Int32), .unset] [(.int p2), (.int (0 : Int32)), (.ref exit49)])) rfl rfl (Jvm.hb hby at_43)
      have N81 := Fr.snoc X81 N49 g_exit49
      have Z81 : n0 ≤ h81.size := W81.size ▸ Z49
      refine own_go st81 ?_
      show Gm p e below T81 m 44 #[iv p0, iv p1, iv p2, iv p3, iv p4, iv (3 : Int32), rv b48, iv (-1 : Int32), iv (-1 : Int32), iv (-1 : Int32), .unset] [] _
      refine own_go (fun t₀ k₀ => XS.iloadN X81.here hx rfl (Jvm.hb hby at_44) rfl k₀) ?_
      show Gm p e below T81 m 45 #[iv p0, iv p1, iv p2, iv p3, iv p4, iv (3 : Int32), rv b48, iv (-1 : Int32), iv (-1 : Int32), iv (-1 : Int32), .unset] [(.int p2)] _
      refine own_go (fun t₀ k₀ => XS.istore X81.here hx rfl (Jvm.hb hby at_45) rfl (l' := #[iv p0, iv p1, iv p2, iv p3, iv p4, iv (3 : Int32), rv b48, iv p2, iv (-1 : Int32), iv (-1 : Int32), .unset]) rfl k₀) ?_
      show Gm p e below T81 m 47 #[iv p0, iv p1, iv p2, iv p3, iv p4, iv (3 : Int32), rv b48, iv p2, iv (-1 : Int32), iv (-1 : Int32), .unset] [] _
      refine own_go (fun t₀ k₀ => XS.iload X81.here hx rfl (Jvm.hb hby at_47) rfl k₀) ?_
      show Gm p e below T81 m 49 #[iv p0, iv p1, iv p2, iv p3, iv p4, iv (3 : Int32), rv b48, iv p2, iv (-1 : Int32), iv (-1 : Int32), .unset] [(.int (3 : Int32))] _
      refine own_go (fun t₀ k₀ => XS.iconst X81.here hx rfl (Jvm.hb hby at_49) k₀) ?_
      show Gm p e below T81 m 50 #[iv p0, iv p1, iv p2, iv p3, iv p4, iv (3 : Int32), rv b48, iv p2, iv (-1 : Int32), iv (-1 : Int32), .unset] [(.int (1 : Int32)), (.int (3 : Int32))] _
      refine own_go (fun t₀ k₀ => XS.icmpNo X81.here hx rfl (Jvm.hb hby at_50) rfl (XT.ii_le_f (by decide)) k₀) ?_
      show Gm p e below T81 m 53 #[iv p0, iv p1, iv p2, iv p3, iv p4, iv (3 : Int32), rv b48, iv p2, iv (-1 : Int32), iv (-1 : Int32), .unset] [] _
      refine own_go (fun t₀ k₀ => XS.iloadN X81.here hx rfl (Jvm.hb hby at_53) rfl k₀) ?_
      show Gm p e below T81 m 54 #[iv p0, iv p1, iv p2, iv p3, iv p4, iv (3 : Int32), rv b48, iv p2, iv (-1 : Int32), iv (-1 : Int32), .unset] [(.int p1)] _
      refine own_go (fun t₀ k₀ => XS.iconst X81.here hx rfl (Jvm.hb hby at_54) k₀) ?_
      show Gm p e below T81 m 55 #[iv p0, iv p1, iv p2, iv p3, iv p4, iv (3 : Int32), rv b48, iv p2, iv (-1 : Int32), iv (-1 : Int32), .unset] [(.int (2 : Int32)), (.int p1)] _
      refine own_go (fun t₀ k₀ => XS.iand X81.here hx rfl (Jvm.hb hby at_55) rfl k₀) ?_
      show Gm p e below T81 m 56 #[iv p0, iv p1, iv p2, iv p3, iv p4, iv (3 : Int32), rv b48, iv p2, iv (-1 : Int32), iv (-1 : Int32), .unset] [(.int (p1 &&& (2 : Int32)))] _
      by_cases c82 : (p1 &&& (2 : Int32)) = (0 : Int32)
      · have hfork := trivial
        refine own_go (fun t₀ k₀ => XS.ifYes X81.here hx rfl (pc0 := 56) (pc' := 70) rfl (Jvm.hb hby at_56) rfl (XT.i0_eq_t c82) (by decide) (by decide) k₀) ?_
        show Gm p e below T81 m 70 #[iv p0, iv p1, iv p2, iv p3, iv p4, iv (3 : Int32), rv b48, iv p2, iv (-1 : Int32), iv (-1 : Int32), .unset] [] _
        refine own_go (fun t₀ k₀ => XS.iload X81.here hx rfl (Jvm.hb hby at_70) rfl k₀) ?_
        show Gm p e below T81 m 72 #[iv p0, iv p1, iv p2, iv p3, iv p4, iv (3 : Int32), rv b48, iv p2, iv (-1 : Int32), iv (-1 : Int32), .unset] [(.int (3 : Int32))] _
        refine own_go (fun t₀ k₀ => XS.iconst X81.here hx rfl (Jvm.hb hby at_72) k₀) ?_
        show Gm p e below T81 m 73 #[iv p0, iv p1, iv p2, iv p3, iv p4, iv (3 : Int32), rv b48, iv p2, iv (-1 : Int32), iv (-1 : Int32), .unset] [(.int (2 : Int32)), (.int (3 : Int32))] _
        refine own_go (fun t₀ k₀ => XS.icmpNo X81.here hx rfl (Jvm.hb hby at_73) rfl (XT.ii_le_f (by decide)) k₀) ?_
        show Gm p e below T81 m 76 #[iv p0, iv p1, iv p2, iv p3, iv p4, iv (3 : Int32), rv b48, iv p2, iv (-1 : Int32), iv (-1 : Int32), .unset] [] _
        refine own_go (fun t₀ k₀ => XS.iloadN X81.here hx rfl (Jvm.hb hby at_76) rfl k₀) ?_
        show Gm p e below T81 m 77 #[iv p0, iv p1, iv p2, iv p3, iv p4, iv (3 : Int32), rv b48, iv p2, iv (-1 : Int32), iv (-1 : Int32), .unset] [(.int p1)] _
        refine own_go (fun t₀ k₀ => XS.iconst X81.here hx rfl (Jvm.hb hby at_77) k₀) ?_
        show Gm p e below T81 m 78 #[iv p0, iv p1, iv p2, iv p3, iv p4, iv (3 : Int32), rv b48, iv p2, iv (-1 : Int32), iv (-1 : Int32), .unset] [(.int (4 : Int32)), (.int p1)] _
        refine own_go (fun t₀ k₀ => XS.iand X81.here hx rfl (Jvm.hb hby at_78) rfl k₀) ?_
        show Gm p e below T81 m 79 #[iv p0, iv p1, iv p2, iv p3, iv p4, iv (3 : Int32), rv b48, iv p2, iv (-1 : Int32), iv (-1 : Int32), .unset] [(.int (p1 &&& (4 : Int32)))] _
        by_cases c83 : (p1 &&& (4 : Int32)) = (0 : Int32)
        · have hfork := trivial
          refine own_go (fun t₀ k₀ => XS.ifYes X81.here hx rfl (pc0 := 79) (pc' := 95) rfl (Jvm.hb hby at_79) rfl (XT.i0_eq_t c83) (by decide) (by decide) k₀) ?_
          show Gm p e below T81 m 95 #[iv p0, iv p1, iv p2, iv p3, iv p4, iv (3 : Int32), rv b48, iv p2, iv (-1 : Int32), iv (-1 : Int32), .unset] [] _
          refine own_go (fun t₀ k₀ => XS.iconst X81.here hx rfl (Jvm.hb hby at_95) k₀) ?_
          show Gm p e below T81 m 96 #[iv p0, iv p1, iv p2, iv p3, iv p4, iv (3 : Int32), rv b48, iv p2, iv (-1 : Int32), iv (-1 : Int32), .unset] [(.int (0 : Int32))] _
          refine own_go (fun t₀ k₀ => XS.istore X81.here hx rfl (Jvm.hb hby at_96) rfl (l' := #[iv p0, iv p1, iv p2, iv p3, iv p4, iv (3 : Int32), rv b48, iv p2, iv (-1 : Int32), iv (-1 : Int32), iv (0 : Int32)]) rfl k₀) ?_
          obtain ⟨z84, hz84, k84⟩ : ∃ z : Int32, z = (if p2 < (0 : Int32) then (1 : Int32) else ((1 : Int32))) ∧ ∀ P, Go p e below (T81.setTop (mkF m 139 #[iv p0, iv p1, iv p2, iv p3, iv p4, iv (3 : Int32), rv b48, iv p2, iv (-1 : Int32), iv (-1 : Int32), iv z] [])) P → Go p e below (T81.setTop (mkF m 98 #[iv p0, iv p1, iv p2, iv p3, iv p4, iv (3 : Int32), rv b48, iv p2, iv (-1 : Int32), iv (-1 : Int32), iv (0 : Int32)] [])) P := by
            refine ⟨_, rfl, fun P kP => ?_⟩
            show Gm p e below T81 m 98 #[iv p0, iv p1, iv p2, iv p3, iv p4, iv (3 : Int32), rv b48, iv p2, iv (-1 : Int32), iv (-1 : Int32), iv (0 : Int32)] [] _
            refine own_go (fun t₀ k₀ => XS.iload X81.here hx rfl (Jvm.hb hby at_98) rfl k₀) ?_
            show Gm p e below T81 m 100 #[iv p0, iv p1, iv p2, iv p3, iv p4, iv (3 : Int32), rv b48, iv p2, iv (-1 : Int32), iv (-1 : Int32), iv (0 : Int32)] [(.int (3 : Int32))] _
            refine own_go (fun t₀ k₀ => XS.ifNo X81.here hx rfl (Jvm.hb hby at_100) rfl (XT.i0_le_f (by decide)) k₀) ?_
            show Gm p e below T81 m 103 #[iv p0, iv p1, iv p2, iv p3, iv p4, iv (3 : Int32), rv b48, iv p2, iv (-1 : Int32), iv (-1 : Int32), iv (0 : Int32)] [] _
            refine own_go (fun t₀ k₀ => XS.iload X81.here hx rfl (Jvm.hb hby at_103) rfl k₀) ?_
            show Gm p e below T81 m 105 #[iv p0, iv p1, iv p2, iv p3, iv p4, iv (3 : Int32), rv b48, iv p2, iv (-1 : Int32), iv (-1 : Int32), iv (0 : Int32)] [(.int p2)] _
            by_cases c85 : p2 < (0 : Int32)
            · have hfork := trivial
              refine own_go (fun t₀ k₀ => XS.ifNo X81.here hx rfl (Jvm.hb hby at_105) rfl (XT.i0_ge_f c85) k₀) ?_
              show Gm p e below T81 m 108 #[iv p0, iv p1, iv p2, iv p3, iv p4, iv (3 : Int32), rv b48, iv p2, iv (-1 : Int32), iv (-1 : Int32), iv (0 : Int32)] [] _
              refine own_go (fun t₀ k₀ => XS.iconst X81.here hx rfl (Jvm.hb hby at_108) k₀) ?_
              show Gm p e below T81 m 109 #[iv p0, iv p1, iv p2, iv p3, iv p4, iv (3 : Int32), rv b48, iv p2, iv (-1 : Int32), iv (-1 : Int32), iv (0 : Int32)] [(.int (1 : Int32))] _
              refine own_go (fun t₀ k₀ => XS.istore X81.here hx rfl (Jvm.hb hby at_109) rfl (l' := #[iv p0, iv p1, iv p2, iv p3, iv p4, iv (3 : Int32), rv b48, iv p2, iv (-1 : Int32), iv (-1 : Int32), iv (1 : Int32)]) rfl k₀) ?_
              show Gm p e below T81 m 111 #[iv p0, iv p1, iv p2, iv p3, iv p4, iv (3 : Int32), rv b48, iv p2, iv (-1 : Int32), iv (-1 : Int32), iv (1 : Int32)] [] _
              refine own_go (fun t₀ k₀ => XS.iload X81.here hx rfl (Jvm.hb hby at_111) rfl k₀) ?_
              show Gm p e below T81 m 113 #[iv p0, iv p1, iv p2, iv p3, iv p4, iv (3 : Int32), rv b48, iv p2, iv (-1 : Int32), iv (-1 : Int32), iv (1 : Int32)] [(.int (3 : Int32))] _
              refine own_go (fun t₀ k₀ => XS.iconst X81.here hx rfl (Jvm.hb hby at_113) k₀) ?_
              show Gm p e below T81 m 114 #[iv p0, iv p1, iv p2, iv p3, iv p4, iv (3 : Int32), rv b48, iv p2, iv (-1 : Int32), iv (-1 : Int32), iv (1 : Int32)] [(.int (1 : Int32)), (.int (3 : Int32))] _
              refine own_go (fun t₀ k₀ => XS.icmpNo X81.here hx rfl (Jvm.hb hby at_114) rfl (XT.ii_le_f (by decide)) k₀) ?_
              show Gm p e below T81 m 117 #[iv p0, iv p1, iv p2, iv p3, iv p4, iv (3 : Int32), rv b48, iv p2, iv (-1 : Int32), iv (-1 : Int32), iv (1 : Int32)] [] _
              refine own_go (fun t₀ k₀ => XS.iload X81.here hx rfl (Jvm.hb hby at_117) rfl k₀) ?_
              show Gm p e below T81 m 119 #[iv p0, iv p1, iv p2, iv p3, iv p4, iv (3 : Int32), rv b48, iv p2, iv (-1 : Int32), iv (-1 : Int32), iv (1 : Int32)] [(.int (-1 : Int32))] _
              refine own_go (fun t₀ k₀ => XS.ifNo X81.here hx rfl (Jvm.hb hby at_119) rfl (XT.i0_ge_f (by decide)) k₀) ?_
              show Gm p e below T81 m 122 #[iv p0, iv p1, iv p2, iv p3, iv p4, iv (3 : Int32), rv b48, iv p2, iv (-1 : Int32), iv (-1 : Int32), iv (1 : Int32)] [] _
              refine own_go (fun t₀ k₀ => XS.iconst X81.here hx rfl (Jvm.hb hby at_122) k₀) ?_
              show Gm p e below T81 m 123 #[iv p0, iv p1, iv p2, iv p3, iv p4, iv (3 : Int32), rv b48, iv p2, iv (-1 : Int32), iv (-1 : Int32), iv (1 : Int32)] [(.int (1 : Int32))] _
              refine own_go (fun t₀ k₀ => XS.istore X81.here hx rfl (Jvm.hb hby at_123) rfl (l' := #[iv p0, iv p1, iv p2, iv p3, iv p4, iv (3 : Int32), rv b48, iv p2, iv (-1 : Int32), iv (-1 : Int32), iv (1 : Int32)]) rfl k₀) ?_
              show Gm p e below T81 m 125 #[iv p0, iv p1, iv p2, iv p3, iv p4, iv (3 : Int32), rv b48, iv p2, iv (-1 : Int32), iv (-1 : Int32), iv (1 : Int32)] [] _
              refine own_go (fun t₀ k₀ => XS.iload X81.here hx rfl (Jvm.hb hby at_125) rfl k₀) ?_
              show Gm p e below T81 m 127 #[iv p0, iv p1, iv p2, iv p3, iv p4, iv (3 : Int32), rv b48, iv p2, iv (-1 : Int32), iv (-1 : Int32), iv (1 : Int32)] [(.int (3 : Int32))] _
              refine own_go (fun t₀ k₀ => XS.iconst X81.here hx rfl (Jvm.hb hby at_127) k₀) ?_
              show Gm p e below T81 m 128 #[iv p0, iv p1, iv p2, iv p3, iv p4, iv (3 : Int32), rv b48, iv p2, iv (-1 : Int32), iv (-1 : Int32), iv (1 : Int32)] [(.int (2 : Int32)), (.int (3 : Int32))] _
              refine own_go (fun t₀ k₀ => XS.icmpNo X81.here hx rfl (Jvm.hb hby at_128) rfl (XT.ii_le_f (by decide)) k₀) ?_
              show Gm p e below T81 m 131 #[iv p0, iv p1, iv p2, iv p3, iv p4, iv (3 : Int32), rv b48, iv p2, iv (-1 : Int32), iv (-1 : Int32), iv (1 : Int32)] [] _
              refine own_go (fun t₀ k₀ => XS.iload X81.here hx rfl (Jvm.hb hby at_131) rfl k₀) ?_
              show Gm p e below T81 m 133 #[iv p0, iv p1, iv p2, iv p3, iv p4, iv (3 : Int32), rv b48, iv p2, iv (-1 : Int32), iv (-1 : Int32), iv (1 : Int32)] [(.int (-1 : Int32))] _
              refine own_go (fun t₀ k₀ => XS.ifNo X81.here hx rfl (Jvm.hb hby at_133) rfl (XT.i0_ge_f (by decide)) k₀) ?_
              show Gm p e below T81 m 136 #[iv p0, iv p1, iv p2, iv p3, iv p4, iv (3 : Int32), rv b48, iv p2, iv (-1 : Int32), iv (-1 : Int32), iv (1 : Int32)] [] _
              refine own_go (fun t₀ k₀ => XS.iconst X81.here hx rfl (Jvm.hb hby at_136) k₀) ?_
              show Gm p e below T81 m 137 #[iv p0, iv p1, iv p2, iv p3, iv p4, iv (3 : Int32), rv b48, iv p2, iv (-1 : Int32), iv (-1 : Int32), iv (1 : Int32)] [(.int (1 : Int32))] _
              refine own_go (fun t₀ k₀ => XS.istore X81.here hx rfl (Jvm.hb hby at_137) rfl (l' := #[iv p0, iv p1, iv p2, iv p3, iv p4, iv (3 : Int32), rv b48, iv p2, iv (-1 : Int32), iv (-1 : Int32), iv (1 : Int32)]) rfl k₀) ?_
              rw [if_pos c85] at kP
              exact kP
            · have hfork := trivial
              refine own_go (fun t₀ k₀ => XS.ifYes X81.here hx rfl (pc0 := 105) (pc' := 111) rfl (Jvm.hb hby at_105) rfl (XT.i0_ge_t c85) (by decide) (by decide) k₀) ?_
              show Gm p e below T81 m 111 #[iv p0, iv p1, iv p2, iv p3, iv p4, iv (3 : Int32), rv b48, iv p2, iv (-1 : Int32), iv (-1 : Int32), iv (0 : Int32)] [] _
              refine own_go (fun t₀ k₀ => XS.iload X81.here hx rfl (Jvm.hb hby at_111) rfl k₀) ?_
              show Gm p e below T81 m 113 #[iv p0, iv p1, iv p2, iv p3, iv p4, iv (3 : Int32), rv b48, iv p2, iv (-1 : Int32), iv (-1 : Int32), iv (0 : Int32)] [(.int (3 : Int32))] _
              refine own_go (fun t₀ k₀ => XS.iconst X81.here hx rfl (Jvm.hb hby at_113) k₀) ?_
              show Gm p e below T81 m 114 #[iv p0, iv p1, iv p2, iv p3, iv p4, iv (3 : Int32), rv b48, iv p2, iv (-1 : Int32), iv (-1 : Int32), iv (0 : Int32)] [(.int (1 : Int32)), (.int (3 : Int32))] _
              refine own_go (fun t₀ k₀ => XS.icmpNo X81.here hx rfl (Jvm.hb hby at_114) rfl (XT.ii_le_f (by decide)) k₀) ?_
              show Gm p e below T81 m 117 #[iv p0, iv p1, iv p2, iv p3, iv p4, iv (3 : Int32), rv b48, iv p2, iv (-1 : Int32), iv (-1 : Int32), iv (0 : Int32)] [] _
              refine own_go (fun t₀ k₀ => XS.iload X81.here hx rfl (Jvm.hb hby at_117) rfl k₀) ?_
              show Gm p e below T81 m 119 #[iv p0, iv p1, iv p2, iv p3, iv p4, iv (3 : Int32), rv b48, iv p2, iv (-1 : Int32), iv (-1 : Int32), iv (0 : Int32)] [(.int (-1 : Int32))] _
              refine own_go (fun t₀ k₀ => XS.ifNo X81.here hx rfl (Jvm.hb hby at_119) rfl (XT.i0_ge_f (by decide)) k₀) ?_
              show Gm p e below T81 m 122 #[iv p0, iv p1, iv p2, iv p3, iv p4, iv (3 : Int32), rv b48, iv p2, iv (-1 : Int32), iv (-1 : Int32), iv (0 : Int32)] [] _
              refine own_go (fun t₀ k₀ => XS.iconst X81.here hx rfl (Jvm.hb hby at_122) k₀) ?_
              show Gm p e below T81 m 123 #[iv p0, iv p1, iv p2, iv p3, iv p4, iv (3 : Int32), rv b48, iv p2, iv (-1 : Int32), iv (-1 : Int32), iv (0 : Int32)] [(.int (1 : Int32))] _
              refine own_go (fun t₀ k₀ => XS.istore X81.here hx rfl (Jvm.hb hby at_123) rfl (l' := #[iv p0, iv p1, iv p2, iv p3, iv p4, iv (3 : Int32), rv b48, iv p2, iv (-1 : Int32), iv (-1 : Int32), iv (1 : Int32)]) rfl k₀) ?_
              show Gm p e below T81 m 125 #[iv p0, iv p1, iv p2, iv p3, iv p4, iv (3 : Int32), rv b48, iv p2, iv (-1 : Int32), iv (-1 : Int32), iv (1 : Int32)] [] _
              refine own_go (fun t₀ k₀ => XS.iload X81.here hx rfl (Jvm.hb hby at_125) rfl k₀) ?_
              show Gm p e below T81 m 127 #[iv p0, iv p1, iv p2, iv p3, iv p4, iv (3 : Int32), rv b48, iv p2, iv (-1 : Int32), iv (-1 : Int32), iv (1 : Int32)] [(.int (3 : Int32))] _
              refine own_go (fun t₀ k₀ => XS.iconst X81.here hx rfl (Jvm.hb hby at_127) k₀) ?_
              show Gm p e below T81 m 128 #[iv p0, iv p1, iv p2, iv p3, iv p4, iv (3 : Int32), rv b48, iv p2, iv (-1 : Int32), iv (-1 : Int32), iv (1 : Int32)] [(.int (2 : Int32)), (.int (3 : Int32))] _
              refine own_go (fun t₀ k₀ => XS.icmpNo X81.here hx rfl (Jvm.hb hby at_128) rfl (XT.ii_le_f (by decide)) k₀) ?_
              show Gm p e below T81 m 131 #[iv p0, iv p1, iv p2, iv p3, iv p4, iv (3 : Int32), rv b48, iv p2, iv (-1 : Int32), iv (-1 : Int32), iv (1 : Int32)] [] _
              refine own_go (fun t₀ k₀ => XS.iload X81.here hx rfl (Jvm.hb hby at_131) rfl k₀) ?_
              show Gm p e below T81 m 133 #[iv p0, iv p1, iv p2, iv p3, iv p4, iv (3 : Int32), rv b48, iv p2, iv (-1 : Int32), iv (-1 : Int32), iv (1 : Int32)] [(.int (-1 : Int32))] _
              refine own_go (fun t₀ k₀ => XS.ifNo X81.here hx rfl (Jvm.hb hby at_133) rfl (XT.i0_ge_f (by decide)) k₀) ?_
              show Gm p e below T81 m 136 #[iv p0, iv p1, iv p2, iv p3, iv p4, iv (3 : Int32), rv b48, iv p2, iv (-1 : Int32), iv (-1 : Int32), iv (1 : Int32)] [] _
              refine own_go (fun t₀ k₀ => XS.iconst X81.here hx rfl (Jvm.hb hby at_136) k₀) ?_
              show Gm p e below T81 m 137 #[iv p0, iv p1, iv p2, iv p3, iv p4, iv (3 : Int32), rv b48, iv p2, iv (-1 : Int32), iv (-1 : Int32), iv (1 : Int32)] [(.int (1 : Int32))] _
              refine own_go (fun t₀ k₀ => XS.istore X81.here hx rfl (Jvm.hb hby at_137) rfl (l' := #[iv p0, iv p1, iv p2, iv p3, iv p4, iv (3 : Int32), rv b48, iv p2, iv (-1 : Int32), iv (-1 : Int32), iv (1 : Int32)]) rfl k₀) ?_
              rw [if_neg c85] at kP
              exact kP
          refine k84 _ ?_
          show Gm p e below T81 m 139 #[iv p0, iv p1, iv p2, iv p3, iv p4, iv (3 : Int32), rv b48, iv p2, iv (-1 : Int32), iv (-1 : Int32), iv z84] [] _
          refine own_go (fun t₀ k₀ => XS.aload X81.here hx rfl (Jvm.hb hby at_139) rfl rfl k₀) ?_
          show Gm p e below T81 m 141 #[iv p0, iv p1, iv p2, iv p3, iv p4, iv (3 : Int32), rv b48, iv p2, iv (-1 : Int32), iv (-1 : Int32), iv z84] [(.ref b48)] _
          have f86 := (Fld.other W81 Fc_exit49 (Or.inl ne_b48_exit49))
          have f88 := (Ec49.wr W81)
          obtain ⟨cq87, kq87, q87a, q87b, q87c⟩ := isOf hZ e81 f88
          obtain ⟨_, _, ⟨T87, L87, k87, n87⟩, -, X87, ⟨Lc87, hQ87, l87, y87, z87⟩, st87⟩ := X81.virtualBack hx (y := (⟨"com/example/throughfare/throughfare/simulation/Walkers", "anyoneInside", "()Z"⟩ : MethodName)) (z := (⟨"com/example/throughfare/throughfare/simulation/Walkers", "anyoneInside", "()Z"⟩ : MethodName)) hown (mvT hZ (hw _ (List.mem_of_getElem? (i := 42) rfl))) (mvT hZ (hw _ (List.mem_of_getElem? (i := 43) rfl))) (notFace_of_selects (args := #[]) (mvT hZ (hw _ (List.mem_of_getElem? (i := 45) rfl)))) (mvT hZ (hw _ (List.mem_of_getElem? (i := 45) rfl))) (mvT hZ (hw _ (List.mem_of_getElem? (i := 44) rfl))) (by decide) (backOf (W := 0) (rm5_3 l Z a0 hw [] b48 exit49 (fun i => if i = 0 then (.int p2) else (fun _ => (.int (-1 : Int32))) i) p2 (-1 : Int32) (-1 : Int32) h81 n0 Z81 f86 A81 rfl rfl rfl) hZ (hw _ (List.mem_of_getElem? (i := 46) rfl)) (hw _ (List.mem_of_getElem? (i := 2) rfl)) (by decide) (by decide)) q87a q87c (g := (mkF m 141 #[iv p0, iv p1, iv p2, iv p3, iv p4, iv (3 : Int32), rv b48, iv p2, iv (-1 : Int32), iv (-1 : Int32), iv z84] [(.ref b48)])) rfl (by rw [hml]; rfl) (Steps.refl _) (argsL := []) (rest := []) (lenOf own_pd3 rfl) rfl (by show 2 * 0 + _ ≤ _; exact Nat.le_of_eq rfl) (Jvm.hb hby at_141) (fun _ _ => ⟨rfl, e81, (by decide : 12 + 0 ≤ _), (by decide : 44 + 0 ≤ _)⟩)
          dsimp only [Pt.U, Pt.locs, Pt.cells, Pt.slots] at X87 l87 y87 z87 st87 hQ87
          subst l87 y87 z87
          obtain ⟨rfl, Nq87, eq87⟩ := hQ87
          have N87 := Fr.app N81 Nq87
          have e87 : T87.heap = h81 := eq87
          refine own_go (fun t k => st87.trans k) ?_
          show Gm p e below T87 m 144 #[iv p0, iv p1, iv p2, iv p3, iv p4, iv (3 : Int32), rv b48, iv p2, iv (-1 : Int32), iv (-1 : Int32), iv z84] [(.int (fA3 p2 (-1 : Int32) (-1 : Int32)))] _
          refine own_go (fun t₀ k₀ => XS.iload X87.here hx rfl (Jvm.hb hby at_144) rfl k₀) ?_
          show Gm p e below T87 m 146 #[iv p0, iv p1, iv p2, iv p3, iv p4, iv (3 : Int32), rv b48, iv p2, iv (-1 : Int32), iv (-1 : Int32), iv z84] [(.int z84), (.int (fA3 p2 (-1 : Int32) (-1 : Int32)))] _
          refine own_go (fun t₀ k₀ => XS.icmpNo X87.here hx rfl (Jvm.hb hby at_146) rfl (XT.ii_ne_f (by rw [hz84]; unfold fA3; first | rfl | (simp only [(by decide : ((-1 : Int32) < 0) = True), if_true]; done) | (simp only [(by decide : ((-1 : Int32) < 0) = True), if_true]; (repeat' split) <;> rfl) | ((repeat' split) <;> first | rfl | contradiction | (simp_all; done)))) k₀) ?_
          show Gm p e below T87 m 149 #[iv p0, iv p1, iv p2, iv p3, iv p4, iv (3 : Int32), rv b48, iv p2, iv (-1 : Int32), iv (-1 : Int32), iv z84] [] _
          refine own_go (fun t₀ k₀ => XS.iconst X87.here hx rfl (Jvm.hb hby at_149) k₀) ?_
          show Gm p e below T87 m 150 #[iv p0, iv p1, iv p2, iv p3, iv p4, iv (3 : Int32), rv b48, iv p2, iv (-1 : Int32), iv (-1 : Int32), iv z84] [(.int (1 : Int32))] _
          refine own_go (fun t₀ k₀ => XS.goto X87.here hx rfl (pc0 := 150) (pc' := 154) rfl (Jvm.hb hby at_150) (by decide) (by decide) k₀) ?_
          show Gm p e below T87 m 154 #[iv p0, iv p1, iv p2, iv p3, iv p4, iv (3 : Int32), rv b48, iv p2, iv (-1 : Int32), iv (-1 : Int32), iv z84] [(.int (1 : Int32))] _
          exact own_retI X87 hx hlk (t := .boolean) Bd.returns rfl (by simp) (Jvm.hb hby at_154) e87 ⟨rfl, N87⟩ (by decide) (by decide)
        · have hfork := trivial
          refine own_go (fun t₀ k₀ => XS.ifNo X81.here hx rfl (Jvm.hb hby at_79) rfl (XT.i0_eq_f c83) k₀) ?_
          show Gm p e below T81 m 82 #[iv p0, iv p1, iv p2, iv p3, iv p4, iv (3 : Int32), rv b48, iv p2, iv (-1 : Int32), iv (-1 : Int32), .unset] [] _
          refine own_go (fun t₀ k₀ => XS.aload X81.here hx rfl (Jvm.hb hby at_82) rfl rfl k₀) ?_
          show Gm p e below T81 m 84 #[iv p0, iv p1, iv p2, iv p3, iv p4, iv (3 : Int32), rv b48, iv p2, iv (-1 : Int32), iv (-1 : Int32), .unset] [(.ref b48)] _
          have f89 := (Fld.other W81 Fc_exit49 (Or.inl ne_b48_exit49))
          obtain ⟨T90, X90, e90, st90⟩ := getF X81 hx hZ hown (host := "") (Or.inl (hw _ (List.mem_of_getElem? (i := 47) rfl))) Via.refl e81 f89 (g := (mkF m 84 #[iv p0, iv p1, iv p2, iv p3, iv p4, iv (3 : Int32), rv b48, iv p2, iv (-1 : Int32), iv (-1 : Int32), .unset] [(.ref b48)])) rfl rfl (Jvm.hb hby at_84)
          refine own_go st90 ?_
          show Gm p e below T90 m 87 #[iv p0, iv p1, iv p2, iv p3, iv p4, iv (3 : Int32), rv b48, iv p2, iv (-1 : Int32), iv (-1 : Int32), .unset] [(.ref exit49)] _
          refine own_go (fun t₀ k₀ => XS.iconst X90.here hx rfl (Jvm.hb hby at_87) k₀) ?_
          show Gm p e below T90 m 88 #[iv p0, iv p1, iv p2, iv p3, iv p4, iv (3 : Int32), rv b48, iv p2, iv (-1 : Int32), iv (-1 : Int32), .unset] [(.int (2 : Int32)), (.ref exit49)] _
          refine own_go (fun t₀ k₀ => XS.iload X90.here hx rfl (Jvm.hb hby at_88) rfl k₀) ?_
          show Gm p e below T90 m 90 #[iv p0, iv p1, iv p2, iv p3, iv p4, iv (3 : Int32), rv b48, iv p2, iv (-1 : Int32), iv (-1 : Int32), .unset] [(.int p4), (.int (2 : Int32)), (.ref exit49)] _
          obtain ⟨T91, h91, X91, e91, W91, A91, st91⟩ := own_stI X90 hx hZ e90 A81 (j := (2 : Int32)) (k := 2) (by decide) rfl (by decide) (g := (mkF m 90 #[iv p0, iv p1, iv p2, iv p3, iv p4, iv (3 : Int32), rv b48, iv p2, iv (-1 : Int32), iv (-1 : Int32), .unset] [(.int p4), (.int (2 : Int32)), (.ref exit49)])) rfl rfl (Jvm.hb hby at_90)
          have N91 := Fr.snoc X91 N81 g_exit49
          have Z91 : n0 ≤ h91.size := W91.size ▸ Z81
          refine own_go st91 ?_
          show Gm p e below T91 m 91 #[iv p0, iv p1, iv p2, iv p3, iv p4, iv (3 : Int32), rv b48, iv p2, iv (-1 : Int32), iv (-1 : Int32), .unset] [] _
          refine own_go (fun t₀ k₀ => XS.iload X91.here hx rfl (Jvm.hb hby at_91) rfl k₀) ?_
          show Gm p e below T91 m 93 #[iv p0, iv p1, iv p2, iv p3, iv p4, iv (3 : Int32), rv b48, iv p2, iv (-1 : Int32), iv (-1 : Int32), .unset] [(.int p4)] _
          refine own_go (fun t₀ k₀ => XS.istore X91.here hx rfl (Jvm.hb hby at_93) rfl (l' := #[iv p0, iv p1, iv p2, iv p3, iv p4, iv (3 : Int32), rv b48, iv p2, iv (-1 : Int32), iv p4, .unset]) rfl k₀) ?_
          show Gm p e below T91 m 95 #[iv p0, iv p1, iv p2, iv p3, iv p4, iv (3 : Int32), rv b48, iv p2, iv (-1 : Int32), iv p4, .unset] [] _
          refine own_go (fun t₀ k₀ => XS.iconst X91.here hx rfl (Jvm.hb hby at_95) k₀) ?_
          show Gm p e below T91 m 96 #[iv p0, iv p1, iv p2, iv p3, iv p4, iv (3 : Int32), rv b48, iv p2, iv (-1 : Int32), iv p4, .unset] [(.int (0 : Int32))] _
          refine own_go (fun t₀ k₀ => XS.istore X91.here hx rfl (Jvm.hb hby at_96) rfl (l' := #[iv p0, iv p1, iv p2, iv p3, iv p4, iv (3 : Int32), rv b48, iv p2, iv (-1 : Int32), iv p4, iv (0 : Int32)]) rfl k₀) ?_
          obtain ⟨z92, hz92, k92⟩ : ∃ z : Int32, z = (if p2 < (0 : Int32) then if p4 < (0 : Int32) then (1 : Int32) else ((1 : Int32)) else (if p4 < (0 : Int32) then (1 : Int32) else ((1 : Int32)))) ∧ ∀ P, Go p e below (T91.setTop (mkF m 139 #[iv p0, iv p1, iv p2, iv p3, iv p4, iv (3 : Int32), rv b48, iv p2, iv (-1 : Int32), iv p4, iv z] [])) P → Go p e below (T91.setTop (mkF m 98 #[iv p0, iv p1, iv p2, iv p3, iv p4, iv (3 : Int32), rv b48, iv p2, iv (-1 : Int32), iv p4, iv (0 : Int32)] [])) P := by
            refine ⟨_, rfl, fun P kP => ?_⟩
            show Gm p e below T91 m 98 #[iv p0, iv p1, iv p2, iv p3, iv p4, iv (3 : Int32), rv b48, iv p2, iv (-1 : Int32), iv p4, iv (0 : Int32)] [] _
            refine own_go (fun t₀ k₀ => XS.iload X91.here hx rfl (Jvm.hb hby at_98) rfl k₀) ?_
            show Gm p e below T91 m 100 #[iv p0, iv p1, iv p2, iv p3, iv p4, iv (3 : Int32), rv b48, iv p2, iv (-1 : Int32), iv p4, iv (0 : Int32)] [(.int (3 : Int32))] _
            refine own_go (fun t₀ k₀ => XS.ifNo X91.here hx rfl (Jvm.hb hby at_100) rfl (XT.i0_le_f (by decide)) k₀) ?_
            show Gm p e below T91 m 103 #[iv p0, iv p1, iv p2, iv p3, iv p4, iv (3 : Int32), rv b48, iv p2, iv (-1 : Int32), iv p4, iv (0 : Int32)] [] _
            refine own_go (fun t₀ k₀ => XS.iload X91.here hx rfl (Jvm.hb hby at_103) rfl k₀) ?_
            show Gm p e below T91 m 105 #[iv p0, iv p1, iv p2, iv p3, iv p4, iv (3 : Int32), rv b48, iv p2, iv (-1 : Int32), iv p4, iv (0 : Int32)] [(.int p2)] _
            by_cases c93 : p2 < (0 : Int32)
            · have hfork := trivial
              refine own_go (fun t₀ k₀ => XS.ifNo X91.here hx rfl (Jvm.hb hby at_105) rfl (XT.i0_ge_f c93) k₀) ?_
              show Gm p e below T91 m 108 #[iv p0, iv p1, iv p2, iv p3, iv p4, iv (3 : Int32), rv b48, iv p2, iv (-1 : Int32), iv p4, iv (0 : Int32)] [] _
              refine own_go (fun t₀ k₀ => XS.iconst X91.here hx rfl (Jvm.hb hby at_108) k₀) ?_
              show Gm p e below T91 m 109 #[iv p0, iv p1, iv p2, iv p3, iv p4, iv (3 : Int32), rv b48, iv p2, iv (-1 : Int32), iv p4, iv (0 : Int32)] [(.int (1 : Int32))] _
              refine own_go (fun t₀ k₀ => XS.istore X91.here hx rfl (Jvm.hb hby at_109) rfl (l' := #[iv p0, iv p1, iv p2, iv p3, iv p4, iv (3 : Int32), rv b48, iv p2, iv (-1 : Int32), iv p4, iv (1 : Int32)]) rfl k₀) ?_
              show Gm p e below T91 m 111 #[iv p0, iv p1, iv p2, iv p3, iv p4, iv (3 : Int32), rv b48, iv p2, iv (-1 : Int32), iv p4, iv (1 : Int32)] [] _
              refine own_go (fun t₀ k₀ => XS.iload X91.here hx rfl (Jvm.hb hby at_111) rfl k₀) ?_
              show Gm p e below T91 m 113 #[iv p0, iv p1, iv p2, iv p3, iv p4, iv (3 : Int32), rv b48, iv p2, iv (-1 : Int32), iv p4, iv (1 : Int32)] [(.int (3 : Int32))] _
              refine own_go (fun t₀ k₀ => XS.iconst X91.here hx rfl (Jvm.hb hby at_113) k₀) ?_
              show Gm p e below T91 m 114 #[iv p0, iv p1, iv p2, iv p3, iv p4, iv (3 : Int32), rv b48, iv p2, iv (-1 : Int32), iv p4, iv (1 : Int32)] [(.int (1 : Int32)), (.int (3 : Int32))] _
              refine own_go (fun t₀ k₀ => XS.icmpNo X91.here hx rfl (Jvm.hb hby at_114) rfl (XT.ii_le_f (by decide)) k₀) ?_
              show Gm p e below T91 m 117 #[iv p0, iv p1, iv p2, iv p3, iv p4, iv (3 : Int32), rv b48, iv p2, iv (-1 : Int32), iv p4, iv (1 : Int32)] [] _
              refine own_go (fun t₀ k₀ => XS.iload X91.here hx rfl (Jvm.hb hby at_117) rfl k₀) ?_
              show Gm p e below T91 m 119 #[iv p0, iv p1, iv p2, iv p3, iv p4, iv (3 : Int32), rv b48, iv p2, iv (-1 : Int32), iv p4, iv (1 : Int32)] [(.int (-1 : Int32))] _
              refine own_go (fun t₀ k₀ => XS.ifNo X91.here hx rfl (Jvm.hb hby at_119) rfl (XT.i0_ge_f (by decide)) k₀) ?_
              show Gm p e below T91 m 122 #[iv p0, iv p1, iv p2, iv p3, iv p4, iv (3 : Int32), rv b48, iv p2, iv (-1 : Int32), iv p4, iv (1 : Int32)] [] _
              refine own_go (fun t₀ k₀ => XS.iconst X91.here hx rfl (Jvm.hb hby at_122) k₀) ?_
              show Gm p e below T91 m 123 #[iv p0, iv p1, iv p2, iv p3, iv p4, iv (3 : Int32), rv b48, iv p2, iv (-1 : Int32), iv p4, iv (1 : Int32)] [(.int (1 : Int32))] _
              refine own_go (fun t₀ k₀ => XS.istore X91.here hx rfl (Jvm.hb hby at_123) rfl (l' := #[iv p0, iv p1, iv p2, iv p3, iv p4, iv (3 : Int32), rv b48, iv p2, iv (-1 : Int32), iv p4, iv (1 : Int32)]) rfl k₀) ?_
              show Gm p e below T91 m 125 #[iv p0, iv p1, iv p2, iv p3, iv p4, iv (3 : Int32), rv b48, iv p2, iv (-1 : Int32), iv p4, iv (1 : Int32)] [] _
              refine own_go (fun t₀ k₀ => XS.iload X91.here hx rfl (Jvm.hb hby at_125) rfl k₀) ?_
              show Gm p e below T91 m 127 #[iv p0, iv p1, iv p2, iv p3, iv p4, iv (3 : Int32), rv b48, iv p2, iv (-1 : Int32), iv p4, iv (1 : Int32)] [(.int (3 : Int32))] _
              refine own_go (fun t₀ k₀ => XS.iconst X91.here hx rfl (Jvm.hb hby at_127) k₀) ?_
              show Gm p e below T91 m 128 #[iv p0, iv p1, iv p2, iv p3, iv p4, iv (3 : Int32), rv b48, iv p2, iv (-1 : Int32), iv p4, iv (1 : Int32)] [(.int (2 : Int32)), (.int (3 : Int32))] _
              refine own_go (fun t₀ k₀ => XS.icmpNo X91.here hx rfl (Jvm.hb hby at_128) rfl (XT.ii_le_f (by decide)) k₀) ?_
              show Gm p e below T91 m 131 #[iv p0, iv p1, iv p2, iv p3, iv p4, iv (3 : Int32), rv b48, iv p2, iv (-1 : Int32), iv p4, iv (1 : Int32)] [] _
              refine own_go (fun t₀ k₀ => XS.iload X91.here hx rfl (Jvm.hb hby at_131) rfl k₀) ?_
              show Gm p e below T91 m 133 #[iv p0, iv p1, iv p2, iv p3, iv p4, iv (3 : Int32), rv b48, iv p2, iv (-1 : Int32), iv p4, iv (1 : Int32)] [(.int p4)] _
              by_cases c94 : p4 < (0 : Int32)
              · have hfork := trivial
                refine own_go (fun t₀ k₀ => XS.ifNo X91.here hx rfl (Jvm.hb hby at_133) rfl (XT.i0_ge_f c94) k₀) ?_
                show Gm p e below T91 m 136 #[iv p0, iv p1, iv p2, iv p3, iv p4, iv (3 : Int32), rv b48, iv p2, iv (-1 : Int32), iv p4, iv (1 : Int32)] [] _
                refine own_go (fun t₀ k₀ => XS.iconst X91.here hx rfl (Jvm.hb hby at_136) k₀) ?_
                show Gm p e below T91 m 137 #[iv p0, iv p1, iv p2, iv p3, iv p4, iv (3 : Int32), rv b48, iv p2, iv (-1 : Int32), iv p4, iv (1 : Int32)] [(.int (1 : Int32))] _
                refine own_go (fun t₀ k₀ => XS.istore X91.here hx rfl (Jvm.hb hby at_137) rfl (l' := #[iv p0, iv p1, iv p2, iv p3, iv p4, iv (3 : Int32), rv b48, iv p2, iv (-1 : Int32), iv p4, iv (1 : Int32)]) rfl k₀) ?_
                rw [if_pos c93, if_pos c94] at kP
                exact kP
              · have hfork := trivial
                refine own_go (fun t₀ k₀ => XS.ifYes X91.here hx rfl (pc0 := 133) (pc' := 139) rfl (Jvm.hb hby at_133) rfl (XT.i0_ge_t c94) (by decide) (by decide) k₀) ?_
                rw [if_pos c93, if_neg c94] at kP
                exact kP
            · have hfork := trivial
              refine own_go (fun t₀ k₀ => XS.ifYes X91.here hx rfl (pc0 := 105) (pc' := 111) rfl (Jvm.hb hby at_105) rfl (XT.i0_ge_t c93) (by decide) (by decide) k₀) ?_
              show Gm p e below T91 m 111 #[iv p0, iv p1, iv p2, iv p3, iv p4, iv (3 : Int32), rv b48, iv p2, iv (-1 : Int32), iv p4, iv (0 : Int32)] [] _
              refine own_go (fun t₀ k₀ => XS.iload X91.here hx rfl (Jvm.hb hby at_111) rfl k₀) ?_
              show Gm p e below T91 m 113 #[iv p0, iv p1, iv p2, iv p3, iv p4, iv (3 : Int32), rv b48, iv p2, iv (-1 : Int32), iv p4, iv (0 : Int32)] [(.int (3 : Int32))] _
              refine own_go (fun t₀ k₀ => XS.iconst X91.here hx rfl (Jvm.hb hby at_113) k₀) ?_
              show Gm p e below T91 m 114 #[iv p0, iv p1, iv p2, iv p3, iv p4, iv (3 : Int32), rv b48, iv p2, iv (-1 : Int32), iv p4, iv (0 : Int32)] [(.int (1 : Int32)), (.int (3 : Int32))] _
              refine own_go (fun t₀ k₀ => XS.icmpNo X91.here hx rfl (Jvm.hb hby at_114) rfl (XT.ii_le_f (by decide)) k₀) ?_
              show Gm p e below T91 m 117 #[iv p0, iv p1, iv p2, iv p3, iv p4, iv (3 : Int32), rv b48, iv p2, iv (-1 : Int32), iv p4, iv (0 : Int32)] [] _
              refine own_go (fun t₀ k₀ => XS.iload X91.here hx rfl (Jvm.hb hby at_117) rfl k₀) ?_
              show Gm p e below T91 m 119 #[iv p0, iv p1, iv p2, iv p3, iv p4, iv (3 : Int32), rv b48, iv p2, iv (-1 : Int32), iv p4, iv (0 : Int32)] [(.int (-1 : Int32))] _
              refine own_go (fun t₀ k₀ => XS.ifNo X91.here hx rfl (Jvm.hb hby at_119) rfl (XT.i0_ge_f (by decide)) k₀) ?_
              show Gm p e below T91 m 122 #[iv p0, iv p1, iv p2, iv p3, iv p4, iv (3 : Int32), rv b48, iv p2, iv (-1 : Int32), iv p4, iv (0 : Int32)] [] _
              refine own_go (fun t₀ k₀ => XS.iconst X91.here hx rfl (Jvm.hb hby at_122) k₀) ?_
              show Gm p e below T91 m 123 #[iv p0, iv p1, iv p2, iv p3, iv p4, iv (3 : Int32), rv b48, iv p2, iv (-1 : Int32), iv p4, iv (0 : Int32)] [(.int (1 : Int32))] _
              refine own_go (fun t₀ k₀ => XS.istore X91.here hx rfl (Jvm.hb hby at_123) rfl (l' := #[iv p0, iv p1, iv p2, iv p3, iv p4, iv (3 : Int32), rv b48, iv p2, iv (-1 : Int32), iv p4, iv (1 : Int32)]) rfl k₀) ?_
              show Gm p e below T91 m 125 #[iv p0, iv p1, iv p2, iv p3, iv p4, iv (3 : Int32), rv b48, iv p2, iv (-1 : Int32), iv p4, iv (1 : Int32)] [] _
              refine own_go (fun t₀ k₀ => XS.iload X91.here hx rfl (Jvm.hb hby at_125) rfl k₀) ?_
              show Gm p e below T91 m 127 #[iv p0, iv p1, iv p2, iv p3, iv p4, iv (3 : Int32), rv b48, iv p2, iv (-1 : Int32), iv p4, iv (1 : Int32)] [(.int (3 : Int32))] _
              refine own_go (fun t₀ k₀ => XS.iconst X91.here hx rfl (Jvm.hb hby at_127) k₀) ?_
              show Gm p e below T91 m 128 #[iv p0, iv p1, iv p2, iv p3, iv p4, iv (3 : Int32), rv b48, iv p2, iv (-1 : Int32), iv p4, iv (1 : Int32)] [(.int (2 : Int32)), (.int (3 : Int32))] _
              refine own_go (fun t₀ k₀ => XS.icmpNo X91.here hx rfl (Jvm.hb hby at_128) rfl (XT.ii_le_f (by decide)) k₀) ?_
              show Gm p e below T91 m 131 #[iv p0, iv p1, iv p2, iv p3, iv p4, iv (3 : Int32), rv b48, iv p2, iv (-1 : Int32), iv p4, iv (1 : Int32)] [] _
              refine own_go (fun t₀ k₀ => XS.iload X91.here hx rfl (Jvm.hb hby at_131) rfl k₀) ?_
              show Gm p e below T91 m 133 #[iv p0, iv p1, iv p2, iv p3, iv p4, iv (3 : Int32), rv b48, iv p2, iv (-1 : Int32), iv p4, iv (1 : Int32)] [(.int p4)] _
              by_cases c95 : p4 < (0 : Int32)
              · have hfork := trivial
                refine own_go (fun t₀ k₀ => XS.ifNo X91.here hx rfl (Jvm.hb hby at_133) rfl (XT.i0_ge_f c95) k₀) ?_
                show Gm p e below T91 m 136 #[iv p0, iv p1, iv p2, iv p3, iv p4, iv (3 : Int32), rv b48, iv p2, iv (-1 : Int32), iv p4, iv (1 : Int32)] [] _
                refine own_go (fun t₀ k₀ => XS.iconst X91.here hx rfl (Jvm.hb hby at_136) k₀) ?_
                show Gm p e below T91 m 137 #[iv p0, iv p1, iv p2, iv p3, iv p4, iv (3 : Int32), rv b48, iv p2, iv (-1 : Int32), iv p4, iv (1 : Int32)] [(.int (1 : Int32))] _
                refine own_go (fun t₀ k₀ => XS.istore X91.here hx rfl (Jvm.hb hby at_137) rfl (l' := #[iv p0, iv p1, iv p2, iv p3, iv p4, iv (3 : Int32), rv b48, iv p2, iv (-1 : Int32), iv p4, iv (1 : Int32)]) rfl k₀) ?_
                rw [if_neg c93, if_pos c95] at kP
                exact kP
              · have hfork := trivial
                refine own_go (fun t₀ k₀ => XS.ifYes X91.here hx rfl (pc0 := 133) (pc' := 139) rfl (Jvm.hb hby at_133) rfl (XT.i0_ge_t c95) (by decide) (by decide) k₀) ?_
                rw [if_neg c93, if_neg c95] at kP
                exact kP
          refine k92 _ ?_
          show Gm p e below T91 m 139 #[iv p0, iv p1, iv p2, iv p3, iv p4, iv (3 : Int32), rv b48, iv p2, iv (-1 : Int32), iv p4, iv z92] [] _
          refine own_go (fun t₀ k₀ => XS.aload X91.here hx rfl (Jvm.hb hby at_139) rfl rfl k₀) ?_
          show Gm p e below T91 m 141 #[iv p0, iv p1, iv p2, iv p3, iv p4, iv (3 : Int32), rv b48, iv p2, iv (-1 : Int32), iv p4, iv z92] [(.ref b48)] _
          have f96 := (Fld.other W91 f89 (Or.inl ne_b48_exit49))
          have f98 := ((Ec49.wr W81).wr W91)
          obtain ⟨cq97, kq97, q97a, q97b, q97c⟩ := isOf hZ e91 f98
          obtain ⟨_, _, ⟨T97, L97, k97, n97⟩, -, X97, ⟨Lc97, hQ97, l97, y97, z97⟩, st97⟩ := X91.virtualBack hx (y := (⟨"com/example/throughfare/throughfare/simulation/Walkers", "anyoneInside", "()Z"⟩ : MethodName)) (z := (⟨"com/example/throughfare/throughfare/simulation/Walkers", "anyoneInside", "()Z"⟩ : MethodName)) hown (mvT hZ (hw _ (List.mem_of_getElem? (i := 42) rfl))) (mvT hZ (hw _ (List.mem_of_getElem? (i := 43) rfl))) (notFace_of_selects (args := #[]) (mvT hZ (hw _ (List.mem_of_getElem? (i := 45) rfl)))) (mvT hZ (hw _ (List.mem_of_getElem? (i := 45) rfl))) (mvT hZ (hw _ (List.mem_of_getElem? (i := 44) rfl))) (by decide) (backOf (W := 0) (rm5_3 l Z a0 hw [] b48 exit49 (fun i => if i = 2 then (.int p4) else (fun i => if i = 0 then (.int p2) else (fun _ => (.int (-1 : Int32))) i) i) p2 (-1 : Int32) p4 h91 n0 Z91 f96 A91 rfl rfl rfl) hZ (hw _ (List.mem_of_getElem? (i := 46) rfl)) (hw _ (List.mem_of_getElem? (i := 2) rfl)) (by decide) (by decide)) q97a q97c (g := (mkF m 141 #[iv p0, iv p1, iv p2, iv p3, iv p4, iv (3 : Int32), rv b48, iv p2, iv (-1 : Int32), iv p4, iv z92] [(.ref b48)])) rfl (by rw [hml]; rfl) (Steps.refl _) (argsL := []) (rest := []) (lenOf own_pd3 rfl) rfl (by show 2 * 0 + _ ≤ _; exact Nat.le_of_eq rfl) (Jvm.hb hby at_141) (fun _ _ => ⟨rfl, e91, (by decide : 12 + 0 ≤ _), (by decide : 44 + 0 ≤ _)⟩)
          dsimp only [Pt.U, Pt.locs, Pt.cells, Pt.slots] at X97 l97 y97 z97 st97 hQ97
          subst l97 y97 z97
          obtain ⟨rfl, Nq97, eq97⟩ := hQ97
          have N97 := Fr.app N91 Nq97
          have e97 : T97.heap = h91 := eq97
          refine own_go (fun t k => st97.trans k) ?_
          show Gm p e below T97 m 144 #[iv p0, iv p1, iv p2, iv p3, iv p4, iv (3 : Int32), rv b48, iv p2, iv (-1 : Int32), iv p4, iv z92] [(.int (fA3 p2 (-1 : Int32) p4))] _
          refine own_go (fun t₀ k₀ => XS.iload X97.here hx rfl (Jvm.hb hby at_144) rfl k₀) ?_
          show Gm p e below T97 m 146 #[iv p0, iv p1, iv p2, iv p3, iv p4, iv (3 : Int32), rv b48, iv p2, iv (-1 : Int32), iv p4, iv z92] [(.int z92), (.int (fA3 p2 (-1 : Int32) p4))] _
          refine own_go (fun t₀ k₀ => XS.icmpNo X97.here hx rfl (Jvm.hb hby at_146) rfl (XT.ii_ne_f (by rw [hz92]; unfold fA3; first | rfl | (simp only [(by decide : ((-1 : Int32) < 0) = True), if_true]; done) | (simp only [(by decide : ((-1 : Int32) < 0) = True), if_true]; (repeat' split) <;> rfl) | ((repeat' split) <;> first | rfl | contradiction | (simp_all; done)))) k₀) ?_
          show Gm p e below T97 m 149 #[iv p0, iv p1, iv p2, iv p3, iv p4, iv (3 : Int32), rv b48, iv p2, iv (-1 : Int32), iv p4, iv z92] [] _
          refine own_go (fun t₀ k₀ => XS.iconst X97.here hx rfl (Jvm.hb hby at_149) k₀) ?_
          show Gm p e below T97 m 150 #[iv p0, iv p1, iv p2, iv p3, iv p4, iv (3 : Int32), rv b48, iv p2, iv (-1 : Int32), iv p4, iv z92] [(.int (1 : Int32))] _
          refine own_go (fun t₀ k₀ => XS.goto X97.here hx rfl (pc0 := 150) (pc' := 154) rfl (Jvm.hb hby at_150) (by decide) (by decide) k₀) ?_
          show Gm p e below T97 m 154 #[iv p0, iv p1, iv p2, iv p3, iv p4, iv (3 : Int32), rv b48, iv p2, iv (-1 : Int32), iv p4, iv z92] [(.int (1 : Int32))] _
          exact own_retI X97 hx hlk (t := .boolean) Bd.returns rfl (by simp) (Jvm.hb hby at_154) e97 ⟨rfl, N97⟩ (by decide) (by decide)
      · have hfork := trivial
        refine own_go (fun t₀ k₀ => XS.ifNo X81.here hx rfl (Jvm.hb hby at_56) rfl (XT.i0_eq_f c82) k₀) ?_
        show Gm p e below T81 m 59 #[iv p0, iv p1, iv p2, iv p3, iv p4, iv (3 : Int32), rv b48, iv p2, iv (-1 : Int32), iv (-1 : Int32), .unset] [] _
        refine own_go (fun t₀ k₀ => XS.aload X81.here hx rfl (Jvm.hb hby at_59) rfl rfl k₀) ?_
        show Gm p e below T81 m 61 #[iv p0, iv p1, iv p2, iv p3, iv p4, iv (3 : Int32), rv b48, iv p2, iv (-1 : Int32), iv (-1 : Int32), .unset] [(.ref b48)] _
        have f99 := (Fld.other W81 Fc_exit49 (Or.inl ne_b48_exit49))
        obtain ⟨T100, X100, e100, st100⟩ := getF X81 hx hZ hown (host := "") (Or.inl (hw _ (List.mem_of_getElem? (i := 47) rfl))) Via.refl e81 f99 (g := (mkF m 61 #[iv p0, iv p1, iv p2, iv p3, iv p4, iv (3 : Int32), rv b48, iv p2, iv (-1 : Int32), iv (-1 : Int32), .unset] [(.ref b48)])) rfl rfl (Jvm.hb hby at_61)
        refine own_go st100 ?_
        show Gm p e below T100 m 64 #[iv p0, iv p1, iv p2, iv p3, iv p4, iv (3 : Int32), rv b48, iv p2, iv (-1 : Int32), iv (-1 : Int32), .unset] [(.ref exit49)] _
        refine own_go (fun t₀ k₀ => XS.iconst X100.here hx rfl (Jvm.hb hby at_64) k₀) ?_
        show Gm p e below T100 m 65 #[iv p0, iv p1, iv p2, iv p3, iv p4, iv (3 : Int32), rv b48, iv p2, iv (-1 : Int32), iv (-1 : Int32), .unset] [(.int (1 : Int32)), (.ref exit49)] _
        refine own_go (fun t₀ k₀ => XS.iloadN X100.here hx rfl (Jvm.hb hby at_65) rfl k₀) ?_
        show Gm p e below T100 m 66 #[iv p0, iv p1, iv p2, iv p3, iv p4, iv (3 : Int32), rv b48, iv p2, iv (-1 : Int32), iv (-1 : Int32), .unset] [(.int p3), (.int (1 : Int32)), (.ref exit49)] _
        obtain ⟨T101, h101, X101, e101, W101, A101, st101⟩ := own_stI X100 hx hZ e100 A81 (j := (1 : Int32)) (k := 1) (by decide) rfl (by decide) (g := (mkF m 66 #[iv p0, iv p1, iv p2, iv p3, iv p4, iv (3 : Int32), rv b48, iv p2, iv (-1 : Int32), iv (-1 : Int32), .unset] [(.int p3), (.int (1 : Int32)), (.ref exit49)])) rfl rfl (Jvm.hb hby at_66)
        have N101 := Fr.snoc X101 N81 g_exit49
        have Z101 : n0 ≤ h101.size := W101.size ▸ Z81
        refine own_go st101 ?_
        show Gm p e below T101 m 67 #[iv p0, iv p1, iv p2, iv p3, iv p4, iv (3 : Int32), rv b48, iv p2, iv (-1 : Int32), iv (-1 : Int32), .unset] [] _
        refine own_go (fun t₀ k₀ => XS.iloadN X101.here hx rfl (Jvm.hb hby at_67) rfl k₀) ?_
        show Gm p e below T101 m 68 #[iv p0, iv p1, iv p2, iv p3, iv p4, iv (3 : Int32), rv b48, iv p2, iv (-1 : Int32), iv (-1 : Int32), .unset] [(.int p3)] _
        refine own_go (fun t₀ k₀ => XS.istore X101.here hx rfl (Jvm.hb hby at_68) rfl (l' := #[iv p0, iv p1, iv p2, iv p3, iv p4, iv (3 : Int32), rv b48, iv p2, iv p3, iv (-1 : Int32), .unset]) rfl k₀) ?_
        show Gm p e below T101 m 70 #[iv p0, iv p1, iv p2, iv p3, iv p4, iv (3 : Int32), rv b48, iv p2, iv p3, iv (-1 : Int32), .unset] [] _
        refine own_go (fun t₀ k₀ => XS.iload X101.here hx rfl (Jvm.hb hby at_70) rfl k₀) ?_
        show Gm p e below T101 m 72 #[iv p0, iv p1, iv p2, iv p3, iv p4, iv (3 : Int32), rv b48, iv p2, iv p3, iv (-1 : Int32), .unset] [(.int (3 : Int32))] _
        refine own_go (fun t₀ k₀ => XS.iconst X101.here hx rfl (Jvm.hb hby at_72) k₀) ?_
        show Gm p e below T101 m 73 #[iv p0, iv p1, iv p2, iv p3, iv p4, iv (3 : Int32), rv b48, iv p2, iv p3, iv (-1 : Int32), .unset] [(.int (2 : Int32)), (.int (3 : Int32))] _
        refine own_go (fun t₀ k₀ => XS.icmpNo X101.here hx rfl (Jvm.hb hby at_73) rfl (XT.ii_le_f (by decide)) k₀) ?_
        show Gm p e below T101 m 76 #[iv p0, iv p1, iv p2, iv p3, iv p4, iv (3 : Int32), rv b48, iv p2, iv p3, iv (-1 : Int32), .unset] [] _
        refine own_go (fun t₀ k₀ => XS.iloadN X101.here hx rfl (Jvm.hb hby at_76) rfl k₀) ?_
        show Gm p e below T101 m 77 #[iv p0, iv p1, iv p2, iv p3, iv p4, iv (3 : Int32), rv b48, iv p2, iv p3, iv (-1 : Int32), .unset] [(.int p1)] _
        refine own_go (fun t₀ k₀ => XS.iconst X101.here hx rfl (Jvm.hb hby at_77) k₀) ?_
        show Gm p e below T101 m 78 #[iv p0, iv p1, iv p2, iv p3, iv p4, iv (3 : Int32), rv b48, iv p2, iv p3, iv (-1 : Int32), .unset] [(.int (4 : Int32)), (.int p1)] _
        refine own_go (fun t₀ k₀ => XS.iand X101.here hx rfl (Jvm.hb hby at_78) rfl k₀) ?_
        show Gm p e below T101 m 79 #[iv p0, iv p1, iv p2, iv p3, iv p4, iv (3 : Int32), rv b48, iv p2, iv p3, iv (-1 : Int32), .unset] [(.int (p1 &&& (4 : Int32)))] _
        by_cases c102 : (p1 &&& (4 : Int32)) = (0 : Int32)
        · have hfork := trivial
          refine own_go (fun t₀ k₀ => XS.ifYes X101.here hx rfl (pc0 := 79) (pc' := 95) rfl (Jvm.hb hby at_79) rfl (XT.i0_eq_t c102) (by decide) (by decide) k₀) ?_
          show Gm p e below T101 m 95 #[iv p0, iv p1, iv p2, iv p3, iv p4, iv (3 : Int32), rv b48, iv p2, iv p3, iv (-1 : Int32), .unset] [] _
          refine own_go (fun t₀ k₀ => XS.iconst X101.here hx rfl (Jvm.hb hby at_95) k₀) ?_
          show Gm p e below T101 m 96 #[iv p0, iv p1, iv p2, iv p3, iv p4, iv (3 : Int32), rv b48, iv p2, iv p3, iv (-1 : Int32), .unset] [(.int (0 : Int32))] _
          refine own_go (fun t₀ k₀ => XS.istore X101.here hx rfl (Jvm.hb hby at_96) rfl (l' := #[iv p0, iv p1, iv p2, iv p3, iv p4, iv (3 : Int32), rv b48, iv p2, iv p3, iv (-1 : Int32), iv (0 : Int32)]) rfl k₀) ?_
          obtain ⟨z103, hz103, k103⟩ : ∃ z : Int32, z = (if p2 < (0 : Int32) then if p3 < (0 : Int32) then (1 : Int32) else ((1 : Int32)) else (if p3 < (0 : Int32) then (1 : Int32) else ((1 : Int32)))) ∧ ∀ P, Go p e below (T101.setTop (mkF m 139 #[iv p0, iv p1, iv p2, iv p3, iv p4, iv (3 : Int32), rv b48, iv p2, iv p3, iv (-1 : Int32), iv z] [])) P → Go p e below (T101.setTop (mkF m 98 #[iv p0, iv p1, iv p2, iv p3, iv p4, iv (3 : Int32), rv b48, iv p2, iv p3, iv (-1 : Int32), iv (0 : Int32)] [])) P := by
            refine ⟨_, rfl, fun P kP => ?_⟩
            show Gm p e below T101 m 98 #[iv p0, iv p1, iv p2, iv p3, iv p4, iv (3 : Int32), rv b48, iv p2, iv p3, iv (-1 : Int32), iv (0 : Int32)] [] _
            refine own_go (fun t₀ k₀ => XS.iload X101.here hx rfl (Jvm.hb hby at_98) rfl k₀) ?_
            show Gm p e below T101 m 100 #[iv p0, iv p1, iv p2, iv p3, iv p4, iv (3 : Int32), rv b48, iv p2, iv p3, iv (-1 : Int32), iv (0 : Int32)] [(.int (3 : Int32))] _
            refine own_go (fun t₀ k₀ => XS.ifNo X101.here hx rfl (Jvm.hb hby at_100) rfl (XT.i0_le_f (by decide)) k₀) ?_
            show Gm p e below T101 m 103 #[iv p0, iv p1, iv p2, iv p3, iv p4, iv (3 : Int32), rv b48, iv p2, iv p3, iv (-1 : Int32), iv (0 : Int32)] [] _
            refine own_go (fun t₀ k₀ => XS.iload X101.here hx rfl (Jvm.hb hby at_103) rfl k₀) ?_
            show Gm p e below T101 m 105 #[iv p0, iv p1, iv p2, iv p3, iv p4, iv (3 : Int32), rv b48, iv p2, iv p3, iv (-1 : Int32), iv (0 : Int32)] [(.int p2)] _
            by_cases c104 : p2 < (0 : Int32)
            · have hfork := trivial
              refine own_go (fun t₀ k₀ => XS.ifNo X101.here hx rfl (Jvm.hb hby at_105) rfl (XT.i0_ge_f c104) k₀) ?_
              show Gm p e below T101 m 108 #[iv p0, iv p1, iv p2, iv p3, iv p4, iv (3 : Int32), rv b48, iv p2, iv p3, iv (-1 : Int32), iv (0 : Int32)] [] _
              refine own_go (fun t₀ k₀ => XS.iconst X101.here hx rfl (Jvm.hb hby at_108) k₀) ?_
              show Gm p e below T101 m 109 #[iv p0, iv p1, iv p2, iv p3, iv p4, iv (3 : Int32), rv b48, iv p2, iv p3, iv (-1 : Int32), iv (0 : Int32)] [(.int (1 : Int32))] _
              refine own_go (fun t₀ k₀ => XS.istore X101.here hx rfl (Jvm.hb hby at_109) rfl (l' := #[iv p0, iv p1, iv p2, iv p3, iv p4, iv (3 : Int32), rv b48, iv p2, iv p3, iv (-1 : Int32), iv (1 : Int32)]) rfl k₀) ?_
              show Gm p e below T101 m 111 #[iv p0, iv p1, iv p2, iv p3, iv p4, iv (3 : Int32), rv b48, iv p2, iv p3, iv (-1 : Int32), iv (1 : Int32)] [] _
              refine own_go (fun t₀ k₀ => XS.iload X101.here hx rfl (Jvm.hb hby at_111) rfl k₀) ?_
              show Gm p e below T101 m 113 #[iv p0, iv p1, iv p2, iv p3, iv p4, iv (3 : Int32), rv b48, iv p2, iv p3, iv (-1 : Int32), iv (1 : Int32)] [(.int (3 : Int32))] _
              refine own_go (fun t₀ k₀ => XS.iconst X101.here hx rfl (Jvm.hb hby at_113) k₀) ?_
              show Gm p e below T101 m 114 #[iv p0, iv p1, iv p2, iv p3, iv p4, iv (3 : Int32), rv b48, iv p2, iv p3, iv (-1 : Int32), iv (1 : Int32)] [(.int (1 : Int32)), (.int (3 : Int32))] _
              refine own_go (fun t₀ k₀ => XS.icmpNo X101.here hx rfl (Jvm.hb hby at_114) rfl (XT.ii_le_f (by decide)) k₀) ?_
              show Gm p e below T101 m 117 #[iv p0, iv p1, iv p2, iv p3, iv p4, iv (3 : Int32), rv b48, iv p2, iv p3, iv (-1 : Int32), iv (1 : Int32)] [] _
              refine own_go (fun t₀ k₀ => XS.iload X101.here hx rfl (Jvm.hb hby at_117) rfl k₀) ?_
              show Gm p e below T101 m 119 #[iv p0, iv p1, iv p2, iv p3, iv p4, iv (3 : Int32), rv b48, iv p2, iv p3, iv (-1 : Int32), iv (1 : Int32)] [(.int p3)] _
              by_cases c105 : p3 < (0 : Int32)
              · have hfork := trivial
                refine own_go (fun t₀ k₀ => XS.ifNo X101.here hx rfl (Jvm.hb hby at_119) rfl (XT.i0_ge_f c105) k₀) ?_
                show Gm p e below T101 m 122 #[iv p0, iv p1, iv p2, iv p3, iv p4, iv (3 : Int32), rv b48, iv p2, iv p3, iv (-1 : Int32), iv (1 : Int32)] [] _
                refine own_go (fun t₀ k₀ => XS.iconst X101.here hx rfl (Jvm.hb hby at_122) k₀) ?_
                show Gm p e below T101 m 123 #[iv p0, iv p1, iv p2, iv p3, iv p4, iv (3 : Int32), rv b48, iv p2, iv p3, iv (-1 : Int32), iv (1 : Int32)] [(.int (1 : Int32))] _
                refine own_go (fun t₀ k₀ => XS.istore X101.here hx rfl (Jvm.hb hby at_123) rfl (l' := #[iv p0, iv p1, iv p2, iv p3, iv p4, iv (3 : Int32), rv b48, iv p2, iv p3, iv (-1 : Int32), iv (1 : Int32)]) rfl k₀) ?_
                show Gm p e below T101 m 125 #[iv p0, iv p1, iv p2, iv p3, iv p4, iv (3 : Int32), rv b48, iv p2, iv p3, iv (-1 : Int32), iv (1 : Int32)] [] _
                refine own_go (fun t₀ k₀ => XS.iload X101.here hx rfl (Jvm.hb hby at_125) rfl k₀) ?_
                show Gm p e below T101 m 127 #[iv p0, iv p1, iv p2, iv p3, iv p4, iv (3 : Int32), rv b48, iv p2, iv p3, iv (-1 : Int32), iv (1 : Int32)] [(.int (3 : Int32))] _
                refine own_go (fun t₀ k₀ => XS.iconst X101.here hx rfl (Jvm.hb hby at_127) k₀) ?_
                show Gm p e below T101 m 128 #[iv p0, iv p1, iv p2, iv p3, iv p4, iv (3 : Int32), rv b48, iv p2, iv p3, iv (-1 : Int32), iv (1 : Int32)] [(.int (2 : Int32)), (.int (3 : Int32))] _
                refine own_go (fun t₀ k₀ => XS.icmpNo X101.here hx rfl (Jvm.hb hby at_128) rfl (XT.ii_le_f (by decide)) k₀) ?_
                show Gm p e below T101 m 131 #[iv p0, iv p1, iv p2, iv p3, iv p4, iv (3 : Int32), rv b48, iv p2, iv p3, iv (-1 : Int32), iv (1 : Int32)] [] _
                refine own_go (fun t₀ k₀ => XS.iload X101.here hx rfl (Jvm.hb hby at_131) rfl k₀) ?_
                show Gm p e below T101 m 133 #[iv p0, iv p1, iv p2, iv p3, iv p4, iv (3 : Int32), rv b48, iv p2, iv p3, iv (-1 : Int32), iv (1 : Int32)] [(.int (-1 : Int32))] _
                refine own_go (fun t₀ k₀ => XS.ifNo X101.here hx rfl (Jvm.hb hby at_133) rfl (XT.i0_ge_f (by decide)) k₀) ?_
                show Gm p e below T101 m 136 #[iv p0, iv p1, iv p2, iv p3, iv p4, iv (3 : Int32), rv b48, iv p2, iv p3, iv (-1 : Int32), iv (1 : Int32)] [] _
                refine own_go (fun t₀ k₀ => XS.iconst X101.here hx rfl (Jvm.hb hby at_136) k₀) ?_
                show Gm p e below T101 m 137 #[iv p0, iv p1, iv p2, iv p3, iv p4, iv (3 : Int32), rv b48, iv p2, iv p3, iv (-1 : Int32), iv (1 : Int32)] [(.int (1 : Int32))] _
                refine own_go (fun t₀ k₀ => XS.istore X101.here hx rfl (Jvm.hb hby at_137) rfl (l' := #[iv p0, iv p1, iv p2, iv p3, iv p4, iv (3 : Int32), rv b48, iv p2, iv p3, iv (-1 : Int32), iv (1 : Int32)]) rfl k₀) ?_
                rw [if_pos c104, if_pos c105] at kP
                exact kP
              · have hfork := trivial
                refine own_go (fun t₀ k₀ => XS.ifYes X101.here hx rfl (pc0 := 119) (pc' := 125) rfl (Jvm.hb hby at_119) rfl (XT.i0_ge_t c105) (by decide) (by decide) k₀) ?_
                show Gm p e below T101 m 125 #[iv p0, iv p1, iv p2, iv p3, iv p4, iv (3 : Int32), rv b48, iv p2, iv p3, iv (-1 : Int32), iv (1 : Int32)] [] _
                refine own_go (fun t₀ k₀ => XS.iload X101.here hx rfl (Jvm.hb hby at_125) rfl k₀) ?_
                show Gm p e below T101 m 127 #[iv p0, iv p1, iv p2, iv p3, iv p4, iv (3 : Int32), rv b48, iv p2, iv p3, iv (-1 : Int32), iv (1 : Int32)] [(.int (3 : Int32))] _
                refine own_go (fun t₀ k₀ => XS.iconst X101.here hx rfl (Jvm.hb hby at_127) k₀) ?_
                show Gm p e below T101 m 128 #[iv p0, iv p1, iv p2, iv p3, iv p4, iv (3 : Int32), rv b48, iv p2, iv p3, iv (-1 : Int32), iv (1 : Int32)] [(.int (2 : Int32)), (.int (3 : Int32))] _
                refine own_go (fun t₀ k₀ => XS.icmpNo X101.here hx rfl (Jvm.hb hby at_128) rfl (XT.ii_le_f (by decide)) k₀) ?_
                show Gm p e below T101 m 131 #[iv p0, iv p1, iv p2, iv p3, iv p4, iv (3 : Int32), rv b48, iv p2, iv p3, iv (-1 : Int32), iv (1 : Int32)] [] _
                refine own_go (fun t₀ k₀ => XS.iload X101.here hx rfl (Jvm.hb hby at_131) rfl k₀) ?_
                show Gm p e below T101 m 133 #[iv p0, iv p1, iv p2, iv p3, iv p4, iv (3 : Int32), rv b48, iv p2, iv p3, iv (-1 : Int32), iv (1 : Int32)] [(.int (-1 : Int32))] _
                refine own_go (fun t₀ k₀ => XS.ifNo X101.here hx rfl (Jvm.hb hby at_133) rfl (XT.i0_ge_f (by decide)) k₀) ?_
                show Gm p e below T101 m 136 #[iv p0, iv p1, iv p2, iv p3, iv p4, iv (3 : Int32), rv b48, iv p2, iv p3, iv (-1 : Int32), iv (1 : Int32)] [] _
                refine own_go (fun t₀ k₀ => XS.iconst X101.here hx rfl (Jvm.hb hby at_136) k₀) ?_
                show Gm p e below T101 m 137 #[iv p0, iv p1, iv p2, iv p3, iv p4, iv (3 : Int32), rv b48, iv p2, iv p3, iv (-1 : Int32), iv (1 : Int32)] [(.int (1 : Int32))] _
                refine own_go (fun t₀ k₀ => XS.istore X101.here hx rfl (Jvm.hb hby at_137) rfl (l' := #[iv p0, iv p1, iv p2, iv p3, iv p4, iv (3 : Int32), rv b48, iv p2, iv p3, iv (-1 : Int32), iv (1 : Int32)]) rfl k₀) ?_
                rw [if_pos c104, if_neg c105] at kP
                exact kP
            · have hfork := trivial
              refine own_go (fun t₀ k₀ => XS.ifYes X101.here hx rfl (pc0 := 105) (pc' := 111) rfl (Jvm.hb hby at_105) rfl (XT.i0_ge_t c104) (by decide) (by decide) k₀) ?_
              show Gm p e below T101 m 111 #[iv p0, iv p1, iv p2, iv p3, iv p4, iv (3 : Int32), rv b48, iv p2, iv p3, iv (-1 : Int32), iv (0 : Int32)] [] _
              refine own_go (fun t₀ k₀ => XS.iload X101.here hx rfl (Jvm.hb hby at_111) rfl k₀) ?_
              show Gm p e below T101 m 113 #[iv p0, iv p1, iv p2, iv p3, iv p4, iv (3 : Int32), rv b48, iv p2, iv p3, iv (-1 : Int32), iv (0 : Int32)] [(.int (3 : Int32))] _
              refine own_go (fun t₀ k₀ => XS.iconst X101.here hx rfl (Jvm.hb hby at_113) k₀) ?_
              show Gm p e below T101 m 114 #[iv p0, iv p1, iv p2, iv p3, iv p4, iv (3 : Int32), rv b48, iv p2, iv p3, iv (-1 : Int32), iv (0 : Int32)] [(.int (1 : Int32)), (.int (3 : Int32))] _
              refine own_go (fun t₀ k₀ => XS.icmpNo X101.here hx rfl (Jvm.hb hby at_114) rfl (XT.ii_le_f (by decide)) k₀) ?_
              show Gm p e below T101 m 117 #[iv p0, iv p1, iv p2, iv p3, iv p4, iv (3 : Int32), rv b48, iv p2, iv p3, iv (-1 : Int32), iv (0 : Int32)] [] _
              refine own_go (fun t₀ k₀ => XS.iload X101.here hx rfl (Jvm.hb hby at_117) rfl k₀) ?_
              show Gm p e below T101 m 119 #[iv p0, iv p1, iv p2, iv p3, iv p4, iv (3 : Int32), rv b48, iv p2, iv p3, iv (-1 : Int32), iv (0 : Int32)] [(.int p3)] _
              by_cases c106 : p3 < (0 : Int32)
              · have hfork := trivial
                refine own_go (fun t₀ k₀ => XS.ifNo X101.here hx rfl (Jvm.hb hby at_119) rfl (XT.i0_ge_f c106) k₀) ?_
                show Gm p e below T101 m 122 #[iv p0, iv p1, iv p2, iv p3, iv p4, iv (3 : Int32), rv b48, iv p2, iv p3, iv (-1 : Int32), iv (0 : Int32)] [] _
                refine own_go (fun t₀ k₀ => XS.iconst X101.here hx rfl (Jvm.hb hby at_122) k₀) ?_
                show Gm p e below T101 m 123 #[iv p0, iv p1, iv p2, iv p3, iv p4, iv (3 : Int32), rv b48, iv p2, iv p3, iv (-1 : Int32), iv (0 : Int32)] [(.int (1 : Int32))] _
                refine own_go (fun t₀ k₀ => XS.istore X101.here hx rfl (Jvm.hb hby at_123) rfl (l' := #[iv p0, iv p1, iv p2, iv p3, iv p4, iv (3 : Int32), rv b48, iv p2, iv p3, iv (-1 : Int32), iv (1 : Int32)]) rfl k₀) ?_
                show Gm p e below T101 m 125 #[iv p0, iv p1, iv p2, iv p3, iv p4, iv (3 : Int32), rv b48, iv p2, iv p3, iv (-1 : Int32), iv (1 : Int32)] [] _
                refine own_go (fun t₀ k₀ => XS.iload X101.here hx rfl (Jvm.hb hby at_125) rfl k₀) ?_
                show Gm p e below T101 m 127 #[iv p0, iv p1, iv p2, iv p3, iv p4, iv (3 : Int32), rv b48, iv p2, iv p3, iv (-1 : Int32), iv (1 : Int32)] [(.int (3 : Int32))] _
                refine own_go (fun t₀ k₀ => XS.iconst X101.here hx rfl (Jvm.hb hby at_127) k₀) ?_
                show Gm p e below T101 m 128 #[iv p0, iv p1, iv p2, iv p3, iv p4, iv (3 : Int32), rv b48, iv p2, iv p3, iv (-1 : Int32), iv (1 : Int32)] [(.int (2 : Int32)), (.int (3 : Int32))] _
                refine own_go (fun t₀ k₀ => XS.icmpNo X101.here hx rfl (Jvm.hb hby at_128) rfl (XT.ii_le_f (by decide)) k₀) ?_
                show Gm p e below T101 m 131 #[iv p0, iv p1, iv p2, iv p3, iv p4, iv (3 : Int32), rv b48, iv p2, iv p3, iv (-1 : Int32), iv (1 : Int32)] [] _
                refine own_go (fun t₀ k₀ => XS.iload X101.here hx rfl (Jvm.hb hby at_131) rfl k₀) ?_
                show Gm p e below T101 m 133 #[iv p0, iv p1, iv p2, iv p3, iv p4, iv (3 : Int32), rv b48, iv p2, iv p3, iv (-1 : Int32), iv (1 : Int32)] [(.int (-1 : Int32))] _
                refine own_go (fun t₀ k₀ => XS.ifNo X101.here hx rfl (Jvm.hb hby at_133) rfl (XT.i0_ge_f (by decide)) k₀) ?_
                show Gm p e below T101 m 136 #[iv p0, iv p1, iv p2, iv p3, iv p4, iv (3 : Int32), rv b48, iv p2, iv p3, iv (-1 : Int32), iv (1 : Int32)] [] _
                refine own_go (fun t₀ k₀ => XS.iconst X101.here hx rfl (Jvm.hb hby at_136) k₀) ?_
                show Gm p e below T101 m 137 #[iv p0, iv p1, iv p2, iv p3, iv p4, iv (3 : Int32), rv b48, iv p2, iv p3, iv (-1 : Int32), iv (1 : Int32)] [(.int (1 : Int32))] _
                refine own_go (fun t₀ k₀ => XS.istore X101.here hx rfl (Jvm.hb hby at_137) rfl (l' := #[iv p0, iv p1, iv p2, iv p3, iv p4, iv (3 : Int32), rv b48, iv p2, iv p3, iv (-1 : Int32), iv (1 : Int32)]) rfl k₀) ?_
                rw [if_neg c104, if_pos c106] at kP
                exact kP
              · have hfork := trivial
                refine own_go (fun t₀ k₀ => XS.ifYes X101.here hx rfl (pc0 := 119) (pc' := 125) rfl (Jvm.hb hby at_119) rfl (XT.i0_ge_t c106) (by decide) (by decide) k₀) ?_
                show Gm p e below T101 m 125 #[iv p0, iv p1, iv p2, iv p3, iv p4, iv (3 : Int32), rv b48, iv p2, iv p3, iv (-1 : Int32), iv (0 : Int32)] [] _
                refine own_go (fun t₀ k₀ => XS.iload X101.here hx rfl (Jvm.hb hby at_125) rfl k₀) ?_
                show Gm p e below T101 m 127 #[iv p0, iv p1, iv p2, iv p3, iv p4, iv (3 : Int32), rv b48, iv p2, iv p3, iv (-1 : Int32), iv (0 : Int32)] [(.int (3 : Int32))] _
                refine own_go (fun t₀ k₀ => XS.iconst X101.here hx rfl (Jvm.hb hby at_127) k₀) ?_
                show Gm p e below T101 m 128 #[iv p0, iv p1, iv p2, iv p3, iv p4, iv (3 : Int32), rv b48, iv p2, iv p3, iv (-1 : Int32), iv (0 : Int32)] [(.int (2 : Int32)), (.int (3 : Int32))] _
                refine own_go (fun t₀ k₀ => XS.icmpNo X101.here hx rfl (Jvm.hb hby at_128) rfl (XT.ii_le_f (by decide)) k₀) ?_
                show Gm p e below T101 m 131 #[iv p0, iv p1, iv p2, iv p3, iv p4, iv (3 : Int32), rv b48, iv p2, iv p3, iv (-1 : Int32), iv (0 : Int32)] [] _
                refine own_go (fun t₀ k₀ => XS.iload X101.here hx rfl (Jvm.hb hby at_131) rfl k₀) ?_
                show Gm p e below T101 m 133 #[iv p0, iv p1, iv p2, iv p3, iv p4, iv (3 : Int32), rv b48, iv p2, iv p3, iv (-1 : Int32), iv (0 : Int32)] [(.int (-1 : Int32))] _
                refine own_go (fun t₀ k₀ => XS.ifNo X101.here hx rfl (Jvm.hb hby at_133) rfl (XT.i0_ge_f (by decide)) k₀) ?_
                show Gm p e below T101 m 136 #[iv p0, iv p1, iv p2, iv p3, iv p4, iv (3 : Int32), rv b48, iv p2, iv p3, iv (-1 : Int32), iv (0 : Int32)] [] _
                refine own_go (fun t₀ k₀ => XS.iconst X101.here hx rfl (Jvm.hb hby at_136) k₀) ?_
                show Gm p e below T101 m 137 #[iv p0, iv p1, iv p2, iv p3, iv p4, iv (3 : Int32), rv b48, iv p2, iv p3, iv (-1 : Int32), iv (0 : Int32)] [(.int (1 : Int32))] _
                refine own_go (fun t₀ k₀ => XS.istore X101.here hx rfl (Jvm.hb hby at_137) rfl (l' := #[iv p0, iv p1, iv p2, iv p3, iv p4, iv (3 : Int32), rv b48, iv p2, iv p3, iv (-1 : Int32), iv (1 : Int32)]) rfl k₀) ?_
                rw [if_neg c104, if_neg c106] at kP
                exact kP
          refine k103 _ ?_
          show Gm p e below T101 m 139 #[iv p0, iv p1, iv p2, iv p3, iv p4, iv (3 : Int32), rv b48, iv p2, iv p3, iv (-1 : Int32), iv z103] [] _
          refine own_go (fun t₀ k₀ => XS.aload X101.here hx rfl (Jvm.hb hby at_139) rfl rfl k₀) ?_
          show Gm p e below T101 m 141 #[iv p0, iv p1, iv p2, iv p3, iv p4, iv (3 : Int32), rv b48, iv p2, iv p3, iv (-1 : Int32), iv z103] [(.ref b48)] _
          have f107 := (Fld.other W101 f99 (Or.inl ne_b48_exit49))
          have f109 := ((Ec49.wr W81).wr W101)
          obtain ⟨cq108, kq108, q108a, q108b, q108c⟩ := isOf hZ e101 f109
          obtain ⟨_, _, ⟨T108, L108, k108, n108⟩, -, X108, ⟨Lc108, hQ108, l108, y108, z108⟩, st108⟩ := X101.virtualBack hx (y := (⟨"com/example/throughfare/throughfare/simulation/Walkers", "anyoneInside", "()Z"⟩ : MethodName)) (z := (⟨"com/example/throughfare/throughfare/simulation/Walkers", "anyoneInside", "()Z"⟩ : MethodName)) hown (mvT hZ (hw _ (List.mem_of_getElem? (i := 42) rfl))) (mvT hZ (hw _ (List.mem_of_getElem? (i := 43) rfl))) (notFace_of_selects (args := #[]) (mvT hZ (hw _ (List.mem_of_getElem? (i := 45) rfl)))) (mvT hZ (hw _ (List.mem_of_getElem? (i := 45) rfl))) (mvT hZ (hw _ (List.mem_of_getElem? (i := 44) rfl))) (by decide) (backOf (W := 0) (rm5_3 l Z a0 hw [] b48 exit49 (fun i => if i = 1 then (.int p3) else (fun i => if i = 0 then (.int p2) else (fun _ => (.int (-1 : Int32))) i) i) p2 p3 (-1 : Int32) h101 n0 Z101 f107 A101 rfl rfl rfl) hZ (hw _ (List.mem_of_getElem? (i := 46) rfl)) (hw _ (List.mem_of_getElem? (i := 2) rfl)) (by decide) (by decide)) q108a q108c (g := (mkF m 141 #[iv p0, iv p1, iv p2, iv p3, iv p4, iv (3 : Int32), rv b48, iv p2, iv p3, iv (-1 : Int32), iv z103] [(.ref b48)])) rfl (by rw [hml]; rfl) (Steps.refl _) (argsL := []) (rest := []) (lenOf own_pd3 rfl) rfl (by show 2 * 0 + _ ≤ _; exact Nat.le_of_eq rfl) (Jvm.hb hby at_141) (fun _ _ => ⟨rfl, e101, (by decide : 12 + 0 ≤ _), (by decide : 44 + 0 ≤ _)⟩)
          dsimp only [Pt.U, Pt.locs, Pt.cells, Pt.slots] at X108 l108 y108 z108 st108 hQ108
          subst l108 y108 z108
          obtain ⟨rfl, Nq108, eq108⟩ := hQ108
          have N108 := Fr.app N101 Nq108
          have e108 : T108.heap = h101 := eq108
          refine own_go (fun t k => st108.trans k) ?_
          show Gm p e below T108 m 144 #[iv p0, iv p1, iv p2, iv p3, iv p4, iv (3 : Int32), rv b48, iv p2, iv p3, iv (-1 : Int32), iv z103] [(.int (fA3 p2 p3 (-1 : Int32)))] _
          refine own_go (fun t₀ k₀ => XS.iload X108.here hx rfl (Jvm.hb hby at_144) rfl k₀) ?_
          show Gm p e below T108 m 146 #[iv p0, iv p1, iv p2, iv p3, iv p4, iv (3 : Int32), rv b48, iv p2, iv p3, iv (-1 : Int32), iv z103] [(.int z103), (.int (fA3 p2 p3 (-1 : Int32)))] _
          refine own_go (fun t₀ k₀ => XS.icmpNo X108.here hx rfl (Jvm.hb hby at_146) rfl (XT.ii_ne_f (by rw [hz103]; unfold fA3; first | rfl | (simp only [(by decide : ((-1 : Int32) < 0) = True), if_true]; done) | (simp only [(by decide : ((-1 : Int32) < 0) = True), if_true]; (repeat' split) <;> rfl) | ((repeat' split) <;> first | rfl | contradiction | (simp_all; done)))) k₀) ?_
          show Gm p e below T108 m 149 #[iv p0, iv p1, iv p2, iv p3, iv p4, iv (3 : Int32), rv b48, iv p2, iv p3, iv (-1 : Int32), iv z103] [] _
          refine own_go (fun t₀ k₀ => XS.iconst X108.here hx rfl (Jvm.hb hby at_149) k₀) ?_
          show Gm p e below T108 m 150 #[iv p0, iv p1, iv p2, iv p3, iv p4, iv (3 : Int32), rv b48, iv p2, iv p3, iv (-1 : Int32), iv z103] [(.int (1 : Int32))] _
          refine own_go (fun t₀ k₀ => XS.goto X108.here hx rfl (pc0 := 150) (pc' := 154) rfl (Jvm.hb hby at_150) (by decide) (by decide) k₀) ?_
          show Gm p e below T108 m 154 #[iv p0, iv p1, iv p2, iv p3, iv p4, iv (3 : Int32), rv b48, iv p2, iv p3, iv (-1 : Int32), iv z103] [(.int (1 : Int32))] _
          exact own_retI X108 hx hlk (t := .boolean) Bd.returns rfl (by simp) (Jvm.hb hby at_154) e108 ⟨rfl, N108⟩ (by decide) (by decide)
        · have hfork := trivial
          refine own_go (fun t₀ k₀ => XS.ifNo X101.here hx rfl (Jvm.hb hby at_79) rfl (XT.i0_eq_f c102) k₀) ?_
          show Gm p e below T101 m 82 #[iv p0, iv p1, iv p2, iv p3, iv p4, iv (3 : Int32), rv b48, iv p2, iv p3, iv (-1 : Int32), .unset] [] _
          refine own_go (fun t₀ k₀ => XS.aload X101.here hx rfl (Jvm.hb hby at_82) rfl rfl k₀) ?_
          show Gm p e below T101 m 84 #[iv p0, iv p1, iv p2, iv p3, iv p4, iv (3 : Int32), rv b48, iv p2, iv p3, iv (-1 : Int32), .unset] [(.ref b48)] _
          have f110 := (Fld.other W101 f99 (Or.inl ne_b48_exit49))
          obtain ⟨T111, X111, e111, st111⟩ := getF X101 hx hZ hown (host := "") (Or.inl (hw _ (List.mem_of_getElem? (i := 47) rfl))) Via.refl e101 f110 (g := (mkF m 84 #[iv p0, iv p1, iv p2, iv p3, iv p4, iv (3 : Int32), rv b48, iv p2, iv p3, iv (-1 : Int32), .unset] [(.ref b48)])) rfl rfl (Jvm.hb hby at_84)
          refine own_go st111 ?_
          show Gm p e below T111 m 87 #[iv p0, iv p1, iv p2, iv p3, iv p4, iv (3 : Int32), rv b48, iv p2, iv p3, iv (-1 : Int32), .unset] [(.ref exit49)] _
          refine own_go (fun t₀ k₀ => XS.iconst X111.here hx rfl (Jvm.hb hby at_87) k₀) ?_
          show Gm p e below T111 m 88 #[iv p0, iv p1, iv p2, iv p3, iv p4, iv (3 : Int32), rv b48, iv p2, iv p3, iv (-1 : Int32), .unset] [(.int (2 : Int32)), (.ref exit49)] _
          refine own_go (fun t₀ k₀ => XS.iload X111.here hx rfl (Jvm.hb hby at_88) rfl k₀) ?_
          show Gm p e below T111 m 90 #[iv p0, iv p1, iv p2, iv p3, iv p4, iv (3 : Int32), rv b48, iv p2, iv p3, iv (-1 : Int32), .unset] [(.int p4), (.int (2 : Int32)), (.ref exit49)] _
          obtain ⟨T112, h112, X112, e112, W112, A112, st112⟩ := own_stI X111 hx hZ e111 A101 (j := (2 : Int32)) (k := 2) (by decide) rfl (by decide) (g := (mkF m 90 #[iv p0, iv p1, iv p2, iv p3, iv p4, iv (3 : Int32), rv b48, iv p2, iv p3, iv (-1 : Int32), .unset] [(.int p4), (.int (2 : Int32)), (.ref exit49)])) rfl rfl (Jvm.hb hby at_90)
          have N112 := Fr.snoc X112 N101 g_exit49
          have Z112 : n0 ≤ h112.size := W112.size ▸ Z101
          refine own_go st112 ?_
          show Gm p e below T112 m 91 #[iv p0, iv p1, iv p2, iv p3, iv p4, iv (3 : Int32), rv b48, iv p2, iv p3, iv (-1 : Int32), .unset] [] _
          refine own_go (fun t₀ k₀ => XS.iload X112.here hx rfl (Jvm.hb hby at_91) rfl k₀) ?_
          show Gm p e below T112 m 93 #[iv p0, iv p1, iv p2, iv p3, iv p4, iv (3 : Int32), rv b48, iv p2, iv p3, iv (-1 : Int32), .unset] [(.int p4)] _
          refine own_go (fun t₀ k₀ => XS.istore X112.here hx rfl (Jvm.hb hby at_93) rfl (l' := #[iv p0, iv p1, iv p2, iv p3, iv p4, iv (3 : Int32), rv b48, iv p2, iv p3, iv p4, .unset]) rfl k₀) ?_
          show Gm p e below T112 m 95 #[iv p0, iv p1, iv p2, iv p3, iv p4, iv (3 : Int32), rv b48, iv p2, iv p3, iv p4, .unset] [] _
          refine own_go (fun t₀ k₀ => XS.iconst X112.here hx rfl (Jvm.hb hby at_95) k₀) ?_
          show Gm p e below T112 m 96 #[iv p0, iv p1, iv p2, iv p3, iv p4, iv (3 : Int32), rv b48, iv p2, iv p3, iv p4, .unset] [(.int (0 : Int32))] _
          refine own_go (fun t₀ k₀ => XS.istore X112.here hx rfl (Jvm.hb hby at_96) rfl (l' := #[iv p0, iv p1, iv p2, iv p3, iv p4, iv (3 : Int32), rv b48, iv p2, iv p3, iv p4, iv (0 : Int32)]) rfl k₀) ?_
          obtain ⟨z113, hz113, k113⟩ : ∃ z : Int32, z = (if p2 < (0 : Int32) then if p3 < (0 : Int32) then if p4 < (0 : Int32) then (1 : Int32) else ((1 : Int32)) else (if p4 < (0 : Int32) then (1 : Int32) else ((1 : Int32))) else (if p3 < (0 : Int32) then if p4 < (0 : Int32) then (1 : Int32) else ((1 : Int32)) else (if p4 < (0 : Int32) then (1 : Int32) else ((0 : Int32))))) ∧ ∀ P, Go p e below (T112.setTop (mkF m 139 #[iv p0, iv p1, iv p2, iv p3, iv p4, iv (3 : Int32), rv b48, iv p2, iv p3, iv p4, iv z] [])) P → Go p e below (T112.setTop (mkF m 98 #[iv p0, iv p1, iv p2, iv p3, iv p4, iv (3 : Int32), rv b48, iv p2, iv p3, iv p4, iv (0 : Int32)] [])) P := by
            refine ⟨_, rfl, fun P kP => ?_⟩
            show Gm p e below T112 m 98 #[iv p0, iv p1, iv p2, iv p3, iv p4, iv (3 : Int32), rv b48, iv p2, iv p3, iv p4, iv (0 : Int32)] [] _
            refine own_go (fun t₀ k₀ => XS.iload X112.here hx rfl (Jvm.hb hby at_98) rfl k₀) ?_
            show Gm p e below T112 m 100 #[iv p0, iv p1, iv p2, iv p3, iv p4, iv (3 : Int32), rv b48, iv p2, iv p3, iv p4, iv (0 : Int32)] [(.int (3 : Int32))] _
            refine own_go (fun t₀ k₀ => XS.ifNo X112.here hx rfl (Jvm.hb hby at_100) rfl (XT.i0_le_f (by decide)) k₀) ?_
            show Gm p e below T112 m 103 #[iv p0, iv p1, iv p2, iv p3, iv p4, iv (3 : Int32), rv b48, iv p2, iv p3, iv p4, iv (0 : Int32)] [] _
            refine own_go (fun t₀ k₀ => XS.iload X112.here hx rfl (Jvm.hb hby at_103) rfl k₀) ?_
            show Gm p e below T112 m 105 #[iv p0, iv p1, iv p2, iv p3, iv p4, iv (3 : Int32), rv b48, iv p2, iv p3, iv p4, iv (0 : Int32)] [(.int p2)] _
            by_cases c114 : p2 < (0 : Int32)
            · have hfork := trivial
              refine own_go (fun t₀ k₀ => XS.ifNo X112.here hx rfl (Jvm.hb hby at_105) rfl (XT.i0_ge_f c114) k₀) ?_
              show Gm p e below T112 m 108 #[iv p0, iv p1, iv p2, iv p3, iv p4, iv (3 : Int32), rv b48, iv p2, iv p3, iv p4, iv (0 : Int32)] [] _
              refine own_go (fun t₀ k₀ => XS.iconst X112.here hx rfl (Jvm.hb hby at_108) k₀) ?_
              show Gm p e below T112 m 109 #[iv p0, iv p1, iv p2, iv p3, iv p4, iv (3 : Int32), rv b48, iv p2, iv p3, iv p4, iv (0 : Int32)] [(.int (1 : Int32))] _
              refine own_go (fun t₀ k₀ => XS.istore X112.here hx rfl (Jvm.hb hby at_109) rfl (l' := #[iv p0, iv p1, iv p2, iv p3, iv p4, iv (3 : Int32), rv b48, iv p2, iv p3, iv p4, iv (1 : Int32)]) rfl k₀) ?_
              show Gm p e below T112 m 111 #[iv p0, iv p1, iv p2, iv p3, iv p4, iv (3 : Int32), rv b48, iv p2, iv p3, iv p4, iv (1 : Int32)] [] _
              refine own_go (fun t₀ k₀ => XS.iload X112.here hx rfl (Jvm.hb hby at_111) rfl k₀) ?_
              show Gm p e below T112 m 113 #[iv p0, iv p1, iv p2, iv p3, iv p4, iv (3 : Int32), rv b48, iv p2, iv p3, iv p4, iv (1 : Int32)] [(.int (3 : Int32))] _
              refine own_go (fun t₀ k₀ => XS.iconst X112.here hx rfl (Jvm.hb hby at_113) k₀) ?_
              show Gm p e below T112 m 114 #[iv p0, iv p1, iv p2, iv p3, iv p4, iv (3 : Int32), rv b48, iv p2, iv p3, iv p4, iv (1 : Int32)] [(.int (1 : Int32)), (.int (3 : Int32))] _
              refine own_go (fun t₀ k₀ => XS.icmpNo X112.here hx rfl (Jvm.hb hby at_114) rfl (XT.ii_le_f (by decide)) k₀) ?_
              show Gm p e below T112 m 117 #[iv p0, iv p1, iv p2, iv p3, iv p4, iv (3 : Int32), rv b48, iv p2, iv p3, iv p4, iv (1 : Int32)] [] _
              refine own_go (fun t₀ k₀ => XS.iload X112.here hx rfl (Jvm.hb hby at_117) rfl k₀) ?_
              show Gm p e below T112 m 119 #[iv p0, iv p1, iv p2, iv p3, iv p4, iv (3 : Int32), rv b48, iv p2, iv p3, iv p4, iv (1 : Int32)] [(.int p3)] _
              by_cases c115 : p3 < (0 : Int32)
              · have hfork := trivial
                refine own_go (fun t₀ k₀ => XS.ifNo X112.here hx rfl (Jvm.hb hby at_119) rfl (XT.i0_ge_f c115) k₀) ?_
                show Gm p e below T112 m 122 #[iv p0, iv p1, iv p2, iv p3, iv p4, iv (3 : Int32), rv b48, iv p2, iv p3, iv p4, iv (1 : Int32)] [] _
                refine own_go (fun t₀ k₀ => XS.iconst X112.here hx rfl (Jvm.hb hby at_122) k₀) ?_
                show Gm p e below T112 m 123 #[iv p0, iv p1, iv p2, iv p3, iv p4, iv (3 : Int32), rv b48, iv p2, iv p3, iv p4, iv (1 : Int32)] [(.int (1 : Int32))] _
                refine own_go (fun t₀ k₀ => XS.istore X112.here hx rfl (Jvm.hb hby at_123) rfl (l' := #[iv p0, iv p1, iv p2, iv p3, iv p4, iv (3 : Int32), rv b48, iv p2, iv p3, iv p4, iv (1 : Int32)]) rfl k₀) ?_
                show Gm p e below T112 m 125 #[iv p0, iv p1, iv p2, iv p3, iv p4, iv (3 : Int32), rv b48, iv p2, iv p3, iv p4, iv (1 : Int32)] [] _
                refine own_go (fun t₀ k₀ => XS.iload X112.here hx rfl (Jvm.hb hby at_125) rfl k₀) ?_
                show Gm p e below T112 m 127 #[iv p0, iv p1, iv p2, iv p3, iv p4, iv (3 : Int32), rv b48, iv p2, iv p3, iv p4, iv (1 : Int32)] [(.int (3 : Int32))] _
                refine own_go (fun t₀ k₀ => XS.iconst X112.here hx rfl (Jvm.hb hby at_127) k₀) ?_
                show Gm p e below T112 m 128 #[iv p0, iv p1, iv p2, iv p3, iv p4, iv (3 : Int32), rv b48, iv p2, iv p3, iv p4, iv (1 : Int32)] [(.int (2 : Int32)), (.int (3 : Int32))] _
                refine own_go (fun t₀ k₀ => XS.icmpNo X112.here hx rfl (Jvm.hb hby at_128) rfl (XT.ii_le_f (by decide)) k₀) ?_
                show Gm p e below T112 m 131 #[iv p0, iv p1, iv p2, iv p3, iv p4, iv (3 : Int32), rv b48, iv p2, iv p3, iv p4, iv (1 : Int32)] [] _
                refine own_go (fun t₀ k₀ => XS.iload X112.here hx rfl (Jvm.hb hby at_131) rfl k₀) ?_
                show Gm p e below T112 m 133 #[iv p0, iv p1, iv p2, iv p3, iv p4, iv (3 : Int32), rv b48, iv p2, iv p3, iv p4, iv (1 : Int32)] [(.int p4)] _
                by_cases c116 : p4 < (0 : Int32)
                · have hfork := trivial
                  refine own_go (fun t₀ k₀ => XS.ifNo X112.here hx rfl (Jvm.hb hby at_133) rfl (XT.i0_ge_f c116) k₀) ?_
                  show Gm p e below T112 m 136 #[iv p0, iv p1, iv p2, iv p3, iv p4, iv (3 : Int32), rv b48, iv p2, iv p3, iv p4, iv (1 : Int32)] [] _
                  refine own_go (fun t₀ k₀ => XS.iconst X112.here hx rfl (Jvm.hb hby at_136) k₀) ?_
                  show Gm p e below T112 m 137 #[iv p0, iv p1, iv p2, iv p3, iv p4, iv (3 : Int32), rv b48, iv p2, iv p3, iv p4, iv (1 : Int32)] [(.int (1 : Int32))] _
                  refine own_go (fun t₀ k₀ => XS.istore X112.here hx rfl (Jvm.hb hby at_137) rfl (l' := #[iv p0, iv p1, iv p2, iv p3, iv p4, iv (3 : Int32), rv b48, iv p2, iv p3, iv p4, iv (1 : Int32)]) rfl k₀) ?_
                  rw [if_pos c114, if_pos c115, if_pos c116] at kP
                  exact kP
                · have hfork := trivial
                  refine own_go (fun t₀ k₀ => XS.ifYes X112.here hx rfl (pc0 := 133) (pc' := 139) rfl (Jvm.hb hby at_133) rfl (XT.i0_ge_t c116) (by decide) (by decide) k₀) ?_
                  rw [if_pos c114, if_pos c115, if_neg c116] at kP
                  exact kP
              · have hfork := trivial
                refine own_go (fun t₀ k₀ => XS.ifYes X112.here hx rfl (pc0 := 119) (pc' := 125) rfl (Jvm.hb hby at_119) rfl (XT.i0_ge_t c115) (by decide) (by decide) k₀) ?_
                show Gm p e below T112 m 125 #[iv p0, iv p1, iv p2, iv p3, iv p4, iv (3 : Int32), rv b48, iv p2, iv p3, iv p4, iv (1 : Int32)] [] _
                refine own_go (fun t₀ k₀ => XS.iload X112.here hx rfl (Jvm.hb hby at_125) rfl k₀) ?_
                show Gm p e below T112 m 127 #[iv p0, iv p1, iv p2, iv p3, iv p4, iv (3 : Int32), rv b48, iv p2, iv p3, iv p4, iv (1 : Int32)] [(.int (3 : Int32))] _
                refine own_go (fun t₀ k₀ => XS.iconst X112.here hx rfl (Jvm.hb hby at_127) k₀) ?_
                show Gm p e below T112 m 128 #[iv p0, iv p1, iv p2, iv p3, iv p4, iv (3 : Int32), rv b48, iv p2, iv p3, iv p4, iv (1 : Int32)] [(.int (2 : Int32)), (.int (3 : Int32))] _
                refine own_go (fun t₀ k₀ => XS.icmpNo X112.here hx rfl (Jvm.hb hby at_128) rfl (XT.ii_le_f (by decide)) k₀) ?_
                show Gm p e below T112 m 131 #[iv p0, iv p1, iv p2, iv p3, iv p4, iv (3 : Int32), rv b48, iv p2, iv p3, iv p4, iv (1 : Int32)] [] _
                refine own_go (fun t₀ k₀ => XS.iload X112.here hx rfl (Jvm.hb hby at_131) rfl k₀) ?_
                show Gm p e below T112 m 133 #[iv p0, iv p1, iv p2, iv p3, iv p4, iv (3 : Int32), rv b48, iv p2, iv p3, iv p4, iv (1 : Int32)] [(.int p4)] _
                by_cases c117 : p4 < (0 : Int32)
                · have hfork := trivial
                  refine own_go (fun t₀ k₀ => XS.ifNo X112.here hx rfl (Jvm.hb hby at_133) rfl (XT.i0_ge_f c117) k₀) ?_
                  show Gm p e below T112 m 136 #[iv p0, iv p1, iv p2, iv p3, iv p4, iv (3 : Int32), rv b48, iv p2, iv p3, iv p4, iv (1 : Int32)] [] _
                  refine own_go (fun t₀ k₀ => XS.iconst X112.here hx rfl (Jvm.hb hby at_136) k₀) ?_
                  show Gm p e below T112 m 137 #[iv p0, iv p1, iv p2, iv p3, iv p4, iv (3 : Int32), rv b48, iv p2, iv p3, iv p4, iv (1 : Int32)] [(.int (1 : Int32))] _
                  refine own_go (fun t₀ k₀ => XS.istore X112.here hx rfl (Jvm.hb hby at_137) rfl (l' := #[iv p0, iv p1, iv p2, iv p3, iv p4, iv (3 : Int32), rv b48, iv p2, iv p3, iv p4, iv (1 : Int32)]) rfl k₀) ?_
                  rw [if_pos c114, if_neg c115, if_pos c117] at kP
                  exact kP
                · have hfork := trivial
                  refine own_go (fun t₀ k₀ => XS.ifYes X112.here hx rfl (pc0 := 133) (pc' := 139) rfl (Jvm.hb hby at_133) rfl (XT.i0_ge_t c117) (by decide) (by decide) k₀) ?_
                  rw [if_pos c114, if_neg c115, if_neg c117] at kP
                  exact kP
            · have hfork := trivial
              refine own_go (fun t₀ k₀ => XS.ifYes X112.here hx rfl (pc0 := 105) (pc' := 111) rfl (Jvm.hb hby at_105) rfl (XT.i0_ge_t c114) (by decide) (by decide) k₀) ?_
              show Gm p e below T112 m 111 #[iv p0, iv p1, iv p2, iv p3, iv p4, iv (3 : Int32), rv b48, iv p2, iv p3, iv p4, iv (0 : Int32)] [] _
              refine own_go (fun t₀ k₀ => XS.iload X112.here hx rfl (Jvm.hb hby at_111) rfl k₀) ?_
              show Gm p e below T112 m 113 #[iv p0, iv p1, iv p2, iv p3, iv p4, iv (3 : Int32), rv b48, iv p2, iv p3, iv p4, iv (0 : Int32)] [(.int (3 : Int32))] _
              refine own_go (fun t₀ k₀ => XS.iconst X112.here hx rfl (Jvm.hb hby at_113) k₀) ?_
              show Gm p e below T112 m 114 #[iv p0, iv p1, iv p2, iv p3, iv p4, iv (3 : Int32), rv b48, iv p2, iv p3, iv p4, iv (0 : Int32)] [(.int (1 : Int32)), (.int (3 : Int32))] _
              refine own_go (fun t₀ k₀ => XS.icmpNo X112.here hx rfl (Jvm.hb hby at_114) rfl (XT.ii_le_f (by decide)) k₀) ?_
              show Gm p e below T112 m 117 #[iv p0, iv p1, iv p2, iv p3, iv p4, iv (3 : Int32), rv b48, iv p2, iv p3, iv p4, iv (0 : Int32)] [] _
              refine own_go (fun t₀ k₀ => XS.iload X112.here hx rfl (Jvm.hb hby at_117) rfl k₀) ?_
              show Gm p e below T112 m 119 #[iv p0, iv p1, iv p2, iv p3, iv p4, iv (3 : Int32), rv b48, iv p2, iv p3, iv p4, iv (0 : Int32)] [(.int p3)] _
              by_cases c118 : p3 < (0 : Int32)
              · have hfork := trivial
                refine own_go (fun t₀ k₀ => XS.ifNo X112.here hx rfl (Jvm.hb hby at_119) rfl (XT.i0_ge_f c118) k₀) ?_
                show Gm p e below T112 m 122 #[iv p0, iv p1, iv p2, iv p3, iv p4, iv (3 : Int32), rv b48, iv p2, iv p3, iv p4, iv (0 : Int32)] [] _
                refine own_go (fun t₀ k₀ => XS.iconst X112.here hx rfl (Jvm.hb hby at_122) k₀) ?_
                show Gm p e below T112 m 123 #[iv p0, iv p1, iv p2, iv p3, iv p4, iv (3 : Int32), rv b48, iv p2, iv p3, iv p4, iv (0 : Int32)] [(.int (1 : Int32))] _
                refine own_go (fun t₀ k₀ => XS.istore X112.here hx rfl (Jvm.hb hby at_123) rfl (l' := #[iv p0, iv p1, iv p2, iv p3, iv p4, iv (3 : Int32), rv b48, iv p2, iv p3, iv p4, iv (1 : Int32)]) rfl k₀) ?_
                show Gm p e below T112 m 125 #[iv p0, iv p1, iv p2, iv p3, iv p4, iv (3 : Int32), rv b48, iv p2, iv p3, iv p4, iv (1 : Int32)] [] _
                refine own_go (fun t₀ k₀ => XS.iload X112.here hx rfl (Jvm.hb hby at_125) rfl k₀) ?_
                show Gm p e below T112 m 127 #[iv p0, iv p1, iv p2, iv p3, iv p4, iv (3 : Int32), rv b48, iv p2, iv p3, iv p4, iv (1 : Int32)] [(.int (3 : Int32))] _
                refine own_go (fun t₀ k₀ => XS.iconst X112.here hx rfl (Jvm.hb hby at_127) k₀) ?_
                show Gm p e below T112 m 128 #[iv p0, iv p1, iv p2, iv p3, iv p4, iv (3 : Int32), rv b48, iv p2, iv p3, iv p4, iv (1 : Int32)] [(.int (2 : Int32)), (.int (3 : Int32))] _
                refine own_go (fun t₀ k₀ => XS.icmpNo X112.here hx rfl (Jvm.hb hby at_128) rfl (XT.ii_le_f (by decide)) k₀) ?_
                show Gm p e below T112 m 131 #[iv p0, iv p1, iv p2, iv p3, iv p4, iv (3 : Int32), rv b48, iv p2, iv p3, iv p4, iv (1 : Int32)] [] _
                refine own_go (fun t₀ k₀ => XS.iload X112.here hx rfl (Jvm.hb hby at_131) rfl k₀) ?_
                show Gm p e below T112 m 133 #[iv p0, iv p1, iv p2, iv p3, iv p4, iv (3 : Int32), rv b48, iv p2, iv p3, iv p4, iv (1 : Int32)] [(.int p4)] _
                by_cases c119 : p4 < (0 : Int32)
                · have hfork := trivial
                  refine own_go (fun t₀ k₀ => XS.ifNo X112.here hx rfl (Jvm.hb hby at_133) rfl (XT.i0_ge_f c119) k₀) ?_
                  show Gm p e below T112 m 136 #[iv p0, iv p1, iv p2, iv p3, iv p4, iv (3 : Int32), rv b48, iv p2, iv p3, iv p4, iv (1 : Int32)] [] _
                  refine own_go (fun t₀ k₀ => XS.iconst X112.here hx rfl (Jvm.hb hby at_136) k₀) ?_
                  show Gm p e below T112 m 137 #[iv p0, iv p1, iv p2, iv p3, iv p4, iv (3 : Int32), rv b48, iv p2, iv p3, iv p4, iv (1 : Int32)] [(.int (1 : Int32))] _
                  refine own_go (fun t₀ k₀ => XS.istore X112.here hx rfl (Jvm.hb hby at_137) rfl (l' := #[iv p0, iv p1, iv p2, iv p3, iv p4, iv (3 : Int32), rv b48, iv p2, iv p3, iv p4, iv (1 : Int32)]) rfl k₀) ?_
                  rw [if_neg c114, if_pos c118, if_pos c119] at kP
                  exact kP
                · have hfork := trivial
                  refine own_go (fun t₀ k₀ => XS.ifYes X112.here hx rfl (pc0 := 133) (pc' := 139) rfl (Jvm.hb hby at_133) rfl (XT.i0_ge_t c119) (by decide) (by decide) k₀) ?_
                  rw [if_neg c114, if_pos c118, if_neg c119] at kP
                  exact kP
              · have hfork := trivial
                refine own_go (fun t₀ k₀ => XS.ifYes X112.here hx rfl (pc0 := 119) (pc' := 125) rfl (Jvm.hb hby at_119) rfl (XT.i0_ge_t c118) (by decide) (by decide) k₀) ?_
                show Gm p e below T112 m 125 #[iv p0, iv p1, iv p2, iv p3, iv p4, iv (3 : Int32), rv b48, iv p2, iv p3, iv p4, iv (0 : Int32)] [] _
                refine own_go (fun t₀ k₀ => XS.iload X112.here hx rfl (Jvm.hb hby at_125) rfl k₀) ?_
                show Gm p e below T112 m 127 #[iv p0, iv p1, iv p2, iv p3, iv p4, iv (3 : Int32), rv b48, iv p2, iv p3, iv p4, iv (0 : Int32)] [(.int (3 : Int32))] _
                refine own_go (fun t₀ k₀ => XS.iconst X112.here hx rfl (Jvm.hb hby at_127) k₀) ?_
                show Gm p e below T112 m 128 #[iv p0, iv p1, iv p2, iv p3, iv p4, iv (3 : Int32), rv b48, iv p2, iv p3, iv p4, iv (0 : Int32)] [(.int (2 : Int32)), (.int (3 : Int32))] _
                refine own_go (fun t₀ k₀ => XS.icmpNo X112.here hx rfl (Jvm.hb hby at_128) rfl (XT.ii_le_f (by decide)) k₀) ?_
                show Gm p e below T112 m 131 #[iv p0, iv p1, iv p2, iv p3, iv p4, iv (3 : Int32), rv b48, iv p2, iv p3, iv p4, iv (0 : Int32)] [] _
                refine own_go (fun t₀ k₀ => XS.iload X112.here hx rfl (Jvm.hb hby at_131) rfl k₀) ?_
                show Gm p e below T112 m 133 #[iv p0, iv p1, iv p2, iv p3, iv p4, iv (3 : Int32), rv b48, iv p2, iv p3, iv p4, iv (0 : Int32)] [(.int p4)] _
                by_cases c120 : p4 < (0 : Int32)
                · have hfork := trivial
                  refine own_go (fun t₀ k₀ => XS.ifNo X112.here hx rfl (Jvm.hb hby at_133) rfl (XT.i0_ge_f c120) k₀) ?_
                  show Gm p e below T112 m 136 #[iv p0, iv p1, iv p2, iv p3, iv p4, iv (3 : Int32), rv b48, iv p2, iv p3, iv p4, iv (0 : Int32)] [] _
                  refine own_go (fun t₀ k₀ => XS.iconst X112.here hx rfl (Jvm.hb hby at_136) k₀) ?_
                  show Gm p e below T112 m 137 #[iv p0, iv p1, iv p2, iv p3, iv p4, iv (3 : Int32), rv b48, iv p2, iv p3, iv p4, iv (0 : Int32)] [(.int (1 : Int32))] _
                  refine own_go (fun t₀ k₀ => XS.istore X112.here hx rfl (Jvm.hb hby at_137) rfl (l' := #[iv p0, iv p1, iv p2, iv p3, iv p4, iv (3 : Int32), rv b48, iv p2, iv p3, iv p4, iv (1 : Int32)]) rfl k₀) ?_
                  rw [if_neg c114, if_neg c118, if_pos c120] at kP
                  exact kP
                · have hfork := trivial
                  refine own_go (fun t₀ k₀ => XS.ifYes X112.here hx rfl (pc0 := 133) (pc' := 139) rfl (Jvm.hb hby at_133) rfl (XT.i0_ge_t c120) (by decide) (by decide) k₀) ?_
                  rw [if_neg c114, if_neg c118, if_neg c120] at kP
                  exact kP
          refine k113 _ ?_
          show Gm p e below T112 m 139 #[iv p0, iv p1, iv p2, iv p3, iv p4, iv (3 : Int32), rv b48, iv p2, iv p3, iv p4, iv z113] [] _
          refine own_go (fun t₀ k₀ => XS.aload X112.here hx rfl (Jvm.hb hby at_139) rfl rfl k₀) ?_
          show Gm p e below T112 m 141 #[iv p0, iv p1, iv p2, iv p3, iv p4, iv (3 : Int32), rv b48, iv p2, iv p3, iv p4, iv z113] [(.ref b48)] _
          have f121 := (Fld.other W112 f110 (Or.inl ne_b48_exit49))
          have f123 := (((Ec49.wr W81).wr W101).wr W112)
          obtain ⟨cq122, kq122, q122a, q122b, q122c⟩ := isOf hZ e112 f123
          obtain ⟨_, _, ⟨T122, L122, k122, n122⟩, -, X122, ⟨Lc122, hQ122, l122, y122, z122⟩, st122⟩ := X112.virtualBack hx (y := (⟨"com/example/throughfare/throughfare/simulation/Walkers", "anyoneInside", "()Z"⟩ : MethodName)) (z := (⟨"com/example/throughfare/throughfare/simulation/Walkers", "anyoneInside", "()Z"⟩ : MethodName)) hown (mvT hZ (hw _ (List.mem_of_getElem? (i := 42) rfl))) (mvT hZ (hw _ (List.mem_of_getElem? (i := 43) rfl))) (notFace_of_selects (args := #[]) (mvT hZ (hw _ (List.mem_of_getElem? (i := 45) rfl)))) (mvT hZ (hw _ (List.mem_of_getElem? (i := 45) rfl))) (mvT hZ (hw _ (List.mem_of_getElem? (i := 44) rfl))) (by decide) (backOf (W := 0) (rm5_3 l Z a0 hw [] b48 exit49 (fun i => if i = 2 then (.int p4) else (fun i => if i = 1 then (.int p3) else (fun i => if i = 0 then (.int p2) else (fun _ => (.int (-1 : Int32))) i) i) i) p2 p3 p4 h112 n0 Z112 f121 A112 rfl rfl rfl) hZ (hw _ (List.mem_of_getElem? (i := 46) rfl)) (hw _ (List.mem_of_getElem? (i := 2) rfl)) (by decide) (by decide)) q122a q122c (g := (mkF m 141 #[iv p0, iv p1, iv p2, iv p3, iv p4, iv (3 : Int32), rv b48, iv p2, iv p3, iv p4, iv z113] [(.ref b48)])) rfl (by rw [hml]; rfl) (Steps.refl _) (argsL := []) (rest := []) (lenOf own_pd3 rfl) rfl (by show 2 * 0 + _ ≤ _; exact Nat.le_of_eq rfl) (Jvm.hb hby at_141) (fun _ _ => ⟨rfl, e112, (by decide : 12 + 0 ≤ _), (by decide : 44 + 0 ≤ _)⟩)
          dsimp only [Pt.U, Pt.locs, Pt.cells, Pt.slots] at X122 l122 y122 z122 st122 hQ122
          subst l122 y122 z122
          obtain ⟨rfl, Nq122, eq122⟩ := hQ122
          have N122 := Fr.app N112 Nq122
          have e122 : T122.heap = h112 := eq122
          refine own_go (fun t k => st122.trans k) ?_
          show Gm p e below T122 m 144 #[iv p0, iv p1, iv p2, iv p3, iv p4, iv (3 : Int32), rv b48, iv p2, iv p3, iv p4, iv z113] [(.int (fA3 p2 p3 p4))] _
          refine own_go (fun t₀ k₀ => XS.iload X122.here hx rfl (Jvm.hb hby at_144) rfl k₀) ?_
          show Gm p e below T122 m 146 #[iv p0, iv p1, iv p2, iv p3, iv p4, iv (3 : Int32), rv b48, iv p2, iv p3, iv p4, iv z113] [(.int z113), (.int (fA3 p2 p3 p4))] _
          refine own_go (fun t₀ k₀ => XS.icmpNo X122.here hx rfl (Jvm.hb hby at_146) rfl (XT.ii_ne_f (by rw [hz113]; unfold fA3; first | rfl | (simp only [(by decide : ((-1 : Int32) < 0) = True), if_true]; done) | (simp only [(by decide : ((-1 : Int32) < 0) = True), if_true]; (repeat' split) <;> rfl) | ((repeat' split) <;> first | rfl | contradiction | (simp_all; done)))) k₀) ?_
          show Gm p e below T122 m 149 #[iv p0, iv p1, iv p2, iv p3, iv p4, iv (3 : Int32), rv b48, iv p2, iv p3, iv p4, iv z113] [] _
          refine own_go (fun t₀ k₀ => XS.iconst X122.here hx rfl (Jvm.hb hby at_149) k₀) ?_
          show Gm p e below T122 m 150 #[iv p0, iv p1, iv p2, iv p3, iv p4, iv (3 : Int32), rv b48, iv p2, iv p3, iv p4, iv z113] [(.int (1 : Int32))] _
          refine own_go (fun t₀ k₀ => XS.goto X122.here hx rfl (pc0 := 150) (pc' := 154) rfl (Jvm.hb hby at_150) (by decide) (by decide) k₀) ?_
          show Gm p e below T122 m 154 #[iv p0, iv p1, iv p2, iv p3, iv p4, iv (3 : Int32), rv b48, iv p2, iv p3, iv p4, iv z113] [(.int (1 : Int32))] _
          exact own_retI X122 hx hlk (t := .boolean) Bd.returns rfl (by simp) (Jvm.hb hby at_154) e122 ⟨rfl, N122⟩ (by decide) (by decide)
set_option maxRecDepth 65536 in
set_option maxHeartbeats 40000000 in
theorem comes_1 {Post : Tables → Env → Array Value → State → Outcome → State → Prop} (hpost : ∀ tb e args s v u, (limb_1_1.after args s (.returned v) u = true ∧ limb_1_2.after args s (.returned v) u = true ∧ True) → FrameEnd s (.returned v) u (Jvm.fieldLocs frame_1_writes args s ++ Jvm.arrayLocs frame_1_arrays args s ++ Jvm.staticLocs frame_1_statics s) 32 192 → Post tb e args s (.returned v) u) :
    ArmFor flags0 classFile x code maxLocals ret World_1 tables_1 room_1 Calls_1 rest_1 Pre_1 Post := by
  intro l hfl _ _ p e ha hc hk s m args below hf hA hF happ hP
  obtain ⟨hcalls, hrest, hpre⟩ := hP
  obtain ⟨-, -, -, hnamed, -, -, -, hat⟩ := (Spec.applies_iff hf).mp happ
  obtain ⟨hg, hn⟩ := and_e (Cond.before_iff.mp (show (Jvm.Cond.and given_1 narrow_1).before args s = true from hpre))
  obtain ⟨g1, g2⟩ := and_e hg
  obtain ⟨g3, g4⟩ := and_e g2
  obtain ⟨g5, g6⟩ := and_e g4
  obtain ⟨g7, g8⟩ := and_e g6
  obtain ⟨g9, g10⟩ := and_e g8
  obtain ⟨w0, w1, w2, w3, w4, rfl⟩ : ∃ w0 w1 w2 w3 w4 : Value, args = #[w0, w1, w2, w3, w4] := by
    have hs : args.size = 5 := by simpa [Cond.value, given_1] using g1
    obtain ⟨L⟩ := args
    match L, hs with
    | [w0, w1, w2, w3, w4], _ => exact ⟨w0, w1, w2, w3, w4, rfl⟩
  have hw := fun d (hd : d ∈ tables_1) => atoms_spec (ws := Jvm.Cond.code x code maxLocals ret :: tables_1) hat d (List.mem_cons_of_mem _ hd)
  have hfit : Fit s := fun {y c} hc i hi => by
    obtain ⟨ha, rfl⟩ := Array.getElem?_eq_some_iff.mp hc
    have q := List.all_eq_true.mp ((Array.all_eq_true_iff_forall_mem.mp hF) _ (Array.getElem_mem ha)) i (List.mem_range.mpr hi)
    simpa [Array.getElem?_eq_getElem hi] using q
  obtain ⟨i0, ei0⟩ := is_v g3
  obtain rfl : w0 = (.int i0) := Option.some.inj ei0
  obtain ⟨i1, ei1⟩ := is_v g5
  obtain rfl : w1 = (.int i1) := Option.some.inj ei1
  obtain ⟨i2, ei2⟩ := is_v g7
  obtain rfl : w2 = (.int i2) := Option.some.inj ei2
  obtain ⟨i3, ei3⟩ := is_v g9
  obtain rfl : w3 = (.int i3) := Option.some.inj ei3
  obtain ⟨i4, ei4⟩ := is_v g10
  obtain rfl : w4 = (.int i4) := Option.some.inj ei4
  obtain ⟨n, o, h1, h2, h3, _, L, rfl, ⟨rfl, N⟩, hq⟩ := rm0 l s _ hw tables_1 i0 i1 i2 i3 i4  s.heap s.heap.size (Nat.le_refl _)  p e ha hc hk s m _ below hf ((Spec.applies_iff_loose hf).mp happ).1 ⟨rfl, State.Warmed39.refl s, rfl⟩ trivial
  refine ⟨n, _, h1, h2, h3, hpost _ _ _ _ _ _ ⟨Cond.after_iff.mpr rfl, Cond.after_iff.mpr (eq_i res_at (Term.int_eval (1)) rfl), trivial⟩ ⟨hq.1, hq.2.1, (hq.2.2.sift fun y hy => Or.inr (N y hy)).mono (by decide) (by decide)⟩⟩
theorem main_1_1 : Claimed_1_1 := comes_1 fun _ _ _ _ _ _ h hF => ⟨h.1, hF⟩
theorem main_1_2 : Claimed_1_2 := comes_1 fun _ _ _ _ _ _ h hF => ⟨h.2.1, hF⟩
end Jvm.Pilot.@@N@@
namespace Jvm.Pilot.@@N@@
open Jvm Jvm.ClassFile Sem Op Lib Jvm.Free Jvm.Stand Jvm.Pilot.@@N@@.Jvm.D
/-! MADE BY PROGRAM (witnessworld.py) out of the Statement's table words and the real class files: 12 classes; the members and pool entries that the words name. The judged class is class 1, her method 1. -/
namespace start1
open Jvm.ClassFile
def u (s : String) : CpInfo := .utf8 (stringToUtf16 s)
/-- a pool by its gaps: so many unusable entries, then the entry; so many at the end -/
def gap : Nat → List CpInfo → List CpInfo
  | 0, r => r
  | n + 1, r => .unusable :: gap n r
def poolList (es : List (Nat × CpInfo)) (last : Nat) : List CpInfo := es.foldr (fun e r => gap e.1 (e.2 :: r)) (gap last [])
def pool (es : List (Nat × CpInfo)) (last : Nat) : Array CpInfo := ⟨poolList es last⟩
def fileOf (pool : Array CpInfo) (this : Nat) (attrs : Array Attribute := #[]) (ms : Array MethodInfo := #[]) (fl : Nat := 33) (sup : Nat := 0) (ifs : Array Nat := #[]) (fds : Array FieldInfo := #[]) : ClassFile where
  minorVersion := 0
  majorVersion := 65
  constantPool := pool
  accessFlags := fl
  thisClass := this
  superClass := sup
  interfaces := ifs
  fields := fds
  methods := ms
  attributes := attrs
def plain (name : String) (sup : Option ClassId) : Class where
  name := name
  kind := .ordinary
  loader := none
  accessFlags := 33
  super := sup
  interfaces := #[]
  cf := none
  fields := #[]
  methods := #[]
  instanceTypes := #[]
  staticTypes := #[]
  resolved := #[]
  callSites := []
  init := .initialized
  statics := none
  mirror := none

def pool0 : Array CpInfo := pool [(5, u "<init>"), (0, u "()V"), (1, .class_ 10), (1, u "java/lang/Object")] 113

def k0c0 : Code := { maxStack := 0, maxLocals := 1, code := object_method_1_code, exceptionTable := #[], attributes := #[] }
def k0m0 : Method := { name := "<init>", desc := "()V", sig := { parameters := [], returnType := none }, accessFlags := 1, code := some k0c0 }
/-- java/lang/Object -/
def k0 : Class := { plain "java/lang/Object" none with
  accessFlags := 33
  interfaces := #[]
  cf := some (fileOf pool0 8 #[] #[{ accessFlags := 1, nameIndex := 5, descriptorIndex := 6, attributes := #[] }] 33 0 #[] #[])
  fields := #[]
  methods := #[k0m0]
  instanceTypes := #[]
  staticTypes := #[]
  resolved := Array.replicate 124 none
  statics := none }

def pool1 : Array CpInfo := pool [(2, .class_ 4), (1, u "java/lang/Object"), (0, u "<init>"), (0, u "()V"), (0, .class_ 8), (0, u "com/example/throughfare/throughfare/simulation/Walkers"), (0, .methodref 7 10), (0, .nameAndType 5 11), (0, u "(I)V"), (0, .fieldref 7 13), (0, .nameAndType 14 15), (0, u "exit"), (0, u "[I"), (0, .methodref 7 17), (0, .nameAndType 18 19), (0, u "anyoneInside"), (0, u "()Z"), (0, .class_ 21), (0, u "com/example/throughfare/throughfare/simulation/WalkersAnyoneInsidePinLaw"), (2, u "law"), (0, u "(IIIII)Z")] 3

def k1m0 : Method := { name := "<init>", desc := "()V", sig := { parameters := [], returnType := none }, accessFlags := 1, code := none }
def k1c1 : Code := { maxStack := 3, maxLocals := 11, code := code, exceptionTable := #[], attributes := #[] }
def k1m1 : Method := { name := "law", desc := "(IIIII)Z", sig := { parameters := [.int, .int, .int, .int, .int], returnType := some .boolean }, accessFlags := 9, code := some k1c1 }
/-- com/example/throughfare/throughfare/simulation/WalkersAnyoneInsidePinLaw -/
def k1 : Class := { plain "com/example/throughfare/throughfare/simulation/WalkersAnyoneInsidePinLaw" (some 0) with
  accessFlags := 49
  interfaces := #[]
  cf := some (fileOf pool1 20 #[] #[{ accessFlags := 1, nameIndex := 5, descriptorIndex := 6, attributes := #[] }, { accessFlags := 9, nameIndex := 24, descriptorIndex := 25, attributes := #[] }] 49 2 #[] #[])
  fields := #[]
  methods := #[k1m0, k1m1]
  instanceTypes := #[]
  staticTypes := #[]
  resolved := Array.replicate 29 none
  statics := none }

def pool2 : Array CpInfo := pool [(1, .methodref 2 3), (0, .class_ 4), (0, .nameAndType 5 6), (0, u "java/lang/Object"), (0, u "<init>"), (0, u "()V"), (0, .fieldref 8 9), (0, .class_ 10), (0, .nameAndType 11 12), (0, u "com/example/throughfare/throughfare/simulation/Walkers"), (0, u "floor"), (0, u "[I"), (0, .fieldref 8 14), (0, .nameAndType 15 12), (0, u "startCell"), (0, .fieldref 8 17), (0, .nameAndType 18 12), (0, u "cell"), (0, .fieldref 8 20), (0, .nameAndType 21 22), (0, u "speedMps"), (0, u "[D"), (0, .fieldref 8 24), (0, .nameAndType 25 22), (0, u "reactionS"), (0, .fieldref 8 27), (0, .nameAndType 28 12), (0, u "heading"), (0, .fieldref 8 30), (0, .nameAndType 31 22), (0, u "heldUpS"), (2, .double 18442240474082181120), (1, .methodref 37 38), (0, .class_ 39), (0, .nameAndType 40 41), (0, u "java/util/Arrays"), (0, u "fill"), (0, u "([DD)V"), (0, .fieldref 8 43), (0, .nameAndType 44 22), (0, u "exitTimeS"), (0, .double 9218868437227405312), (1, .fieldref 8 48), (0, .nameAndType 49 12), (0, u "leaving"), (0, .methodref 37 51), (0, .nameAndType 40 52), (0, u "([II)V"), (0, .fieldref 8 54), (0, .nameAndType 55 12), (0, u "exit"), (0, .fieldref 8 57), (0, .nameAndType 58 22), (0, u "distanceM"), (4, u "(I)V"), (2, u "anyoneInside"), (0, u "()Z")] 7

def k2c0 : Code := { maxStack := 3, maxLocals := 2, code := prog_63_method_1_code, exceptionTable := #[], attributes := #[] }
def k2m0 : Method := { name := "<init>", desc := "(I)V", sig := { parameters := [.int], returnType := none }, accessFlags := 0, code := some k2c0 }
def k2c1 : Code := { maxStack := 2, maxLocals := 5, code := prog_63_method_3_code, exceptionTable := #[], attributes := #[] }
def k2m1 : Method := { name := "anyoneInside", desc := "()Z", sig := { parameters := [], returnType := some .boolean }, accessFlags := 0, code := some k2c1 }
/-- com/example/throughfare/throughfare/simulation/Walkers -/
def k2 : Class := { plain "com/example/throughfare/throughfare/simulation/Walkers" (some 0) with
  accessFlags := 32
  interfaces := #[]
  cf := some (fileOf pool2 8 #[] #[{ accessFlags := 0, nameIndex := 5, descriptorIndex := 63, attributes := #[] }, { accessFlags := 0, nameIndex := 66, descriptorIndex := 67, attributes := #[] }] 32 2 #[] #[{ accessFlags := 16, nameIndex := 11, descriptorIndex := 12, attributes := #[] }, { accessFlags := 16, nameIndex := 15, descriptorIndex := 12, attributes := #[] }, { accessFlags := 16, nameIndex := 18, descriptorIndex := 12, attributes := #[] }, { accessFlags := 16, nameIndex := 21, descriptorIndex := 22, attributes := #[] }, { accessFlags := 16, nameIndex := 25, descriptorIndex := 22, attributes := #[] }, { accessFlags := 16, nameIndex := 28, descriptorIndex := 12, attributes := #[] }, { accessFlags := 16, nameIndex := 31, descriptorIndex := 22, attributes := #[] }, { accessFlags := 16, nameIndex := 44, descriptorIndex := 22, attributes := #[] }, { accessFlags := 16, nameIndex := 49, descriptorIndex := 12, attributes := #[] }, { accessFlags := 16, nameIndex := 55, descriptorIndex := 12, attributes := #[] }, { accessFlags := 16, nameIndex := 58, descriptorIndex := 22, attributes := #[] }])
  fields := #[{ name := "floor", type := (.array .int), accessFlags := 16, slot := 0, constantValue := 0 }, { name := "startCell", type := (.array .int), accessFlags := 16, slot := 1, constantValue := 0 }, { name := "cell", type := (.array .int), accessFlags := 16, slot := 2, constantValue := 0 }, { name := "speedMps", type := (.array .double), accessFlags := 16, slot := 3, constantValue := 0 }, { name := "reactionS", type := (.array .double), accessFlags := 16, slot := 4, constantValue := 0 }, { name := "heading", type := (.array .int), accessFlags := 16, slot := 5, constantValue := 0 }, { name := "heldUpS", type := (.array .double), accessFlags := 16, slot := 6, constantValue := 0 }, { name := "exitTimeS", type := (.array .double), accessFlags := 16, slot := 7, constantValue := 0 }, { name := "leaving", type := (.array .int), accessFlags := 16, slot := 8, constantValue := 0 }, { name := "exit", type := (.array .int), accessFlags := 16, slot := 9, constantValue := 0 }, { name := "distanceM", type := (.array .double), accessFlags := 16, slot := 10, constantValue := 0 }]
  methods := #[k2m0, k2m1]
  instanceTypes := #[(.array .int), (.array .int), (.array .int), (.array .double), (.array .double), (.array .int), (.array .double), (.array .double), (.array .int), (.array .int), (.array .double)]
  staticTypes := #[]
  resolved := Array.replicate 75 none
  statics := none }

def pool3 : Array CpInfo := pool [(2, .class_ 4), (1, u "java/lang/Object"), (0, u "<init>"), (0, u "()V"), (7, .class_ 16), (1, u "java/util/Arrays"), (57, .class_ 76), (1, u "java/util/Arrays$NaturalOrder"), (36, .class_ 115), (1, u "java/util/Arrays$LegacyMergeSort"), (1, u "Z"), (257, .class_ 376), (0, u "java/util/Arrays$ArrayList"), (68, u "$assertionsDisabled"), (269, u "MIN_ARRAY_SORT_GRAN"), (0, u "I"), (2, u "INSERTIONSORT_THRESHOLD"), (120, u "fill"), (4, u "([II)V"), (8, u "([DD)V"), (120, .class_ 976), (0, u "java/util/Arrays$ArrayItr")] 52

def k3m0 : Method := { name := "<init>", desc := "()V", sig := { parameters := [], returnType := none }, accessFlags := 2, code := none }
def k3c1 : Code := { maxStack := 3, maxLocals := 4, code := jdk_65_method_103_code, exceptionTable := #[], attributes := #[] }
def k3m1 : Method := { name := "fill", desc := "([II)V", sig := { parameters := [(.array .int), .int], returnType := none }, accessFlags := 9, code := some k3c1 }
def k3c2 : Code := { maxStack := 4, maxLocals := 5, code := jdk_65_method_113_code, exceptionTable := #[], attributes := #[] }
def k3m2 : Method := { name := "fill", desc := "([DD)V", sig := { parameters := [(.array .double), .double], returnType := none }, accessFlags := 9, code := some k3c2 }
/-- java/util/Arrays -/
def k3 : Class := { plain "java/util/Arrays" (some 0) with
  accessFlags := 49
  interfaces := #[]
  cf := some (fileOf pool3 14 #[.nestMembers #[975, 375, 113, 74]] #[{ accessFlags := 2, nameIndex := 5, descriptorIndex := 6, attributes := #[] }, { accessFlags := 9, nameIndex := 840, descriptorIndex := 845, attributes := #[] }, { accessFlags := 9, nameIndex := 840, descriptorIndex := 854, attributes := #[] }] 49 2 #[] #[{ accessFlags := 26, nameIndex := 715, descriptorIndex := 716, attributes := #[] }, { accessFlags := 26, nameIndex := 719, descriptorIndex := 716, attributes := #[] }, { accessFlags := 4120, nameIndex := 445, descriptorIndex := 117, attributes := #[] }])
  fields := #[{ name := "MIN_ARRAY_SORT_GRAN", type := .int, accessFlags := 26, slot := 0, constantValue := 0 }, { name := "INSERTIONSORT_THRESHOLD", type := .int, accessFlags := 26, slot := 1, constantValue := 0 }, { name := "$assertionsDisabled", type := .boolean, accessFlags := 4120, slot := 2, constantValue := 0 }]
  methods := #[k3m0, k3m1, k3m2]
  instanceTypes := #[]
  staticTypes := #[.int, .int, .boolean]
  resolved := Array.replicate 1029 none
  statics := none }

def pool4 : Array CpInfo := pool [(1, u "java/lang/Cloneable"), (0, .class_ 1), (0, u "java/lang/Object"), (0, .class_ 3)] 3

/-- java/lang/Cloneable -/
def k4 : Class := { plain "java/lang/Cloneable" (some 0) with
  accessFlags := 1537
  interfaces := #[]
  cf := some (fileOf pool4 2 #[] #[] 1537 4 #[] #[])
  fields := #[]
  methods := #[]
  instanceTypes := #[]
  staticTypes := #[]
  resolved := Array.replicate 8 none
  statics := none }

def pool5 : Array CpInfo := pool [(1, u "java/io/Serializable"), (0, .class_ 1), (0, u "java/lang/Object"), (0, .class_ 3)] 3

/-- java/io/Serializable -/
def k5 : Class := { plain "java/io/Serializable" (some 0) with
  accessFlags := 1537
  interfaces := #[]
  cf := some (fileOf pool5 2 #[] #[] 1537 4 #[] #[])
  fields := #[]
  methods := #[]
  instanceTypes := #[]
  staticTypes := #[]
  resolved := Array.replicate 8 none
  statics := none }

/-- the primitive byte -/
def k6 : Class := { plain "byte" none with kind := .primitive 'B', accessFlags := 0x411 }
/-- [B -/
def k7 : Class := { plain "[B" (some 0) with kind := .array 6 .byte, interfaces := #[4, 5], accessFlags := 1041 }

/-- the primitive double -/
def k8 : Class := { plain "double" none with kind := .primitive 'D', accessFlags := 0x411 }
/-- [D -/
def k9 : Class := { plain "[D" (some 0) with kind := .array 8 .double, interfaces := #[4, 5], accessFlags := 1041 }

/-- the primitive int -/
def k10 : Class := { plain "int" none with kind := .primitive 'I', accessFlags := 0x411 }
/-- [I -/
def k11 : Class := { plain "[I" (some 0) with kind := .array 10 .int, interfaces := #[4, 5], accessFlags := 1041 }

def heap : Heap := #[]
def classes : Array Class := #[k0, k1, k2, k3, k4, k5, k6, k7, k8, k9, k10, k11]
def interned : List (Array UInt16 × Addr) := []
def slotsUsed : Nat := 0
def theMethod : MethodId := ⟨1, 1⟩
def args0 : Array Value := #[.int 3, .int 5, .int 1, .int (-2), .int 7]
def aboutOver (below : List Frame) : State where
  vm := { classes := classes, interned := interned.toArray }
  heap := heap
  slotsUsed := slotsUsed
  threads := #[{ frames := .invoking theMethod args0 :: below }]
def below0 : List Frame := [.native { method := ⟨0, 0⟩, args := #[] }]
def about1 : State := aboutOver below0
def p0 : Program := .bare "" "" ""
def e0 : Env := launch0.env 0 0 0
theorem w_frames : about1.frames = Frame.invoking theMethod args0 :: below0 := rfl
set_option maxRecDepth 65536 in
theorem w_args : argsFit about1.vm theMethod args0 = true := by decide +kernel
set_option maxRecDepth 65536 in
theorem w_heap : heapFits about1 = true := by decide +kernel
set_option maxRecDepth 65536 in
theorem w_runnable : about1.curStatus? = some .runnable := by decide +kernel
set_option maxRecDepth 65536 in
theorem w_alone : about1.alone = true := by decide +kernel
set_option maxRecDepth 65536 in
theorem w_named : about1.methodNamed? x = some theMethod := by decide +kernel
set_option maxRecDepth 65536 in
theorem w_hears : about1.hears theMethod below0 = true := by decide +kernel
set_option maxRecDepth 65536 in
theorem w_ripe : about1.ripe theMethod args0 below0 = true := by decide +kernel
theorem w_running : about1.status = .running := rfl
set_option maxRecDepth 65536 in
theorem w_room : about1.hasRoom e0.platform room_1 = true :=
  launch0.hasRoom_least _ room_1 (by decide +kernel) (by decide +kernel) (by decide +kernel) (by decide +kernel) (by decide +kernel) (by decide +kernel)
theorem allAtoms_all (ts : List Jvm.Cond) (a : Array Jvm.Value) (st : Jvm.State) : (allAtoms ts).before a st = ts.all (fun c => c.before a st) := by
  induction ts with
  | nil => rfl
  | cons c t ih =>
    show (Jvm.Cond.and c (allAtoms t)).before a st = _
    rw [Jvm.Cond.before_and, ih, List.all_cons]
def words1 : List Jvm.Cond := Jvm.Cond.code x code maxLocals ret :: tables_1
/-- a 'code' word, met by the world's own term for the bytes: nothing is compared byte by byte -/
theorem code_word {y : MethodName} {bytes : ByteArray} {mx : Nat} {rt : Option FieldType} {a : Array Value} {s : State} {m : MethodId} {meth : Method} {c : Code} (h1 : s.methodNamed? y = some m) (h2 : s.vm.method? m = some meth) (h3 : meth.code = some c) (h4 : c.code = bytes)
    (h5 : (c.maxLocals == mx && c.exceptionTable.isEmpty && decide (c.maxStack ≤ mostOperands) && decide (meth.sig.returnType = rt) && !meth.locks && decide (parseMethodDescriptor y.desc = some meth.sig)) = true) : (Jvm.Cond.code y bytes mx rt).before a s = true := by
  simp only [Bool.and_eq_true, beq_iff_eq, Bool.not_eq_true', decide_eq_true_eq] at h5
  obtain ⟨⟨⟨⟨⟨g1, g2⟩, g3⟩, g4⟩, g5⟩, g6⟩ := h5
  simp [Cond.before, Cond.holds, Cond.value, h1, h2, h3, h4, g1, g2, g3, g4, g5, g6]
def isCode : Jvm.Cond → Bool
  | .code _ _ _ _ => true
  | _ => false
theorem all_split {L : List Jvm.Cond} {P : Jvm.Cond → Bool} (h1 : L.all (fun c => isCode c || P c) = true) (h2 : ∀ c ∈ L.filter isCode, P c = true) : L.all P = true := by
  refine List.all_eq_true.mpr fun c hc => ?_
  have h := List.all_eq_true.mp h1 c hc
  rcases Bool.eq_false_or_eq_true (isCode c) with hi | hi
  · exact h2 c (List.mem_filter.mpr ⟨hc, hi⟩)
  · simpa [hi] using h
set_option maxRecDepth 65536 in
theorem w_c0 : (Jvm.Cond.code x code maxLocals ret).before args0 about1 = true := code_word (m := ⟨1, 1⟩) (meth := k1m1) (c := k1c1) (by decide +kernel) rfl rfl rfl (by decide +kernel)
set_option maxRecDepth 65536 in
theorem w_c1 : (Jvm.Cond.code ({ cls := "com/example/throughfare/throughfare/simulation/Walkers", name := "<init>", desc := "(I)V" } : Jvm.MethodName) prog_63_method_1_code (2 : Nat) (Option.none : Option Jvm.ClassFile.FieldType)).before args0 about1 = true := code_word (m := ⟨2, 0⟩) (meth := k2m0) (c := k2c0) (by decide +kernel) rfl rfl rfl (by decide +kernel)
set_option maxRecDepth 65536 in
theorem w_c2 : (Jvm.Cond.code ({ cls := "java/lang/Object", name := "<init>", desc := "()V" } : Jvm.MethodName) object_method_1_code (1 : Nat) (Option.none : Option Jvm.ClassFile.FieldType)).before args0 about1 = true := code_word (m := ⟨0, 0⟩) (meth := k0m0) (c := k0c0) (by decide +kernel) rfl rfl rfl (by decide +kernel)
set_option maxRecDepth 65536 in
theorem w_c3 : (Jvm.Cond.code ({ cls := "java/util/Arrays", name := "fill", desc := "([DD)V" } : Jvm.MethodName) jdk_65_method_113_code (5 : Nat) (Option.none : Option Jvm.ClassFile.FieldType)).before args0 about1 = true := code_word (m := ⟨3, 2⟩) (meth := k3m2) (c := k3c2) (by decide +kernel) rfl rfl rfl (by decide +kernel)
set_option maxRecDepth 65536 in
theorem w_c4 : (Jvm.Cond.code ({ cls := "java/util/Arrays", name := "fill", desc := "([II)V" } : Jvm.MethodName) jdk_65_method_103_code (4 : Nat) (Option.none : Option Jvm.ClassFile.FieldType)).before args0 about1 = true := code_word (m := ⟨3, 1⟩) (meth := k3m1) (c := k3c1) (by decide +kernel) rfl rfl rfl (by decide +kernel)
set_option maxRecDepth 65536 in
theorem w_c5 : (Jvm.Cond.code ({ cls := "com/example/throughfare/throughfare/simulation/Walkers", name := "anyoneInside", desc := "()Z" } : Jvm.MethodName) prog_63_method_3_code (5 : Nat) (Option.some Jvm.ClassFile.FieldType.boolean)).before args0 about1 = true := code_word (m := ⟨2, 1⟩) (meth := k2m1) (c := k2c1) (by decide +kernel) rfl rfl rfl (by decide +kernel)
def codes1 : List Jvm.Cond := [Jvm.Cond.code x code maxLocals ret, Jvm.Cond.code ({ cls := "com/example/throughfare/throughfare/simulation/Walkers", name := "<init>", desc := "(I)V" } : Jvm.MethodName) prog_63_method_1_code (2 : Nat) (Option.none : Option Jvm.ClassFile.FieldType), Jvm.Cond.code ({ cls := "java/lang/Object", name := "<init>", desc := "()V" } : Jvm.MethodName) object_method_1_code (1 : Nat) (Option.none : Option Jvm.ClassFile.FieldType), Jvm.Cond.code ({ cls := "java/util/Arrays", name := "fill", desc := "([DD)V" } : Jvm.MethodName) jdk_65_method_113_code (5 : Nat) (Option.none : Option Jvm.ClassFile.FieldType), Jvm.Cond.code ({ cls := "java/util/Arrays", name := "fill", desc := "([II)V" } : Jvm.MethodName) jdk_65_method_103_code (4 : Nat) (Option.none : Option Jvm.ClassFile.FieldType), Jvm.Cond.code ({ cls := "com/example/throughfare/throughfare/simulation/Walkers", name := "anyoneInside", desc := "()Z" } : Jvm.MethodName) prog_63_method_3_code (5 : Nat) (Option.some Jvm.ClassFile.FieldType.boolean)]
set_option maxRecDepth 65536 in
theorem codes_eq : words1.filter isCode = codes1 := rfl
theorem w_codes : ∀ c ∈ words1.filter isCode, c.before args0 about1 = true := by
  rw [codes_eq]
  intro c hc
  simp only [codes1, List.mem_cons, List.not_mem_nil, or_false] at hc
  rcases hc with rfl | rfl | rfl | rfl | rfl | rfl
  · exact w_c0
  · exact w_c1
  · exact w_c2
  · exact w_c3
  · exact w_c4
  · exact w_c5
set_option maxRecDepth 65536 in
theorem w_t1 : (words1.take 24).all (fun c => isCode c || c.before args0 about1) = true := by decide +kernel
set_option maxRecDepth 65536 in
theorem w_t2 : ((words1.drop 24).take 24).all (fun c => isCode c || c.before args0 about1) = true := by decide +kernel
set_option maxRecDepth 65536 in
theorem w_t3 : ((words1.drop 24).drop 24).all (fun c => isCode c || c.before args0 about1) = true := by decide +kernel
theorem w_tables : (allAtoms (Jvm.Cond.code x code maxLocals ret :: tables_1)).before args0 about1 = true := by
  rw [allAtoms_all]
  show words1.all (fun c => c.before args0 about1) = true
  refine all_split ?_ w_codes
  rw [← List.take_append_drop 24 words1, List.all_append, w_t1, ← List.take_append_drop 24 (words1.drop 24), List.all_append, w_t2, w_t3]
  rfl
set_option maxRecDepth 65536 in
theorem w_case : (Jvm.Cond.and given_1 narrow_1).before args0 about1 = true := by decide +kernel
theorem w_applies : (headSpec (Jvm.Cond.code x code maxLocals ret :: tables_1) room_1).applies x e0.platform about1 = true :=
  (Spec.applies_iff w_frames).mpr ⟨w_running, w_runnable, w_alone, w_named, w_hears, w_ripe, w_room, w_tables⟩
theorem atStart : AtStart classFile x code maxLocals ret World_1 tables_1 room_1 Calls_1 rest_1 Pre_1 launch0 p0 e0 about1 theMethod args0 below0 :=
  ⟨lists_1, trivial, launch0.admits_env _ _ _, launch0.least_env, fairChoices_fair.cas, fairChoices_fair.clock, w_frames, w_args, w_heap, w_applies, trivial, trivial, w_case⟩
end start1
theorem witness_1 : WitnessClaimed_1 := ⟨start1.p0, start1.e0, start1.about1, start1.theMethod, start1.args0, start1.below0, start1.atStart⟩
end Jvm.Pilot.@@N@@
