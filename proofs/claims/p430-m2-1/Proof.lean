import JvmDerived
import JvmDerived.Pilot.@@N@@Statement
import JvmDerived.Pilot.@@N@@Code
set_option linter.unusedVariables false
set_option linter.unusedSimpArgs false
namespace Jvm.Pilot.@@N@@
open Jvm Jvm.ClassFile Sem Op Lib Jvm.Free Jvm.Stand Jvm.LawKit Jvm.RoadKit Bundle Jvm.Pilot.@@N@@.Jvm.D
def Go (p : Program) (e : Env) (below : List Frame) (S : State) (P : State → Outcome → Prop) : Prop := ∃ t o, Steps p.tables e below S t ∧ P t o
abbrev Gm (p : Program) (e : Env) (below : List Frame) (T : State) (m : MethodId) (pc : Nat) (ls : Array Slot) (st : List Value) (P : State → Outcome → Prop) : Prop := Go p e below (T.setTop (mkF m pc ls st)) P
abbrev lv (x : Int64) : Slot := .val (.long x)
theorem own_in {p : Program} {e : Env} {below : List Frame} {T : State} {g g' : JFrame} {P : State → Outcome → Prop} (q : g = g') (h : Go p e below (T.setTop g') P) : ∃ s₂ o, Steps p.tables e below (T.setTop g) s₂ ∧ P s₂ o := q ▸ h
theorem own_go {p : Program} {e : Env} {below : List Frame} {S S' : State} {P : State → Outcome → Prop} (k : ∀ t, Steps p.tables e below S' t → Steps p.tables e below S t) (h : Go p e below S' P) : Go p e below S P := by
  obtain ⟨t, o, h1, h2⟩ := h
  exact ⟨t, o, k t h1, h2⟩
section Rets
variable {p : Program} {l : Launch} {e : Env} {R : Room} {s : State} {m : MethodId} {args : Array Value} {below : List Frame} {meth : Method} {c : Code} {T : State} {locs : List Loc} {cells slots : Nat}
theorem own_retI (X : Stand p l e R s m args below meth c T locs cells slots) (hx : p.tables.exec = Jvm.exec) (hlk : meth.locks = false) {pc : Nat} {Ls : Array Slot} {z : Int32} {t : FieldType} {Q : Option Value → Heap → List Loc → Prop} {C N : Nat} (hret : meth.sig.returnType = some t) (hn : narrow t (.int z) = .int z) (ht : t = .int ∨ t = .boolean ∨ t = .byte ∨ t = .char ∨ t = .short)
    (hd : decode c.code pc = .ok (.ireturn, 1)) {h : Heap} (eh : T.heap = h) (hq : Q (some (.int z)) h locs) (hC : cells ≤ C) (hN : slots ≤ N) : Go p e below (T.setTop (mkF m pc Ls [.int z])) (fun t o => t.status = .running ∧ Ended t below o ∧ ∃ v L, o = .returned v ∧ Q v t.heap L ∧ FrameEnd s o t L C N) := by
  subst eh
  obtain ⟨fs, hr, hrun, hended, hW, hsame⟩ := X.leave (v := some (.int z)) (fun h => by rw [hret] at h; cases h) hlk
  exact ⟨_, _, X.ireturnOut hx hret hn ht hd hr, hrun, hended, _, _, rfl, hq, ⟨_, rfl⟩, hW, hsame.mono hC hN⟩
theorem own_retL (X : Stand p l e R s m args below meth c T locs cells slots) (hx : p.tables.exec = Jvm.exec) (hlk : meth.locks = false) {pc : Nat} {Ls : Array Slot} {z : Int64} {Q : Option Value → Heap → List Loc → Prop} {C N : Nat} (hret : meth.sig.returnType = some .long)
    (hd : decode c.code pc = .ok (.lreturn, 1)) {h : Heap} (eh : T.heap = h) (hq : Q (some (.long z)) h locs) (hC : cells ≤ C) (hN : slots ≤ N) : Go p e below (T.setTop (mkF m pc Ls [.long z])) (fun t o => t.status = .running ∧ Ended t below o ∧ ∃ v L, o = .returned v ∧ Q v t.heap L ∧ FrameEnd s o t L C N) := by
  subst eh
  obtain ⟨fs, hr, hrun, hended, hW, hsame⟩ := X.leave (v := some (.long z)) (fun h => by rw [hret] at h; cases h) hlk
  exact ⟨_, _, X.lreturnOut hx hret hd hr, hrun, hended, _, _, rfl, hq, ⟨_, rfl⟩, hW, hsame.mono hC hN⟩
theorem own_retA (X : Stand p l e R s m args below meth c T locs cells slots) (hx : p.tables.exec = Jvm.exec) (hlk : meth.locks = false) {pc : Nat} {Ls : Array Slot} {w : Value} {t : FieldType} {Q : Option Value → Heap → List Loc → Prop} {C N : Nat} (hw : w.isRef = true) (hret : meth.sig.returnType = some t) (ht : t.isReference = true)
    (hd : decode c.code pc = .ok (.areturn, 1)) {h : Heap} (eh : T.heap = h) (hq : Q (some w) h locs) (hC : cells ≤ C) (hN : slots ≤ N) : Go p e below (T.setTop (mkF m pc Ls [w])) (fun t o => t.status = .running ∧ Ended t below o ∧ ∃ v L, o = .returned v ∧ Q v t.heap L ∧ FrameEnd s o t L C N) := by
  subst eh
  obtain ⟨fs, hr, hrun, hended, hW, hsame⟩ := X.leave (v := some w) (fun h => by rw [hret] at h; cases h) hlk
  exact ⟨_, _, X.areturnOut hx hw hret ht hd hr, hrun, hended, _, _, rfl, hq, ⟨_, rfl⟩, hW, hsame.mono hC hN⟩
theorem own_retV (X : Stand p l e R s m args below meth c T locs cells slots) (hx : p.tables.exec = Jvm.exec) (hlk : meth.locks = false) {pc : Nat} {Ls : Array Slot} {Q : Option Value → Heap → List Loc → Prop} {C N : Nat} (hret : meth.sig.returnType = none)
    (hd : decode c.code pc = .ok (.return_, 1)) {h : Heap} (eh : T.heap = h) (hq : Q none h locs) (hC : cells ≤ C) (hN : slots ≤ N) : Go p e below (T.setTop (mkF m pc Ls [])) (fun t o => t.status = .running ∧ Ended t below o ∧ ∃ v L, o = .returned v ∧ Q v t.heap L ∧ FrameEnd s o t L C N) := by
  subst eh
  obtain ⟨fs, hr, hrun, hended, hW, hsame⟩ := X.leave (v := none) (fun _ => rfl) hlk
  exact ⟨_, _, X.returnOut hx hret hd hr, hrun, hended, _, _, rfl, hq, ⟨_, rfl⟩, hW, hsame.mono hC hN⟩
end Rets

def Af (Z : State) (h : Heap) (a : Addr) (ty : FieldType) (n : Nat) (f : Nat → Value) : Prop := n < 2 ^ 31 ∧ ∃ c : Cell, Arr Z h a c ty ∧ c.slots.size = n ∧ ∀ i, i < n → c.slots[i]? = some (f i) ∧ fits ty (f i) = true
section AfS
variable {Z : State} {h h' : Heap} {a b : Addr} {ty : FieldType} {n : Nat} {f : Nat → Value} {v : Value} {sl : Nat} {ws : List Addr}
theorem Af.lt (A : Af Z h a ty n f) : a < h.size := by obtain ⟨-, c, A, -⟩ := A; exact A.lt
theorem Af.ext (A : Af Z h a ty n f) (E : Ext h h') : Af Z h' a ty n f := by obtain ⟨q, c, A, r⟩ := A; exact ⟨q, c, A.ext E, r⟩
theorem Af.other (A : Af Z h b ty n f) (W : Wr h h' a sl v) (q : b ≠ a) : Af Z h' b ty n f := by obtain ⟨q', c, A, r⟩ := A; exact ⟨q', c, A.other W q, r⟩
theorem Af.keep (A : Af Z h a ty n f) (K : Keep h h' ws) (q : a ∉ ws) : Af Z h' a ty n f := by obtain ⟨q', c, A, r⟩ := A; exact ⟨q', c, ⟨K.2.1 a c A.1 q, A.2⟩, r⟩
theorem Af.congr (A : Af Z h a ty n f) {g : Nat → Value} (q : ∀ i, i < n → g i = f i) : Af Z h a ty n g := by obtain ⟨q', c, A, r1, r2⟩ := A; exact ⟨q', c, A, r1, fun i hi => by rw [q i hi]; exact r2 i hi⟩
theorem Af.set (A : Af Z h a ty n f) (W : Wr h h' a sl v) (hv : fits ty v = true) : Af Z h' a ty n (fun i => if i = sl then v else f i) := by
  obtain ⟨q, c, A, r1, r2⟩ := A
  refine ⟨q, c.setSlot sl v, A.same W, by rw [sz_set]; exact r1, fun i hi => ?_⟩
  by_cases e : i = sl
  · subst e
    show _ = some (if i = i then v else f i) ∧ fits ty (if i = i then v else f i) = true
    rw [if_pos rfl]
    refine ⟨?_, hv⟩
    show (c.slots.setIfInBounds i v)[i]? = _
    rw [Array.getElem?_setIfInBounds_self_of_lt (by omega)]
  · show _ = some (if i = sl then v else f i) ∧ fits ty (if i = sl then v else f i) = true
    rw [if_neg e]
    refine ⟨?_, (r2 i hi).2⟩
    show (c.slots.setIfInBounds sl v)[i]? = _
    rw [Array.getElem?_setIfInBounds_ne (Ne.symm e)]
    exact (r2 i hi).1
theorem Af.new {k : ClassId} {z : Int32} (A : Arr Z h a (newA k ty z) ty) (q : ¬ z < 0) {n : Nat} (hn : z.toNatClampNeg = n) (hd : fits ty (defaultValue ty) = true) : Af Z h a ty n (fun _ => defaultValue ty) := by
  subst hn
  refine ⟨(back32 q).2, _, A, sz_new _ _ _, fun i hi => ⟨?_, hd⟩⟩
  simp [newA, hi]
theorem Af.arv (A : Af Z h a ty n f) (dv : Value) : ∃ k, Arv Z h a k ty n.toInt32 ((List.range n).map f) dv := by
  obtain ⟨q, c, A, r1, r2⟩ := A
  have hz : n.toInt32.toNatClampNeg = n := by
    show n.toInt32.toInt.toNat = n
    rw [len_toInt q]; rfl
  have hg : ∀ i, i < n → ((List.range n).map f).getD i dv = f i := fun i hi => by
    rw [List.getD_eq_getElem?_getD]; simp [hi]
  refine ⟨_, c, A, rfl, by rw [hz]; exact r1, ?_, fun i hi => ?_, fun i hi => ?_⟩
  · rw [Int32.lt_iff_toInt_lt, len_toInt q]; simp
  · rw [hg i (r1 ▸ hi)]; exact (r2 i (r1 ▸ hi)).1
  · rw [hg i (r1 ▸ hi)]; exact (r2 i (r1 ▸ hi)).2
theorem Af.ofArv {k : ClassId} {z : Int32} {vs : List Value} {dv : Value} (F : Arv Z h a k ty z vs dv) (hz : z.toNatClampNeg = n) (hf : ∀ i, i < n → f i = vs.getD i dv) : Af Z h a ty n f := by
  obtain ⟨c, A, -, S, q, H, G⟩ := F
  subst hz
  refine ⟨(back32 q).2, c, A, S, fun i hi => ?_⟩
  rw [hf i hi]
  exact ⟨H i (S ▸ hi), G i (S ▸ hi)⟩
theorem nat32 {n : Nat} (q : n < 2 ^ 31) : n.toInt32.toNatClampNeg = n := by
  show n.toInt32.toInt.toNat = n
  rw [len_toInt q]; rfl
theorem nn32 {n : Nat} (q : n < 2 ^ 31) : ¬ n.toInt32 < 0 := by rw [Int32.lt_iff_toInt_lt, len_toInt q]; simp
end AfS
section AfX
variable {p : Program} {l : Launch} {e : Env} {R : Room} {s : State} {m : MethodId} {args : Array Value} {below : List Frame} {meth : Method} {c : Code} {T : State} {locs : List Loc} {cells slots : Nat} {Z : State} {a0 : Array Value} {h : Heap} {a : Addr} {ty : FieldType} {n : Nat} {f : Nat → Value}
theorem own_len (X : Stand p l e R s m args below meth c T locs cells slots) (hx : p.tables.exec = Jvm.exec) (hZ : Z.Warmed39 s.vm) (eT : T.heap = h) (A : Af Z h a ty n f) {z : Int32} (hz : n.toInt32 = z) {g : JFrame} (hg : g.method = m) {rest : List Value} (hs : g.stack = .ref a :: rest) (hd : decode c.code g.pc = .ok (.arraylength, 1)) {target : State}
    (hr : Steps p.tables e below (T.setTop { g with pc := g.pc + 1, stack := .int z :: rest }) target) : Steps p.tables e below (T.setTop g) target := by
  obtain ⟨q, cl, A, r1, r2⟩ := A
  refine X.arraylength hx (by rw [eT]; exact A.1) (State.isArrayOf_alike hZ.alike A.2.1) hg hs hd _ ?_
  rw [r1, hz]; exact hr
theorem own_inb {cl : Cell} {j : Int32} {k : Nat} (r : cl.slots.size = n) (hj : ¬ j < 0) (hk : j.toNatClampNeg = k) (hkn : k < n) : ¬ (j < 0 ∨ cl.slots.size ≤ j.toNatClampNeg) := by
  rw [r, hk]; rintro (q | q)
  · exact hj q
  · omega
theorem own_ldI (X : Stand p l e R s m args below meth c T locs cells slots) (hx : p.tables.exec = Jvm.exec) (hZ : Z.Warmed39 s.vm) (eT : T.heap = h) (A : Af Z h a .int n f) {j : Int32} {k : Nat} (hj : ¬ j < 0) (hk : j.toNatClampNeg = k) (hkn : k < n) {w : Value} (hv : f k = w) {g : JFrame} (hg : g.method = m) {rest : List Value} (hs : g.stack = .int j :: .ref a :: rest) (hd : decode c.code g.pc = .ok (.iaload, 1)) {target : State}
    (hr : Steps p.tables e below (T.setTop { g with pc := g.pc + 1, stack := w :: rest }) target) : Steps p.tables e below (T.setTop g) target := by
  obtain ⟨q, cl, A, r1, r2⟩ := A
  exact X.iaload hx (by rw [eT]; exact A.1) (State.isArrayOf_alike hZ.alike A.2.1) A.2.2 (own_inb r1 hj hk hkn) (by rw [hk, (r2 k hkn).1, hv]) hg hs hd _ hr
theorem own_ldJ (X : Stand p l e R s m args below meth c T locs cells slots) (hx : p.tables.exec = Jvm.exec) (hZ : Z.Warmed39 s.vm) (eT : T.heap = h) (A : Af Z h a .long n f) {j : Int32} {k : Nat} (hj : ¬ j < 0) (hk : j.toNatClampNeg = k) (hkn : k < n) {w : Value} (hv : f k = w) {g : JFrame} (hg : g.method = m) {rest : List Value} (hs : g.stack = .int j :: .ref a :: rest) (hd : decode c.code g.pc = .ok (.laload, 1)) {target : State}
    (hr : Steps p.tables e below (T.setTop { g with pc := g.pc + 1, stack := w :: rest }) target) : Steps p.tables e below (T.setTop g) target := by
  obtain ⟨q, cl, A, r1, r2⟩ := A
  exact X.laload hx (by rw [eT]; exact A.1) (State.isArrayOf_alike hZ.alike A.2.1) A.2.2 (own_inb r1 hj hk hkn) (by rw [hk, (r2 k hkn).1, hv]) hg hs hd _ hr
theorem own_ldB (X : Stand p l e R s m args below meth c T locs cells slots) (hx : p.tables.exec = Jvm.exec) (hZ : Z.Warmed39 s.vm) (eT : T.heap = h) (A : Af Z h a .byte n f) {j : Int32} {k : Nat} (hj : ¬ j < 0) (hk : j.toNatClampNeg = k) (hkn : k < n) {w : Value} (hv : f k = w) {g : JFrame} (hg : g.method = m) {rest : List Value} (hs : g.stack = .int j :: .ref a :: rest) (hd : decode c.code g.pc = .ok (.baload, 1)) {target : State}
    (hr : Steps p.tables e below (T.setTop { g with pc := g.pc + 1, stack := w :: rest }) target) : Steps p.tables e below (T.setTop g) target := by
  obtain ⟨q, cl, A, r1, r2⟩ := A
  exact X.baloadBytes hx (by rw [eT]; exact A.1) (State.isArrayOf_alike hZ.alike A.2.1) A.2.2 (own_inb r1 hj hk hkn) (by rw [hk, (r2 k hkn).1, hv]) hg hs hd _ hr
theorem own_ldZ (X : Stand p l e R s m args below meth c T locs cells slots) (hx : p.tables.exec = Jvm.exec) (hZ : Z.Warmed39 s.vm) (eT : T.heap = h) (A : Af Z h a .boolean n f) {j : Int32} {k : Nat} (hj : ¬ j < 0) (hk : j.toNatClampNeg = k) (hkn : k < n) {w : Value} (hv : f k = w) {g : JFrame} (hg : g.method = m) {rest : List Value} (hs : g.stack = .int j :: .ref a :: rest) (hd : decode c.code g.pc = .ok (.baload, 1)) {target : State}
    (hr : Steps p.tables e below (T.setTop { g with pc := g.pc + 1, stack := w :: rest }) target) : Steps p.tables e below (T.setTop g) target := by
  obtain ⟨q, cl, A, r1, r2⟩ := A
  exact X.baloadBooleans hx (by rw [eT]; exact A.1) (State.isArrayOf_alike hZ.alike A.2.1) A.2.2 (own_inb r1 hj hk hkn) (by rw [hk, (r2 k hkn).1, hv]) hg hs hd _ hr
theorem own_stI (X : Stand p l e R s m args below meth c T locs cells slots) (hx : p.tables.exec = Jvm.exec) (hZ : Z.Warmed39 s.vm) (eT : T.heap = h) (A : Af Z h a .int n f) {j x : Int32} {k : Nat} (hj : ¬ j < 0) (hk : j.toNatClampNeg = k) (hkn : k < n) {g : JFrame} (hg : g.method = m) {rest : List Value} (hs : g.stack = .int x :: .int j :: .ref a :: rest) (hd : decode c.code g.pc = .ok (.iastore, 1)) :
    ∃ T' h', Stand p l e R s m args below meth c T' (locs ++ [⟨a, k⟩]) cells slots ∧ T'.heap = h' ∧ Wr h h' a k (.int x) ∧ Af Z h' a .int n (fun i => if i = k then .int x else f i) ∧ ∀ target, Steps p.tables e below (T'.setTop { g with pc := g.pc + 1, stack := rest }) target → Steps p.tables e below (T.setTop g) target := by
  obtain ⟨q, cl, B, r1, r2⟩ := id A
  obtain ⟨T', h', X', e', W, st⟩ := stI X hx hZ eT B (own_inb r1 hj hk hkn) hg hs hd
  rw [hk] at X' W
  exact ⟨T', h', X', e', W, A.set W rfl, st⟩
theorem own_stJ (X : Stand p l e R s m args below meth c T locs cells slots) (hx : p.tables.exec = Jvm.exec) (hZ : Z.Warmed39 s.vm) (eT : T.heap = h) (A : Af Z h a .long n f) {j : Int32} {x : Int64} {k : Nat} (hj : ¬ j < 0) (hk : j.toNatClampNeg = k) (hkn : k < n) {g : JFrame} (hg : g.method = m) {rest : List Value} (hs : g.stack = .long x :: .int j :: .ref a :: rest) (hd : decode c.code g.pc = .ok (.lastore, 1)) :
    ∃ T' h', Stand p l e R s m args below meth c T' (locs ++ [⟨a, k⟩]) cells slots ∧ T'.heap = h' ∧ Wr h h' a k (.long x) ∧ Af Z h' a .long n (fun i => if i = k then .long x else f i) ∧ ∀ target, Steps p.tables e below (T'.setTop { g with pc := g.pc + 1, stack := rest }) target → Steps p.tables e below (T.setTop g) target := by
  obtain ⟨q, cl, B, r1, r2⟩ := id A
  obtain ⟨T', h', X', e', W, st⟩ := stJ X hx hZ eT B (own_inb r1 hj hk hkn) hg hs hd
  rw [hk] at X' W
  exact ⟨T', h', X', e', W, A.set W rfl, st⟩
theorem own_stD (X : Stand p l e R s m args below meth c T locs cells slots) (hx : p.tables.exec = Jvm.exec) (hZ : Z.Warmed39 s.vm) (eT : T.heap = h) (A : Af Z h a .double n f) {j : Int32} {x : UInt64} {k : Nat} (hj : ¬ j < 0) (hk : j.toNatClampNeg = k) (hkn : k < n) {g : JFrame} (hg : g.method = m) {rest : List Value} (hs : g.stack = .double x :: .int j :: .ref a :: rest) (hd : decode c.code g.pc = .ok (.dastore, 1)) :
    ∃ T' h', Stand p l e R s m args below meth c T' (locs ++ [⟨a, k⟩]) cells slots ∧ T'.heap = h' ∧ Wr h h' a k (.double x) ∧ Af Z h' a .double n (fun i => if i = k then .double x else f i) ∧ ∀ target, Steps p.tables e below (T'.setTop { g with pc := g.pc + 1, stack := rest }) target → Steps p.tables e below (T.setTop g) target := by
  obtain ⟨q, cl, B, r1, r2⟩ := id A
  obtain ⟨T', h', X', e', W, st⟩ := stD X hx hZ eT B (own_inb r1 hj hk hkn) hg hs hd
  rw [hk] at X' W
  exact ⟨T', h', X', e', W, A.set W rfl, st⟩
theorem own_stZ (X : Stand p l e R s m args below meth c T locs cells slots) (hx : p.tables.exec = Jvm.exec) (hZ : Z.Warmed39 s.vm) (eT : T.heap = h) (A : Af Z h a .boolean n f) {j x y : Int32} {k : Nat} (hj : ¬ j < 0) (hk : j.toNatClampNeg = k) (hkn : k < n) (hy : nar .boolean x = y) {g : JFrame} (hg : g.method = m) {rest : List Value} (hs : g.stack = .int x :: .int j :: .ref a :: rest) (hd : decode c.code g.pc = .ok (.bastore, 1)) :
    ∃ T' h', Stand p l e R s m args below meth c T' (locs ++ [⟨a, k⟩]) cells slots ∧ T'.heap = h' ∧ Wr h h' a k (.int y) ∧ Af Z h' a .boolean n (fun i => if i = k then .int y else f i) ∧ ∀ target, Steps p.tables e below (T'.setTop { g with pc := g.pc + 1, stack := rest }) target → Steps p.tables e below (T.setTop g) target := by
  obtain ⟨q, cl, B, r1, r2⟩ := id A
  obtain ⟨T', h', X', e', W, st⟩ := stZ X hx hZ eT B (own_inb r1 hj hk hkn) hg hs hd
  subst hk hy
  exact ⟨T', h', X', e', W, A.set W (fits_nar_bool x), st⟩
theorem own_stB (X : Stand p l e R s m args below meth c T locs cells slots) (hx : p.tables.exec = Jvm.exec) (hZ : Z.Warmed39 s.vm) (eT : T.heap = h) (A : Af Z h a .byte n f) {j x y : Int32} {k : Nat} (hj : ¬ j < 0) (hk : j.toNatClampNeg = k) (hkn : k < n) (hy : nar .byte x = y) {g : JFrame} (hg : g.method = m) {rest : List Value} (hs : g.stack = .int x :: .int j :: .ref a :: rest) (hd : decode c.code g.pc = .ok (.bastore, 1)) :
    ∃ T' h', Stand p l e R s m args below meth c T' (locs ++ [⟨a, k⟩]) cells slots ∧ T'.heap = h' ∧ Wr h h' a k (.int y) ∧ Af Z h' a .byte n (fun i => if i = k then .int y else f i) ∧ ∀ target, Steps p.tables e below (T'.setTop { g with pc := g.pc + 1, stack := rest }) target → Steps p.tables e below (T.setTop g) target := by
  obtain ⟨q, cl, B, r1, r2⟩ := id A
  obtain ⟨T', h', X', e', W, st⟩ := stB X hx hZ eT B (own_inb r1 hj hk hkn) hg hs hd
  subst hk hy
  exact ⟨T', h', X', e', W, A.set W (fits_nar_byte x), st⟩
end AfX
theorem d3_0 : decode jdk_65_method_113_code 0 = .ok (.iconst 0, 1) := by decide +kernel
theorem d3_1 : decode jdk_65_method_113_code 1 = .ok (.istore_n 3, 1) := by decide +kernel
theorem d3_2 : decode jdk_65_method_113_code 2 = .ok (.aload_n 0, 1) := by decide +kernel
theorem d3_3 : decode jdk_65_method_113_code 3 = .ok (.arraylength, 1) := by decide +kernel
theorem d3_4 : decode jdk_65_method_113_code 4 = .ok (.istore 4, 2) := by decide +kernel
theorem d3_6 : decode jdk_65_method_113_code 6 = .ok (.iload_n 3, 1) := by decide +kernel
theorem d3_7 : decode jdk_65_method_113_code 7 = .ok (.iload 4, 2) := by decide +kernel
theorem d3_9 : decode jdk_65_method_113_code 9 = .ok (.if_icmp .ge 13, 3) := by decide +kernel
theorem d3_12 : decode jdk_65_method_113_code 12 = .ok (.aload_n 0, 1) := by decide +kernel
theorem d3_13 : decode jdk_65_method_113_code 13 = .ok (.iload_n 3, 1) := by decide +kernel
theorem d3_14 : decode jdk_65_method_113_code 14 = .ok (.dload_n 1, 1) := by decide +kernel
theorem d3_15 : decode jdk_65_method_113_code 15 = .ok (.dastore, 1) := by decide +kernel
theorem d3_16 : decode jdk_65_method_113_code 16 = .ok (.iinc 3 1, 3) := by decide +kernel
theorem d3_19 : decode jdk_65_method_113_code 19 = .ok (.goto (-13), 3) := by decide +kernel
theorem d3_22 : decode jdk_65_method_113_code 22 = .ok (.return_, 1) := by decide +kernel
theorem own_pn_rm3_1 : plainName "java/util/Arrays" = true := by first | (simp [plainName, overriddenIn]; done) | decide +kernel
theorem own_ef_rm3_1 (m : MethodId) (r0 : Addr) (x1 : UInt64) : entryFrame m #[(.ref r0), (.double x1)] 5 = mkF m 0 #[.val (.ref r0), .val (.double x1), .second, .unset, .unset] [] := by first | (simp [entryFrame, mkF, argsToLocals, Value.category]; done) | rfl
def Q3_1 (Z : State) (r0 : Addr) (x1 : UInt64) (f : Nat → Value) (h0 : Heap) (n0 : Nat) (v : Option Value) (h : Heap) (L : List Loc) : Prop := v = none ∧ Fr n0 L ∧ Keep h0 h [r0] ∧ ∃ f', Af Z h r0 .double 1 f'
set_option maxRecDepth 65536 in
set_option maxHeartbeats 40000000 in
theorem rm3_1 (l : Launch) (Z : State) (a0 : Array Value) (hw : ∀ d ∈ tables_1, d.before a0 Z = true) (ws : List Jvm.Cond) (r0 : Addr) (x1 : UInt64) (f : Nat → Value) (h0 : Heap) (n0 : Nat) (Z0 : n0 ≤ h0.size) (A : Af Z h0 r0 .double 1 f) (g_r0 : n0 ≤ r0) :
    MetFree l (⟨"java/util/Arrays", "fill", "([DD)V"⟩ : MethodName) (head1 (Jvm.Cond.code (⟨"java/util/Arrays", "fill", "([DD)V"⟩ : MethodName) jdk_65_method_113_code 5 none :: ws) ({ frames := 0, cells := 0, slots := 0, locals := 0 } : Room)) (fun a U => a = #[(.ref r0), (.double x1)] ∧ Z.Warmed39 U.vm ∧ U.heap = h0) (fun _ _ _ _ _ => True) (fun _ U o U' => ∃ v L, o = .returned v ∧ Q3_1 Z r0 x1 f h0 n0 v U'.heap L ∧ FrameEnd U o U' L ({ frames := 0, cells := 0, slots := 0, locals := 0 } : Room).cells ({ frames := 0, cells := 0, slots := 0, locals := 0 } : Room).slots) := by
  refine MetFree.of_bodySF (plainFor_of_name own_pn_rm3_1) hisR ?_
  intro p e s m args below meth cO s₁ Bd hml0 hP hK
  obtain ⟨rfl, hZ, hh⟩ := hP
  have hx := Bd.exec
  have hby := Bd.bytes
  have hml : cO.maxLocals = 5 := hml0
  have hown : s.vm.findClass "java/util/Arrays" = some m.cls := findClass_of_methodNamed Bd.named
  have hnm := (name_of_methodNamed Bd.named Bd.method).1
  have hlk : meth.locks = false := BodyLoose.notSynchronized Bd
  have X0 : Stand p l e ({ frames := 0, cells := 0, slots := 0, locals := 0 } : Room) s m #[(.ref r0), (.double x1)] below meth cO s₁ [] 0 0 := Stand.of_body Bd
  have e0 : s₁.heap = h0 := by rw [← hh, Bd.state]; rfl
  have N0 := Fr.nil n0
  refine own_in (own_ef_rm3_1 m r0 x1) ?_
  show Gm p e below s₁ m 0 #[rv r0, .val (.double x1), .second, .unset, .unset] [] _
  refine own_go (fun t₀ k₀ => XS.iconst X0.here hx rfl (Jvm.hb hby d3_0) k₀) ?_
  show Gm p e below s₁ m 1 #[rv r0, .val (.double x1), .second, .unset, .unset] [(.int (0 : Int32))] _
  refine own_go (fun t₀ k₀ => XS.istoreN X0.here hx rfl (Jvm.hb hby d3_1) rfl (l' := #[rv r0, .val (.double x1), .second, iv (0 : Int32), .unset]) rfl k₀) ?_
  show Gm p e below s₁ m 2 #[rv r0, .val (.double x1), .second, iv (0 : Int32), .unset] [] _
  refine own_go (fun t₀ k₀ => XS.aloadN X0.here hx rfl (Jvm.hb hby d3_2) rfl rfl k₀) ?_
  show Gm p e below s₁ m 3 #[rv r0, .val (.double x1), .second, iv (0 : Int32), .unset] [(.ref r0)] _
  refine own_go (fun t₀ k₀ => own_len X0 hx hZ e0 A (z := (1 : Int32)) rfl (g := (mkF m 3 #[rv r0, .val (.double x1), .second, iv (0 : Int32), .unset] [(.ref r0)])) rfl rfl (Jvm.hb hby d3_3) k₀) ?_
  show Gm p e below s₁ m 4 #[rv r0, .val (.double x1), .second, iv (0 : Int32), .unset] [(.int (1 : Int32))] _
  refine own_go (fun t₀ k₀ => XS.istore X0.here hx rfl (Jvm.hb hby d3_4) rfl (l' := #[rv r0, .val (.double x1), .second, iv (0 : Int32), iv (1 : Int32)]) rfl k₀) ?_
  show Gm p e below s₁ m 6 #[rv r0, .val (.double x1), .second, iv (0 : Int32), iv (1 : Int32)] [] _
  refine own_go (fun t₀ k₀ => XS.iloadN X0.here hx rfl (Jvm.hb hby d3_6) rfl k₀) ?_
  show Gm p e below s₁ m 7 #[rv r0, .val (.double x1), .second, iv (0 : Int32), iv (1 : Int32)] [(.int (0 : Int32))] _
  refine own_go (fun t₀ k₀ => XS.iload X0.here hx rfl (Jvm.hb hby d3_7) rfl k₀) ?_
  show Gm p e below s₁ m 9 #[rv r0, .val (.double x1), .second, iv (0 : Int32), iv (1 : Int32)] [(.int (1 : Int32)), (.int (0 : Int32))] _
  refine own_go (fun t₀ k₀ => XS.icmpNo X0.here hx rfl (Jvm.hb hby d3_9) rfl (XT.ii_ge_f (by decide)) k₀) ?_
  show Gm p e below s₁ m 12 #[rv r0, .val (.double x1), .second, iv (0 : Int32), iv (1 : Int32)] [] _
  refine own_go (fun t₀ k₀ => XS.aloadN X0.here hx rfl (Jvm.hb hby d3_12) rfl rfl k₀) ?_
  show Gm p e below s₁ m 13 #[rv r0, .val (.double x1), .second, iv (0 : Int32), iv (1 : Int32)] [(.ref r0)] _
  refine own_go (fun t₀ k₀ => XS.iloadN X0.here hx rfl (Jvm.hb hby d3_13) rfl k₀) ?_
  show Gm p e below s₁ m 14 #[rv r0, .val (.double x1), .second, iv (0 : Int32), iv (1 : Int32)] [(.int (0 : Int32)), (.ref r0)] _
  refine own_go (fun t₀ k₀ => XS.dloadN X0.here hx rfl (Jvm.hb hby d3_14) rfl k₀) ?_
  show Gm p e below s₁ m 15 #[rv r0, .val (.double x1), .second, iv (0 : Int32), iv (1 : Int32)] [(.double x1), (.int (0 : Int32)), (.ref r0)] _
  obtain ⟨T1, h1, X1, e1, W1, A1, st1⟩ := own_stD X0 hx hZ e0 A (j := (0 : Int32)) (k := 0) (by decide) rfl (by decide) (g := (mkF m 15 #[rv r0, .val (.double x1), .second, iv (0 : Int32), iv (1 : Int32)] [(.double x1), (.int (0 : Int32)), (.ref r0)])) rfl rfl (Jvm.hb hby d3_15)
  have N1 := Fr.snoc X1 N0 g_r0
  have Z1 : n0 ≤ h1.size := W1.size ▸ Z0
  have K1 : Keep h0 h1 [r0] := Keep.wr (Keep.refl h0 [r0]) W1 (Or.inl (List.mem_of_getElem? (i := 0) rfl))
  refine own_go st1 ?_
  show Gm p e below T1 m 16 #[rv r0, .val (.double x1), .second, iv (0 : Int32), iv (1 : Int32)] [] _
  refine own_go (fun t₀ k₀ => XS.iinc X1.here hx rfl (Jvm.hb hby d3_16) rfl (l' := #[rv r0, .val (.double x1), .second, iv (1 : Int32), iv (1 : Int32)]) rfl k₀) ?_
  show Gm p e below T1 m 19 #[rv r0, .val (.double x1), .second, iv (1 : Int32), iv (1 : Int32)] [] _
  refine own_go (fun t₀ k₀ => XS.goto X1.here hx rfl (pc0 := 19) (pc' := 6) rfl (Jvm.hb hby d3_19) (by decide) (by decide) k₀) ?_
  show Gm p e below T1 m 6 #[rv r0, .val (.double x1), .second, iv (1 : Int32), iv (1 : Int32)] [] _
  refine own_go (fun t₀ k₀ => XS.iloadN X1.here hx rfl (Jvm.hb hby d3_6) rfl k₀) ?_
  show Gm p e below T1 m 7 #[rv r0, .val (.double x1), .second, iv (1 : Int32), iv (1 : Int32)] [(.int (1 : Int32))] _
  refine own_go (fun t₀ k₀ => XS.iload X1.here hx rfl (Jvm.hb hby d3_7) rfl k₀) ?_
  show Gm p e below T1 m 9 #[rv r0, .val (.double x1), .second, iv (1 : Int32), iv (1 : Int32)] [(.int (1 : Int32)), (.int (1 : Int32))] _
  refine own_go (fun t₀ k₀ => XS.icmpYes X1.here hx rfl (pc0 := 9) (pc' := 22) rfl (Jvm.hb hby d3_9) rfl (XT.ii_ge_t (by decide)) (by decide) (by decide) k₀) ?_
  show Gm p e below T1 m 22 #[rv r0, .val (.double x1), .second, iv (1 : Int32), iv (1 : Int32)] [] _
  exact own_retV X1 hx hlk Bd.returns (Jvm.hb hby d3_22) e1 ⟨rfl, N1, K1, _, A1⟩ (by decide) (by decide)
theorem d4_0 : decode jdk_65_method_103_code 0 = .ok (.iconst 0, 1) := by decide +kernel
theorem d4_1 : decode jdk_65_method_103_code 1 = .ok (.istore_n 2, 1) := by decide +kernel
theorem d4_2 : decode jdk_65_method_103_code 2 = .ok (.aload_n 0, 1) := by decide +kernel
theorem d4_3 : decode jdk_65_method_103_code 3 = .ok (.arraylength, 1) := by decide +kernel
theorem d4_4 : decode jdk_65_method_103_code 4 = .ok (.istore_n 3, 1) := by decide +kernel
theorem d4_5 : decode jdk_65_method_103_code 5 = .ok (.iload_n 2, 1) := by decide +kernel
theorem d4_6 : decode jdk_65_method_103_code 6 = .ok (.iload_n 3, 1) := by decide +kernel
theorem d4_7 : decode jdk_65_method_103_code 7 = .ok (.if_icmp .ge 13, 3) := by decide +kernel
theorem d4_10 : decode jdk_65_method_103_code 10 = .ok (.aload_n 0, 1) := by decide +kernel
theorem d4_11 : decode jdk_65_method_103_code 11 = .ok (.iload_n 2, 1) := by decide +kernel
theorem d4_12 : decode jdk_65_method_103_code 12 = .ok (.iload_n 1, 1) := by decide +kernel
theorem d4_13 : decode jdk_65_method_103_code 13 = .ok (.iastore, 1) := by decide +kernel
theorem d4_14 : decode jdk_65_method_103_code 14 = .ok (.iinc 2 1, 3) := by decide +kernel
theorem d4_17 : decode jdk_65_method_103_code 17 = .ok (.goto (-12), 3) := by decide +kernel
theorem d4_20 : decode jdk_65_method_103_code 20 = .ok (.return_, 1) := by decide +kernel
theorem own_pn_rm4_1 : plainName "java/util/Arrays" = true := by first | (simp [plainName, overriddenIn]; done) | decide +kernel
theorem own_ef_rm4_1 (m : MethodId) (r0 : Addr) (p1 : Int32) : entryFrame m #[(.ref r0), (.int p1)] 4 = mkF m 0 #[.val (.ref r0), .val (.int p1), .unset, .unset] [] := by first | (simp [entryFrame, mkF, argsToLocals, Value.category]; done) | rfl
def Q4_1 (Z : State) (r0 : Addr) (p1 : Int32) (f : Nat → Value) (h0 : Heap) (n0 : Nat) (v : Option Value) (h : Heap) (L : List Loc) : Prop := v = none ∧ Fr n0 L ∧ Keep h0 h [r0] ∧ Af Z h r0 .int 1 (fun _ => .int p1)
set_option maxRecDepth 65536 in
set_option maxHeartbeats 40000000 in
theorem rm4_1 (l : Launch) (Z : State) (a0 : Array Value) (hw : ∀ d ∈ tables_1, d.before a0 Z = true) (ws : List Jvm.Cond) (r0 : Addr) (p1 : Int32) (f : Nat → Value) (h0 : Heap) (n0 : Nat) (Z0 : n0 ≤ h0.size) (A : Af Z h0 r0 .int 1 f) (g_r0 : n0 ≤ r0) :
    MetFree l (⟨"java/util/Arrays", "fill", "([II)V"⟩ : MethodName) (head1 (Jvm.Cond.code (⟨"java/util/Arrays", "fill", "([II)V"⟩ : MethodName) jdk_65_method_103_code 4 none :: ws) ({ frames := 0, cells := 0, slots := 0, locals := 0 } : Room)) (fun a U => a = #[(.ref r0), (.int p1)] ∧ Z.Warmed39 U.vm ∧ U.heap = h0) (fun _ _ _ _ _ => True) (fun _ U o U' => ∃ v L, o = .returned v ∧ Q4_1 Z r0 p1 f h0 n0 v U'.heap L ∧ FrameEnd U o U' L ({ frames := 0, cells := 0, slots := 0, locals := 0 } : Room).cells ({ frames := 0, cells := 0, slots := 0, locals := 0 } : Room).slots) := by
  refine MetFree.of_bodySF (plainFor_of_name own_pn_rm4_1) hisR ?_
  intro p e s m args below meth cO s₁ Bd hml0 hP hK
  obtain ⟨rfl, hZ, hh⟩ := hP
  have hx := Bd.exec
  have hby := Bd.bytes
  have hml : cO.maxLocals = 4 := hml0
  have hown : s.vm.findClass "java/util/Arrays" = some m.cls := findClass_of_methodNamed Bd.named
  have hnm := (name_of_methodNamed Bd.named Bd.method).1
  have hlk : meth.locks = false := BodyLoose.notSynchronized Bd
  have X0 : Stand p l e ({ frames := 0, cells := 0, slots := 0, locals := 0 } : Room) s m #[(.ref r0), (.int p1)] below meth cO s₁ [] 0 0 := Stand.of_body Bd
  have e0 : s₁.heap = h0 := by rw [← hh, Bd.state]; rfl
  have N0 := Fr.nil n0
  refine own_in (own_ef_rm4_1 m r0 p1) ?_
  show Gm p e below s₁ m 0 #[rv r0, iv p1, .unset, .unset] [] _
  refine own_go (fun t₀ k₀ => XS.iconst X0.here hx rfl (Jvm.hb hby d4_0) k₀) ?_
  show Gm p e below s₁ m 1 #[rv r0, iv p1, .unset, .unset] [(.int (0 : Int32))] _
  refine own_go (fun t₀ k₀ => XS.istoreN X0.here hx rfl (Jvm.hb hby d4_1) rfl (l' := #[rv r0, iv p1, iv (0 : Int32), .unset]) rfl k₀) ?_
  show Gm p e below s₁ m 2 #[rv r0, iv p1, iv (0 : Int32), .unset] [] _
  refine own_go (fun t₀ k₀ => XS.aloadN X0.here hx rfl (Jvm.hb hby d4_2) rfl rfl k₀) ?_
  show Gm p e below s₁ m 3 #[rv r0, iv p1, iv (0 : Int32), .unset] [(.ref r0)] _
  refine own_go (fun t₀ k₀ => own_len X0 hx hZ e0 A (z := (1 : Int32)) rfl (g := (mkF m 3 #[rv r0, iv p1, iv (0 : Int32), .unset] [(.ref r0)])) rfl rfl (Jvm.hb hby d4_3) k₀) ?_
  show Gm p e below s₁ m 4 #[rv r0, iv p1, iv (0 : Int32), .unset] [(.int (1 : Int32))] _
  refine own_go (fun t₀ k₀ => XS.istoreN X0.here hx rfl (Jvm.hb hby d4_4) rfl (l' := #[rv r0, iv p1, iv (0 : Int32), iv (1 : Int32)]) rfl k₀) ?_
  show Gm p e below s₁ m 5 #[rv r0, iv p1, iv (0 : Int32), iv (1 : Int32)] [] _
  refine own_go (fun t₀ k₀ => XS.iloadN X0.here hx rfl (Jvm.hb hby d4_5) rfl k₀) ?_
  show Gm p e below s₁ m 6 #[rv r0, iv p1, iv (0 : Int32), iv (1 : Int32)] [(.int (0 : Int32))] _
  refine own_go (fun t₀ k₀ => XS.iloadN X0.here hx rfl (Jvm.hb hby d4_6) rfl k₀) ?_
  show Gm p e below s₁ m 7 #[rv r0, iv p1, iv (0 : Int32), iv (1 : Int32)] [(.int (1 : Int32)), (.int (0 : Int32))] _
  refine own_go (fun t₀ k₀ => XS.icmpNo X0.here hx rfl (Jvm.hb hby d4_7) rfl (XT.ii_ge_f (by decide)) k₀) ?_
  show Gm p e below s₁ m 10 #[rv r0, iv p1, iv (0 : Int32), iv (1 : Int32)] [] _
  refine own_go (fun t₀ k₀ => XS.aloadN X0.here hx rfl (Jvm.hb hby d4_10) rfl rfl k₀) ?_
  show Gm p e below s₁ m 11 #[rv r0, iv p1, iv (0 : Int32), iv (1 : Int32)] [(.ref r0)] _
  refine own_go (fun t₀ k₀ => XS.iloadN X0.here hx rfl (Jvm.hb hby d4_11) rfl k₀) ?_
  show Gm p e below s₁ m 12 #[rv r0, iv p1, iv (0 : Int32), iv (1 : Int32)] [(.int (0 : Int32)), (.ref r0)] _
  refine own_go (fun t₀ k₀ => XS.iloadN X0.here hx rfl (Jvm.hb hby d4_12) rfl k₀) ?_
  show Gm p e below s₁ m 13 #[rv r0, iv p1, iv (0 : Int32), iv (1 : Int32)] [(.int p1), (.int (0 : Int32)), (.ref r0)] _
  obtain ⟨T1, h1, X1, e1, W1, A1, st1⟩ := own_stI X0 hx hZ e0 A (j := (0 : Int32)) (k := 0) (by decide) rfl (by decide) (g := (mkF m 13 #[rv r0, iv p1, iv (0 : Int32), iv (1 : Int32)] [(.int p1), (.int (0 : Int32)), (.ref r0)])) rfl rfl (Jvm.hb hby d4_13)
  have N1 := Fr.snoc X1 N0 g_r0
  have Z1 : n0 ≤ h1.size := W1.size ▸ Z0
  have K1 : Keep h0 h1 [r0] := Keep.wr (Keep.refl h0 [r0]) W1 (Or.inl (List.mem_of_getElem? (i := 0) rfl))
  refine own_go st1 ?_
  show Gm p e below T1 m 14 #[rv r0, iv p1, iv (0 : Int32), iv (1 : Int32)] [] _
  refine own_go (fun t₀ k₀ => XS.iinc X1.here hx rfl (Jvm.hb hby d4_14) rfl (l' := #[rv r0, iv p1, iv (1 : Int32), iv (1 : Int32)]) rfl k₀) ?_
  show Gm p e below T1 m 17 #[rv r0, iv p1, iv (1 : Int32), iv (1 : Int32)] [] _
  refine own_go (fun t₀ k₀ => XS.goto X1.here hx rfl (pc0 := 17) (pc' := 5) rfl (Jvm.hb hby d4_17) (by decide) (by decide) k₀) ?_
  show Gm p e below T1 m 5 #[rv r0, iv p1, iv (1 : Int32), iv (1 : Int32)] [] _
  refine own_go (fun t₀ k₀ => XS.iloadN X1.here hx rfl (Jvm.hb hby d4_5) rfl k₀) ?_
  show Gm p e below T1 m 6 #[rv r0, iv p1, iv (1 : Int32), iv (1 : Int32)] [(.int (1 : Int32))] _
  refine own_go (fun t₀ k₀ => XS.iloadN X1.here hx rfl (Jvm.hb hby d4_6) rfl k₀) ?_
  show Gm p e below T1 m 7 #[rv r0, iv p1, iv (1 : Int32), iv (1 : Int32)] [(.int (1 : Int32)), (.int (1 : Int32))] _
  refine own_go (fun t₀ k₀ => XS.icmpYes X1.here hx rfl (pc0 := 7) (pc' := 20) rfl (Jvm.hb hby d4_7) rfl (XT.ii_ge_t (by decide)) (by decide) (by decide) k₀) ?_
  show Gm p e below T1 m 20 #[rv r0, iv p1, iv (1 : Int32), iv (1 : Int32)] [] _
  exact own_retV X1 hx hlk Bd.returns (Jvm.hb hby d4_20) e1 ⟨rfl, N1, K1, (Af.congr A1 (fun i hi => by
      rcases (by omega : i = 0) with rfl <;> rfl))⟩ (by decide) (by decide)
theorem d1_0 : decode prog_63_method_1_code 0 = .ok (.aload_n 0, 1) := by decide +kernel
theorem d1_1 : decode prog_63_method_1_code 1 = .ok (.invokespecial 1, 3) := by decide +kernel
theorem d1_4 : decode prog_63_method_1_code 4 = .ok (.aload_n 0, 1) := by decide +kernel
theorem d1_5 : decode prog_63_method_1_code 5 = .ok (.iload_n 1, 1) := by decide +kernel
theorem d1_6 : decode prog_63_method_1_code 6 = .ok (.newarray .int, 2) := by decide +kernel
theorem d1_8 : decode prog_63_method_1_code 8 = .ok (.putfield 7, 3) := by decide +kernel
theorem d1_11 : decode prog_63_method_1_code 11 = .ok (.aload_n 0, 1) := by decide +kernel
theorem d1_12 : decode prog_63_method_1_code 12 = .ok (.iload_n 1, 1) := by decide +kernel
theorem d1_13 : decode prog_63_method_1_code 13 = .ok (.newarray .int, 2) := by decide +kernel
theorem d1_15 : decode prog_63_method_1_code 15 = .ok (.putfield 13, 3) := by decide +kernel
theorem d1_18 : decode prog_63_method_1_code 18 = .ok (.aload_n 0, 1) := by decide +kernel
theorem d1_19 : decode prog_63_method_1_code 19 = .ok (.iload_n 1, 1) := by decide +kernel
theorem d1_20 : decode prog_63_method_1_code 20 = .ok (.newarray .int, 2) := by decide +kernel
theorem d1_22 : decode prog_63_method_1_code 22 = .ok (.putfield 16, 3) := by decide +kernel
theorem d1_25 : decode prog_63_method_1_code 25 = .ok (.aload_n 0, 1) := by decide +kernel
theorem d1_26 : decode prog_63_method_1_code 26 = .ok (.iload_n 1, 1) := by decide +kernel
theorem d1_27 : decode prog_63_method_1_code 27 = .ok (.newarray .double, 2) := by decide +kernel
theorem d1_29 : decode prog_63_method_1_code 29 = .ok (.putfield 19, 3) := by decide +kernel
theorem d1_32 : decode prog_63_method_1_code 32 = .ok (.aload_n 0, 1) := by decide +kernel
theorem d1_33 : decode prog_63_method_1_code 33 = .ok (.iload_n 1, 1) := by decide +kernel
theorem d1_34 : decode prog_63_method_1_code 34 = .ok (.newarray .double, 2) := by decide +kernel
theorem d1_36 : decode prog_63_method_1_code 36 = .ok (.putfield 23, 3) := by decide +kernel
theorem d1_39 : decode prog_63_method_1_code 39 = .ok (.aload_n 0, 1) := by decide +kernel
theorem d1_40 : decode prog_63_method_1_code 40 = .ok (.iload_n 1, 1) := by decide +kernel
theorem d1_41 : decode prog_63_method_1_code 41 = .ok (.newarray .int, 2) := by decide +kernel
theorem d1_43 : decode prog_63_method_1_code 43 = .ok (.putfield 26, 3) := by decide +kernel
theorem d1_46 : decode prog_63_method_1_code 46 = .ok (.aload_n 0, 1) := by decide +kernel
theorem d1_47 : decode prog_63_method_1_code 47 = .ok (.iload_n 1, 1) := by decide +kernel
theorem d1_48 : decode prog_63_method_1_code 48 = .ok (.newarray .double, 2) := by decide +kernel
theorem d1_50 : decode prog_63_method_1_code 50 = .ok (.putfield 29, 3) := by decide +kernel
theorem d1_53 : decode prog_63_method_1_code 53 = .ok (.aload_n 0, 1) := by decide +kernel
theorem d1_54 : decode prog_63_method_1_code 54 = .ok (.getfield 29, 3) := by decide +kernel
theorem d1_57 : decode prog_63_method_1_code 57 = .ok (.ldc2_w 34, 3) := by decide +kernel
theorem d1_60 : decode prog_63_method_1_code 60 = .ok (.invokestatic 36, 3) := by decide +kernel
theorem d1_63 : decode prog_63_method_1_code 63 = .ok (.aload_n 0, 1) := by decide +kernel
theorem d1_64 : decode prog_63_method_1_code 64 = .ok (.iload_n 1, 1) := by decide +kernel
theorem d1_65 : decode prog_63_method_1_code 65 = .ok (.newarray .double, 2) := by decide +kernel
theorem d1_67 : decode prog_63_method_1_code 67 = .ok (.putfield 42, 3) := by decide +kernel
theorem d1_70 : decode prog_63_method_1_code 70 = .ok (.aload_n 0, 1) := by decide +kernel
theorem d1_71 : decode prog_63_method_1_code 71 = .ok (.getfield 42, 3) := by decide +kernel
theorem d1_74 : decode prog_63_method_1_code 74 = .ok (.ldc2_w 45, 3) := by decide +kernel
theorem d1_77 : decode prog_63_method_1_code 77 = .ok (.invokestatic 36, 3) := by decide +kernel
theorem d1_80 : decode prog_63_method_1_code 80 = .ok (.aload_n 0, 1) := by decide +kernel
theorem d1_81 : decode prog_63_method_1_code 81 = .ok (.iload_n 1, 1) := by decide +kernel
theorem d1_82 : decode prog_63_method_1_code 82 = .ok (.newarray .int, 2) := by decide +kernel
theorem d1_84 : decode prog_63_method_1_code 84 = .ok (.putfield 47, 3) := by decide +kernel
theorem d1_87 : decode prog_63_method_1_code 87 = .ok (.aload_n 0, 1) := by decide +kernel
theorem d1_88 : decode prog_63_method_1_code 88 = .ok (.getfield 47, 3) := by decide +kernel
theorem d1_91 : decode prog_63_method_1_code 91 = .ok (.iconst (-1), 1) := by decide +kernel
theorem d1_92 : decode prog_63_method_1_code 92 = .ok (.invokestatic 50, 3) := by decide +kernel
theorem d1_95 : decode prog_63_method_1_code 95 = .ok (.aload_n 0, 1) := by decide +kernel
theorem d1_96 : decode prog_63_method_1_code 96 = .ok (.iload_n 1, 1) := by decide +kernel
theorem d1_97 : decode prog_63_method_1_code 97 = .ok (.newarray .int, 2) := by decide +kernel
theorem d1_99 : decode prog_63_method_1_code 99 = .ok (.putfield 53, 3) := by decide +kernel
theorem d1_102 : decode prog_63_method_1_code 102 = .ok (.aload_n 0, 1) := by decide +kernel
theorem d1_103 : decode prog_63_method_1_code 103 = .ok (.getfield 53, 3) := by decide +kernel
theorem d1_106 : decode prog_63_method_1_code 106 = .ok (.iconst (-1), 1) := by decide +kernel
theorem d1_107 : decode prog_63_method_1_code 107 = .ok (.invokestatic 50, 3) := by decide +kernel
theorem d1_110 : decode prog_63_method_1_code 110 = .ok (.aload_n 0, 1) := by decide +kernel
theorem d1_111 : decode prog_63_method_1_code 111 = .ok (.iload_n 1, 1) := by decide +kernel
theorem d1_112 : decode prog_63_method_1_code 112 = .ok (.newarray .double, 2) := by decide +kernel
theorem d1_114 : decode prog_63_method_1_code 114 = .ok (.putfield 56, 3) := by decide +kernel
theorem d1_117 : decode prog_63_method_1_code 117 = .ok (.return_, 1) := by decide +kernel
theorem own_pd0 : parseMethodDescriptor "([DD)V" = some ⟨[(.array .double), .double], none⟩ := by decide +kernel
theorem own_pd1 : parseMethodDescriptor "([II)V" = some ⟨[(.array .int), .int], none⟩ := by decide +kernel
theorem own_pn_rm1_1 : plainName "com/example/throughfare/throughfare/simulation/Walkers" = true := by first | (simp [plainName, overriddenIn]; done) | decide +kernel
theorem own_ef_rm1_1 (m : MethodId) (r0 : Addr) : entryFrame m #[(.ref r0), (.int (1 : Int32))] 2 = mkF m 0 #[.val (.ref r0), .val (.int (1 : Int32))] [] := by first | (simp [entryFrame, mkF, argsToLocals, Value.category]; done) | rfl
def Q1_1 (Z : State) (r0 : Addr) (h0 : Heap) (n0 : Nat) (v : Option Value) (h : Heap) (L : List Loc) : Prop := ∃ c_floor c_startCell c_cell c_heading c_leaving c_exit : Addr, v = none ∧ Fr n0 L ∧ Keep h0 h [r0] ∧ Exa Z h r0 "com/example/throughfare/throughfare/simulation/Walkers" ∧ h0.size ≤ c_floor ∧ Fld Z h r0 "com/example/throughfare/throughfare/simulation/Walkers" "floor" "[I" (.ref c_floor) ∧ Af Z h c_floor .int 1 (fun _ => defaultValue .int) ∧ h0.size ≤ c_startCell ∧ Fld Z h r0 "com/example/throughfare/throughfare/simulation/Walkers" "startCell" "[I" (.ref c_startCell) ∧ Af Z h c_startCell .int 1 (fun _ => defaultValue .int) ∧ h0.size ≤ c_cell ∧ Fld Z h r0 "com/example/throughfare/throughfare/simulation/Walkers" "cell" "[I" (.ref c_cell) ∧ Af Z h c_cell .int 1 (fun _ => defaultValue .int) ∧ h0.size ≤ c_heading ∧ Fld Z h r0 "com/example/throughfare/throughfare/simulation/Walkers" "heading" "[I" (.ref c_heading) ∧ Af Z h c_heading .int 1 (fun _ => defaultValue .int) ∧ h0.size ≤ c_leaving ∧ Fld Z h r0 "com/example/throughfare/throughfare/simulation/Walkers" "leaving" "[I" (.ref c_leaving) ∧ Af Z h c_leaving .int 1 (fun _ => (.int (-1 : Int32))) ∧ h0.size ≤ c_exit ∧ Fld Z h r0 "com/example/throughfare/throughfare/simulation/Walkers" "exit" "[I" (.ref c_exit) ∧ Af Z h c_exit .int 1 (fun _ => (.int (-1 : Int32))) ∧ c_floor ≠ c_startCell ∧ c_floor ≠ c_cell ∧ c_startCell ≠ c_cell ∧ c_floor ≠ c_heading ∧ c_startCell ≠ c_heading ∧ c_cell ≠ c_heading ∧ c_floor ≠ c_leaving ∧ c_startCell ≠ c_leaving ∧ c_cell ≠ c_leaving ∧ c_heading ≠ c_leaving ∧ c_floor ≠ c_exit ∧ c_startCell ≠ c_exit ∧ c_cell ≠ c_exit ∧ c_heading ≠ c_exit ∧ c_leaving ≠ c_exit
set_option maxRecDepth 65536 in
set_option maxHeartbeats 40000000 in
theorem rm1_1 (l : Launch) (Z : State) (a0 : Array Value) (hw : ∀ d ∈ tables_1, d.before a0 Z = true) (ws : List Jvm.Cond) (r0 : Addr) (h0 : Heap) (n0 : Nat) (Z0 : n0 ≤ h0.size) (E_r0 : Exa Z h0 r0 "com/example/throughfare/throughfare/simulation/Walkers") (F_floor : Fld Z h0 r0 "com/example/throughfare/throughfare/simulation/Walkers" "floor" "[I" .null) (F_startCell : Fld Z h0 r0 "com/example/throughfare/throughfare/simulation/Walkers" "startCell" "[I" .null) (F_cell : Fld Z h0 r0 "com/example/throughfare/throughfare/simulation/Walkers" "cell" "[I" .null) (F_speedMps : Fld Z h0 r0 "com/example/throughfare/throughfare/simulation/Walkers" "speedMps" "[D" .null) (F_reactionS : Fld Z h0 r0 "com/example/throughfare/throughfare/simulation/Walkers" "reactionS" "[D" .null) (F_heading : Fld Z h0 r0 "com/example/throughfare/throughfare/simulation/Walkers" "heading" "[I" .null) (F_heldUpS : Fld Z h0 r0 "com/example/throughfare/throughfare/simulation/Walkers" "heldUpS" "[D" .null) (F_exitTimeS : Fld Z h0 r0 "com/example/throughfare/throughfare/simulation/Walkers" "exitTimeS" "[D" .null) (F_leaving : Fld Z h0 r0 "com/example/throughfare/throughfare/simulation/Walkers" "leaving" "[I" .null) (F_exit : Fld Z h0 r0 "com/example/throughfare/throughfare/simulation/Walkers" "exit" "[I" .null) (F_distanceM : Fld Z h0 r0 "com/example/throughfare/throughfare/simulation/Walkers" "distanceM" "[D" .null) (g_r0 : n0 ≤ r0) :
    MetFree l (⟨"com/example/throughfare/throughfare/simulation/Walkers", "<init>", "(I)V"⟩ : MethodName) (head1 (Jvm.Cond.code (⟨"com/example/throughfare/throughfare/simulation/Walkers", "<init>", "(I)V"⟩ : MethodName) prog_63_method_1_code 2 none :: ws) ({ frames := 1, cells := 11, slots := 11, locals := 20 } : Room)) (fun a U => a = #[(.ref r0), (.int (1 : Int32))] ∧ Z.Warmed39 U.vm ∧ U.heap = h0) (fun _ _ _ _ _ => True) (fun _ U o U' => ∃ v L, o = .returned v ∧ Q1_1 Z r0 h0 n0 v U'.heap L ∧ FrameEnd U o U' L ({ frames := 1, cells := 11, slots := 11, locals := 20 } : Room).cells ({ frames := 1, cells := 11, slots := 11, locals := 20 } : Room).slots) := by
  refine MetFree.of_bodySF (plainFor_of_name own_pn_rm1_1) hisR ?_
  intro p e s m args below meth cO s₁ Bd hml0 hP hK
  obtain ⟨rfl, hZ, hh⟩ := hP
  have hx := Bd.exec
  have hby := Bd.bytes
  have hml : cO.maxLocals = 2 := hml0
  have hown : s.vm.findClass "com/example/throughfare/throughfare/simulation/Walkers" = some m.cls := findClass_of_methodNamed Bd.named
  have hnm := (name_of_methodNamed Bd.named Bd.method).1
  have hlk : meth.locks = false := BodyLoose.notSynchronized Bd
  have X0 : Stand p l e ({ frames := 1, cells := 11, slots := 11, locals := 20 } : Room) s m #[(.ref r0), (.int (1 : Int32))] below meth cO s₁ [] 0 0 := Stand.of_body Bd
  have e0 : s₁.heap = h0 := by rw [← hh, Bd.state]; rfl
  have N0 := Fr.nil n0
  refine own_in (own_ef_rm1_1 m r0) ?_
  show Gm p e below s₁ m 0 #[rv r0, iv (1 : Int32)] [] _
  refine own_go (fun t₀ k₀ => XS.aloadN X0.here hx rfl (Jvm.hb hby d1_0) rfl rfl k₀) ?_
  show Gm p e below s₁ m 1 #[rv r0, iv (1 : Int32)] [(.ref r0)] _
  obtain ⟨T1, X1, e1, st1⟩ := initO X0 hx hZ hown (hw _ (List.mem_of_getElem? (i := 7) rfl)) (hw _ (List.mem_of_getElem? (i := 8) rfl)) (hw _ (List.mem_of_getElem? (i := 9) rfl)) e0 (g := (mkF m 1 #[rv r0, iv (1 : Int32)] [(.ref r0)])) rfl (by rw [hml]; rfl) rfl (Jvm.hb hby d1_1) (by decide) (W := 0) (by show 2 * 0 + _ ≤ _; exact Nat.le_of_eq rfl) (by decide)
  refine own_go st1 ?_
  show Gm p e below T1 m 4 #[rv r0, iv (1 : Int32)] [] _
  refine own_go (fun t₀ k₀ => XS.aloadN X1.here hx rfl (Jvm.hb hby d1_4) rfl rfl k₀) ?_
  show Gm p e below T1 m 5 #[rv r0, iv (1 : Int32)] [(.ref r0)] _
  refine own_go (fun t₀ k₀ => XS.iloadN X1.here hx rfl (Jvm.hb hby d1_5) rfl k₀) ?_
  show Gm p e below T1 m 6 #[rv r0, iv (1 : Int32)] [(.int (1 : Int32)), (.ref r0)] _
  obtain ⟨T2, h2, k2, X2, e2, E2, A2, st2⟩ := newP X1 hx hZ (hw _ (List.mem_of_getElem? (i := 10) rfl)) e1 (g := (mkF m 6 #[rv r0, iv (1 : Int32)] [(.int (1 : Int32)), (.ref r0)])) rfl (Jvm.hb hby d1_6) rfl (by decide) (cap := 1) (by decide) (by decide) (by decide) (by decide)
  obtain ⟨b2, g2⟩ : ∃ z, z = h0.size := ⟨_, rfl⟩
  rw [← g2] at A2 st2
  have g_b2 : n0 ≤ b2 := Nat.le_trans Z0 (Nat.le_of_eq g2.symm)
  have ne_r0_b2 : r0 ≠ b2 := Nat.ne_of_lt (Nat.lt_of_lt_of_le E_r0.lt (Nat.le_of_eq g2.symm))
  have sz_b2 : h0.size ≤ b2 := Nat.le_trans (Keep.refl h0 [r0]).1 (Nat.le_of_eq g2.symm)
  have K2 : Keep h0 h2 [r0] := Keep.ext (Keep.refl h0 [r0]) E2
  have Z2 : n0 ≤ h2.size := Nat.le_trans Z0 E2.1
  have V2 : Af Z h2 b2 .int 1 (fun _ => defaultValue .int) := Af.new A2 (by decide) rfl rfl
  refine own_go st2 ?_
  show Gm p e below T2 m 8 #[rv r0, iv (1 : Int32)] [(.ref b2), (.ref r0)] _
  have f3 := (E_r0.ext E2)
  have f4 := (F_floor.ext E2)
  obtain ⟨T5, h5, X5, e5, W5, st5⟩ := putF X2 hx hZ hown (host := "") (Or.inl (hw _ (List.mem_of_getElem? (i := 11) rfl))) Via.refl e2 f4 f3 (Or.inr ⟨(hw _ (List.mem_of_getElem? (i := 12) rfl)), rfl, hnm⟩) (hw _ (List.mem_of_getElem? (i := 2) rfl)) (ty := (.array .int)) (by decide) rfl rfl (g := (mkF m 8 #[rv r0, iv (1 : Int32)] [(.ref b2), (.ref r0)])) rfl rfl (Jvm.hb hby d1_8)
  have Fw5 := Fld.same W5 f4
  have N5 := Fr.snoc X5 N0 g_r0
  have Z5 : n0 ≤ h5.size := W5.size ▸ Z2
  have K5 : Keep h0 h5 [r0] := Keep.wr K2 W5 (Or.inl (List.mem_of_getElem? (i := 0) rfl))
  refine own_go st5 ?_
  show Gm p e below T5 m 11 #[rv r0, iv (1 : Int32)] [] _
  refine own_go (fun t₀ k₀ => XS.aloadN X5.here hx rfl (Jvm.hb hby d1_11) rfl rfl k₀) ?_
  show Gm p e below T5 m 12 #[rv r0, iv (1 : Int32)] [(.ref r0)] _
  refine own_go (fun t₀ k₀ => XS.iloadN X5.here hx rfl (Jvm.hb hby d1_12) rfl k₀) ?_
  show Gm p e below T5 m 13 #[rv r0, iv (1 : Int32)] [(.int (1 : Int32)), (.ref r0)] _
  obtain ⟨T6, h6, k6, X6, e6, E6, A6, st6⟩ := newP X5 hx hZ (hw _ (List.mem_of_getElem? (i := 10) rfl)) e5 (g := (mkF m 13 #[rv r0, iv (1 : Int32)] [(.int (1 : Int32)), (.ref r0)])) rfl (Jvm.hb hby d1_13) rfl (by decide) (cap := 1) (by decide) (by decide) (by decide) (by decide)
  obtain ⟨b6, g6⟩ : ∃ z, z = h5.size := ⟨_, rfl⟩
  rw [← g6] at A6 st6
  have g_b6 : n0 ≤ b6 := Nat.le_trans Z5 (Nat.le_of_eq g6.symm)
  have f7 := (f3.wr W5)
  have ne_r0_b6 : r0 ≠ b6 := Nat.ne_of_lt (Nat.lt_of_lt_of_le f7.lt (Nat.le_of_eq g6.symm))
  have f8 := (V2.other W5 (Ne.symm ne_r0_b2))
  have ne_b2_b6 : b2 ≠ b6 := Nat.ne_of_lt (Nat.lt_of_lt_of_le f8.lt (Nat.le_of_eq g6.symm))
  have sz_b6 : h0.size ≤ b6 := Nat.le_trans K5.1 (Nat.le_of_eq g6.symm)
  have K6 : Keep h0 h6 [r0] := Keep.ext K5 E6
  have Z6 : n0 ≤ h6.size := Nat.le_trans Z5 E6.1
  have V6 : Af Z h6 b6 .int 1 (fun _ => defaultValue .int) := Af.new A6 (by decide) rfl rfl
  refine own_go st6 ?_
  show Gm p e below T6 m 15 #[rv r0, iv (1 : Int32)] [(.ref b6), (.ref r0)] _
  have f9 := (f7.ext E6)
  have f10 := ((Fld.other W5 (F_startCell.ext E2) (Or.inr (slot_ne (Or.inr (hw _ (List.mem_of_getElem? (i := 14) rfl))) (Or.inr (hw _ (List.mem_of_getElem? (i := 12) rfl))) (by decide) (t := (.array .int)) (t' := (.array .int)) (by decide) (by decide)))).ext E6)
  obtain ⟨T11, h11, X11, e11, W11, st11⟩ := putF X6 hx hZ hown (host := "") (Or.inl (hw _ (List.mem_of_getElem? (i := 13) rfl))) Via.refl e6 f10 f9 (Or.inr ⟨(hw _ (List.mem_of_getElem? (i := 14) rfl)), rfl, hnm⟩) (hw _ (List.mem_of_getElem? (i := 2) rfl)) (ty := (.array .int)) (by decide) rfl rfl (g := (mkF m 15 #[rv r0, iv (1 : Int32)] [(.ref b6), (.ref r0)])) rfl rfl (Jvm.hb hby d1_15)
  have Fw11 := Fld.same W11 f10
  have N11 := Fr.snoc X11 N5 g_r0
  have Z11 : n0 ≤ h11.size := W11.size ▸ Z6
  have K11 : Keep h0 h11 [r0] := Keep.wr K6 W11 (Or.inl (List.mem_of_getElem? (i := 0) rfl))
  refine own_go st11 ?_
  show Gm p e below T11 m 18 #[rv r0, iv (1 : Int32)] [] _
  refine own_go (fun t₀ k₀ => XS.aloadN X11.here hx rfl (Jvm.hb hby d1_18) rfl rfl k₀) ?_
  show Gm p e below T11 m 19 #[rv r0, iv (1 : Int32)] [(.ref r0)] _
  refine own_go (fun t₀ k₀ => XS.iloadN X11.here hx rfl (Jvm.hb hby d1_19) rfl k₀) ?_
  show Gm p e below T11 m 20 #[rv r0, iv (1 : Int32)] [(.int (1 : Int32)), (.ref r0)] _
  obtain ⟨T12, h12, k12, X12, e12, E12, A12, st12⟩ := newP X11 hx hZ (hw _ (List.mem_of_getElem? (i := 10) rfl)) e11 (g := (mkF m 20 #[rv r0, iv (1 : Int32)] [(.int (1 : Int32)), (.ref r0)])) rfl (Jvm.hb hby d1_20) rfl (by decide) (cap := 1) (by decide) (by decide) (by decide) (by decide)
  obtain ⟨b12, g12⟩ : ∃ z, z = h11.size := ⟨_, rfl⟩
  rw [← g12] at A12 st12
  have g_b12 : n0 ≤ b12 := Nat.le_trans Z11 (Nat.le_of_eq g12.symm)
  have f13 := (f9.wr W11)
  have ne_r0_b12 : r0 ≠ b12 := Nat.ne_of_lt (Nat.lt_of_lt_of_le f13.lt (Nat.le_of_eq g12.symm))
  have f14 := ((f8.ext E6).other W11 (Ne.symm ne_r0_b2))
  have ne_b2_b12 : b2 ≠ b12 := Nat.ne_of_lt (Nat.lt_of_lt_of_le f14.lt (Nat.le_of_eq g12.symm))
  have f15 := (V6.other W11 (Ne.symm ne_r0_b6))
  have ne_b6_b12 : b6 ≠ b12 := Nat.ne_of_lt (Nat.lt_of_lt_of_le f15.lt (Nat.le_of_eq g12.symm))
  have sz_b12 : h0.size ≤ b12 := Nat.le_trans K11.1 (Nat.le_of_eq g12.symm)
  have K12 : Keep h0 h12 [r0] := Keep.ext K11 E12
  have Z12 : n0 ≤ h12.size := Nat.le_trans Z11 E12.1
  have V12 : Af Z h12 b12 .int 1 (fun _ => defaultValue .int) := Af.new A12 (by decide) rfl rfl
  refine own_go st12 ?_
  show Gm p e below T12 m 22 #[rv r0, iv (1 : Int32)] [(.ref b12), (.ref r0)] _
  have f16 := (f13.ext E12)
  have f17 := ((Fld.other W11 ((Fld.other W5 (F_cell.ext E2) (Or.inr (slot_ne (Or.inr (hw _ (List.mem_of_getElem? (i := 16) rfl))) (Or.inr (hw _ (List.mem_of_getElem? (i := 12) rfl))) (by decide) (t := (.array .int)) (t' := (.array .int)) (by decide) (by decide)))).ext E6) (Or.inr (slot_ne (Or.inr (hw _ (List.mem_of_getElem? (i := 16) rfl))) (Or.inr (hw _ (List.mem_of_getElem? (i := 14) rfl))) (by decide) (t := (.array .int)) (t' := (.array .int)) (by decide) (by decide)))).ext E12)
  obtain ⟨T18, h18, X18, e18, W18, st18⟩ := putF X12 hx hZ hown (host := "") (Or.inl (hw _ (List.mem_of_getElem? (i := 15) rfl))) Via.refl e12 f17 f16 (Or.inr ⟨(hw _ (List.mem_of_getElem? (i := 16) rfl)), rfl, hnm⟩) (hw _ (List.mem_of_getElem? (i := 2) rfl)) (ty := (.array .int)) (by decide) rfl rfl (g := (mkF m 22 #[rv r0, iv (1 : Int32)] [(.ref b12), (.ref r0)])) rfl rfl (Jvm.hb hby d1_22)
  have Fw18 := Fld.same W18 f17
  have N18 := Fr.snoc X18 N11 g_r0
  have Z18 : n0 ≤ h18.size := W18.size ▸ Z12
  have K18 : Keep h0 h18 [r0] := Keep.wr K12 W18 (Or.inl (List.mem_of_getElem? (i := 0) rfl))
  refine own_go st18 ?_
  show Gm p e below T18 m 25 #[rv r0, iv (1 : Int32)] [] _
  refine own_go (fun t₀ k₀ => XS.aloadN X18.here hx rfl (Jvm.hb hby d1_25) rfl rfl k₀) ?_
  show Gm p e below T18 m 26 #[rv r0, iv (1 : Int32)] [(.ref r0)] _
  refine own_go (fun t₀ k₀ => XS.iloadN X18.here hx rfl (Jvm.hb hby d1_26) rfl k₀) ?_
  show Gm p e below T18 m 27 #[rv r0, iv (1 : Int32)] [(.int (1 : Int32)), (.ref r0)] _
  obtain ⟨T19, h19, k19, X19, e19, E19, A19, st19⟩ := newP X18 hx hZ (hw _ (List.mem_of_getElem? (i := 17) rfl)) e18 (g := (mkF m 27 #[rv r0, iv (1 : Int32)] [(.int (1 : Int32)), (.ref r0)])) rfl (Jvm.hb hby d1_27) rfl (by decide) (cap := 1) (by decide) (by decide) (by decide) (by decide)
  obtain ⟨b19, g19⟩ : ∃ z, z = h18.size := ⟨_, rfl⟩
  rw [← g19] at A19 st19
  have g_b19 : n0 ≤ b19 := Nat.le_trans Z18 (Nat.le_of_eq g19.symm)
  have f20 := (f16.wr W18)
  have ne_r0_b19 : r0 ≠ b19 := Nat.ne_of_lt (Nat.lt_of_lt_of_le f20.lt (Nat.le_of_eq g19.symm))
  have f21 := ((f14.ext E12).other W18 (Ne.symm ne_r0_b2))
  have ne_b2_b19 : b2 ≠ b19 := Nat.ne_of_lt (Nat.lt_of_lt_of_le f21.lt (Nat.le_of_eq g19.symm))
  have f22 := ((f15.ext E12).other W18 (Ne.symm ne_r0_b6))
  have ne_b6_b19 : b6 ≠ b19 := Nat.ne_of_lt (Nat.lt_of_lt_of_le f22.lt (Nat.le_of_eq g19.symm))
  have f23 := (V12.other W18 (Ne.symm ne_r0_b12))
  have ne_b12_b19 : b12 ≠ b19 := Nat.ne_of_lt (Nat.lt_of_lt_of_le f23.lt (Nat.le_of_eq g19.symm))
  have sz_b19 : h0.size ≤ b19 := Nat.le_trans K18.1 (Nat.le_of_eq g19.symm)
  have K19 : Keep h0 h19 [r0] := Keep.ext K18 E19
  have Z19 : n0 ≤ h19.size := Nat.le_trans Z18 E19.1
  have V19 : Af Z h19 b19 .double 1 (fun _ => defaultValue .double) := Af.new A19 (by decide) rfl rfl
  refine own_go st19 ?_
  show Gm p e below T19 m 29 #[rv r0, iv (1 : Int32)] [(.ref b19), (.ref r0)] _
  have f24 := (f20.ext E19)
  have f25 := ((Fld.other W18 ((Fld.other W11 ((Fld.other W5 (F_speedMps.ext E2) (Or.inr (slot_ne (Or.inr (hw _ (List.mem_of_getElem? (i := 19) rfl))) (Or.inr (hw _ (List.mem_of_getElem? (i := 12) rfl))) (by decide) (t := (.array .double)) (t' := (.array .int)) (by decide) (by decide)))).ext E6) (Or.inr (slot_ne (Or.inr (hw _ (List.mem_of_getElem? (i := 19) rfl))) (Or.inr (hw _ (List.mem_of_getElem? (i := 14) rfl))) (by decide) (t := (.array .double)) (t' := (.array .int)) (by decide) (by decide)))).ext E12) (Or.inr (slot_ne (Or.inr (hw _ (List.mem_of_getElem? (i := 19) rfl))) (Or.inr (hw _ (List.mem_of_getElem? (i := 16) rfl))) (by decide) (t := (.array .double)) (t' := (.array .int)) (by decide) (by decide)))).ext E19)
  obtain ⟨T26, h26, X26, e26, W26, st26⟩ := putF X19 hx hZ hown (host := "") (Or.inl (hw _ (List.mem_of_getElem? (i := 18) rfl))) Via.refl e19 f25 f24 (Or.inr ⟨(hw _ (List.mem_of_getElem? (i := 19) rfl)), rfl, hnm⟩) (hw _ (List.mem_of_getElem? (i := 2) rfl)) (ty := (.array .double)) (by decide) rfl rfl (g := (mkF m 29 #[rv r0, iv (1 : Int32)] [(.ref b19), (.ref r0)])) rfl rfl (Jvm.hb hby d1_29)
  have Fw26 := Fld.same W26 f25
  have N26 := Fr.snoc X26 N18 g_r0
  have Z26 : n0 ≤ h26.size := W26.size ▸ Z19
  have K26 : Keep h0 h26 [r0] := Keep.wr K19 W26 (Or.inl (List.mem_of_getElem? (i := 0) rfl))
  refine own_go st26 ?_
  show Gm p e below T26 m 32 #[rv r0, iv (1 : Int32)] [] _
  refine own_go (fun t₀ k₀ => XS.aloadN X26.here hx rfl (Jvm.hb hby d1_32) rfl rfl k₀) ?_
  show Gm p e below T26 m 33 #[rv r0, iv (1 : Int32)] [(.ref r0)] _
  refine own_go (fun t₀ k₀ => XS.iloadN X26.here hx rfl (Jvm.hb hby d1_33) rfl k₀) ?_
  show Gm p e below T26 m 34 #[rv r0, iv (1 : Int32)] [(.int (1 : Int32)), (.ref r0)] _
  obtain ⟨T27, h27, k27, X27, e27, E27, A27, st27⟩ := newP X26 hx hZ (hw _ (List.mem_of_getElem? (i := 17) rfl)) e26 (g := (mkF m 34 #[rv r0, iv (1 : Int32)] [(.int (1 : Int32)), (.ref r0)])) rfl (Jvm.hb hby d1_34) rfl (by decide) (cap := 1) (by decide) (by decide) (by decide) (by decide)
  obtain ⟨b27, g27⟩ : ∃ z, z = h26.size := ⟨_, rfl⟩
  rw [← g27] at A27 st27
  have g_b27 : n0 ≤ b27 := Nat.le_trans Z26 (Nat.le_of_eq g27.symm)
  have f28 := (f24.wr W26)
  have ne_r0_b27 : r0 ≠ b27 := Nat.ne_of_lt (Nat.lt_of_lt_of_le f28.lt (Nat.le_of_eq g27.symm))
  have f29 := ((f21.ext E19).other W26 (Ne.symm ne_r0_b2))
  have ne_b2_b27 : b2 ≠ b27 := Nat.ne_of_lt (Nat.lt_of_lt_of_le f29.lt (Nat.le_of_eq g27.symm))
  have f30 := ((f22.ext E19).other W26 (Ne.symm ne_r0_b6))
  have ne_b6_b27 : b6 ≠ b27 := Nat.ne_of_lt (Nat.lt_of_lt_of_le f30.lt (Nat.le_of_eq g27.symm))
  have f31 := ((f23.ext E19).other W26 (Ne.symm ne_r0_b12))
  have ne_b12_b27 : b12 ≠ b27 := Nat.ne_of_lt (Nat.lt_of_lt_of_le f31.lt (Nat.le_of_eq g27.symm))
  have sz_b27 : h0.size ≤ b27 := Nat.le_trans K26.1 (Nat.le_of_eq g27.symm)
  have K27 : Keep h0 h27 [r0] := Keep.ext K26 E27
  have Z27 : n0 ≤ h27.size := Nat.le_trans Z26 E27.1
  have V27 : Af Z h27 b27 .double 1 (fun _ => defaultValue .double) := Af.new A27 (by decide) rfl rfl
  refine own_go st27 ?_
  show Gm p e below T27 m 36 #[rv r0, iv (1 : Int32)] [(.ref b27), (.ref r0)] _
  have f32 := (f28.ext E27)
  have f33 := ((Fld.other W26 ((Fld.other W18 ((Fld.other W11 ((Fld.other W5 (F_reactionS.ext E2) (Or.inr (slot_ne (Or.inr (hw _ (List.mem_of_getElem? (i := 21) rfl))) (Or.inr (hw _ (List.mem_of_getElem? (i := 12) rfl))) (by decide) (t := (.array .double)) (t' := (.array .int)) (by decide) (by decide)))).ext E6) (Or.inr (slot_ne (Or.inr (hw _ (List.mem_of_getElem? (i := 21) rfl))) (Or.inr (hw _ (List.mem_of_getElem? (i := 14) rfl))) (by decide) (t := (.array .double)) (t' := (.array .int)) (by decide) (by decide)))).ext E12) (Or.inr (slot_ne (Or.inr (hw _ (List.mem_of_getElem? (i := 21) rfl))) (Or.inr (hw _ (List.mem_of_getElem? (i := 16) rfl))) (by decide) (t := (.array .double)) (t' := (.array .int)) (by decide) (by decide)))).ext E19) (Or.inr (slot_ne (Or.inr (hw _ (List.mem_of_getElem? (i := 21) rfl))) (Or.inr (hw _ (List.mem_of_getElem? (i := 19) rfl))) (by decide) (t := (.array .double)) (t' := (.array .double)) (by decide) (by decide)))).ext E27)
  obtain ⟨T34, h34, X34, e34, W34, st34⟩ := putF X27 hx hZ hown (host := "") (Or.inl (hw _ (List.mem_of_getElem? (i := 20) rfl))) Via.refl e27 f33 f32 (Or.inr ⟨(hw _ (List.mem_of_getElem? (i := 21) rfl)), rfl, hnm⟩) (hw _ (List.mem_of_getElem? (i := 2) rfl)) (ty := (.array .double)) (by decide) rfl rfl (g := (mkF m 36 #[rv r0, iv (1 : Int32)] [(.ref b27), (.ref r0)])) rfl rfl (Jvm.hb hby d1_36)
  have Fw34 := Fld.same W34 f33
  have N34 := Fr.snoc X34 N26 g_r0
  have Z34 : n0 ≤ h34.size := W34.size ▸ Z27
  have K34 : Keep h0 h34 [r0] := Keep.wr K27 W34 (Or.inl (List.mem_of_getElem? (i := 0) rfl))
  refine own_go st34 ?_
  show Gm p e below T34 m 39 #[rv r0, iv (1 : Int32)] [] _
  refine own_go (fun t₀ k₀ => XS.aloadN X34.here hx rfl (Jvm.hb hby d1_39) rfl rfl k₀) ?_
  show Gm p e below T34 m 40 #[rv r0, iv (1 : Int32)] [(.ref r0)] _
  refine own_go (fun t₀ k₀ => XS.iloadN X34.here hx rfl (Jvm.hb hby d1_40) rfl k₀) ?_
  show Gm p e below T34 m 41 #[rv r0, iv (1 : Int32)] [(.int (1 : Int32)), (.ref r0)] _
  obtain ⟨T35, h35, k35, X35, e35, E35, A35, st35⟩ := newP X34 hx hZ (hw _ (List.mem_of_getElem? (i := 10) rfl)) e34 (g := (mkF m 41 #[rv r0, iv (1 : Int32)] [(.int (1 : Int32)), (.ref r0)])) rfl (Jvm.hb hby d1_41) rfl (by decide) (cap := 1) (by decide) (by decide) (by decide) (by decide)
  obtain ⟨b35, g35⟩ : ∃ z, z = h34.size := ⟨_, rfl⟩
  rw [← g35] at A35 st35
  have g_b35 : n0 ≤ b35 := Nat.le_trans Z34 (Nat.le_of_eq g35.symm)
  have f36 := (f32.wr W34)
  have ne_r0_b35 : r0 ≠ b35 := Nat.ne_of_lt (Nat.lt_of_lt_of_le f36.lt (Nat.le_of_eq g35.symm))
  have f37 := ((f29.ext E27).other W34 (Ne.symm ne_r0_b2))
  have ne_b2_b35 : b2 ≠ b35 := Nat.ne_of_lt (Nat.lt_of_lt_of_le f37.lt (Nat.le_of_eq g35.symm))
  have f38 := ((f30.ext E27).other W34 (Ne.symm ne_r0_b6))
  have ne_b6_b35 : b6 ≠ b35 := Nat.ne_of_lt (Nat.lt_of_lt_of_le f38.lt (Nat.le_of_eq g35.symm))
  have f39 := ((f31.ext E27).other W34 (Ne.symm ne_r0_b12))
  have ne_b12_b35 : b12 ≠ b35 := Nat.ne_of_lt (Nat.lt_of_lt_of_le f39.lt (Nat.le_of_eq g35.symm))
  have sz_b35 : h0.size ≤ b35 := Nat.le_trans K34.1 (Nat.le_of_eq g35.symm)
  have K35 : Keep h0 h35 [r0] := Keep.ext K34 E35
  have Z35 : n0 ≤ h35.size := Nat.le_trans Z34 E35.1
  have V35 : Af Z h35 b35 .int 1 (fun _ => defaultValue .int) := Af.new A35 (by decide) rfl rfl
  refine own_go st35 ?_
  show Gm p e below T35 m 43 #[rv r0, iv (1 : Int32)] [(.ref b35), (.ref r0)] _
  have f40 := (f36.ext E35)
  have f41 := ((Fld.other W34 ((Fld.other W26 ((Fld.other W18 ((Fld.other W11 ((Fld.other W5 (F_heading.ext E2) (Or.inr (slot_ne (Or.inr (hw _ (List.mem_of_getElem? (i := 23) rfl))) (Or.inr (hw _ (List.mem_of_getElem? (i := 12) rfl))) (by decide) (t := (.array .int)) (t' := (.array .int)) (by decide) (by decide)))).ext E6) (Or.inr (slot_ne (Or.inr (hw _ (List.mem_of_getElem? (i := 23) rfl))) (Or.inr (hw _ (List.mem_of_getElem? (i := 14) rfl))) (by decide) (t := (.array .int)) (t' := (.array .int)) (by decide) (by decide)))).ext E12) (Or.inr (slot_ne (Or.inr (hw _ (List.mem_of_getElem? (i := 23) rfl))) (Or.inr (hw _ (List.mem_of_getElem? (i := 16) rfl))) (by decide) (t := (.array .int)) (t' := (.array .int)) (by decide) (by decide)))).ext E19) (Or.inr (slot_ne (Or.inr (hw _ (List.mem_of_getElem? (i := 23) rfl))) (Or.inr (hw _ (List.mem_of_getElem? (i := 19) rfl))) (by decide) (t := (.array .int)) (t' := (.array .double)) (by decide) (by decide)))).ext E27) (Or.inr (slot_ne (Or.inr (hw _ (List.mem_of_getElem? (i := 23) rfl))) (Or.inr (hw _ (List.mem_of_getElem? (i := 21) rfl))) (by decide) (t := (.array .int)) (t' := (.array .double)) (by decide) (by decide)))).ext E35)
  obtain ⟨T42, h42, X42, e42, W42, st42⟩ := putF X35 hx hZ hown (host := "") (Or.inl (hw _ (List.mem_of_getElem? (i := 22) rfl))) Via.refl e35 f41 f40 (Or.inr ⟨(hw _ (List.mem_of_getElem? (i := 23) rfl)), rfl, hnm⟩) (hw _ (List.mem_of_getElem? (i := 2) rfl)) (ty := (.array .int)) (by decide) rfl rfl (g := (mkF m 43 #[rv r0, iv (1 : Int32)] [(.ref b35), (.ref r0)])) rfl rfl (Jvm.hb hby d1_43)
  have Fw42 := Fld.same W42 f41
  have N42 := Fr.snoc X42 N34 g_r0
  have Z42 : n0 ≤ h42.size := W42.size ▸ Z35
  have K42 : Keep h0 h42 [r0] := Keep.wr K35 W42 (Or.inl (List.mem_of_getElem? (i := 0) rfl))
  refine own_go st42 ?_
  show Gm p e below T42 m 46 #[rv r0, iv (1 : Int32)] [] _
  refine own_go (fun t₀ k₀ => XS.aloadN X42.here hx rfl (Jvm.hb hby d1_46) rfl rfl k₀) ?_
  show Gm p e below T42 m 47 #[rv r0, iv (1 : Int32)] [(.ref r0)] _
  refine own_go (fun t₀ k₀ => XS.iloadN X42.here hx rfl (Jvm.hb hby d1_47) rfl k₀) ?_
  show Gm p e below T42 m 48 #[rv r0, iv (1 : Int32)] [(.int (1 : Int32)), (.ref r0)] _
  obtain ⟨T43, h43, k43, X43, e43, E43, A43, st43⟩ := newP X42 hx hZ (hw _ (List.mem_of_getElem? (i := 17) rfl)) e42 (g := (mkF m 48 #[rv r0, iv (1 : Int32)] [(.int (1 : Int32)), (.ref r0)])) rfl (Jvm.hb hby d1_48) rfl (by decide) (cap := 1) (by decide) (by decide) (by decide) (by decide)
  obtain ⟨b43, g43⟩ : ∃ z, z = h42.size := ⟨_, rfl⟩
  rw [← g43] at A43 st43
  have g_b43 : n0 ≤ b43 := Nat.le_trans Z42 (Nat.le_of_eq g43.symm)
  have f44 := (f40.wr W42)
  have ne_r0_b43 : r0 ≠ b43 := Nat.ne_of_lt (Nat.lt_of_lt_of_le f44.lt (Nat.le_of_eq g43.symm))
  have f45 := ((f37.ext E35).other W42 (Ne.symm ne_r0_b2))
  have ne_b2_b43 : b2 ≠ b43 := Nat.ne_of_lt (Nat.lt_of_lt_of_le f45.lt (Nat.le_of_eq g43.symm))
  have f46 := ((f38.ext E35).other W42 (Ne.symm ne_r0_b6))
  have ne_b6_b43 : b6 ≠ b43 := Nat.ne_of_lt (Nat.lt_of_lt_of_le f46.lt (Nat.le_of_eq g43.symm))
  have f47 := ((f39.ext E35).other W42 (Ne.symm ne_r0_b12))
  have ne_b12_b43 : b12 ≠ b43 := Nat.ne_of_lt (Nat.lt_of_lt_of_le f47.lt (Nat.le_of_eq g43.symm))
  have f48 := (V35.other W42 (Ne.symm ne_r0_b35))
  have ne_b35_b43 : b35 ≠ b43 := Nat.ne_of_lt (Nat.lt_of_lt_of_le f48.lt (Nat.le_of_eq g43.symm))
  have sz_b43 : h0.size ≤ b43 := Nat.le_trans K42.1 (Nat.le_of_eq g43.symm)
  have K43 : Keep h0 h43 [r0] := Keep.ext K42 E43
  have Z43 : n0 ≤ h43.size := Nat.le_trans Z42 E43.1
  have V43 : Af Z h43 b43 .double 1 (fun _ => defaultValue .double) := Af.new A43 (by decide) rfl rfl
  refine own_go st43 ?_
  show Gm p e below T43 m 50 #[rv r0, iv (1 : Int32)] [(.ref b43), (.ref r0)] _
  have f49 := (f44.ext E43)
  have f50 := ((Fld.other W42 ((Fld.other W34 ((Fld.other W26 ((Fld.other W18 ((Fld.other W11 ((Fld.other W5 (F_heldUpS.ext E2) (Or.inr (slot_ne (Or.inr (hw _ (List.mem_of_getElem? (i := 25) rfl))) (Or.inr (hw _ (List.mem_of_getElem? (i := 12) rfl))) (by decide) (t := (.array .double)) (t' := (.array .int)) (by decide) (by decide)))).ext E6) (Or.inr (slot_ne (Or.inr (hw _ (List.mem_of_getElem? (i := 25) rfl))) (Or.inr (hw _ (List.mem_of_getElem? (i := 14) rfl))) (by decide) (t := (.array .double)) (t' := (.array .int)) (by decide) (by decide)))).ext E12) (Or.inr (slot_ne (Or.inr (hw _ (List.mem_of_getElem? (i := 25) rfl))) (Or.inr (hw _ (List.mem_of_getElem? (i := 16) rfl))) (by decide) (t := (.array .double)) (t' := (.array .int)) (by decide) (by decide)))).ext E19) (Or.inr (slot_ne (Or.inr (hw _ (List.mem_of_getElem? (i := 25) rfl))) (Or.inr (hw _ (List.mem_of_getElem? (i := 19) rfl))) (by decide) (t := (.array .double)) (t' := (.array .double)) (by decide) (by decide)))).ext E27) (Or.inr (slot_ne (Or.inr (hw _ (List.mem_of_getElem? (i := 25) rfl))) (Or.inr (hw _ (List.mem_of_getElem? (i := 21) rfl))) (by decide) (t := (.array .double)) (t' := (.array .double)) (by decide) (by decide)))).ext E35) (Or.inr (slot_ne (Or.inr (hw _ (List.mem_of_getElem? (i := 25) rfl))) (Or.inr (hw _ (List.mem_of_getElem? (i := 23) rfl))) (by decide) (t := (.array .double)) (t' := (.array .int)) (by decide) (by decide)))).ext E43)
  obtain ⟨T51, h51, X51, e51, W51, st51⟩ := putF X43 hx hZ hown (host := "") (Or.inl (hw _ (List.mem_of_getElem? (i := 24) rfl))) Via.refl e43 f50 f49 (Or.inr ⟨(hw _ (List.mem_of_getElem? (i := 25) rfl)), rfl, hnm⟩) (hw _ (List.mem_of_getElem? (i := 2) rfl)) (ty := (.array .double)) (by decide) rfl rfl (g := (mkF m 50 #[rv r0, iv (1 : Int32)] [(.ref b43), (.ref r0)])) rfl rfl (Jvm.hb hby d1_50)
  have Fw51 := Fld.same W51 f50
  have N51 := Fr.snoc X51 N42 g_r0
  have Z51 : n0 ≤ h51.size := W51.size ▸ Z43
  have K51 : Keep h0 h51 [r0] := Keep.wr K43 W51 (Or.inl (List.mem_of_getElem? (i := 0) rfl))
  refine own_go st51 ?_
  show Gm p e below T51 m 53 #[rv r0, iv (1 : Int32)] [] _
  refine own_go (fun t₀ k₀ => XS.aloadN X51.here hx rfl (Jvm.hb hby d1_53) rfl rfl k₀) ?_
  show Gm p e below T51 m 54 #[rv r0, iv (1 : Int32)] [(.ref r0)] _
  obtain ⟨T52, X52, e52, st52⟩ := getF X51 hx hZ hown (host := "") (Or.inl (hw _ (List.mem_of_getElem? (i := 24) rfl))) Via.refl e51 Fw51 (g := (mkF m 54 #[rv r0, iv (1 : Int32)] [(.ref r0)])) rfl rfl (Jvm.hb hby d1_54)
  refine own_go st52 ?_
  show Gm p e below T52 m 57 #[rv r0, iv (1 : Int32)] [(.ref b43)] _
  refine own_go (fun t₀ k₀ => X52.ldc2DoubleC hx hown (mvT hZ (hw _ (List.mem_of_getElem? (i := 26) rfl))) (g := (mkF m 57 #[rv r0, iv (1 : Int32)] [(.ref b43)])) rfl (Jvm.hb hby d1_57) _ k₀) ?_
  show Gm p e below T52 m 60 #[rv r0, iv (1 : Int32)] [(.double (18442240474082181120 : UInt64)), (.ref b43)] _
  have f53 := (V43.other W51 (Ne.symm ne_r0_b43))
  obtain ⟨_, _, ⟨T54, L54, k54, n54⟩, -, X54, ⟨Lc54, hQ54, l54, y54, z54⟩, st54⟩ := Jvm.LawKit.callS X52 hx (y := (⟨"java/util/Arrays", "fill", "([DD)V"⟩ : MethodName)) hown (mvT hZ (hw _ (List.mem_of_getElem? (i := 27) rfl))) (mvT hZ (hw _ (List.mem_of_getElem? (i := 28) rfl))) (mvT hZ (hw _ (List.mem_of_getElem? (i := 29) rfl))) (mvT hZ (hw _ (List.mem_of_getElem? (i := 30) rfl))) (by decide) (backOf (W := 0) (rm3_1 l Z a0 hw [] b43 (18442240474082181120 : UInt64) (fun _ => defaultValue .double) h51 n0 Z51 f53 g_b43) hZ (hw _ (List.mem_of_getElem? (i := 30) rfl)) (hw _ (List.mem_of_getElem? (i := 29) rfl)) (by decide) (by decide)) (g := (mkF m 60 #[rv r0, iv (1 : Int32)] [(.double (18442240474082181120 : UInt64)), (.ref b43)])) rfl (by rw [hml]; rfl) (argsL := [(.ref b43), (.double (18442240474082181120 : UInt64))]) (rest := []) (lenOf own_pd0 rfl) rfl (by show 2 * 0 + _ ≤ _; exact Nat.le_of_eq rfl) (Jvm.hb hby d1_60) (fun _ _ => ⟨rfl, e52, (by decide : 7 + 0 ≤ _), (by decide : 7 + 0 ≤ _)⟩)
  dsimp only [Pt.U, Pt.locs, Pt.cells, Pt.slots] at X54 l54 y54 z54 st54 hQ54
  subst l54 y54 z54
  obtain ⟨rfl, Nq54, Kc54, fd54, Ac54⟩ := hQ54
  have N54 := Fr.app N51 Nq54
  refine own_go st54 ?_
  have Z54 : n0 ≤ T54.heap.size := Nat.le_trans Z51 Kc54.1
  have K54 : Keep h0 T54.heap [r0] := Keep.trans K51 Kc54 (allS (Or.inr sz_b43) all0)
  show Gm p e below T54 m 63 #[rv r0, iv (1 : Int32)] [] _
  refine own_go (fun t₀ k₀ => XS.aloadN X54.here hx rfl (Jvm.hb hby d1_63) rfl rfl k₀) ?_
  show Gm p e below T54 m 64 #[rv r0, iv (1 : Int32)] [(.ref r0)] _
  refine own_go (fun t₀ k₀ => XS.iloadN X54.here hx rfl (Jvm.hb hby d1_64) rfl k₀) ?_
  show Gm p e below T54 m 65 #[rv r0, iv (1 : Int32)] [(.int (1 : Int32)), (.ref r0)] _
  obtain ⟨T55, h55, k55, X55, e55, E55, A55, st55⟩ := newP X54 hx hZ (hw _ (List.mem_of_getElem? (i := 17) rfl)) rfl (g := (mkF m 65 #[rv r0, iv (1 : Int32)] [(.int (1 : Int32)), (.ref r0)])) rfl (Jvm.hb hby d1_65) rfl (by decide) (cap := 1) (by decide) (by decide) (by decide) (by decide)
  obtain ⟨b55, g55⟩ : ∃ z, z = T54.heap.size := ⟨_, rfl⟩
  rw [← g55] at A55 st55
  have g_b55 : n0 ≤ b55 := Nat.le_trans Z54 (Nat.le_of_eq g55.symm)
  have f56 := ((f49.wr W51).keep Kc54)
  have ne_r0_b55 : r0 ≠ b55 := Nat.ne_of_lt (Nat.lt_of_lt_of_le f56.lt (Nat.le_of_eq g55.symm))
  have f57 := (((f45.ext E43).other W51 (Ne.symm ne_r0_b2)).keep Kc54 (ninS ne_b2_b43 nin0))
  have ne_b2_b55 : b2 ≠ b55 := Nat.ne_of_lt (Nat.lt_of_lt_of_le f57.lt (Nat.le_of_eq g55.symm))
  have f58 := (((f46.ext E43).other W51 (Ne.symm ne_r0_b6)).keep Kc54 (ninS ne_b6_b43 nin0))
  have ne_b6_b55 : b6 ≠ b55 := Nat.ne_of_lt (Nat.lt_of_lt_of_le f58.lt (Nat.le_of_eq g55.symm))
  have f59 := (((f47.ext E43).other W51 (Ne.symm ne_r0_b12)).keep Kc54 (ninS ne_b12_b43 nin0))
  have ne_b12_b55 : b12 ≠ b55 := Nat.ne_of_lt (Nat.lt_of_lt_of_le f59.lt (Nat.le_of_eq g55.symm))
  have f60 := (((f48.ext E43).other W51 (Ne.symm ne_r0_b35)).keep Kc54 (ninS ne_b35_b43 nin0))
  have ne_b35_b55 : b35 ≠ b55 := Nat.ne_of_lt (Nat.lt_of_lt_of_le f60.lt (Nat.le_of_eq g55.symm))
  have sz_b55 : h0.size ≤ b55 := Nat.le_trans K54.1 (Nat.le_of_eq g55.symm)
  have K55 : Keep h0 h55 [r0] := Keep.ext K54 E55
  have Z55 : n0 ≤ h55.size := Nat.le_trans Z54 E55.1
  have V55 : Af Z h55 b55 .double 1 (fun _ => defaultValue .double) := Af.new A55 (by decide) rfl rfl
  refine own_go st55 ?_
  show Gm p e below T55 m 67 #[rv r0, iv (1 : Int32)] [(.ref b55), (.ref r0)] _
  have f61 := (f56.ext E55)
  have f62 := (((Fld.other W51 ((Fld.other W42 ((Fld.other W34 ((Fld.other W26 ((Fld.other W18 ((Fld.other W11 ((Fld.other W5 (F_exitTimeS.ext E2) (Or.inr (slot_ne (Or.inr (hw _ (List.mem_of_getElem? (i := 32) rfl))) (Or.inr (hw _ (List.mem_of_getElem? (i := 12) rfl))) (by decide) (t := (.array .double)) (t' := (.array .int)) (by decide) (by decide)))).ext E6) (Or.inr (slot_ne (Or.inr (hw _ (List.mem_of_getElem? (i := 32) rfl))) (Or.inr (hw _ (List.mem_of_getElem? (i := 14) rfl))) (by decide) (t := (.array .double)) (t' := (.array .int)) (by decide) (by decide)))).ext E12) (Or.inr (slot_ne (Or.inr (hw _ (List.mem_of_getElem? (i := 32) rfl))) (Or.inr (hw _ (List.mem_of_getElem? (i := 16) rfl))) (by decide) (t := (.array .double)) (t' := (.array .int)) (by decide) (by decide)))).ext E19) (Or.inr (slot_ne (Or.inr (hw _ (List.mem_of_getElem? (i := 32) rfl))) (Or.inr (hw _ (List.mem_of_getElem? (i := 19) rfl))) (by decide) (t := (.array .double)) (t' := (.array .double)) (by decide) (by decide)))).ext E27) (Or.inr (slot_ne (Or.inr (hw _ (List.mem_of_getElem? (i := 32) rfl))) (Or.inr (hw _ (List.mem_of_getElem? (i := 21) rfl))) (by decide) (t := (.array .double)) (t' := (.array .double)) (by decide) (by decide)))).ext E35) (Or.inr (slot_ne (Or.inr (hw _ (List.mem_of_getElem? (i := 32) rfl))) (Or.inr (hw _ (List.mem_of_getElem? (i := 23) rfl))) (by decide) (t := (.array .double)) (t' := (.array .int)) (by decide) (by decide)))).ext E43) (Or.inr (slot_ne (Or.inr (hw _ (List.mem_of_getElem? (i := 32) rfl))) (Or.inr (hw _ (List.mem_of_getElem? (i := 25) rfl))) (by decide) (t := (.array .double)) (t' := (.array .double)) (by decide) (by decide)))).keep Kc54 (ninS ne_r0_b43 nin0)).ext E55)
  obtain ⟨T63, h63, X63, e63, W63, st63⟩ := putF X55 hx hZ hown (host := "") (Or.inl (hw _ (List.mem_of_getElem? (i := 31) rfl))) Via.refl e55 f62 f61 (Or.inr ⟨(hw _ (List.mem_of_getElem? (i := 32) rfl)), rfl, hnm⟩) (hw _ (List.mem_of_getElem? (i := 2) rfl)) (ty := (.array .double)) (by decide) rfl rfl (g := (mkF m 67 #[rv r0, iv (1 : Int32)] [(.ref b55), (.ref r0)])) rfl rfl (Jvm.hb hby d1_67)
  have Fw63 := Fld.same W63 f62
  have N63 := Fr.snoc X63 N54 g_r0
  have Z63 : n0 ≤ h63.size := W63.size ▸ Z55
  have K63 : Keep h0 h63 [r0] := Keep.wr K55 W63 (Or.inl (List.mem_of_getElem? (i := 0) rfl))
  refine own_go st63 ?_
  show Gm p e below T63 m 70 #[rv r0, iv (1 : Int32)] [] _
  refine own_go (fun t₀ k₀ => XS.aloadN X63.here hx rfl (Jvm.hb hby d1_70) rfl rfl k₀) ?_
  show Gm p e below T63 m 71 #[rv r0, iv (1 : Int32)] [(.ref r0)] _
  obtain ⟨T64, X64, e64, st64⟩ := getF X63 hx hZ hown (host := "") (Or.inl (hw _ (List.mem_of_getElem? (i := 31) rfl))) Via.refl e63 Fw63 (g := (mkF m 71 #[rv r0, iv (1 : Int32)] [(.ref r0)])) rfl rfl (Jvm.hb hby d1_71)
  refine own_go st64 ?_
  show Gm p e below T64 m 74 #[rv r0, iv (1 : Int32)] [(.ref b55)] _
  refine own_go (fun t₀ k₀ => X64.ldc2DoubleC hx hown (mvT hZ (hw _ (List.mem_of_getElem? (i := 33) rfl))) (g := (mkF m 74 #[rv r0, iv (1 : Int32)] [(.ref b55)])) rfl (Jvm.hb hby d1_74) _ k₀) ?_
  show Gm p e below T64 m 77 #[rv r0, iv (1 : Int32)] [(.double (9218868437227405312 : UInt64)), (.ref b55)] _
  have f65 := (V55.other W63 (Ne.symm ne_r0_b55))
  obtain ⟨_, _, ⟨T66, L66, k66, n66⟩, -, X66, ⟨Lc66, hQ66, l66, y66, z66⟩, st66⟩ := Jvm.LawKit.callS X64 hx (y := (⟨"java/util/Arrays", "fill", "([DD)V"⟩ : MethodName)) hown (mvT hZ (hw _ (List.mem_of_getElem? (i := 27) rfl))) (mvT hZ (hw _ (List.mem_of_getElem? (i := 28) rfl))) (mvT hZ (hw _ (List.mem_of_getElem? (i := 29) rfl))) (mvT hZ (hw _ (List.mem_of_getElem? (i := 30) rfl))) (by decide) (backOf (W := 0) (rm3_1 l Z a0 hw [] b55 (9218868437227405312 : UInt64) (fun _ => defaultValue .double) h63 n0 Z63 f65 g_b55) hZ (hw _ (List.mem_of_getElem? (i := 30) rfl)) (hw _ (List.mem_of_getElem? (i := 29) rfl)) (by decide) (by decide)) (g := (mkF m 77 #[rv r0, iv (1 : Int32)] [(.double (9218868437227405312 : UInt64)), (.ref b55)])) rfl (by rw [hml]; rfl) (argsL := [(.ref b55), (.double (9218868437227405312 : UInt64))]) (rest := []) (lenOf own_pd0 rfl) rfl (by show 2 * 0 + _ ≤ _; exact Nat.le_of_eq rfl) (Jvm.hb hby d1_77) (fun _ _ => ⟨rfl, e64, (by decide : 8 + 0 ≤ _), (by decide : 8 + 0 ≤ _)⟩)
  dsimp only [Pt.U, Pt.locs, Pt.cells, Pt.slots] at X66 l66 y66 z66 st66 hQ66
  subst l66 y66 z66
  obtain ⟨rfl, Nq66, Kc66, fd66, Ac66⟩ := hQ66
  have N66 := Fr.app N63 Nq66
  refine own_go st66 ?_
  have Z66 : n0 ≤ T66.heap.size := Nat.le_trans Z63 Kc66.1
  have K66 : Keep h0 T66.heap [r0] := Keep.trans K63 Kc66 (allS (Or.inr sz_b55) all0)
  show Gm p e below T66 m 80 #[rv r0, iv (1 : Int32)] [] _
  refine own_go (fun t₀ k₀ => XS.aloadN X66.here hx rfl (Jvm.hb hby d1_80) rfl rfl k₀) ?_
  show Gm p e below T66 m 81 #[rv r0, iv (1 : Int32)] [(.ref r0)] _
  refine own_go (fun t₀ k₀ => XS.iloadN X66.here hx rfl (Jvm.hb hby d1_81) rfl k₀) ?_
  show Gm p e below T66 m 82 #[rv r0, iv (1 : Int32)] [(.int (1 : Int32)), (.ref r0)] _
  obtain ⟨T67, h67, k67, X67, e67, E67, A67, st67⟩ := newP X66 hx hZ (hw _ (List.mem_of_getElem? (i := 10) rfl)) rfl (g := (mkF m 82 #[rv r0, iv (1 : Int32)] [(.int (1 : Int32)), (.ref r0)])) rfl (Jvm.hb hby d1_82) rfl (by decide) (cap := 1) (by decide) (by decide) (by decide) (by decide)
  obtain ⟨b67, g67⟩ : ∃ z, z = T66.heap.size := ⟨_, rfl⟩
  rw [← g67] at A67 st67
  have g_b67 : n0 ≤ b67 := Nat.le_trans Z66 (Nat.le_of_eq g67.symm)
  have f68 := ((f61.wr W63).keep Kc66)
  have ne_r0_b67 : r0 ≠ b67 := Nat.ne_of_lt (Nat.lt_of_lt_of_le f68.lt (Nat.le_of_eq g67.symm))
  have f69 := (((f57.ext E55).other W63 (Ne.symm ne_r0_b2)).keep Kc66 (ninS ne_b2_b55 nin0))
  have ne_b2_b67 : b2 ≠ b67 := Nat.ne_of_lt (Nat.lt_of_lt_of_le f69.lt (Nat.le_of_eq g67.symm))
  have f70 := (((f58.ext E55).other W63 (Ne.symm ne_r0_b6)).keep Kc66 (ninS ne_b6_b55 nin0))
  have ne_b6_b67 : b6 ≠ b67 := Nat.ne_of_lt (Nat.lt_of_lt_of_le f70.lt (Nat.le_of_eq g67.symm))
  have f71 := (((f59.ext E55).other W63 (Ne.symm ne_r0_b12)).keep Kc66 (ninS ne_b12_b55 nin0))
  have ne_b12_b67 : b12 ≠ b67 := Nat.ne_of_lt (Nat.lt_of_lt_of_le f71.lt (Nat.le_of_eq g67.symm))
  have f72 := (((f60.ext E55).other W63 (Ne.symm ne_r0_b35)).keep Kc66 (ninS ne_b35_b55 nin0))
  have ne_b35_b67 : b35 ≠ b67 := Nat.ne_of_lt (Nat.lt_of_lt_of_le f72.lt (Nat.le_of_eq g67.symm))
  have sz_b67 : h0.size ≤ b67 := Nat.le_trans K66.1 (Nat.le_of_eq g67.symm)
  have K67 : Keep h0 h67 [r0] := Keep.ext K66 E67
  have Z67 : n0 ≤ h67.size := Nat.le_trans Z66 E67.1
  have V67 : Af Z h67 b67 .int 1 (fun _ => defaultValue .int) := Af.new A67 (by decide) rfl rfl
  refine own_go st67 ?_
  show Gm p e below T67 m 84 #[rv r0, iv (1 : Int32)] [(.ref b67), (.ref r0)] _
  have f73 := (f68.ext E67)
  have f74 := (((Fld.other W63 (((Fld.other W51 ((Fld.other W42 ((Fld.other W34 ((Fld.other W26 ((Fld.other W18 ((Fld.other W11 ((Fld.other W5 (F_leaving.ext E2) (Or.inr (slot_ne (Or.inr (hw _ (List.mem_of_getElem? (i := 35) rfl))) (Or.inr (hw _ (List.mem_of_getElem? (i := 12) rfl))) (by decide) (t := (.array .int)) (t' := (.array .int)) (by decide) (by decide)))).ext E6) (Or.inr (slot_ne (Or.inr (hw _ (List.mem_of_getElem? (i := 35) rfl))) (Or.inr (hw _ (List.mem_of_getElem? (i := 14) rfl))) (by decide) (t := (.array .int)) (t' := (.array .int)) (by decide) (by decide)))).ext E12) (Or.inr (slot_ne (Or.inr (hw _ (List.mem_of_getElem? (i := 35) rfl))) (Or.inr (hw _ (List.mem_of_getElem? (i := 16) rfl))) (by decide) (t := (.array .int)) (t' := (.array .int)) (by decide) (by decide)))).ext E19) (Or.inr (slot_ne (Or.inr (hw _ (List.mem_of_getElem? (i := 35) rfl))) (Or.inr (hw _ (List.mem_of_getElem? (i := 19) rfl))) (by decide) (t := (.array .int)) (t' := (.array .double)) (by decide) (by decide)))).ext E27) (Or.inr (slot_ne (Or.inr (hw _ (List.mem_of_getElem? (i := 35) rfl))) (Or.inr (hw _ (List.mem_of_getElem? (i := 21) rfl))) (by decide) (t := (.array .int)) (t' := (.array .double)) (by decide) (by decide)))).ext E35) (Or.inr (slot_ne (Or.inr (hw _ (List.mem_of_getElem? (i := 35) rfl))) (Or.inr (hw _ (List.mem_of_getElem? (i := 23) rfl))) (by decide) (t := (.array .int)) (t' := (.array .int)) (by decide) (by decide)))).ext E43) (Or.inr (slot_ne (Or.inr (hw _ (List.mem_of_getElem? (i := 35) rfl))) (Or.inr (hw _ (List.mem_of_getElem? (i := 25) rfl))) (by decide) (t := (.array .int)) (t' := (.array .double)) (by decide) (by decide)))).keep Kc54 (ninS ne_r0_b43 nin0)).ext E55) (Or.inr (slot_ne (Or.inr (hw _ (List.mem_of_getElem? (i := 35) rfl))) (Or.inr (hw _ (List.mem_of_getElem? (i := 32) rfl))) (by decide) (t := (.array .int)) (t' := (.array .double)) (by decide) (by decide)))).keep Kc66 (ninS ne_r0_b55 nin0)).ext E67)
  obtain ⟨T75, h75, X75, e75, W75, st75⟩ := putF X67 hx hZ hown (host := "") (Or.inl (hw _ (List.mem_of_getElem? (i := 34) rfl))) Via.refl e67 f74 f73 (Or.inr ⟨(hw _ (List.mem_of_getElem? (i := 35) rfl)), rfl, hnm⟩) (hw _ (List.mem_of_getElem? (i := 2) rfl)) (ty := (.array .int)) (by decide) rfl rfl (g := (mkF m 84 #[rv r0, iv (1 : Int32)] [(.ref b67), (.ref r0)])) rfl rfl (Jvm.hb hby d1_84)
  have Fw75 := Fld.same W75 f74
  have N75 := Fr.snoc X75 N66 g_r0
  have Z75 : n0 ≤ h75.size := W75.size ▸ Z67
  have K75 : Keep h0 h75 [r0] := Keep.wr K67 W75 (Or.inl (List.mem_of_getElem? (i := 0) rfl))
  refine own_go st75 ?_
  show Gm p e below T75 m 87 #[rv r0, iv (1 : Int32)] [] _
  refine own_go (fun t₀ k₀ => XS.aloadN X75.here hx rfl (Jvm.hb hby d1_87) rfl rfl k₀) ?_
  show Gm p e below T75 m 88 #[rv r0, iv (1 : Int32)] [(.ref r0)] _
  obtain ⟨T76, X76, e76, st76⟩ := getF X75 hx hZ hown (host := "") (Or.inl (hw _ (List.mem_of_getElem? (i := 34) rfl))) Via.refl e75 Fw75 (g := (mkF m 88 #[rv r0, iv (1 : Int32)] [(.ref r0)])) rfl rfl (Jvm.hb hby d1_88)
  refine own_go st76 ?_
  show Gm p e below T76 m 91 #[rv r0, iv (1 : Int32)] [(.ref b67)] _
  refine own_go (fun t₀ k₀ => XS.iconst X76.here hx rfl (Jvm.hb hby d1_91) k₀) ?_
  show Gm p e below T76 m 92 #[rv r0, iv (1 : Int32)] [(.int (-1 : Int32)), (.ref b67)] _
  have f77 := (V67.other W75 (Ne.symm ne_r0_b67))
  obtain ⟨_, _, ⟨T78, L78, k78, n78⟩, -, X78, ⟨Lc78, hQ78, l78, y78, z78⟩, st78⟩ := Jvm.LawKit.callS X76 hx (y := (⟨"java/util/Arrays", "fill", "([II)V"⟩ : MethodName)) hown (mvT hZ (hw _ (List.mem_of_getElem? (i := 36) rfl))) (mvT hZ (hw _ (List.mem_of_getElem? (i := 37) rfl))) (mvT hZ (hw _ (List.mem_of_getElem? (i := 29) rfl))) (mvT hZ (hw _ (List.mem_of_getElem? (i := 38) rfl))) (by decide) (backOf (W := 0) (rm4_1 l Z a0 hw [] b67 (-1 : Int32) (fun _ => defaultValue .int) h75 n0 Z75 f77 g_b67) hZ (hw _ (List.mem_of_getElem? (i := 38) rfl)) (hw _ (List.mem_of_getElem? (i := 29) rfl)) (by decide) (by decide)) (g := (mkF m 92 #[rv r0, iv (1 : Int32)] [(.int (-1 : Int32)), (.ref b67)])) rfl (by rw [hml]; rfl) (argsL := [(.ref b67), (.int (-1 : Int32))]) (rest := []) (lenOf own_pd1 rfl) rfl (by show 2 * 0 + _ ≤ _; exact Nat.le_of_eq rfl) (Jvm.hb hby d1_92) (fun _ _ => ⟨rfl, e76, (by decide : 9 + 0 ≤ _), (by decide : 9 + 0 ≤ _)⟩)
  dsimp only [Pt.U, Pt.locs, Pt.cells, Pt.slots] at X78 l78 y78 z78 st78 hQ78
  subst l78 y78 z78
  obtain ⟨rfl, Nq78, Kc78, Ac78⟩ := hQ78
  have N78 := Fr.app N75 Nq78
  refine own_go st78 ?_
  have Z78 : n0 ≤ T78.heap.size := Nat.le_trans Z75 Kc78.1
  have K78 : Keep h0 T78.heap [r0] := Keep.trans K75 Kc78 (allS (Or.inr sz_b67) all0)
  show Gm p e below T78 m 95 #[rv r0, iv (1 : Int32)] [] _
  refine own_go (fun t₀ k₀ => XS.aloadN X78.here hx rfl (Jvm.hb hby d1_95) rfl rfl k₀) ?_
  show Gm p e below T78 m 96 #[rv r0, iv (1 : Int32)] [(.ref r0)] _
  refine own_go (fun t₀ k₀ => XS.iloadN X78.here hx rfl (Jvm.hb hby d1_96) rfl k₀) ?_
  show Gm p e below T78 m 97 #[rv r0, iv (1 : Int32)] [(.int (1 : Int32)), (.ref r0)] _
  obtain ⟨T79, h79, k79, X79, e79, E79, A79, st79⟩ := newP X78 hx hZ (hw _ (List.mem_of_getElem? (i := 10) rfl)) rfl (g := (mkF m 97 #[rv r0, iv (1 : Int32)] [(.int (1 : Int32)), (.ref r0)])) rfl (Jvm.hb hby d1_97) rfl (by decide) (cap := 1) (by decide) (by decide) (by decide) (by decide)
  obtain ⟨b79, g79⟩ : ∃ z, z = T78.heap.size := ⟨_, rfl⟩
  rw [← g79] at A79 st79
  have g_b79 : n0 ≤ b79 := Nat.le_trans Z78 (Nat.le_of_eq g79.symm)
  have f80 := ((f73.wr W75).keep Kc78)
  have ne_r0_b79 : r0 ≠ b79 := Nat.ne_of_lt (Nat.lt_of_lt_of_le f80.lt (Nat.le_of_eq g79.symm))
  have f81 := (((f69.ext E67).other W75 (Ne.symm ne_r0_b2)).keep Kc78 (ninS ne_b2_b67 nin0))
  have ne_b2_b79 : b2 ≠ b79 := Nat.ne_of_lt (Nat.lt_of_lt_of_le f81.lt (Nat.le_of_eq g79.symm))
  have f82 := (((f70.ext E67).other W75 (Ne.symm ne_r0_b6)).keep Kc78 (ninS ne_b6_b67 nin0))
  have ne_b6_b79 : b6 ≠ b79 := Nat.ne_of_lt (Nat.lt_of_lt_of_le f82.lt (Nat.le_of_eq g79.symm))
  have f83 := (((f71.ext E67).other W75 (Ne.symm ne_r0_b12)).keep Kc78 (ninS ne_b12_b67 nin0))
  have ne_b12_b79 : b12 ≠ b79 := Nat.ne_of_lt (Nat.lt_of_lt_of_le f83.lt (Nat.le_of_eq g79.symm))
  have f84 := (((f72.ext E67).other W75 (Ne.symm ne_r0_b35)).keep Kc78 (ninS ne_b35_b67 nin0))
  have ne_b35_b79 : b35 ≠ b79 := Nat.ne_of_lt (Nat.lt_of_lt_of_le f84.lt (Nat.le_of_eq g79.symm))
  have ne_b67_b79 : b67 ≠ b79 := Nat.ne_of_lt (Nat.lt_of_lt_of_le Ac78.lt (Nat.le_of_eq g79.symm))
  have sz_b79 : h0.size ≤ b79 := Nat.le_trans K78.1 (Nat.le_of_eq g79.symm)
  have K79 : Keep h0 h79 [r0] := Keep.ext K78 E79
  have Z79 : n0 ≤ h79.size := Nat.le_trans Z78 E79.1
  have V79 : Af Z h79 b79 .int 1 (fun _ => defaultValue .int) := Af.new A79 (by decide) rfl rfl
  refine own_go st79 ?_
  show Gm p e below T79 m 99 #[rv r0, iv (1 : Int32)] [(.ref b79), (.ref r0)] _
  have f85 := (f80.ext E79)
  have f86 := (((Fld.other W75 (((Fld.other W63 (((Fld.other W51 ((Fld.other W42 ((Fld.other W34 ((Fld.other W26 ((Fld.other W18 ((Fld.other W11 ((Fld.other W5 (F_exit.ext E2) (Or.inr (slot_ne (Or.inr (hw _ (List.mem_of_getElem? (i := 40) rfl))) (Or.inr (hw _ (List.mem_of_getElem? (i := 12) rfl))) (by decide) (t := (.array .int)) (t' := (.array .int)) (by decide) (by decide)))).ext E6) (Or.inr (slot_ne (Or.inr (hw _ (List.mem_of_getElem? (i := 40) rfl))) (Or.inr (hw _ (List.mem_of_getElem? (i := 14) rfl))) (by decide) (t := (.array .int)) (t' := (.array .int)) (by decide) (by decide)))).ext E12) (Or.inr (slot_ne (Or.inr (hw _ (List.mem_of_getElem? (i := 40) rfl))) (Or.inr (hw _ (List.mem_of_getElem? (i := 16) rfl))) (by decide) (t := (.array .int)) (t' := (.array .int)) (by decide) (by decide)))).ext E19) (Or.inr (slot_ne (Or.inr (hw _ (List.mem_of_getElem? (i := 40) rfl))) (Or.inr (hw _ (List.mem_of_getElem? (i := 19) rfl))) (by decide) (t := (.array .int)) (t' := (.array .double)) (by decide) (by decide)))).ext E27) (Or.inr (slot_ne (Or.inr (hw _ (List.mem_of_getElem? (i := 40) rfl))) (Or.inr (hw _ (List.mem_of_getElem? (i := 21) rfl))) (by decide) (t := (.array .int)) (t' := (.array .double)) (by decide) (by decide)))).ext E35) (Or.inr (slot_ne (Or.inr (hw _ (List.mem_of_getElem? (i := 40) rfl))) (Or.inr (hw _ (List.mem_of_getElem? (i := 23) rfl))) (by decide) (t := (.array .int)) (t' := (.array .int)) (by decide) (by decide)))).ext E43) (Or.inr (slot_ne (Or.inr (hw _ (List.mem_of_getElem? (i := 40) rfl))) (Or.inr (hw _ (List.mem_of_getElem? (i := 25) rfl))) (by decide) (t := (.array .int)) (t' := (.array .double)) (by decide) (by decide)))).keep Kc54 (ninS ne_r0_b43 nin0)).ext E55) (Or.inr (slot_ne (Or.inr (hw _ (List.mem_of_getElem? (i := 40) rfl))) (Or.inr (hw _ (List.mem_of_getElem? (i := 32) rfl))) (by decide) (t := (.array .int)) (t' := (.array .double)) (by decide) (by decide)))).keep Kc66 (ninS ne_r0_b55 nin0)).ext E67) (Or.inr (slot_ne (Or.inr (hw _ (List.mem_of_getElem? (i := 40) rfl))) (Or.inr (hw _ (List.mem_of_getElem? (i := 35) rfl))) (by decide) (t := (.array .int)) (t' := (.array .int)) (by decide) (by decide)))).keep Kc78 (ninS ne_r0_b67 nin0)).ext E79)
  obtain ⟨T87, h87, X87, e87, W87, st87⟩ := putF X79 hx hZ hown (host := "") (Or.inl (hw _ (List.mem_of_getElem? (i := 39) rfl))) Via.refl e79 f86 f85 (Or.inr ⟨(hw _ (List.mem_of_getElem? (i := 40) rfl)), rfl, hnm⟩) (hw _ (List.mem_of_getElem? (i := 2) rfl)) (ty := (.array .int)) (by decide) rfl rfl (g := (mkF m 99 #[rv r0, iv (1 : Int32)] [(.ref b79), (.ref r0)])) rfl rfl (Jvm.hb hby d1_99)
  have Fw87 := Fld.same W87 f86
  have N87 := Fr.snoc X87 N78 g_r0
  have Z87 : n0 ≤ h87.size := W87.size ▸ Z79
  have K87 : Keep h0 h87 [r0] := Keep.wr K79 W87 (Or.inl (List.mem_of_getElem? (i := 0) rfl))
  refine own_go st87 ?_
  show Gm p e below T87 m 102 #[rv r0, iv (1 : Int32)] [] _
  refine own_go (fun t₀ k₀ => XS.aloadN X87.here hx rfl (Jvm.hb hby d1_102) rfl rfl k₀) ?_
  show Gm p e below T87 m 103 #[rv r0, iv (1 : Int32)] [(.ref r0)] _
  obtain ⟨T88, X88, e88, st88⟩ := getF X87 hx hZ hown (host := "") (Or.inl (hw _ (List.mem_of_getElem? (i := 39) rfl))) Via.refl e87 Fw87 (g := (mkF m 103 #[rv r0, iv (1 : Int32)] [(.ref r0)])) rfl rfl (Jvm.hb hby d1_103)
  refine own_go st88 ?_
  show Gm p e below T88 m 106 #[rv r0, iv (1 : Int32)] [(.ref b79)] _
  refine own_go (fun t₀ k₀ => XS.iconst X88.here hx rfl (Jvm.hb hby d1_106) k₀) ?_
  show Gm p e below T88 m 107 #[rv r0, iv (1 : Int32)] [(.int (-1 : Int32)), (.ref b79)] _
  have f89 := (V79.other W87 (Ne.symm ne_r0_b79))
  obtain ⟨_, _, ⟨T90, L90, k90, n90⟩, -, X90, ⟨Lc90, hQ90, l90, y90, z90⟩, st90⟩ := Jvm.LawKit.callS X88 hx (y := (⟨"java/util/Arrays", "fill", "([II)V"⟩ : MethodName)) hown (mvT hZ (hw _ (List.mem_of_getElem? (i := 36) rfl))) (mvT hZ (hw _ (List.mem_of_getElem? (i := 37) rfl))) (mvT hZ (hw _ (List.mem_of_getElem? (i := 29) rfl))) (mvT hZ (hw _ (List.mem_of_getElem? (i := 38) rfl))) (by decide) (backOf (W := 0) (rm4_1 l Z a0 hw [] b79 (-1 : Int32) (fun _ => defaultValue .int) h87 n0 Z87 f89 g_b79) hZ (hw _ (List.mem_of_getElem? (i := 38) rfl)) (hw _ (List.mem_of_getElem? (i := 29) rfl)) (by decide) (by decide)) (g := (mkF m 107 #[rv r0, iv (1 : Int32)] [(.int (-1 : Int32)), (.ref b79)])) rfl (by rw [hml]; rfl) (argsL := [(.ref b79), (.int (-1 : Int32))]) (rest := []) (lenOf own_pd1 rfl) rfl (by show 2 * 0 + _ ≤ _; exact Nat.le_of_eq rfl) (Jvm.hb hby d1_107) (fun _ _ => ⟨rfl, e88, (by decide : 10 + 0 ≤ _), (by decide : 10 + 0 ≤ _)⟩)
  dsimp only [Pt.U, Pt.locs, Pt.cells, Pt.slots] at X90 l90 y90 z90 st90 hQ90
  subst l90 y90 z90
  obtain ⟨rfl, Nq90, Kc90, Ac90⟩ := hQ90
  have N90 := Fr.app N87 Nq90
  refine own_go st90 ?_
  have Z90 : n0 ≤ T90.heap.size := Nat.le_trans Z87 Kc90.1
  have K90 : Keep h0 T90.heap [r0] := Keep.trans K87 Kc90 (allS (Or.inr sz_b79) all0)
  show Gm p e below T90 m 110 #[rv r0, iv (1 : Int32)] [] _
  refine own_go (fun t₀ k₀ => XS.aloadN X90.here hx rfl (Jvm.hb hby d1_110) rfl rfl k₀) ?_
  show Gm p e below T90 m 111 #[rv r0, iv (1 : Int32)] [(.ref r0)] _
  refine own_go (fun t₀ k₀ => XS.iloadN X90.here hx rfl (Jvm.hb hby d1_111) rfl k₀) ?_
  show Gm p e below T90 m 112 #[rv r0, iv (1 : Int32)] [(.int (1 : Int32)), (.ref r0)] _
  obtain ⟨T91, h91, k91, X91, e91, E91, A91, st91⟩ := newP X90 hx hZ (hw _ (List.mem_of_getElem? (i := 17) rfl)) rfl (g := (mkF m 112 #[rv r0, iv (1 : Int32)] [(.int (1 : Int32)), (.ref r0)])) rfl (Jvm.hb hby d1_112) rfl (by decide) (cap := 1) (by decide) (by decide) (by decide) (by decide)
  obtain ⟨b91, g91⟩ : ∃ z, z = T90.heap.size := ⟨_, rfl⟩
  rw [← g91] at A91 st91
  have g_b91 : n0 ≤ b91 := Nat.le_trans Z90 (Nat.le_of_eq g91.symm)
  have f92 := ((f85.wr W87).keep Kc90)
  have ne_r0_b91 : r0 ≠ b91 := Nat.ne_of_lt (Nat.lt_of_lt_of_le f92.lt (Nat.le_of_eq g91.symm))
  have f93 := (((f81.ext E79).other W87 (Ne.symm ne_r0_b2)).keep Kc90 (ninS ne_b2_b79 nin0))
  have ne_b2_b91 : b2 ≠ b91 := Nat.ne_of_lt (Nat.lt_of_lt_of_le f93.lt (Nat.le_of_eq g91.symm))
  have f94 := (((f82.ext E79).other W87 (Ne.symm ne_r0_b6)).keep Kc90 (ninS ne_b6_b79 nin0))
  have ne_b6_b91 : b6 ≠ b91 := Nat.ne_of_lt (Nat.lt_of_lt_of_le f94.lt (Nat.le_of_eq g91.symm))
  have f95 := (((f83.ext E79).other W87 (Ne.symm ne_r0_b12)).keep Kc90 (ninS ne_b12_b79 nin0))
  have ne_b12_b91 : b12 ≠ b91 := Nat.ne_of_lt (Nat.lt_of_lt_of_le f95.lt (Nat.le_of_eq g91.symm))
  have f96 := (((f84.ext E79).other W87 (Ne.symm ne_r0_b35)).keep Kc90 (ninS ne_b35_b79 nin0))
  have ne_b35_b91 : b35 ≠ b91 := Nat.ne_of_lt (Nat.lt_of_lt_of_le f96.lt (Nat.le_of_eq g91.symm))
  have f97 := (((Ac78.ext E79).other W87 (Ne.symm ne_r0_b67)).keep Kc90 (ninS ne_b67_b79 nin0))
  have ne_b67_b91 : b67 ≠ b91 := Nat.ne_of_lt (Nat.lt_of_lt_of_le f97.lt (Nat.le_of_eq g91.symm))
  have ne_b79_b91 : b79 ≠ b91 := Nat.ne_of_lt (Nat.lt_of_lt_of_le Ac90.lt (Nat.le_of_eq g91.symm))
  have sz_b91 : h0.size ≤ b91 := Nat.le_trans K90.1 (Nat.le_of_eq g91.symm)
  have K91 : Keep h0 h91 [r0] := Keep.ext K90 E91
  have Z91 : n0 ≤ h91.size := Nat.le_trans Z90 E91.1
  have V91 : Af Z h91 b91 .double 1 (fun _ => defaultValue .double) := Af.new A91 (by decide) rfl rfl
  refine own_go st91 ?_
  show Gm p e below T91 m 114 #[rv r0, iv (1 : Int32)] [(.ref b91), (.ref r0)] _
  have f98 := (f92.ext E91)
  have f99 := (((Fld.other W87 (((Fld.other W75 (((Fld.other W63 (((Fld.other W51 ((Fld.other W42 ((Fld.other W34 ((Fld.other W26 ((Fld.other W18 ((Fld.other W11 ((Fld.other W5 (F_distanceM.ext E2) (Or.inr (slot_ne (Or.inr (hw _ (List.mem_of_getElem? (i := 42) rfl))) (Or.inr (hw _ (List.mem_of_getElem? (i := 12) rfl))) (by decide) (t := (.array .double)) (t' := (.array .int)) (by decide) (by decide)))).ext E6) (Or.inr (slot_ne (Or.inr (hw _ (List.mem_of_getElem? (i := 42) rfl))) (Or.inr (hw _ (List.mem_of_getElem? (i := 14) rfl))) (by decide) (t := (.array .double)) (t' := (.array .int)) (by decide) (by decide)))).ext E12) (Or.inr (slot_ne (Or.inr (hw _ (List.mem_of_getElem? (i := 42) rfl))) (Or.inr (hw _ (List.mem_of_getElem? (i := 16) rfl))) (by decide) (t := (.array .double)) (t' := (.array .int)) (by decide) (by decide)))).ext E19) (Or.inr (slot_ne (Or.inr (hw _ (List.mem_of_getElem? (i := 42) rfl))) (Or.inr (hw _ (List.mem_of_getElem? (i := 19) rfl))) (by decide) (t := (.array .double)) (t' := (.array .double)) (by decide) (by decide)))).ext E27) (Or.inr (slot_ne (Or.inr (hw _ (List.mem_of_getElem? (i := 42) rfl))) (Or.inr (hw _ (List.mem_of_getElem? (i := 21) rfl))) (by decide) (t := (.array .double)) (t' := (.array .double)) (by decide) (by decide)))).ext E35) (Or.inr (slot_ne (Or.inr (hw _ (List.mem_of_getElem? (i := 42) rfl))) (Or.inr (hw _ (List.mem_of_getElem? (i := 23) rfl))) (by decide) (t := (.array .double)) (t' := (.array .int)) (by decide) (by decide)))).ext E43) (Or.inr (slot_ne (Or.inr (hw _ (List.mem_of_getElem? (i := 42) rfl))) (Or.inr (hw _ (List.mem_of_getElem? (i := 25) rfl))) (by decide) (t := (.array .double)) (t' := (.array .double)) (by decide) (by decide)))).keep Kc54 (ninS ne_r0_b43 nin0)).ext E55) (Or.inr (slot_ne (Or.inr (hw _ (List.mem_of_getElem? (i := 42) rfl))) (Or.inr (hw _ (List.mem_of_getElem? (i := 32) rfl))) (by decide) (t := (.array .double)) (t' := (.array .double)) (by decide) (by decide)))).keep Kc66 (ninS ne_r0_b55 nin0)).ext E67) (Or.inr (slot_ne (Or.inr (hw _ (List.mem_of_getElem? (i := 42) rfl))) (Or.inr (hw _ (List.mem_of_getElem? (i := 35) rfl))) (by decide) (t := (.array .double)) (t' := (.array .int)) (by decide) (by decide)))).keep Kc78 (ninS ne_r0_b67 nin0)).ext E79) (Or.inr (slot_ne (Or.inr (hw _ (List.mem_of_getElem? (i := 42) rfl))) (Or.inr (hw _ (List.mem_of_getElem? (i := 40) rfl))) (by decide) (t := (.array .double)) (t' := (.array .int)) (by decide) (by decide)))).keep Kc90 (ninS ne_r0_b79 nin0)).ext E91)
  obtain ⟨T100, h100, X100, e100, W100, st100⟩ := putF X91 hx hZ hown (host := "") (Or.inl (hw _ (List.mem_of_getElem? (i := 41) rfl))) Via.refl e91 f99 f98 (Or.inr ⟨(hw _ (List.mem_of_getElem? (i := 42) rfl)), rfl, hnm⟩) (hw _ (List.mem_of_getElem? (i := 2) rfl)) (ty := (.array .double)) (by decide) rfl rfl (g := (mkF m 114 #[rv r0, iv (1 : Int32)] [(.ref b91), (.ref r0)])) rfl rfl (Jvm.hb hby d1_114)
  have Fw100 := Fld.same W100 f99
  have N100 := Fr.snoc X100 N90 g_r0
  have Z100 : n0 ≤ h100.size := W100.size ▸ Z91
  have K100 : Keep h0 h100 [r0] := Keep.wr K91 W100 (Or.inl (List.mem_of_getElem? (i := 0) rfl))
  refine own_go st100 ?_
  show Gm p e below T100 m 117 #[rv r0, iv (1 : Int32)] [] _
  have f101 := (f98.wr W100)
  have f102 := (Fld.other W100 (((Fld.other W87 (((Fld.other W75 (((Fld.other W63 (((Fld.other W51 ((Fld.other W42 ((Fld.other W34 ((Fld.other W26 ((Fld.other W18 ((Fld.other W11 (Fw5.ext E6) (Or.inr (slot_ne (Or.inr (hw _ (List.mem_of_getElem? (i := 12) rfl))) (Or.inr (hw _ (List.mem_of_getElem? (i := 14) rfl))) (by decide) (t := (.array .int)) (t' := (.array .int)) (by decide) (by decide)))).ext E12) (Or.inr (slot_ne (Or.inr (hw _ (List.mem_of_getElem? (i := 12) rfl))) (Or.inr (hw _ (List.mem_of_getElem? (i := 16) rfl))) (by decide) (t := (.array .int)) (t' := (.array .int)) (by decide) (by decide)))).ext E19) (Or.inr (slot_ne (Or.inr (hw _ (List.mem_of_getElem? (i := 12) rfl))) (Or.inr (hw _ (List.mem_of_getElem? (i := 19) rfl))) (by decide) (t := (.array .int)) (t' := (.array .double)) (by decide) (by decide)))).ext E27) (Or.inr (slot_ne (Or.inr (hw _ (List.mem_of_getElem? (i := 12) rfl))) (Or.inr (hw _ (List.mem_of_getElem? (i := 21) rfl))) (by decide) (t := (.array .int)) (t' := (.array .double)) (by decide) (by decide)))).ext E35) (Or.inr (slot_ne (Or.inr (hw _ (List.mem_of_getElem? (i := 12) rfl))) (Or.inr (hw _ (List.mem_of_getElem? (i := 23) rfl))) (by decide) (t := (.array .int)) (t' := (.array .int)) (by decide) (by decide)))).ext E43) (Or.inr (slot_ne (Or.inr (hw _ (List.mem_of_getElem? (i := 12) rfl))) (Or.inr (hw _ (List.mem_of_getElem? (i := 25) rfl))) (by decide) (t := (.array .int)) (t' := (.array .double)) (by decide) (by decide)))).keep Kc54 (ninS ne_r0_b43 nin0)).ext E55) (Or.inr (slot_ne (Or.inr (hw _ (List.mem_of_getElem? (i := 12) rfl))) (Or.inr (hw _ (List.mem_of_getElem? (i := 32) rfl))) (by decide) (t := (.array .int)) (t' := (.array .double)) (by decide) (by decide)))).keep Kc66 (ninS ne_r0_b55 nin0)).ext E67) (Or.inr (slot_ne (Or.inr (hw _ (List.mem_of_getElem? (i := 12) rfl))) (Or.inr (hw _ (List.mem_of_getElem? (i := 35) rfl))) (by decide) (t := (.array .int)) (t' := (.array .int)) (by decide) (by decide)))).keep Kc78 (ninS ne_r0_b67 nin0)).ext E79) (Or.inr (slot_ne (Or.inr (hw _ (List.mem_of_getElem? (i := 12) rfl))) (Or.inr (hw _ (List.mem_of_getElem? (i := 40) rfl))) (by decide) (t := (.array .int)) (t' := (.array .int)) (by decide) (by decide)))).keep Kc90 (ninS ne_r0_b79 nin0)).ext E91) (Or.inr (slot_ne (Or.inr (hw _ (List.mem_of_getElem? (i := 12) rfl))) (Or.inr (hw _ (List.mem_of_getElem? (i := 42) rfl))) (by decide) (t := (.array .int)) (t' := (.array .double)) (by decide) (by decide))))
  have f103 := ((f93.ext E91).other W100 (Ne.symm ne_r0_b2))
  have f104 := (Fld.other W100 (((Fld.other W87 (((Fld.other W75 (((Fld.other W63 (((Fld.other W51 ((Fld.other W42 ((Fld.other W34 ((Fld.other W26 ((Fld.other W18 (Fw11.ext E12) (Or.inr (slot_ne (Or.inr (hw _ (List.mem_of_getElem? (i := 14) rfl))) (Or.inr (hw _ (List.mem_of_getElem? (i := 16) rfl))) (by decide) (t := (.array .int)) (t' := (.array .int)) (by decide) (by decide)))).ext E19) (Or.inr (slot_ne (Or.inr (hw _ (List.mem_of_getElem? (i := 14) rfl))) (Or.inr (hw _ (List.mem_of_getElem? (i := 19) rfl))) (by decide) (t := (.array .int)) (t' := (.array .double)) (by decide) (by decide)))).ext E27) (Or.inr (slot_ne (Or.inr (hw _ (List.mem_of_getElem? (i := 14) rfl))) (Or.inr (hw _ (List.mem_of_getElem? (i := 21) rfl))) (by decide) (t := (.array .int)) (t' := (.array .double)) (by decide) (by decide)))).ext E35) (Or.inr (slot_ne (Or.inr (hw _ (List.mem_of_getElem? (i := 14) rfl))) (Or.inr (hw _ (List.mem_of_getElem? (i := 23) rfl))) (by decide) (t := (.array .int)) (t' := (.array .int)) (by decide) (by decide)))).ext E43) (Or.inr (slot_ne (Or.inr (hw _ (List.mem_of_getElem? (i := 14) rfl))) (Or.inr (hw _ (List.mem_of_getElem? (i := 25) rfl))) (by decide) (t := (.array .int)) (t' := (.array .double)) (by decide) (by decide)))).keep Kc54 (ninS ne_r0_b43 nin0)).ext E55) (Or.inr (slot_ne (Or.inr (hw _ (List.mem_of_getElem? (i := 14) rfl))) (Or.inr (hw _ (List.mem_of_getElem? (i := 32) rfl))) (by decide) (t := (.array .int)) (t' := (.array .double)) (by decide) (by decide)))).keep Kc66 (ninS ne_r0_b55 nin0)).ext E67) (Or.inr (slot_ne (Or.inr (hw _ (List.mem_of_getElem? (i := 14) rfl))) (Or.inr (hw _ (List.mem_of_getElem? (i := 35) rfl))) (by decide) (t := (.array .int)) (t' := (.array .int)) (by decide) (by decide)))).keep Kc78 (ninS ne_r0_b67 nin0)).ext E79) (Or.inr (slot_ne (Or.inr (hw _ (List.mem_of_getElem? (i := 14) rfl))) (Or.inr (hw _ (List.mem_of_getElem? (i := 40) rfl))) (by decide) (t := (.array .int)) (t' := (.array .int)) (by decide) (by decide)))).keep Kc90 (ninS ne_r0_b79 nin0)).ext E91) (Or.inr (slot_ne (Or.inr (hw _ (List.mem_of_getElem? (i := 14) rfl))) (Or.inr (hw _ (List.mem_of_getElem? (i := 42) rfl))) (by decide) (t := (.array .int)) (t' := (.array .double)) (by decide) (by decide))))
  have f105 := ((f94.ext E91).other W100 (Ne.symm ne_r0_b6))
  have f106 := (Fld.other W100 (((Fld.other W87 (((Fld.other W75 (((Fld.other W63 (((Fld.other W51 ((Fld.other W42 ((Fld.other W34 ((Fld.other W26 (Fw18.ext E19) (Or.inr (slot_ne (Or.inr (hw _ (List.mem_of_getElem? (i := 16) rfl))) (Or.inr (hw _ (List.mem_of_getElem? (i := 19) rfl))) (by decide) (t := (.array .int)) (t' := (.array .double)) (by decide) (by decide)))).ext E27) (Or.inr (slot_ne (Or.inr (hw _ (List.mem_of_getElem? (i := 16) rfl))) (Or.inr (hw _ (List.mem_of_getElem? (i := 21) rfl))) (by decide) (t := (.array .int)) (t' := (.array .double)) (by decide) (by decide)))).ext E35) (Or.inr (slot_ne (Or.inr (hw _ (List.mem_of_getElem? (i := 16) rfl))) (Or.inr (hw _ (List.mem_of_getElem? (i := 23) rfl))) (by decide) (t := (.array .int)) (t' := (.array .int)) (by decide) (by decide)))).ext E43) (Or.inr (slot_ne (Or.inr (hw _ (List.mem_of_getElem? (i := 16) rfl))) (Or.inr (hw _ (List.mem_of_getElem? (i := 25) rfl))) (by decide) (t := (.array .int)) (t' := (.array .double)) (by decide) (by decide)))).keep Kc54 (ninS ne_r0_b43 nin0)).ext E55) (Or.inr (slot_ne (Or.inr (hw _ (List.mem_of_getElem? (i := 16) rfl))) (Or.inr (hw _ (List.mem_of_getElem? (i := 32) rfl))) (by decide) (t := (.array .int)) (t' := (.array .double)) (by decide) (by decide)))).keep Kc66 (ninS ne_r0_b55 nin0)).ext E67) (Or.inr (slot_ne (Or.inr (hw _ (List.mem_of_getElem? (i := 16) rfl))) (Or.inr (hw _ (List.mem_of_getElem? (i := 35) rfl))) (by decide) (t := (.array .int)) (t' := (.array .int)) (by decide) (by decide)))).keep Kc78 (ninS ne_r0_b67 nin0)).ext E79) (Or.inr (slot_ne (Or.inr (hw _ (List.mem_of_getElem? (i := 16) rfl))) (Or.inr (hw _ (List.mem_of_getElem? (i := 40) rfl))) (by decide) (t := (.array .int)) (t' := (.array .int)) (by decide) (by decide)))).keep Kc90 (ninS ne_r0_b79 nin0)).ext E91) (Or.inr (slot_ne (Or.inr (hw _ (List.mem_of_getElem? (i := 16) rfl))) (Or.inr (hw _ (List.mem_of_getElem? (i := 42) rfl))) (by decide) (t := (.array .int)) (t' := (.array .double)) (by decide) (by decide))))
  have f107 := ((f95.ext E91).other W100 (Ne.symm ne_r0_b12))
  have f108 := (Fld.other W100 (((Fld.other W87 (((Fld.other W75 (((Fld.other W63 (((Fld.other W51 (Fw42.ext E43) (Or.inr (slot_ne (Or.inr (hw _ (List.mem_of_getElem? (i := 23) rfl))) (Or.inr (hw _ (List.mem_of_getElem? (i := 25) rfl))) (by decide) (t := (.array .int)) (t' := (.array .double)) (by decide) (by decide)))).keep Kc54 (ninS ne_r0_b43 nin0)).ext E55) (Or.inr (slot_ne (Or.inr (hw _ (List.mem_of_getElem? (i := 23) rfl))) (Or.inr (hw _ (List.mem_of_getElem? (i := 32) rfl))) (by decide) (t := (.array .int)) (t' := (.array .double)) (by decide) (by decide)))).keep Kc66 (ninS ne_r0_b55 nin0)).ext E67) (Or.inr (slot_ne (Or.inr (hw _ (List.mem_of_getElem? (i := 23) rfl))) (Or.inr (hw _ (List.mem_of_getElem? (i := 35) rfl))) (by decide) (t := (.array .int)) (t' := (.array .int)) (by decide) (by decide)))).keep Kc78 (ninS ne_r0_b67 nin0)).ext E79) (Or.inr (slot_ne (Or.inr (hw _ (List.mem_of_getElem? (i := 23) rfl))) (Or.inr (hw _ (List.mem_of_getElem? (i := 40) rfl))) (by decide) (t := (.array .int)) (t' := (.array .int)) (by decide) (by decide)))).keep Kc90 (ninS ne_r0_b79 nin0)).ext E91) (Or.inr (slot_ne (Or.inr (hw _ (List.mem_of_getElem? (i := 23) rfl))) (Or.inr (hw _ (List.mem_of_getElem? (i := 42) rfl))) (by decide) (t := (.array .int)) (t' := (.array .double)) (by decide) (by decide))))
  have f109 := ((f96.ext E91).other W100 (Ne.symm ne_r0_b35))
  have f110 := (Fld.other W100 (((Fld.other W87 ((Fw75.keep Kc78 (ninS ne_r0_b67 nin0)).ext E79) (Or.inr (slot_ne (Or.inr (hw _ (List.mem_of_getElem? (i := 35) rfl))) (Or.inr (hw _ (List.mem_of_getElem? (i := 40) rfl))) (by decide) (t := (.array .int)) (t' := (.array .int)) (by decide) (by decide)))).keep Kc90 (ninS ne_r0_b79 nin0)).ext E91) (Or.inr (slot_ne (Or.inr (hw _ (List.mem_of_getElem? (i := 35) rfl))) (Or.inr (hw _ (List.mem_of_getElem? (i := 42) rfl))) (by decide) (t := (.array .int)) (t' := (.array .double)) (by decide) (by decide))))
  have f111 := ((f97.ext E91).other W100 (Ne.symm ne_r0_b67))
  have f112 := (Fld.other W100 ((Fw87.keep Kc90 (ninS ne_r0_b79 nin0)).ext E91) (Or.inr (slot_ne (Or.inr (hw _ (List.mem_of_getElem? (i := 40) rfl))) (Or.inr (hw _ (List.mem_of_getElem? (i := 42) rfl))) (by decide) (t := (.array .int)) (t' := (.array .double)) (by decide) (by decide))))
  have f113 := ((Ac90.ext E91).other W100 (Ne.symm ne_r0_b79))
  exact own_retV X100 hx hlk Bd.returns (Jvm.hb hby d1_117) e100 ⟨b2, b6, b12, b35, b67, b79, rfl, N100, K100, f101, sz_b2, f102, f103, sz_b6, f104, f105, sz_b12, f106, f107, sz_b35, f108, f109, sz_b67, f110, f111, sz_b79, f112, f113, ne_b2_b6, ne_b2_b12, ne_b6_b12, ne_b2_b35, ne_b6_b35, ne_b12_b35, ne_b2_b67, ne_b6_b67, ne_b12_b67, ne_b35_b67, ne_b2_b79, ne_b6_b79, ne_b12_b79, ne_b35_b79, ne_b67_b79⟩ (by decide) (by decide)
theorem own_pn_rm3_2 : plainName "java/util/Arrays" = true := by first | (simp [plainName, overriddenIn]; done) | decide +kernel
theorem own_ef_rm3_2 (m : MethodId) (r0 : Addr) (x1 : UInt64) : entryFrame m #[(.ref r0), (.double x1)] 5 = mkF m 0 #[.val (.ref r0), .val (.double x1), .second, .unset, .unset] [] := by first | (simp [entryFrame, mkF, argsToLocals, Value.category]; done) | rfl
def Q3_2 (Z : State) (r0 : Addr) (x1 : UInt64) (f : Nat → Value) (h0 : Heap) (n0 : Nat) (v : Option Value) (h : Heap) (L : List Loc) : Prop := v = none ∧ Fr n0 L ∧ Keep h0 h [r0] ∧ ∃ f', Af Z h r0 .double 2 f'
set_option maxRecDepth 65536 in
set_option maxHeartbeats 40000000 in
theorem rm3_2 (l : Launch) (Z : State) (a0 : Array Value) (hw : ∀ d ∈ tables_1, d.before a0 Z = true) (ws : List Jvm.Cond) (r0 : Addr) (x1 : UInt64) (f : Nat → Value) (h0 : Heap) (n0 : Nat) (Z0 : n0 ≤ h0.size) (A : Af Z h0 r0 .double 2 f) (g_r0 : n0 ≤ r0) :
    MetFree l (⟨"java/util/Arrays", "fill", "([DD)V"⟩ : MethodName) (head1 (Jvm.Cond.code (⟨"java/util/Arrays", "fill", "([DD)V"⟩ : MethodName) jdk_65_method_113_code 5 none :: ws) ({ frames := 0, cells := 0, slots := 0, locals := 0 } : Room)) (fun a U => a = #[(.ref r0), (.double x1)] ∧ Z.Warmed39 U.vm ∧ U.heap = h0) (fun _ _ _ _ _ => True) (fun _ U o U' => ∃ v L, o = .returned v ∧ Q3_2 Z r0 x1 f h0 n0 v U'.heap L ∧ FrameEnd U o U' L ({ frames := 0, cells := 0, slots := 0, locals := 0 } : Room).cells ({ frames := 0, cells := 0, slots := 0, locals := 0 } : Room).slots) := by
  refine MetFree.of_bodySF (plainFor_of_name own_pn_rm3_2) hisR ?_
  intro p e s m args below meth cO s₁ Bd hml0 hP hK
  obtain ⟨rfl, hZ, hh⟩ := hP
  have hx := Bd.exec
  have hby := Bd.bytes
  have hml : cO.maxLocals = 5 := hml0
  have hown : s.vm.findClass "java/util/Arrays" = some m.cls := findClass_of_methodNamed Bd.named
  have hnm := (name_of_methodNamed Bd.named Bd.method).1
  have hlk : meth.locks = false := BodyLoose.notSynchronized Bd
  have X0 : Stand p l e ({ frames := 0, cells := 0, slots := 0, locals := 0 } : Room) s m #[(.ref r0), (.double x1)] below meth cO s₁ [] 0 0 := Stand.of_body Bd
  have e0 : s₁.heap = h0 := by rw [← hh, Bd.state]; rfl
  have N0 := Fr.nil n0
  refine own_in (own_ef_rm3_2 m r0 x1) ?_
  show Gm p e below s₁ m 0 #[rv r0, .val (.double x1), .second, .unset, .unset] [] _
  refine own_go (fun t₀ k₀ => XS.iconst X0.here hx rfl (Jvm.hb hby d3_0) k₀) ?_
  show Gm p e below s₁ m 1 #[rv r0, .val (.double x1), .second, .unset, .unset] [(.int (0 : Int32))] _
  refine own_go (fun t₀ k₀ => XS.istoreN X0.here hx rfl (Jvm.hb hby d3_1) rfl (l' := #[rv r0, .val (.double x1), .second, iv (0 : Int32), .unset]) rfl k₀) ?_
  show Gm p e below s₁ m 2 #[rv r0, .val (.double x1), .second, iv (0 : Int32), .unset] [] _
  refine own_go (fun t₀ k₀ => XS.aloadN X0.here hx rfl (Jvm.hb hby d3_2) rfl rfl k₀) ?_
  show Gm p e below s₁ m 3 #[rv r0, .val (.double x1), .second, iv (0 : Int32), .unset] [(.ref r0)] _
  refine own_go (fun t₀ k₀ => own_len X0 hx hZ e0 A (z := (2 : Int32)) rfl (g := (mkF m 3 #[rv r0, .val (.double x1), .second, iv (0 : Int32), .unset] [(.ref r0)])) rfl rfl (Jvm.hb hby d3_3) k₀) ?_
  show Gm p e below s₁ m 4 #[rv r0, .val (.double x1), .second, iv (0 : Int32), .unset] [(.int (2 : Int32))] _
  refine own_go (fun t₀ k₀ => XS.istore X0.here hx rfl (Jvm.hb hby d3_4) rfl (l' := #[rv r0, .val (.double x1), .second, iv (0 : Int32), iv (2 : Int32)]) rfl k₀) ?_
  show Gm p e below s₁ m 6 #[rv r0, .val (.double x1), .second, iv (0 : Int32), iv (2 : Int32)] [] _
  refine own_go (fun t₀ k₀ => XS.iloadN X0.here hx rfl (Jvm.hb hby d3_6) rfl k₀) ?_
  show Gm p e below s₁ m 7 #[rv r0, .val (.double x1), .second, iv (0 : Int32), iv (2 : Int32)] [(.int (0 : Int32))] _
  refine own_go (fun t₀ k₀ => XS.iload X0.here hx rfl (Jvm.hb hby d3_7) rfl k₀) ?_
  show Gm p e below s₁ m 9 #[rv r0, .val (.double x1), .second, iv (0 : Int32), iv (2 : Int32)] [(.int (2 : Int32)), (.int (0 : Int32))] _
  refine own_go (fun t₀ k₀ => XS.icmpNo X0.here hx rfl (Jvm.hb hby d3_9) rfl (XT.ii_ge_f (by decide)) k₀) ?_
  show Gm p e below s₁ m 12 #[rv r0, .val (.double x1), .second, iv (0 : Int32), iv (2 : Int32)] [] _
  refine own_go (fun t₀ k₀ => XS.aloadN X0.here hx rfl (Jvm.hb hby d3_12) rfl rfl k₀) ?_
  show Gm p e below s₁ m 13 #[rv r0, .val (.double x1), .second, iv (0 : Int32), iv (2 : Int32)] [(.ref r0)] _
  refine own_go (fun t₀ k₀ => XS.iloadN X0.here hx rfl (Jvm.hb hby d3_13) rfl k₀) ?_
  show Gm p e below s₁ m 14 #[rv r0, .val (.double x1), .second, iv (0 : Int32), iv (2 : Int32)] [(.int (0 : Int32)), (.ref r0)] _
  refine own_go (fun t₀ k₀ => XS.dloadN X0.here hx rfl (Jvm.hb hby d3_14) rfl k₀) ?_
  show Gm p e below s₁ m 15 #[rv r0, .val (.double x1), .second, iv (0 : Int32), iv (2 : Int32)] [(.double x1), (.int (0 : Int32)), (.ref r0)] _
  obtain ⟨T1, h1, X1, e1, W1, A1, st1⟩ := own_stD X0 hx hZ e0 A (j := (0 : Int32)) (k := 0) (by decide) rfl (by decide) (g := (mkF m 15 #[rv r0, .val (.double x1), .second, iv (0 : Int32), iv (2 : Int32)] [(.double x1), (.int (0 : Int32)), (.ref r0)])) rfl rfl (Jvm.hb hby d3_15)
  have N1 := Fr.snoc X1 N0 g_r0
  have Z1 : n0 ≤ h1.size := W1.size ▸ Z0
  have K1 : Keep h0 h1 [r0] := Keep.wr (Keep.refl h0 [r0]) W1 (Or.inl (List.mem_of_getElem? (i := 0) rfl))
  refine own_go st1 ?_
  show Gm p e below T1 m 16 #[rv r0, .val (.double x1), .second, iv (0 : Int32), iv (2 : Int32)] [] _
  refine own_go (fun t₀ k₀ => XS.iinc X1.here hx rfl (Jvm.hb hby d3_16) rfl (l' := #[rv r0, .val (.double x1), .second, iv (1 : Int32), iv (2 : Int32)]) rfl k₀) ?_
  show Gm p e below T1 m 19 #[rv r0, .val (.double x1), .second, iv (1 : Int32), iv (2 : Int32)] [] _
  refine own_go (fun t₀ k₀ => XS.goto X1.here hx rfl (pc0 := 19) (pc' := 6) rfl (Jvm.hb hby d3_19) (by decide) (by decide) k₀) ?_
  show Gm p e below T1 m 6 #[rv r0, .val (.double x1), .second, iv (1 : Int32), iv (2 : Int32)] [] _
  refine own_go (fun t₀ k₀ => XS.iloadN X1.here hx rfl (Jvm.hb hby d3_6) rfl k₀) ?_
  show Gm p e below T1 m 7 #[rv r0, .val (.double x1), .second, iv (1 : Int32), iv (2 : Int32)] [(.int (1 : Int32))] _
  refine own_go (fun t₀ k₀ => XS.iload X1.here hx rfl (Jvm.hb hby d3_7) rfl k₀) ?_
  show Gm p e below T1 m 9 #[rv r0, .val (.double x1), .second, iv (1 : Int32), iv (2 : Int32)] [(.int (2 : Int32)), (.int (1 : Int32))] _
  refine own_go (fun t₀ k₀ => XS.icmpNo X1.here hx rfl (Jvm.hb hby d3_9) rfl (XT.ii_ge_f (by decide)) k₀) ?_
  show Gm p e below T1 m 12 #[rv r0, .val (.double x1), .second, iv (1 : Int32), iv (2 : Int32)] [] _
  refine own_go (fun t₀ k₀ => XS.aloadN X1.here hx rfl (Jvm.hb hby d3_12) rfl rfl k₀) ?_
  show Gm p e below T1 m 13 #[rv r0, .val (.double x1), .second, iv (1 : Int32), iv (2 : Int32)] [(.ref r0)] _
  refine own_go (fun t₀ k₀ => XS.iloadN X1.here hx rfl (Jvm.hb hby d3_13) rfl k₀) ?_
  show Gm p e below T1 m 14 #[rv r0, .val (.double x1), .second, iv (1 : Int32), iv (2 : Int32)] [(.int (1 : Int32)), (.ref r0)] _
  refine own_go (fun t₀ k₀ => XS.dloadN X1.here hx rfl (Jvm.hb hby d3_14) rfl k₀) ?_
  show Gm p e below T1 m 15 #[rv r0, .val (.double x1), .second, iv (1 : Int32), iv (2 : Int32)] [(.double x1), (.int (1 : Int32)), (.ref r0)] _
  obtain ⟨T2, h2, X2, e2, W2, A2, st2⟩ := own_stD X1 hx hZ e1 A1 (j := (1 : Int32)) (k := 1) (by decide) rfl (by decide) (g := (mkF m 15 #[rv r0, .val (.double x1), .second, iv (1 : Int32), iv (2 : Int32)] [(.double x1), (.int (1 : Int32)), (.ref r0)])) rfl rfl (Jvm.hb hby d3_15)
  have N2 := Fr.snoc X2 N1 g_r0
  have Z2 : n0 ≤ h2.size := W2.size ▸ Z1
  have K2 : Keep h0 h2 [r0] := Keep.wr K1 W2 (Or.inl (List.mem_of_getElem? (i := 0) rfl))
  refine own_go st2 ?_
  show Gm p e below T2 m 16 #[rv r0, .val (.double x1), .second, iv (1 : Int32), iv (2 : Int32)] [] _
  refine own_go (fun t₀ k₀ => XS.iinc X2.here hx rfl (Jvm.hb hby d3_16) rfl (l' := #[rv r0, .val (.double x1), .second, iv (2 : Int32), iv (2 : Int32)]) rfl k₀) ?_
  show Gm p e below T2 m 19 #[rv r0, .val (.double x1), .second, iv (2 : Int32), iv (2 : Int32)] [] _
  refine own_go (fun t₀ k₀ => XS.goto X2.here hx rfl (pc0 := 19) (pc' := 6) rfl (Jvm.hb hby d3_19) (by decide) (by decide) k₀) ?_
  show Gm p e below T2 m 6 #[rv r0, .val (.double x1), .second, iv (2 : Int32), iv (2 : Int32)] [] _
  refine own_go (fun t₀ k₀ => XS.iloadN X2.here hx rfl (Jvm.hb hby d3_6) rfl k₀) ?_
  show Gm p e below T2 m 7 #[rv r0, .val (.double x1), .second, iv (2 : Int32), iv (2 : Int32)] [(.int (2 : Int32))] _
  refine own_go (fun t₀ k₀ => XS.iload X2.here hx rfl (Jvm.hb hby d3_7) rfl k₀) ?_
  show Gm p e below T2 m 9 #[rv r0, .val (.double x1), .second, iv (2 : Int32), iv (2 : Int32)] [(.int (2 : Int32)), (.int (2 : Int32))] _
  refine own_go (fun t₀ k₀ => XS.icmpYes X2.here hx rfl (pc0 := 9) (pc' := 22) rfl (Jvm.hb hby d3_9) rfl (XT.ii_ge_t (by decide)) (by decide) (by decide) k₀) ?_
  show Gm p e below T2 m 22 #[rv r0, .val (.double x1), .second, iv (2 : Int32), iv (2 : Int32)] [] _
  exact own_retV X2 hx hlk Bd.returns (Jvm.hb hby d3_22) e2 ⟨rfl, N2, K2, _, A2⟩ (by decide) (by decide)
theorem own_pn_rm4_2 : plainName "java/util/Arrays" = true := by first | (simp [plainName, overriddenIn]; done) | decide +kernel
theorem own_ef_rm4_2 (m : MethodId) (r0 : Addr) (p1 : Int32) : entryFrame m #[(.ref r0), (.int p1)] 4 = mkF m 0 #[.val (.ref r0), .val (.int p1), .unset, .unset] [] := by first | (simp [entryFrame, mkF, argsToLocals, Value.category]; done) | rfl
def Q4_2 (Z : State) (r0 : Addr) (p1 : Int32) (f : Nat → Value) (h0 : Heap) (n0 : Nat) (v : Option Value) (h : Heap) (L : List Loc) : Prop := v = none ∧ Fr n0 L ∧ Keep h0 h [r0] ∧ Af Z h r0 .int 2 (fun _ => .int p1)
set_option maxRecDepth 65536 in
set_option maxHeartbeats 40000000 in
theorem rm4_2 (l : Launch) (Z : State) (a0 : Array Value) (hw : ∀ d ∈ tables_1, d.before a0 Z = true) (ws : List Jvm.Cond) (r0 : Addr) (p1 : Int32) (f : Nat → Value) (h0 : Heap) (n0 : Nat) (Z0 : n0 ≤ h0.size) (A : Af Z h0 r0 .int 2 f) (g_r0 : n0 ≤ r0) :
    MetFree l (⟨"java/util/Arrays", "fill", "([II)V"⟩ : MethodName) (head1 (Jvm.Cond.code (⟨"java/util/Arrays", "fill", "([II)V"⟩ : MethodName) jdk_65_method_103_code 4 none :: ws) ({ frames := 0, cells := 0, slots := 0, locals := 0 } : Room)) (fun a U => a = #[(.ref r0), (.int p1)] ∧ Z.Warmed39 U.vm ∧ U.heap = h0) (fun _ _ _ _ _ => True) (fun _ U o U' => ∃ v L, o = .returned v ∧ Q4_2 Z r0 p1 f h0 n0 v U'.heap L ∧ FrameEnd U o U' L ({ frames := 0, cells := 0, slots := 0, locals := 0 } : Room).cells ({ frames := 0, cells := 0, slots := 0, locals := 0 } : Room).slots) := by
  refine MetFree.of_bodySF (plainFor_of_name own_pn_rm4_2) hisR ?_
  intro p e s m args below meth cO s₁ Bd hml0 hP hK
  obtain ⟨rfl, hZ, hh⟩ := hP
  have hx := Bd.exec
  have hby := Bd.bytes
  have hml : cO.maxLocals = 4 := hml0
  have hown : s.vm.findClass "java/util/Arrays" = some m.cls := findClass_of_methodNamed Bd.named
  have hnm := (name_of_methodNamed Bd.named Bd.method).1
  have hlk : meth.locks = false := BodyLoose.notSynchronized Bd
  have X0 : Stand p l e ({ frames := 0, cells := 0, slots := 0, locals := 0 } : Room) s m #[(.ref r0), (.int p1)] below meth cO s₁ [] 0 0 := Stand.of_body Bd
  have e0 : s₁.heap = h0 := by rw [← hh, Bd.state]; rfl
  have N0 := Fr.nil n0
  refine own_in (own_ef_rm4_2 m r0 p1) ?_
  show Gm p e below s₁ m 0 #[rv r0, iv p1, .unset, .unset] [] _
  refine own_go (fun t₀ k₀ => XS.iconst X0.here hx rfl (Jvm.hb hby d4_0) k₀) ?_
  show Gm p e below s₁ m 1 #[rv r0, iv p1, .unset, .unset] [(.int (0 : Int32))] _
  refine own_go (fun t₀ k₀ => XS.istoreN X0.here hx rfl (Jvm.hb hby d4_1) rfl (l' := #[rv r0, iv p1, iv (0 : Int32), .unset]) rfl k₀) ?_
  show Gm p e below s₁ m 2 #[rv r0, iv p1, iv (0 : Int32), .unset] [] _
  refine own_go (fun t₀ k₀ => XS.aloadN X0.here hx rfl (Jvm.hb hby d4_2) rfl rfl k₀) ?_
  show Gm p e below s₁ m 3 #[rv r0, iv p1, iv (0 : Int32), .unset] [(.ref r0)] _
  refine own_go (fun t₀ k₀ => own_len X0 hx hZ e0 A (z := (2 : Int32)) rfl (g := (mkF m 3 #[rv r0, iv p1, iv (0 : Int32), .unset] [(.ref r0)])) rfl rfl (Jvm.hb hby d4_3) k₀) ?_
  show Gm p e below s₁ m 4 #[rv r0, iv p1, iv (0 : Int32), .unset] [(.int (2 : Int32))] _
  refine own_go (fun t₀ k₀ => XS.istoreN X0.here hx rfl (Jvm.hb hby d4_4) rfl (l' := #[rv r0, iv p1, iv (0 : Int32), iv (2 : Int32)]) rfl k₀) ?_
  show Gm p e below s₁ m 5 #[rv r0, iv p1, iv (0 : Int32), iv (2 : Int32)] [] _
  refine own_go (fun t₀ k₀ => XS.iloadN X0.here hx rfl (Jvm.hb hby d4_5) rfl k₀) ?_
  show Gm p e below s₁ m 6 #[rv r0, iv p1, iv (0 : Int32), iv (2 : Int32)] [(.int (0 : Int32))] _
  refine own_go (fun t₀ k₀ => XS.iloadN X0.here hx rfl (Jvm.hb hby d4_6) rfl k₀) ?_
  show Gm p e below s₁ m 7 #[rv r0, iv p1, iv (0 : Int32), iv (2 : Int32)] [(.int (2 : Int32)), (.int (0 : Int32))] _
  refine own_go (fun t₀ k₀ => XS.icmpNo X0.here hx rfl (Jvm.hb hby d4_7) rfl (XT.ii_ge_f (by decide)) k₀) ?_
  show Gm p e below s₁ m 10 #[rv r0, iv p1, iv (0 : Int32), iv (2 : Int32)] [] _
  refine own_go (fun t₀ k₀ => XS.aloadN X0.here hx rfl (Jvm.hb hby d4_10) rfl rfl k₀) ?_
  show Gm p e below s₁ m 11 #[rv r0, iv p1, iv (0 : Int32), iv (2 : Int32)] [(.ref r0)] _
  refine own_go (fun t₀ k₀ => XS.iloadN X0.here hx rfl (Jvm.hb hby d4_11) rfl k₀) ?_
  show Gm p e below s₁ m 12 #[rv r0, iv p1, iv (0 : Int32), iv (2 : Int32)] [(.int (0 : Int32)), (.ref r0)] _
  refine own_go (fun t₀ k₀ => XS.iloadN X0.here hx rfl (Jvm.hb hby d4_12) rfl k₀) ?_
  show Gm p e below s₁ m 13 #[rv r0, iv p1, iv (0 : Int32), iv (2 : Int32)] [(.int p1), (.int (0 : Int32)), (.ref r0)] _
  obtain ⟨T1, h1, X1, e1, W1, A1, st1⟩ := own_stI X0 hx hZ e0 A (j := (0 : Int32)) (k := 0) (by decide) rfl (by decide) (g := (mkF m 13 #[rv r0, iv p1, iv (0 : Int32), iv (2 : Int32)] [(.int p1), (.int (0 : Int32)), (.ref r0)])) rfl rfl (Jvm.hb hby d4_13)
  have N1 := Fr.snoc X1 N0 g_r0
  have Z1 : n0 ≤ h1.size := W1.size ▸ Z0
  have K1 : Keep h0 h1 [r0] := Keep.wr (Keep.refl h0 [r0]) W1 (Or.inl (List.mem_of_getElem? (i := 0) rfl))
  refine own_go st1 ?_
  show Gm p e below T1 m 14 #[rv r0, iv p1, iv (0 : Int32), iv (2 : Int32)] [] _
  refine own_go (fun t₀ k₀ => XS.iinc X1.here hx rfl (Jvm.hb hby d4_14) rfl (l' := #[rv r0, iv p1, iv (1 : Int32), iv (2 : Int32)]) rfl k₀) ?_
  show Gm p e below T1 m 17 #[rv r0, iv p1, iv (1 : Int32), iv (2 : Int32)] [] _
  refine own_go (fun t₀ k₀ => XS.goto X1.here hx rfl (pc0 := 17) (pc' := 5) rfl (Jvm.hb hby d4_17) (by decide) (by decide) k₀) ?_
  show Gm p e below T1 m 5 #[rv r0, iv p1, iv (1 : Int32), iv (2 : Int32)] [] _
  refine own_go (fun t₀ k₀ => XS.iloadN X1.here hx rfl (Jvm.hb hby d4_5) rfl k₀) ?_
  show Gm p e below T1 m 6 #[rv r0, iv p1, iv (1 : Int32), iv (2 : Int32)] [(.int (1 : Int32))] _
  refine own_go (fun t₀ k₀ => XS.iloadN X1.here hx rfl (Jvm.hb hby d4_6) rfl k₀) ?_
  show Gm p e below T1 m 7 #[rv r0, iv p1, iv (1 : Int32), iv (2 : Int32)] [(.int (2 : Int32)), (.int (1 : Int32))] _
  refine own_go (fun t₀ k₀ => XS.icmpNo X1.here hx rfl (Jvm.hb hby d4_7) rfl (XT.ii_ge_f (by decide)) k₀) ?_
  show Gm p e below T1 m 10 #[rv r0, iv p1, iv (1 : Int32), iv (2 : Int32)] [] _
  refine own_go (fun t₀ k₀ => XS.aloadN X1.here hx rfl (Jvm.hb hby d4_10) rfl rfl k₀) ?_
  show Gm p e below T1 m 11 #[rv r0, iv p1, iv (1 : Int32), iv (2 : Int32)] [(.ref r0)] _
  refine own_go (fun t₀ k₀ => XS.iloadN X1.here hx rfl (Jvm.hb hby d4_11) rfl k₀) ?_
  show Gm p e below T1 m 12 #[rv r0, iv p1, iv (1 : Int32), iv (2 : Int32)] [(.int (1 : Int32)), (.ref r0)] _
  refine own_go (fun t₀ k₀ => XS.iloadN X1.here hx rfl (Jvm.hb hby d4_12) rfl k₀) ?_
  show Gm p e below T1 m 13 #[rv r0, iv p1, iv (1 : Int32), iv (2 : Int32)] [(.int p1), (.int (1 : Int32)), (.ref r0)] _
  obtain ⟨T2, h2, X2, e2, W2, A2, st2⟩ := own_stI X1 hx hZ e1 A1 (j := (1 : Int32)) (k := 1) (by decide) rfl (by decide) (g := (mkF m 13 #[rv r0, iv p1, iv (1 : Int32), iv (2 : Int32)] [(.int p1), (.int (1 : Int32)), (.ref r0)])) rfl rfl (Jvm.hb hby d4_13)
  have N2 := Fr.snoc X2 N1 g_r0
  have Z2 : n0 ≤ h2.size := W2.size ▸ Z1
  have K2 : Keep h0 h2 [r0] := Keep.wr K1 W2 (Or.inl (List.mem_of_getElem? (i := 0) rfl))
  refine own_go st2 ?_
  show Gm p e below T2 m 14 #[rv r0, iv p1, iv (1 : Int32), iv (2 : Int32)] [] _
  refine own_go (fun t₀ k₀ => XS.iinc X2.here hx rfl (Jvm.hb hby d4_14) rfl (l' := #[rv r0, iv p1, iv (2 : Int32), iv (2 : Int32)]) rfl k₀) ?_
  show Gm p e below T2 m 17 #[rv r0, iv p1, iv (2 : Int32), iv (2 : Int32)] [] _
  refine own_go (fun t₀ k₀ => XS.goto X2.here hx rfl (pc0 := 17) (pc' := 5) rfl (Jvm.hb hby d4_17) (by decide) (by decide) k₀) ?_
  show Gm p e below T2 m 5 #[rv r0, iv p1, iv (2 : Int32), iv (2 : Int32)] [] _
  refine own_go (fun t₀ k₀ => XS.iloadN X2.here hx rfl (Jvm.hb hby d4_5) rfl k₀) ?_
  show Gm p e below T2 m 6 #[rv r0, iv p1, iv (2 : Int32), iv (2 : Int32)] [(.int (2 : Int32))] _
  refine own_go (fun t₀ k₀ => XS.iloadN X2.here hx rfl (Jvm.hb hby d4_6) rfl k₀) ?_
  show Gm p e below T2 m 7 #[rv r0, iv p1, iv (2 : Int32), iv (2 : Int32)] [(.int (2 : Int32)), (.int (2 : Int32))] _
  refine own_go (fun t₀ k₀ => XS.icmpYes X2.here hx rfl (pc0 := 7) (pc' := 20) rfl (Jvm.hb hby d4_7) rfl (XT.ii_ge_t (by decide)) (by decide) (by decide) k₀) ?_
  show Gm p e below T2 m 20 #[rv r0, iv p1, iv (2 : Int32), iv (2 : Int32)] [] _
  exact own_retV X2 hx hlk Bd.returns (Jvm.hb hby d4_20) e2 ⟨rfl, N2, K2, (Af.congr A2 (fun i hi => by
      rcases (by omega : i = 0 ∨ i = 1) with rfl | rfl <;> rfl))⟩ (by decide) (by decide)
theorem own_pn_rm1_2 : plainName "com/example/throughfare/throughfare/simulation/Walkers" = true := by first | (simp [plainName, overriddenIn]; done) | decide +kernel
theorem own_ef_rm1_2 (m : MethodId) (r0 : Addr) : entryFrame m #[(.ref r0), (.int (2 : Int32))] 2 = mkF m 0 #[.val (.ref r0), .val (.int (2 : Int32))] [] := by first | (simp [entryFrame, mkF, argsToLocals, Value.category]; done) | rfl
def Q1_2 (Z : State) (r0 : Addr) (h0 : Heap) (n0 : Nat) (v : Option Value) (h : Heap) (L : List Loc) : Prop := ∃ c_floor c_startCell c_cell c_heading c_leaving c_exit : Addr, v = none ∧ Fr n0 L ∧ Keep h0 h [r0] ∧ Exa Z h r0 "com/example/throughfare/throughfare/simulation/Walkers" ∧ h0.size ≤ c_floor ∧ Fld Z h r0 "com/example/throughfare/throughfare/simulation/Walkers" "floor" "[I" (.ref c_floor) ∧ Af Z h c_floor .int 2 (fun _ => defaultValue .int) ∧ h0.size ≤ c_startCell ∧ Fld Z h r0 "com/example/throughfare/throughfare/simulation/Walkers" "startCell" "[I" (.ref c_startCell) ∧ Af Z h c_startCell .int 2 (fun _ => defaultValue .int) ∧ h0.size ≤ c_cell ∧ Fld Z h r0 "com/example/throughfare/throughfare/simulation/Walkers" "cell" "[I" (.ref c_cell) ∧ Af Z h c_cell .int 2 (fun _ => defaultValue .int) ∧ h0.size ≤ c_heading ∧ Fld Z h r0 "com/example/throughfare/throughfare/simulation/Walkers" "heading" "[I" (.ref c_heading) ∧ Af Z h c_heading .int 2 (fun _ => defaultValue .int) ∧ h0.size ≤ c_leaving ∧ Fld Z h r0 "com/example/throughfare/throughfare/simulation/Walkers" "leaving" "[I" (.ref c_leaving) ∧ Af Z h c_leaving .int 2 (fun _ => (.int (-1 : Int32))) ∧ h0.size ≤ c_exit ∧ Fld Z h r0 "com/example/throughfare/throughfare/simulation/Walkers" "exit" "[I" (.ref c_exit) ∧ Af Z h c_exit .int 2 (fun _ => (.int (-1 : Int32))) ∧ c_floor ≠ c_startCell ∧ c_floor ≠ c_cell ∧ c_startCell ≠ c_cell ∧ c_floor ≠ c_heading ∧ c_startCell ≠ c_heading ∧ c_cell ≠ c_heading ∧ c_floor ≠ c_leaving ∧ c_startCell ≠ c_leaving ∧ c_cell ≠ c_leaving ∧ c_heading ≠ c_leaving ∧ c_floor ≠ c_exit ∧ c_startCell ≠ c_exit ∧ c_cell ≠ c_exit ∧ c_heading ≠ c_exit ∧ c_leaving ≠ c_exit
set_option maxRecDepth 65536 in
set_option maxHeartbeats 40000000 in
theorem rm1_2 (l : Launch) (Z : State) (a0 : Array Value) (hw : ∀ d ∈ tables_1, d.before a0 Z = true) (ws : List Jvm.Cond) (r0 : Addr) (h0 : Heap) (n0 : Nat) (Z0 : n0 ≤ h0.size) (E_r0 : Exa Z h0 r0 "com/example/throughfare/throughfare/simulation/Walkers") (F_floor : Fld Z h0 r0 "com/example/throughfare/throughfare/simulation/Walkers" "floor" "[I" .null) (F_startCell : Fld Z h0 r0 "com/example/throughfare/throughfare/simulation/Walkers" "startCell" "[I" .null) (F_cell : Fld Z h0 r0 "com/example/throughfare/throughfare/simulation/Walkers" "cell" "[I" .null) (F_speedMps : Fld Z h0 r0 "com/example/throughfare/throughfare/simulation/Walkers" "speedMps" "[D" .null) (F_reactionS : Fld Z h0 r0 "com/example/throughfare/throughfare/simulation/Walkers" "reactionS" "[D" .null) (F_heading : Fld Z h0 r0 "com/example/throughfare/throughfare/simulation/Walkers" "heading" "[I" .null) (F_heldUpS : Fld Z h0 r0 "com/example/throughfare/throughfare/simulation/Walkers" "heldUpS" "[D" .null) (F_exitTimeS : Fld Z h0 r0 "com/example/throughfare/throughfare/simulation/Walkers" "exitTimeS" "[D" .null) (F_leaving : Fld Z h0 r0 "com/example/throughfare/throughfare/simulation/Walkers" "leaving" "[I" .null) (F_exit : Fld Z h0 r0 "com/example/throughfare/throughfare/simulation/Walkers" "exit" "[I" .null) (F_distanceM : Fld Z h0 r0 "com/example/throughfare/throughfare/simulation/Walkers" "distanceM" "[D" .null) (g_r0 : n0 ≤ r0) :
    MetFree l (⟨"com/example/throughfare/throughfare/simulation/Walkers", "<init>", "(I)V"⟩ : MethodName) (head1 (Jvm.Cond.code (⟨"com/example/throughfare/throughfare/simulation/Walkers", "<init>", "(I)V"⟩ : MethodName) prog_63_method_1_code 2 none :: ws) ({ frames := 1, cells := 11, slots := 22, locals := 20 } : Room)) (fun a U => a = #[(.ref r0), (.int (2 : Int32))] ∧ Z.Warmed39 U.vm ∧ U.heap = h0) (fun _ _ _ _ _ => True) (fun _ U o U' => ∃ v L, o = .returned v ∧ Q1_2 Z r0 h0 n0 v U'.heap L ∧ FrameEnd U o U' L ({ frames := 1, cells := 11, slots := 22, locals := 20 } : Room).cells ({ frames := 1, cells := 11, slots := 22, locals := 20 } : Room).slots) := by
  refine MetFree.of_bodySF (plainFor_of_name own_pn_rm1_2) hisR ?_
  intro p e s m args below meth cO s₁ Bd hml0 hP hK
  obtain ⟨rfl, hZ, hh⟩ := hP
  have hx := Bd.exec
  have hby := Bd.bytes
  have hml : cO.maxLocals = 2 := hml0
  have hown : s.vm.findClass "com/example/throughfare/throughfare/simulation/Walkers" = some m.cls := findClass_of_methodNamed Bd.named
  have hnm := (name_of_methodNamed Bd.named Bd.method).1
  have hlk : meth.locks = false := BodyLoose.notSynchronized Bd
  have X0 : Stand p l e ({ frames := 1, cells := 11, slots := 22, locals := 20 } : Room) s m #[(.ref r0), (.int (2 : Int32))] below meth cO s₁ [] 0 0 := Stand.of_body Bd
  have e0 : s₁.heap = h0 := by rw [← hh, Bd.state]; rfl
  have N0 := Fr.nil n0
  refine own_in (own_ef_rm1_2 m r0) ?_
  show Gm p e below s₁ m 0 #[rv r0, iv (2 : Int32)] [] _
  refine own_go (fun t₀ k₀ => XS.aloadN X0.here hx rfl (Jvm.hb hby d1_0) rfl rfl k₀) ?_
  show Gm p e below s₁ m 1 #[rv r0, iv (2 : Int32)] [(.ref r0)] _
  obtain ⟨T1, X1, e1, st1⟩ := initO X0 hx hZ hown (hw _ (List.mem_of_getElem? (i := 7) rfl)) (hw _ (List.mem_of_getElem? (i := 8) rfl)) (hw _ (List.mem_of_getElem? (i := 9) rfl)) e0 (g := (mkF m 1 #[rv r0, iv (2 : Int32)] [(.ref r0)])) rfl (by rw [hml]; rfl) rfl (Jvm.hb hby d1_1) (by decide) (W := 0) (by show 2 * 0 + _ ≤ _; exact Nat.le_of_eq rfl) (by decide)
  refine own_go st1 ?_
  show Gm p e below T1 m 4 #[rv r0, iv (2 : Int32)] [] _
  refine own_go (fun t₀ k₀ => XS.aloadN X1.here hx rfl (Jvm.hb hby d1_4) rfl rfl k₀) ?_
  show Gm p e below T1 m 5 #[rv r0, iv (2 : Int32)] [(.ref r0)] _
  refine own_go (fun t₀ k₀ => XS.iloadN X1.here hx rfl (Jvm.hb hby d1_5) rfl k₀) ?_
  show Gm p e below T1 m 6 #[rv r0, iv (2 : Int32)] [(.int (2 : Int32)), (.ref r0)] _
  obtain ⟨T2, h2, k2, X2, e2, E2, A2, st2⟩ := newP X1 hx hZ (hw _ (List.mem_of_getElem? (i := 10) rfl)) e1 (g := (mkF m 6 #[rv r0, iv (2 : Int32)] [(.int (2 : Int32)), (.ref r0)])) rfl (Jvm.hb hby d1_6) rfl (by decide) (cap := 2) (by decide) (by decide) (by decide) (by decide)
  obtain ⟨b2, g2⟩ : ∃ z, z = h0.size := ⟨_, rfl⟩
  rw [← g2] at A2 st2
  have g_b2 : n0 ≤ b2 := Nat.le_trans Z0 (Nat.le_of_eq g2.symm)
  have ne_r0_b2 : r0 ≠ b2 := Nat.ne_of_lt (Nat.lt_of_lt_of_le E_r0.lt (Nat.le_of_eq g2.symm))
  have sz_b2 : h0.size ≤ b2 := Nat.le_trans (Keep.refl h0 [r0]).1 (Nat.le_of_eq g2.symm)
  have K2 : Keep h0 h2 [r0] := Keep.ext (Keep.refl h0 [r0]) E2
  have Z2 : n0 ≤ h2.size := Nat.le_trans Z0 E2.1
  have V2 : Af Z h2 b2 .int 2 (fun _ => defaultValue .int) := Af.new A2 (by decide) rfl rfl
  refine own_go st2 ?_
  show Gm p e below T2 m 8 #[rv r0, iv (2 : Int32)] [(.ref b2), (.ref r0)] _
  have f3 := (E_r0.ext E2)
  have f4 := (F_floor.ext E2)
  obtain ⟨T5, h5, X5, e5, W5, st5⟩ := putF X2 hx hZ hown (host := "") (Or.inl (hw _ (List.mem_of_getElem? (i := 11) rfl))) Via.refl e2 f4 f3 (Or.inr ⟨(hw _ (List.mem_of_getElem? (i := 12) rfl)), rfl, hnm⟩) (hw _ (List.mem_of_getElem? (i := 2) rfl)) (ty := (.array .int)) (by decide) rfl rfl (g := (mkF m 8 #[rv r0, iv (2 : Int32)] [(.ref b2), (.ref r0)])) rfl rfl (Jvm.hb hby d1_8)
  have Fw5 := Fld.same W5 f4
  have N5 := Fr.snoc X5 N0 g_r0
  have Z5 : n0 ≤ h5.size := W5.size ▸ Z2
  have K5 : Keep h0 h5 [r0] := Keep.wr K2 W5 (Or.inl (List.mem_of_getElem? (i := 0) rfl))
  refine own_go st5 ?_
  show Gm p e below T5 m 11 #[rv r0, iv (2 : Int32)] [] _
  refine own_go (fun t₀ k₀ => XS.aloadN X5.here hx rfl (Jvm.hb hby d1_11) rfl rfl k₀) ?_
  show Gm p e below T5 m 12 #[rv r0, iv (2 : Int32)] [(.ref r0)] _
  refine own_go (fun t₀ k₀ => XS.iloadN X5.here hx rfl (Jvm.hb hby d1_12) rfl k₀) ?_
  show Gm p e below T5 m 13 #[rv r0, iv (2 : Int32)] [(.int (2 : Int32)), (.ref r0)] _
  obtain ⟨T6, h6, k6, X6, e6, E6, A6, st6⟩ := newP X5 hx hZ (hw _ (List.mem_of_getElem? (i := 10) rfl)) e5 (g := (mkF m 13 #[rv r0, iv (2 : Int32)] [(.int (2 : Int32)), (.ref r0)])) rfl (Jvm.hb hby d1_13) rfl (by decide) (cap := 2) (by decide) (by decide) (by decide) (by decide)
  obtain ⟨b6, g6⟩ : ∃ z, z = h5.size := ⟨_, rfl⟩
  rw [← g6] at A6 st6
  have g_b6 : n0 ≤ b6 := Nat.le_trans Z5 (Nat.le_of_eq g6.symm)
  have f7 := (f3.wr W5)
  have ne_r0_b6 : r0 ≠ b6 := Nat.ne_of_lt (Nat.lt_of_lt_of_le f7.lt (Nat.le_of_eq g6.symm))
  have f8 := (V2.other W5 (Ne.symm ne_r0_b2))
  have ne_b2_b6 : b2 ≠ b6 := Nat.ne_of_lt (Nat.lt_of_lt_of_le f8.lt (Nat.le_of_eq g6.symm))
  have sz_b6 : h0.size ≤ b6 := Nat.le_trans K5.1 (Nat.le_of_eq g6.symm)
  have K6 : Keep h0 h6 [r0] := Keep.ext K5 E6
  have Z6 : n0 ≤ h6.size := Nat.le_trans Z5 E6.1
  have V6 : Af Z h6 b6 .int 2 (fun _ => defaultValue .int) := Af.new A6 (by decide) rfl rfl
  refine own_go st6 ?_
  show Gm p e below T6 m 15 #[rv r0, iv (2 : Int32)] [(.ref b6), (.ref r0)] _
  have f9 := (f7.ext E6)
  have f10 := ((Fld.other W5 (F_startCell.ext E2) (Or.inr (slot_ne (Or.inr (hw _ (List.mem_of_getElem? (i := 14) rfl))) (Or.inr (hw _ (List.mem_of_getElem? (i := 12) rfl))) (by decide) (t := (.array .int)) (t' := (.array .int)) (by decide) (by decide)))).ext E6)
  obtain ⟨T11, h11, X11, e11, W11, st11⟩ := putF X6 hx hZ hown (host := "") (Or.inl (hw _ (List.mem_of_getElem? (i := 13) rfl))) Via.refl e6 f10 f9 (Or.inr ⟨(hw _ (List.mem_of_getElem? (i := 14) rfl)), rfl, hnm⟩) (hw _ (List.mem_of_getElem? (i := 2) rfl)) (ty := (.array .int)) (by decide) rfl rfl (g := (mkF m 15 #[rv r0, iv (2 : Int32)] [(.ref b6), (.ref r0)])) rfl rfl (Jvm.hb hby d1_15)
  have Fw11 := Fld.same W11 f10
  have N11 := Fr.snoc X11 N5 g_r0
  have Z11 : n0 ≤ h11.size := W11.size ▸ Z6
  have K11 : Keep h0 h11 [r0] := Keep.wr K6 W11 (Or.inl (List.mem_of_getElem? (i := 0) rfl))
  refine own_go st11 ?_
  show Gm p e below T11 m 18 #[rv r0, iv (2 : Int32)] [] _
  refine own_go (fun t₀ k₀ => XS.aloadN X11.here hx rfl (Jvm.hb hby d1_18) rfl rfl k₀) ?_
  show Gm p e below T11 m 19 #[rv r0, iv (2 : Int32)] [(.ref r0)] _
  refine own_go (fun t₀ k₀ => XS.iloadN X11.here hx rfl (Jvm.hb hby d1_19) rfl k₀) ?_
  show Gm p e below T11 m 20 #[rv r0, iv (2 : Int32)] [(.int (2 : Int32)), (.ref r0)] _
  obtain ⟨T12, h12, k12, X12, e12, E12, A12, st12⟩ := newP X11 hx hZ (hw _ (List.mem_of_getElem? (i := 10) rfl)) e11 (g := (mkF m 20 #[rv r0, iv (2 : Int32)] [(.int (2 : Int32)), (.ref r0)])) rfl (Jvm.hb hby d1_20) rfl (by decide) (cap := 2) (by decide) (by decide) (by decide) (by decide)
  obtain ⟨b12, g12⟩ : ∃ z, z = h11.size := ⟨_, rfl⟩
  rw [← g12] at A12 st12
  have g_b12 : n0 ≤ b12 := Nat.le_trans Z11 (Nat.le_of_eq g12.symm)
  have f13 := (f9.wr W11)
  have ne_r0_b12 : r0 ≠ b12 := Nat.ne_of_lt (Nat.lt_of_lt_of_le f13.lt (Nat.le_of_eq g12.symm))
  have f14 := ((f8.ext E6).other W11 (Ne.symm ne_r0_b2))
  have ne_b2_b12 : b2 ≠ b12 := Nat.ne_of_lt (Nat.lt_of_lt_of_le f14.lt (Nat.le_of_eq g12.symm))
  have f15 := (V6.other W11 (Ne.symm ne_r0_b6))
  have ne_b6_b12 : b6 ≠ b12 := Nat.ne_of_lt (Nat.lt_of_lt_of_le f15.lt (Nat.le_of_eq g12.symm))
  have sz_b12 : h0.size ≤ b12 := Nat.le_trans K11.1 (Nat.le_of_eq g12.symm)
  have K12 : Keep h0 h12 [r0] := Keep.ext K11 E12
  have Z12 : n0 ≤ h12.size := Nat.le_trans Z11 E12.1
  have V12 : Af Z h12 b12 .int 2 (fun _ => defaultValue .int) := Af.new A12 (by decide) rfl rfl
  refine own_go st12 ?_
  show Gm p e below T12 m 22 #[rv r0, iv (2 : Int32)] [(.ref b12), (.ref r0)] _
  have f16 := (f13.ext E12)
  have f17 := ((Fld.other W11 ((Fld.other W5 (F_cell.ext E2) (Or.inr (slot_ne (Or.inr (hw _ (List.mem_of_getElem? (i := 16) rfl))) (Or.inr (hw _ (List.mem_of_getElem? (i := 12) rfl))) (by decide) (t := (.array .int)) (t' := (.array .int)) (by decide) (by decide)))).ext E6) (Or.inr (slot_ne (Or.inr (hw _ (List.mem_of_getElem? (i := 16) rfl))) (Or.inr (hw _ (List.mem_of_getElem? (i := 14) rfl))) (by decide) (t := (.array .int)) (t' := (.array .int)) (by decide) (by decide)))).ext E12)
  obtain ⟨T18, h18, X18, e18, W18, st18⟩ := putF X12 hx hZ hown (host := "") (Or.inl (hw _ (List.mem_of_getElem? (i := 15) rfl))) Via.refl e12 f17 f16 (Or.inr ⟨(hw _ (List.mem_of_getElem? (i := 16) rfl)), rfl, hnm⟩) (hw _ (List.mem_of_getElem? (i := 2) rfl)) (ty := (.array .int)) (by decide) rfl rfl (g := (mkF m 22 #[rv r0, iv (2 : Int32)] [(.ref b12), (.ref r0)])) rfl rfl (Jvm.hb hby d1_22)
  have Fw18 := Fld.same W18 f17
  have N18 := Fr.snoc X18 N11 g_r0
  have Z18 : n0 ≤ h18.size := W18.size ▸ Z12
  have K18 : Keep h0 h18 [r0] := Keep.wr K12 W18 (Or.inl (List.mem_of_getElem? (i := 0) rfl))
  refine own_go st18 ?_
  show Gm p e below T18 m 25 #[rv r0, iv (2 : Int32)] [] _
  refine own_go (fun t₀ k₀ => XS.aloadN X18.here hx rfl (Jvm.hb hby d1_25) rfl rfl k₀) ?_
  show Gm p e below T18 m 26 #[rv r0, iv (2 : Int32)] [(.ref r0)] _
  refine own_go (fun t₀ k₀ => XS.iloadN X18.here hx rfl (Jvm.hb hby d1_26) rfl k₀) ?_
  show Gm p e below T18 m 27 #[rv r0, iv (2 : Int32)] [(.int (2 : Int32)), (.ref r0)] _
  obtain ⟨T19, h19, k19, X19, e19, E19, A19, st19⟩ := newP X18 hx hZ (hw _ (List.mem_of_getElem? (i := 17) rfl)) e18 (g := (mkF m 27 #[rv r0, iv (2 : Int32)] [(.int (2 : Int32)), (.ref r0)])) rfl (Jvm.hb hby d1_27) rfl (by decide) (cap := 2) (by decide) (by decide) (by decide) (by decide)
  obtain ⟨b19, g19⟩ : ∃ z, z = h18.size := ⟨_, rfl⟩
  rw [← g19] at A19 st19
  have g_b19 : n0 ≤ b19 := Nat.le_trans Z18 (Nat.le_of_eq g19.symm)
  have f20 := (f16.wr W18)
  have ne_r0_b19 : r0 ≠ b19 := Nat.ne_of_lt (Nat.lt_of_lt_of_le f20.lt (Nat.le_of_eq g19.symm))
  have f21 := ((f14.ext E12).other W18 (Ne.symm ne_r0_b2))
  have ne_b2_b19 : b2 ≠ b19 := Nat.ne_of_lt (Nat.lt_of_lt_of_le f21.lt (Nat.le_of_eq g19.symm))
  have f22 := ((f15.ext E12).other W18 (Ne.symm ne_r0_b6))
  have ne_b6_b19 : b6 ≠ b19 := Nat.ne_of_lt (Nat.lt_of_lt_of_le f22.lt (Nat.le_of_eq g19.symm))
  have f23 := (V12.other W18 (Ne.symm ne_r0_b12))
  have ne_b12_b19 : b12 ≠ b19 := Nat.ne_of_lt (Nat.lt_of_lt_of_le f23.lt (Nat.le_of_eq g19.symm))
  have sz_b19 : h0.size ≤ b19 := Nat.le_trans K18.1 (Nat.le_of_eq g19.symm)
  have K19 : Keep h0 h19 [r0] := Keep.ext K18 E19
  have Z19 : n0 ≤ h19.size := Nat.le_trans Z18 E19.1
  have V19 : Af Z h19 b19 .double 2 (fun _ => defaultValue .double) := Af.new A19 (by decide) rfl rfl
  refine own_go st19 ?_
  show Gm p e below T19 m 29 #[rv r0, iv (2 : Int32)] [(.ref b19), (.ref r0)] _
  have f24 := (f20.ext E19)
  have f25 := ((Fld.other W18 ((Fld.other W11 ((Fld.other W5 (F_speedMps.ext E2) (Or.inr (slot_ne (Or.inr (hw _ (List.mem_of_getElem? (i := 19) rfl))) (Or.inr (hw _ (List.mem_of_getElem? (i := 12) rfl))) (by decide) (t := (.array .double)) (t' := (.array .int)) (by decide) (by decide)))).ext E6) (Or.inr (slot_ne (Or.inr (hw _ (List.mem_of_getElem? (i := 19) rfl))) (Or.inr (hw _ (List.mem_of_getElem? (i := 14) rfl))) (by decide) (t := (.array .double)) (t' := (.array .int)) (by decide) (by decide)))).ext E12) (Or.inr (slot_ne (Or.inr (hw _ (List.mem_of_getElem? (i := 19) rfl))) (Or.inr (hw _ (List.mem_of_getElem? (i := 16) rfl))) (by decide) (t := (.array .double)) (t' := (.array .int)) (by decide) (by decide)))).ext E19)
  obtain ⟨T26, h26, X26, e26, W26, st26⟩ := putF X19 hx hZ hown (host := "") (Or.inl (hw _ (List.mem_of_getElem? (i := 18) rfl))) Via.refl e19 f25 f24 (Or.inr ⟨(hw _ (List.mem_of_getElem? (i := 19) rfl)), rfl, hnm⟩) (hw _ (List.mem_of_getElem? (i := 2) rfl)) (ty := (.array .double)) (by decide) rfl rfl (g := (mkF m 29 #[rv r0, iv (2 : Int32)] [(.ref b19), (.ref r0)])) rfl rfl (Jvm.hb hby d1_29)
  have Fw26 := Fld.same W26 f25
  have N26 := Fr.snoc X26 N18 g_r0
  have Z26 : n0 ≤ h26.size := W26.size ▸ Z19
  have K26 : Keep h0 h26 [r0] := Keep.wr K19 W26 (Or.inl (List.mem_of_getElem? (i := 0) rfl))
  refine own_go st26 ?_
  show Gm p e below T26 m 32 #[rv r0, iv (2 : Int32)] [] _
  refine own_go (fun t₀ k₀ => XS.aloadN X26.here hx rfl (Jvm.hb hby d1_32) rfl rfl k₀) ?_
  show Gm p e below T26 m 33 #[rv r0, iv (2 : Int32)] [(.ref r0)] _
  refine own_go (fun t₀ k₀ => XS.iloadN X26.here hx rfl (Jvm.hb hby d1_33) rfl k₀) ?_
  show Gm p e below T26 m 34 #[rv r0, iv (2 : Int32)] [(.int (2 : Int32)), (.ref r0)] _
  obtain ⟨T27, h27, k27, X27, e27, E27, A27, st27⟩ := newP X26 hx hZ (hw _ (List.mem_of_getElem? (i := 17) rfl)) e26 (g := (mkF m 34 #[rv r0, iv (2 : Int32)] [(.int (2 : Int32)), (.ref r0)])) rfl (Jvm.hb hby d1_34) rfl (by decide) (cap := 2) (by decide) (by decide) (by decide) (by decide)
  obtain ⟨b27, g27⟩ : ∃ z, z = h26.size := ⟨_, rfl⟩
  rw [← g27] at A27 st27
  have g_b27 : n0 ≤ b27 := Nat.le_trans Z26 (Nat.le_of_eq g27.symm)
  have f28 := (f24.wr W26)
  have ne_r0_b27 : r0 ≠ b27 := Nat.ne_of_lt (Nat.lt_of_lt_of_le f28.lt (Nat.le_of_eq g27.symm))
  have f29 := ((f21.ext E19).other W26 (Ne.symm ne_r0_b2))
  have ne_b2_b27 : b2 ≠ b27 := Nat.ne_of_lt (Nat.lt_of_lt_of_le f29.lt (Nat.le_of_eq g27.symm))
  have f30 := ((f22.ext E19).other W26 (Ne.symm ne_r0_b6))
  have ne_b6_b27 : b6 ≠ b27 := Nat.ne_of_lt (Nat.lt_of_lt_of_le f30.lt (Nat.le_of_eq g27.symm))
  have f31 := ((f23.ext E19).other W26 (Ne.symm ne_r0_b12))
  have ne_b12_b27 : b12 ≠ b27 := Nat.ne_of_lt (Nat.lt_of_lt_of_le f31.lt (Nat.le_of_eq g27.symm))
  have sz_b27 : h0.size ≤ b27 := Nat.le_trans K26.1 (Nat.le_of_eq g27.symm)
  have K27 : Keep h0 h27 [r0] := Keep.ext K26 E27
  have Z27 : n0 ≤ h27.size := Nat.le_trans Z26 E27.1
  have V27 : Af Z h27 b27 .double 2 (fun _ => defaultValue .double) := Af.new A27 (by decide) rfl rfl
  refine own_go st27 ?_
  show Gm p e below T27 m 36 #[rv r0, iv (2 : Int32)] [(.ref b27), (.ref r0)] _
  have f32 := (f28.ext E27)
  have f33 := ((Fld.other W26 ((Fld.other W18 ((Fld.other W11 ((Fld.other W5 (F_reactionS.ext E2) (Or.inr (slot_ne (Or.inr (hw _ (List.mem_of_getElem? (i := 21) rfl))) (Or.inr (hw _ (List.mem_of_getElem? (i := 12) rfl))) (by decide) (t := (.array .double)) (t' := (.array .int)) (by decide) (by decide)))).ext E6) (Or.inr (slot_ne (Or.inr (hw _ (List.mem_of_getElem? (i := 21) rfl))) (Or.inr (hw _ (List.mem_of_getElem? (i := 14) rfl))) (by decide) (t := (.array .double)) (t' := (.array .int)) (by decide) (by decide)))).ext E12) (Or.inr (slot_ne (Or.inr (hw _ (List.mem_of_getElem? (i := 21) rfl))) (Or.inr (hw _ (List.mem_of_getElem? (i := 16) rfl))) (by decide) (t := (.array .double)) (t' := (.array .int)) (by decide) (by decide)))).ext E19) (Or.inr (slot_ne (Or.inr (hw _ (List.mem_of_getElem? (i := 21) rfl))) (Or.inr (hw _ (List.mem_of_getElem? (i := 19) rfl))) (by decide) (t := (.array .double)) (t' := (.array .double)) (by decide) (by decide)))).ext E27)
  obtain ⟨T34, h34, X34, e34, W34, st34⟩ := putF X27 hx hZ hown (host := "") (Or.inl (hw _ (List.mem_of_getElem? (i := 20) rfl))) Via.refl e27 f33 f32 (Or.inr ⟨(hw _ (List.mem_of_getElem? (i := 21) rfl)), rfl, hnm⟩) (hw _ (List.mem_of_getElem? (i := 2) rfl)) (ty := (.array .double)) (by decide) rfl rfl (g := (mkF m 36 #[rv r0, iv (2 : Int32)] [(.ref b27), (.ref r0)])) rfl rfl (Jvm.hb hby d1_36)
  have Fw34 := Fld.same W34 f33
  have N34 := Fr.snoc X34 N26 g_r0
  have Z34 : n0 ≤ h34.size := W34.size ▸ Z27
  have K34 : Keep h0 h34 [r0] := Keep.wr K27 W34 (Or.inl (List.mem_of_getElem? (i := 0) rfl))
  refine own_go st34 ?_
  show Gm p e below T34 m 39 #[rv r0, iv (2 : Int32)] [] _
  refine own_go (fun t₀ k₀ => XS.aloadN X34.here hx rfl (Jvm.hb hby d1_39) rfl rfl k₀) ?_
  show Gm p e below T34 m 40 #[rv r0, iv (2 : Int32)] [(.ref r0)] _
  refine own_go (fun t₀ k₀ => XS.iloadN X34.here hx rfl (Jvm.hb hby d1_40) rfl k₀) ?_
  show Gm p e below T34 m 41 #[rv r0, iv (2 : Int32)] [(.int (2 : Int32)), (.ref r0)] _
  obtain ⟨T35, h35, k35, X35, e35, E35, A35, st35⟩ := newP X34 hx hZ (hw _ (List.mem_of_getElem? (i := 10) rfl)) e34 (g := (mkF m 41 #[rv r0, iv (2 : Int32)] [(.int (2 : Int32)), (.ref r0)])) rfl (Jvm.hb hby d1_41) rfl (by decide) (cap := 2) (by decide) (by decide) (by decide) (by decide)
  obtain ⟨b35, g35⟩ : ∃ z, z = h34.size := ⟨_, rfl⟩
  rw [← g35] at A35 st35
  have g_b35 : n0 ≤ b35 := Nat.le_trans Z34 (Nat.le_of_eq g35.symm)
  have f36 := (f32.wr W34)
  have ne_r0_b35 : r0 ≠ b35 := Nat.ne_of_lt (Nat.lt_of_lt_of_le f36.lt (Nat.le_of_eq g35.symm))
  have f37 := ((f29.ext E27).other W34 (Ne.symm ne_r0_b2))
  have ne_b2_b35 : b2 ≠ b35 := Nat.ne_of_lt (Nat.lt_of_lt_of_le f37.lt (Nat.le_of_eq g35.symm))
  have f38 := ((f30.ext E27).other W34 (Ne.symm ne_r0_b6))
  have ne_b6_b35 : b6 ≠ b35 := Nat.ne_of_lt (Nat.lt_of_lt_of_le f38.lt (Nat.le_of_eq g35.symm))
  have f39 := ((f31.ext E27).other W34 (Ne.symm ne_r0_b12))
  have ne_b12_b35 : b12 ≠ b35 := Nat.ne_of_lt (Nat.lt_of_lt_of_le f39.lt (Nat.le_of_eq g35.symm))
  have sz_b35 : h0.size ≤ b35 := Nat.le_trans K34.1 (Nat.le_of_eq g35.symm)
  have K35 : Keep h0 h35 [r0] := Keep.ext K34 E35
  have Z35 : n0 ≤ h35.size := Nat.le_trans Z34 E35.1
  have V35 : Af Z h35 b35 .int 2 (fun _ => defaultValue .int) := Af.new A35 (by decide) rfl rfl
  refine own_go st35 ?_
  show Gm p e below T35 m 43 #[rv r0, iv (2 : Int32)] [(.ref b35), (.ref r0)] _
  have f40 := (f36.ext E35)
  have f41 := ((Fld.other W34 ((Fld.other W26 ((Fld.other W18 ((Fld.other W11 ((Fld.other W5 (F_heading.ext E2) (Or.inr (slot_ne (Or.inr (hw _ (List.mem_of_getElem? (i := 23) rfl))) (Or.inr (hw _ (List.mem_of_getElem? (i := 12) rfl))) (by decide) (t := (.array .int)) (t' := (.array .int)) (by decide) (by decide)))).ext E6) (Or.inr (slot_ne (Or.inr (hw _ (List.mem_of_getElem? (i := 23) rfl))) (Or.inr (hw _ (List.mem_of_getElem? (i := 14) rfl))) (by decide) (t := (.array .int)) (t' := (.array .int)) (by decide) (by decide)))).ext E12) (Or.inr (slot_ne (Or.inr (hw _ (List.mem_of_getElem? (i := 23) rfl))) (Or.inr (hw _ (List.mem_of_getElem? (i := 16) rfl))) (by decide) (t := (.array .int)) (t' := (.array .int)) (by decide) (by decide)))).ext E19) (Or.inr (slot_ne (Or.inr (hw _ (List.mem_of_getElem? (i := 23) rfl))) (Or.inr (hw _ (List.mem_of_getElem? (i := 19) rfl))) (by decide) (t := (.array .int)) (t' := (.array .double)) (by decide) (by decide)))).ext E27) (Or.inr (slot_ne (Or.inr (hw _ (List.mem_of_getElem? (i := 23) rfl))) (Or.inr (hw _ (List.mem_of_getElem? (i := 21) rfl))) (by decide) (t := (.array .int)) (t' := (.array .double)) (by decide) (by decide)))).ext E35)
  obtain ⟨T42, h42, X42, e42, W42, st42⟩ := putF X35 hx hZ hown (host := "") (Or.inl (hw _ (List.mem_of_getElem? (i := 22) rfl))) Via.refl e35 f41 f40 (Or.inr ⟨(hw _ (List.mem_of_getElem? (i := 23) rfl)), rfl, hnm⟩) (hw _ (List.mem_of_getElem? (i := 2) rfl)) (ty := (.array .int)) (by decide) rfl rfl (g := (mkF m 43 #[rv r0, iv (2 : Int32)] [(.ref b35), (.ref r0)])) rfl rfl (Jvm.hb hby d1_43)
  have Fw42 := Fld.same W42 f41
  have N42 := Fr.snoc X42 N34 g_r0
  have Z42 : n0 ≤ h42.size := W42.size ▸ Z35
  have K42 : Keep h0 h42 [r0] := Keep.wr K35 W42 (Or.inl (List.mem_of_getElem? (i := 0) rfl))
  refine own_go st42 ?_
  show Gm p e below T42 m 46 #[rv r0, iv (2 : Int32)] [] _
  refine own_go (fun t₀ k₀ => XS.aloadN X42.here hx rfl (Jvm.hb hby d1_46) rfl rfl k₀) ?_
  show Gm p e below T42 m 47 #[rv r0, iv (2 : Int32)] [(.ref r0)] _
  refine own_go (fun t₀ k₀ => XS.iloadN X42.here hx rfl (Jvm.hb hby d1_47) rfl k₀) ?_
  show Gm p e below T42 m 48 #[rv r0, iv (2 : Int32)] [(.int (2 : Int32)), (.ref r0)] _
  obtain ⟨T43, h43, k43, X43, e43, E43, A43, st43⟩ := newP X42 hx hZ (hw _ (List.mem_of_getElem? (i := 17) rfl)) e42 (g := (mkF m 48 #[rv r0, iv (2 : Int32)] [(.int (2 : Int32)), (.ref r0)])) rfl (Jvm.hb hby d1_48) rfl (by decide) (cap := 2) (by decide) (by decide) (by decide) (by decide)
  obtain ⟨b43, g43⟩ : ∃ z, z = h42.size := ⟨_, rfl⟩
  rw [← g43] at A43 st43
  have g_b43 : n0 ≤ b43 := Nat.le_trans Z42 (Nat.le_of_eq g43.symm)
  have f44 := (f40.wr W42)
  have ne_r0_b43 : r0 ≠ b43 := Nat.ne_of_lt (Nat.lt_of_lt_of_le f44.lt (Nat.le_of_eq g43.symm))
  have f45 := ((f37.ext E35).other W42 (Ne.symm ne_r0_b2))
  have ne_b2_b43 : b2 ≠ b43 := Nat.ne_of_lt (Nat.lt_of_lt_of_le f45.lt (Nat.le_of_eq g43.symm))
  have f46 := ((f38.ext E35).other W42 (Ne.symm ne_r0_b6))
  have ne_b6_b43 : b6 ≠ b43 := Nat.ne_of_lt (Nat.lt_of_lt_of_le f46.lt (Nat.le_of_eq g43.symm))
  have f47 := ((f39.ext E35).other W42 (Ne.symm ne_r0_b12))
  have ne_b12_b43 : b12 ≠ b43 := Nat.ne_of_lt (Nat.lt_of_lt_of_le f47.lt (Nat.le_of_eq g43.symm))
  have f48 := (V35.other W42 (Ne.symm ne_r0_b35))
  have ne_b35_b43 : b35 ≠ b43 := Nat.ne_of_lt (Nat.lt_of_lt_of_le f48.lt (Nat.le_of_eq g43.symm))
  have sz_b43 : h0.size ≤ b43 := Nat.le_trans K42.1 (Nat.le_of_eq g43.symm)
  have K43 : Keep h0 h43 [r0] := Keep.ext K42 E43
  have Z43 : n0 ≤ h43.size := Nat.le_trans Z42 E43.1
  have V43 : Af Z h43 b43 .double 2 (fun _ => defaultValue .double) := Af.new A43 (by decide) rfl rfl
  refine own_go st43 ?_
  show Gm p e below T43 m 50 #[rv r0, iv (2 : Int32)] [(.ref b43), (.ref r0)] _
  have f49 := (f44.ext E43)
  have f50 := ((Fld.other W42 ((Fld.other W34 ((Fld.other W26 ((Fld.other W18 ((Fld.other W11 ((Fld.other W5 (F_heldUpS.ext E2) (Or.inr (slot_ne (Or.inr (hw _ (List.mem_of_getElem? (i := 25) rfl))) (Or.inr (hw _ (List.mem_of_getElem? (i := 12) rfl))) (by decide) (t := (.array .double)) (t' := (.array .int)) (by decide) (by decide)))).ext E6) (Or.inr (slot_ne (Or.inr (hw _ (List.mem_of_getElem? (i := 25) rfl))) (Or.inr (hw _ (List.mem_of_getElem? (i := 14) rfl))) (by decide) (t := (.array .double)) (t' := (.array .int)) (by decide) (by decide)))).ext E12) (Or.inr (slot_ne (Or.inr (hw _ (List.mem_of_getElem? (i := 25) rfl))) (Or.inr (hw _ (List.mem_of_getElem? (i := 16) rfl))) (by decide) (t := (.array .double)) (t' := (.array .int)) (by decide) (by decide)))).ext E19) (Or.inr (slot_ne (Or.inr (hw _ (List.mem_of_getElem? (i := 25) rfl))) (Or.inr (hw _ (List.mem_of_getElem? (i := 19) rfl))) (by decide) (t := (.array .double)) (t' := (.array .double)) (by decide) (by decide)))).ext E27) (Or.inr (slot_ne (Or.inr (hw _ (List.mem_of_getElem? (i := 25) rfl))) (Or.inr (hw _ (List.mem_of_getElem? (i := 21) rfl))) (by decide) (t := (.array .double)) (t' := (.array .double)) (by decide) (by decide)))).ext E35) (Or.inr (slot_ne (Or.inr (hw _ (List.mem_of_getElem? (i := 25) rfl))) (Or.inr (hw _ (List.mem_of_getElem? (i := 23) rfl))) (by decide) (t := (.array .double)) (t' := (.array .int)) (by decide) (by decide)))).ext E43)
  obtain ⟨T51, h51, X51, e51, W51, st51⟩ := putF X43 hx hZ hown (host := "") (Or.inl (hw _ (List.mem_of_getElem? (i := 24) rfl))) Via.refl e43 f50 f49 (Or.inr ⟨(hw _ (List.mem_of_getElem? (i := 25) rfl)), rfl, hnm⟩) (hw _ (List.mem_of_getElem? (i := 2) rfl)) (ty := (.array .double)) (by decide) rfl rfl (g := (mkF m 50 #[rv r0, iv (2 : Int32)] [(.ref b43), (.ref r0)])) rfl rfl (Jvm.hb hby d1_50)
  have Fw51 := Fld.same W51 f50
  have N51 := Fr.snoc X51 N42 g_r0
  have Z51 : n0 ≤ h51.size := W51.size ▸ Z43
  have K51 : Keep h0 h51 [r0] := Keep.wr K43 W51 (Or.inl (List.mem_of_getElem? (i := 0) rfl))
  refine own_go st51 ?_
  show Gm p e below T51 m 53 #[rv r0, iv (2 : Int32)] [] _
  refine own_go (fun t₀ k₀ => XS.aloadN X51.here hx rfl (Jvm.hb hby d1_53) rfl rfl k₀) ?_
  show Gm p e below T51 m 54 #[rv r0, iv (2 : Int32)] [(.ref r0)] _
  obtain ⟨T52, X52, e52, st52⟩ := getF X51 hx hZ hown (host := "") (Or.inl (hw _ (List.mem_of_getElem? (i := 24) rfl))) Via.refl e51 Fw51 (g := (mkF m 54 #[rv r0, iv (2 : Int32)] [(.ref r0)])) rfl rfl (Jvm.hb hby d1_54)
  refine own_go st52 ?_
  show Gm p e below T52 m 57 #[rv r0, iv (2 : Int32)] [(.ref b43)] _
  refine own_go (fun t₀ k₀ => X52.ldc2DoubleC hx hown (mvT hZ (hw _ (List.mem_of_getElem? (i := 26) rfl))) (g := (mkF m 57 #[rv r0, iv (2 : Int32)] [(.ref b43)])) rfl (Jvm.hb hby d1_57) _ k₀) ?_
  show Gm p e below T52 m 60 #[rv r0, iv (2 : Int32)] [(.double (18442240474082181120 : UInt64)), (.ref b43)] _
  have f53 := (V43.other W51 (Ne.symm ne_r0_b43))
  obtain ⟨_, _, ⟨T54, L54, k54, n54⟩, -, X54, ⟨Lc54, hQ54, l54, y54, z54⟩, st54⟩ := Jvm.LawKit.callS X52 hx (y := (⟨"java/util/Arrays", "fill", "([DD)V"⟩ : MethodName)) hown (mvT hZ (hw _ (List.mem_of_getElem? (i := 27) rfl))) (mvT hZ (hw _ (List.mem_of_getElem? (i := 28) rfl))) (mvT hZ (hw _ (List.mem_of_getElem? (i := 29) rfl))) (mvT hZ (hw _ (List.mem_of_getElem? (i := 30) rfl))) (by decide) (backOf (W := 0) (rm3_2 l Z a0 hw [] b43 (18442240474082181120 : UInt64) (fun _ => defaultValue .double) h51 n0 Z51 f53 g_b43) hZ (hw _ (List.mem_of_getElem? (i := 30) rfl)) (hw _ (List.mem_of_getElem? (i := 29) rfl)) (by decide) (by decide)) (g := (mkF m 60 #[rv r0, iv (2 : Int32)] [(.double (18442240474082181120 : UInt64)), (.ref b43)])) rfl (by rw [hml]; rfl) (argsL := [(.ref b43), (.double (18442240474082181120 : UInt64))]) (rest := []) (lenOf own_pd0 rfl) rfl (by show 2 * 0 + _ ≤ _; exact Nat.le_of_eq rfl) (Jvm.hb hby d1_60) (fun _ _ => ⟨rfl, e52, (by decide : 7 + 0 ≤ _), (by decide : 14 + 0 ≤ _)⟩)
  dsimp only [Pt.U, Pt.locs, Pt.cells, Pt.slots] at X54 l54 y54 z54 st54 hQ54
  subst l54 y54 z54
  obtain ⟨rfl, Nq54, Kc54, fd54, Ac54⟩ := hQ54
  have N54 := Fr.app N51 Nq54
  refine own_go st54 ?_
  have Z54 : n0 ≤ T54.heap.size := Nat.le_trans Z51 Kc54.1
  have K54 : Keep h0 T54.heap [r0] := Keep.trans K51 Kc54 (allS (Or.inr sz_b43) all0)
  show Gm p e below T54 m 63 #[rv r0, iv (2 : Int32)] [] _
  refine own_go (fun t₀ k₀ => XS.aloadN X54.here hx rfl (Jvm.hb hby d1_63) rfl rfl k₀) ?_
  show Gm p e below T54 m 64 #[rv r0, iv (2 : Int32)] [(.ref r0)] _
  refine own_go (fun t₀ k₀ => XS.iloadN X54.here hx rfl (Jvm.hb hby d1_64) rfl k₀) ?_
  show Gm p e below T54 m 65 #[rv r0, iv (2 : Int32)] [(.int (2 : Int32)), (.ref r0)] _
  obtain ⟨T55, h55, k55, X55, e55, E55, A55, st55⟩ := newP X54 hx hZ (hw _ (List.mem_of_getElem? (i := 17) rfl)) rfl (g := (mkF m 65 #[rv r0, iv (2 : Int32)] [(.int (2 : Int32)), (.ref r0)])) rfl (Jvm.hb hby d1_65) rfl (by decide) (cap := 2) (by decide) (by decide) (by decide) (by decide)
  obtain ⟨b55, g55⟩ : ∃ z, z = T54.heap.size := ⟨_, rfl⟩
  rw [← g55] at A55 st55
  have g_b55 : n0 ≤ b55 := Nat.le_trans Z54 (Nat.le_of_eq g55.symm)
  have f56 := ((f49.wr W51).keep Kc54)
  have ne_r0_b55 : r0 ≠ b55 := Nat.ne_of_lt (Nat.lt_of_lt_of_le f56.lt (Nat.le_of_eq g55.symm))
  have f57 := (((f45.ext E43).other W51 (Ne.symm ne_r0_b2)).keep Kc54 (ninS ne_b2_b43 nin0))
  have ne_b2_b55 : b2 ≠ b55 := Nat.ne_of_lt (Nat.lt_of_lt_of_le f57.lt (Nat.le_of_eq g55.symm))
  have f58 := (((f46.ext E43).other W51 (Ne.symm ne_r0_b6)).keep Kc54 (ninS ne_b6_b43 nin0))
  have ne_b6_b55 : b6 ≠ b55 := Nat.ne_of_lt (Nat.lt_of_lt_of_le f58.lt (Nat.le_of_eq g55.symm))
  have f59 := (((f47.ext E43).other W51 (Ne.symm ne_r0_b12)).keep Kc54 (ninS ne_b12_b43 nin0))
  have ne_b12_b55 : b12 ≠ b55 := Nat.ne_of_lt (Nat.lt_of_lt_of_le f59.lt (Nat.le_of_eq g55.symm))
  have f60 := (((f48.ext E43).other W51 (Ne.symm ne_r0_b35)).keep Kc54 (ninS ne_b35_b43 nin0))
  have ne_b35_b55 : b35 ≠ b55 := Nat.ne_of_lt (Nat.lt_of_lt_of_le f60.lt (Nat.le_of_eq g55.symm))
  have sz_b55 : h0.size ≤ b55 := Nat.le_trans K54.1 (Nat.le_of_eq g55.symm)
  have K55 : Keep h0 h55 [r0] := Keep.ext K54 E55
  have Z55 : n0 ≤ h55.size := Nat.le_trans Z54 E55.1
  have V55 : Af Z h55 b55 .double 2 (fun _ => defaultValue .double) := Af.new A55 (by decide) rfl rfl
  refine own_go st55 ?_
  show Gm p e below T55 m 67 #[rv r0, iv (2 : Int32)] [(.ref b55), (.ref r0)] _
  have f61 := (f56.ext E55)
  have f62 := (((Fld.other W51 ((Fld.other W42 ((Fld.other W34 ((Fld.other W26 ((Fld.other W18 ((Fld.other W11 ((Fld.other W5 (F_exitTimeS.ext E2) (Or.inr (slot_ne (Or.inr (hw _ (List.mem_of_getElem? (i := 32) rfl))) (Or.inr (hw _ (List.mem_of_getElem? (i := 12) rfl))) (by decide) (t := (.array .double)) (t' := (.array .int)) (by decide) (by decide)))).ext E6) (Or.inr (slot_ne (Or.inr (hw _ (List.mem_of_getElem? (i := 32) rfl))) (Or.inr (hw _ (List.mem_of_getElem? (i := 14) rfl))) (by decide) (t := (.array .double)) (t' := (.array .int)) (by decide) (by decide)))).ext E12) (Or.inr (slot_ne (Or.inr (hw _ (List.mem_of_getElem? (i := 32) rfl))) (Or.inr (hw _ (List.mem_of_getElem? (i := 16) rfl))) (by decide) (t := (.array .double)) (t' := (.array .int)) (by decide) (by decide)))).ext E19) (Or.inr (slot_ne (Or.inr (hw _ (List.mem_of_getElem? (i := 32) rfl))) (Or.inr (hw _ (List.mem_of_getElem? (i := 19) rfl))) (by decide) (t := (.array .double)) (t' := (.array .double)) (by decide) (by decide)))).ext E27) (Or.inr (slot_ne (Or.inr (hw _ (List.mem_of_getElem? (i := 32) rfl))) (Or.inr (hw _ (List.mem_of_getElem? (i := 21) rfl))) (by decide) (t := (.array .double)) (t' := (.array .double)) (by decide) (by decide)))).ext E35) (Or.inr (slot_ne (Or.inr (hw _ (List.mem_of_getElem? (i := 32) rfl))) (Or.inr (hw _ (List.mem_of_getElem? (i := 23) rfl))) (by decide) (t := (.array .double)) (t' := (.array .int)) (by decide) (by decide)))).ext E43) (Or.inr (slot_ne (Or.inr (hw _ (List.mem_of_getElem? (i := 32) rfl))) (Or.inr (hw _ (List.mem_of_getElem? (i := 25) rfl))) (by decide) (t := (.array .double)) (t' := (.array .double)) (by decide) (by decide)))).keep Kc54 (ninS ne_r0_b43 nin0)).ext E55)
  obtain ⟨T63, h63, X63, e63, W63, st63⟩ := putF X55 hx hZ hown (host := "") (Or.inl (hw _ (List.mem_of_getElem? (i := 31) rfl))) Via.refl e55 f62 f61 (Or.inr ⟨(hw _ (List.mem_of_getElem? (i := 32) rfl)), rfl, hnm⟩) (hw _ (List.mem_of_getElem? (i := 2) rfl)) (ty := (.array .double)) (by decide) rfl rfl (g := (mkF m 67 #[rv r0, iv (2 : Int32)] [(.ref b55), (.ref r0)])) rfl rfl (Jvm.hb hby d1_67)
  have Fw63 := Fld.same W63 f62
  have N63 := Fr.snoc X63 N54 g_r0
  have Z63 : n0 ≤ h63.size := W63.size ▸ Z55
  have K63 : Keep h0 h63 [r0] := Keep.wr K55 W63 (Or.inl (List.mem_of_getElem? (i := 0) rfl))
  refine own_go st63 ?_
  show Gm p e below T63 m 70 #[rv r0, iv (2 : Int32)] [] _
  refine own_go (fun t₀ k₀ => XS.aloadN X63.here hx rfl (Jvm.hb hby d1_70) rfl rfl k₀) ?_
  show Gm p e below T63 m 71 #[rv r0, iv (2 : Int32)] [(.ref r0)] _
  obtain ⟨T64, X64, e64, st64⟩ := getF X63 hx hZ hown (host := "") (Or.inl (hw _ (List.mem_of_getElem? (i := 31) rfl))) Via.refl e63 Fw63 (g := (mkF m 71 #[rv r0, iv (2 : Int32)] [(.ref r0)])) rfl rfl (Jvm.hb hby d1_71)
  refine own_go st64 ?_
  show Gm p e below T64 m 74 #[rv r0, iv (2 : Int32)] [(.ref b55)] _
  refine own_go (fun t₀ k₀ => X64.ldc2DoubleC hx hown (mvT hZ (hw _ (List.mem_of_getElem? (i := 33) rfl))) (g := (mkF m 74 #[rv r0, iv (2 : Int32)] [(.ref b55)])) rfl (Jvm.hb hby d1_74) _ k₀) ?_
  show Gm p e below T64 m 77 #[rv r0, iv (2 : Int32)] [(.double (9218868437227405312 : UInt64)), (.ref b55)] _
  have f65 := (V55.other W63 (Ne.symm ne_r0_b55))
  obtain ⟨_, _, ⟨T66, L66, k66, n66⟩, -, X66, ⟨Lc66, hQ66, l66, y66, z66⟩, st66⟩ := Jvm.LawKit.callS X64 hx (y := (⟨"java/util/Arrays", "fill", "([DD)V"⟩ : MethodName)) hown (mvT hZ (hw _ (List.mem_of_getElem? (i := 27) rfl))) (mvT hZ (hw _ (List.mem_of_getElem? (i := 28) rfl))) (mvT hZ (hw _ (List.mem_of_getElem? (i := 29) rfl))) (mvT hZ (hw _ (List.mem_of_getElem? (i := 30) rfl))) (by decide) (backOf (W := 0) (rm3_2 l Z a0 hw [] b55 (9218868437227405312 : UInt64) (fun _ => defaultValue .double) h63 n0 Z63 f65 g_b55) hZ (hw _ (List.mem_of_getElem? (i := 30) rfl)) (hw _ (List.mem_of_getElem? (i := 29) rfl)) (by decide) (by decide)) (g := (mkF m 77 #[rv r0, iv (2 : Int32)] [(.double (9218868437227405312 : UInt64)), (.ref b55)])) rfl (by rw [hml]; rfl) (argsL := [(.ref b55), (.double (9218868437227405312 : UInt64))]) (rest := []) (lenOf own_pd0 rfl) rfl (by show 2 * 0 + _ ≤ _; exact Nat.le_of_eq rfl) (Jvm.hb hby d1_77) (fun _ _ => ⟨rfl, e64, (by decide : 8 + 0 ≤ _), (by decide : 16 + 0 ≤ _)⟩)
  dsimp only [Pt.U, Pt.locs, Pt.cells, Pt.slots] at X66 l66 y66 z66 st66 hQ66
  subst l66 y66 z66
  obtain ⟨rfl, Nq66, Kc66, fd66, Ac66⟩ := hQ66
  have N66 := Fr.app N63 Nq66
  refine own_go st66 ?_
  have Z66 : n0 ≤ T66.heap.size := Nat.le_trans Z63 Kc66.1
  have K66 : Keep h0 T66.heap [r0] := Keep.trans K63 Kc66 (allS (Or.inr sz_b55) all0)
  show Gm p e below T66 m 80 #[rv r0, iv (2 : Int32)] [] _
  refine own_go (fun t₀ k₀ => XS.aloadN X66.here hx rfl (Jvm.hb hby d1_80) rfl rfl k₀) ?_
  show Gm p e below T66 m 81 #[rv r0, iv (2 : Int32)] [(.ref r0)] _
  refine own_go (fun t₀ k₀ => XS.iloadN X66.here hx rfl (Jvm.hb hby d1_81) rfl k₀) ?_
  show Gm p e below T66 m 82 #[rv r0, iv (2 : Int32)] [(.int (2 : Int32)), (.ref r0)] _
  obtain ⟨T67, h67, k67, X67, e67, E67, A67, st67⟩ := newP X66 hx hZ (hw _ (List.mem_of_getElem? (i := 10) rfl)) rfl (g := (mkF m 82 #[rv r0, iv (2 : Int32)] [(.int (2 : Int32)), (.ref r0)])) rfl (Jvm.hb hby d1_82) rfl (by decide) (cap := 2) (by decide) (by decide) (by decide) (by decide)
  obtain ⟨b67, g67⟩ : ∃ z, z = T66.heap.size := ⟨_, rfl⟩
  rw [← g67] at A67 st67
  have g_b67 : n0 ≤ b67 := Nat.le_trans Z66 (Nat.le_of_eq g67.symm)
  have f68 := ((f61.wr W63).keep Kc66)
  have ne_r0_b67 : r0 ≠ b67 := Nat.ne_of_lt (Nat.lt_of_lt_of_le f68.lt (Nat.le_of_eq g67.symm))
  have f69 := (((f57.ext E55).other W63 (Ne.symm ne_r0_b2)).keep Kc66 (ninS ne_b2_b55 nin0))
  have ne_b2_b67 : b2 ≠ b67 := Nat.ne_of_lt (Nat.lt_of_lt_of_le f69.lt (Nat.le_of_eq g67.symm))
  have f70 := (((f58.ext E55).other W63 (Ne.symm ne_r0_b6)).keep Kc66 (ninS ne_b6_b55 nin0))
  have ne_b6_b67 : b6 ≠ b67 := Nat.ne_of_lt (Nat.lt_of_lt_of_le f70.lt (Nat.le_of_eq g67.symm))
  have f71 := (((f59.ext E55).other W63 (Ne.symm ne_r0_b12)).keep Kc66 (ninS ne_b12_b55 nin0))
  have ne_b12_b67 : b12 ≠ b67 := Nat.ne_of_lt (Nat.lt_of_lt_of_le f71.lt (Nat.le_of_eq g67.symm))
  have f72 := (((f60.ext E55).other W63 (Ne.symm ne_r0_b35)).keep Kc66 (ninS ne_b35_b55 nin0))
  have ne_b35_b67 : b35 ≠ b67 := Nat.ne_of_lt (Nat.lt_of_lt_of_le f72.lt (Nat.le_of_eq g67.symm))
  have sz_b67 : h0.size ≤ b67 := Nat.le_trans K66.1 (Nat.le_of_eq g67.symm)
  have K67 : Keep h0 h67 [r0] := Keep.ext K66 E67
  have Z67 : n0 ≤ h67.size := Nat.le_trans Z66 E67.1
  have V67 : Af Z h67 b67 .int 2 (fun _ => defaultValue .int) := Af.new A67 (by decide) rfl rfl
  refine own_go st67 ?_
  show Gm p e below T67 m 84 #[rv r0, iv (2 : Int32)] [(.ref b67), (.ref r0)] _
  have f73 := (f68.ext E67)
  have f74 := (((Fld.other W63 (((Fld.other W51 ((Fld.other W42 ((Fld.other W34 ((Fld.other W26 ((Fld.other W18 ((Fld.other W11 ((Fld.other W5 (F_leaving.ext E2) (Or.inr (slot_ne (Or.inr (hw _ (List.mem_of_getElem? (i := 35) rfl))) (Or.inr (hw _ (List.mem_of_getElem? (i := 12) rfl))) (by decide) (t := (.array .int)) (t' := (.array .int)) (by decide) (by decide)))).ext E6) (Or.inr (slot_ne (Or.inr (hw _ (List.mem_of_getElem? (i := 35) rfl))) (Or.inr (hw _ (List.mem_of_getElem? (i := 14) rfl))) (by decide) (t := (.array .int)) (t' := (.array .int)) (by decide) (by decide)))).ext E12) (Or.inr (slot_ne (Or.inr (hw _ (List.mem_of_getElem? (i := 35) rfl))) (Or.inr (hw _ (List.mem_of_getElem? (i := 16) rfl))) (by decide) (t := (.array .int)) (t' := (.array .int)) (by decide) (by decide)))).ext E19) (Or.inr (slot_ne (Or.inr (hw _ (List.mem_of_getElem? (i := 35) rfl))) (Or.inr (hw _ (List.mem_of_getElem? (i := 19) rfl))) (by decide) (t := (.array .int)) (t' := (.array .double)) (by decide) (by decide)))).ext E27) (Or.inr (slot_ne (Or.inr (hw _ (List.mem_of_getElem? (i := 35) rfl))) (Or.inr (hw _ (List.mem_of_getElem? (i := 21) rfl))) (by decide) (t := (.array .int)) (t' := (.array .double)) (by decide) (by decide)))).ext E35) (Or.inr (slot_ne (Or.inr (hw _ (List.mem_of_getElem? (i := 35) rfl))) (Or.inr (hw _ (List.mem_of_getElem? (i := 23) rfl))) (by decide) (t := (.array .int)) (t' := (.array .int)) (by decide) (by decide)))).ext E43) (Or.inr (slot_ne (Or.inr (hw _ (List.mem_of_getElem? (i := 35) rfl))) (Or.inr (hw _ (List.mem_of_getElem? (i := 25) rfl))) (by decide) (t := (.array .int)) (t' := (.array .double)) (by decide) (by decide)))).keep Kc54 (ninS ne_r0_b43 nin0)).ext E55) (Or.inr (slot_ne (Or.inr (hw _ (List.mem_of_getElem? (i := 35) rfl))) (Or.inr (hw _ (List.mem_of_getElem? (i := 32) rfl))) (by decide) (t := (.array .int)) (t' := (.array .double)) (by decide) (by decide)))).keep Kc66 (ninS ne_r0_b55 nin0)).ext E67)
  obtain ⟨T75, h75, X75, e75, W75, st75⟩ := putF X67 hx hZ hown (host := "") (Or.inl (hw _ (List.mem_of_getElem? (i := 34) rfl))) Via.refl e67 f74 f73 (Or.inr ⟨(hw _ (List.mem_of_getElem? (i := 35) rfl)), rfl, hnm⟩) (hw _ (List.mem_of_getElem? (i := 2) rfl)) (ty := (.array .int)) (by decide) rfl rfl (g := (mkF m 84 #[rv r0, iv (2 : Int32)] [(.ref b67), (.ref r0)])) rfl rfl (Jvm.hb hby d1_84)
  have Fw75 := Fld.same W75 f74
  have N75 := Fr.snoc X75 N66 g_r0
  have Z75 : n0 ≤ h75.size := W75.size ▸ Z67
  have K75 : Keep h0 h75 [r0] := Keep.wr K67 W75 (Or.inl (List.mem_of_getElem? (i := 0) rfl))
  refine own_go st75 ?_
  show Gm p e below T75 m 87 #[rv r0, iv (2 : Int32)] [] _
  refine own_go (fun t₀ k₀ => XS.aloadN X75.here hx rfl (Jvm.hb hby d1_87) rfl rfl k₀) ?_
  show Gm p e below T75 m 88 #[rv r0, iv (2 : Int32)] [(.ref r0)] _
  obtain ⟨T76, X76, e76, st76⟩ := getF X75 hx hZ hown (host := "") (Or.inl (hw _ (List.mem_of_getElem? (i := 34) rfl))) Via.refl e75 Fw75 (g := (mkF m 88 #[rv r0, iv (2 : Int32)] [(.ref r0)])) rfl rfl (Jvm.hb hby d1_88)
  refine own_go st76 ?_
  show Gm p e below T76 m 91 #[rv r0, iv (2 : Int32)] [(.ref b67)] _
  refine own_go (fun t₀ k₀ => XS.iconst X76.here hx rfl (Jvm.hb hby d1_91) k₀) ?_
  show Gm p e below T76 m 92 #[rv r0, iv (2 : Int32)] [(.int (-1 : Int32)), (.ref b67)] _
  have f77 := (V67.other W75 (Ne.symm ne_r0_b67))
  obtain ⟨_, _, ⟨T78, L78, k78, n78⟩, -, X78, ⟨Lc78, hQ78, l78, y78, z78⟩, st78⟩ := Jvm.LawKit.callS X76 hx (y := (⟨"java/util/Arrays", "fill", "([II)V"⟩ : MethodName)) hown (mvT hZ (hw _ (List.mem_of_getElem? (i := 36) rfl))) (mvT hZ (hw _ (List.mem_of_getElem? (i := 37) rfl))) (mvT hZ (hw _ (List.mem_of_getElem? (i := 29) rfl))) (mvT hZ (hw _ (List.mem_of_getElem? (i := 38) rfl))) (by decide) (backOf (W := 0) (rm4_2 l Z a0 hw [] b67 (-1 : Int32) (fun _ => defaultValue .int) h75 n0 Z75 f77 g_b67) hZ (hw _ (List.mem_of_getElem? (i := 38) rfl)) (hw _ (List.mem_of_getElem? (i := 29) rfl)) (by decide) (by decide)) (g := (mkF m 92 #[rv r0, iv (2 : Int32)] [(.int (-1 : Int32)), (.ref b67)])) rfl (by rw [hml]; rfl) (argsL := [(.ref b67), (.int (-1 : Int32))]) (rest := []) (lenOf own_pd1 rfl) rfl (by show 2 * 0 + _ ≤ _; exact Nat.le_of_eq rfl) (Jvm.hb hby d1_92) (fun _ _ => ⟨rfl, e76, (by decide : 9 + 0 ≤ _), (by decide : 18 + 0 ≤ _)⟩)
  dsimp only [Pt.U, Pt.locs, Pt.cells, Pt.slots] at X78 l78 y78 z78 st78 hQ78
  subst l78 y78 z78
  obtain ⟨rfl, Nq78, Kc78, Ac78⟩ := hQ78
  have N78 := Fr.app N75 Nq78
  refine own_go st78 ?_
  have Z78 : n0 ≤ T78.heap.size := Nat.le_trans Z75 Kc78.1
  have K78 : Keep h0 T78.heap [r0] := Keep.trans K75 Kc78 (allS (Or.inr sz_b67) all0)
  show Gm p e below T78 m 95 #[rv r0, iv (2 : Int32)] [] _
  refine own_go (fun t₀ k₀ => XS.aloadN X78.here hx rfl (Jvm.hb hby d1_95) rfl rfl k₀) ?_
  show Gm p e below T78 m 96 #[rv r0, iv (2 : Int32)] [(.ref r0)] _
  refine own_go (fun t₀ k₀ => XS.iloadN X78.here hx rfl (Jvm.hb hby d1_96) rfl k₀) ?_
  show Gm p e below T78 m 97 #[rv r0, iv (2 : Int32)] [(.int (2 : Int32)), (.ref r0)] _
  obtain ⟨T79, h79, k79, X79, e79, E79, A79, st79⟩ := newP X78 hx hZ (hw _ (List.mem_of_getElem? (i := 10) rfl)) rfl (g := (mkF m 97 #[rv r0, iv (2 : Int32)] [(.int (2 : Int32)), (.ref r0)])) rfl (Jvm.hb hby d1_97) rfl (by decide) (cap := 2) (by decide) (by decide) (by decide) (by decide)
  obtain ⟨b79, g79⟩ : ∃ z, z = T78.heap.size := ⟨_, rfl⟩
  rw [← g79] at A79 st79
  have g_b79 : n0 ≤ b79 := Nat.le_trans Z78 (Nat.le_of_eq g79.symm)
  have f80 := ((f73.wr W75).keep Kc78)
  have ne_r0_b79 : r0 ≠ b79 := Nat.ne_of_lt (Nat.lt_of_lt_of_le f80.lt (Nat.le_of_eq g79.symm))
  have f81 := (((f69.ext E67).other W75 (Ne.symm ne_r0_b2)).keep Kc78 (ninS ne_b2_b67 nin0))
  have ne_b2_b79 : b2 ≠ b79 := Nat.ne_of_lt (Nat.lt_of_lt_of_le f81.lt (Nat.le_of_eq g79.symm))
  have f82 := (((f70.ext E67).other W75 (Ne.symm ne_r0_b6)).keep Kc78 (ninS ne_b6_b67 nin0))
  have ne_b6_b79 : b6 ≠ b79 := Nat.ne_of_lt (Nat.lt_of_lt_of_le f82.lt (Nat.le_of_eq g79.symm))
  have f83 := (((f71.ext E67).other W75 (Ne.symm ne_r0_b12)).keep Kc78 (ninS ne_b12_b67 nin0))
  have ne_b12_b79 : b12 ≠ b79 := Nat.ne_of_lt (Nat.lt_of_lt_of_le f83.lt (Nat.le_of_eq g79.symm))
  have f84 := (((f72.ext E67).other W75 (Ne.symm ne_r0_b35)).keep Kc78 (ninS ne_b35_b67 nin0))
  have ne_b35_b79 : b35 ≠ b79 := Nat.ne_of_lt (Nat.lt_of_lt_of_le f84.lt (Nat.le_of_eq g79.symm))
  have ne_b67_b79 : b67 ≠ b79 := Nat.ne_of_lt (Nat.lt_of_lt_of_le Ac78.lt (Nat.le_of_eq g79.symm))
  have sz_b79 : h0.size ≤ b79 := Nat.le_trans K78.1 (Nat.le_of_eq g79.symm)
  have K79 : Keep h0 h79 [r0] := Keep.ext K78 E79
  have Z79 : n0 ≤ h79.size := Nat.le_trans Z78 E79.1
  have V79 : Af Z h79 b79 .int 2 (fun _ => defaultValue .int) := Af.new A79 (by decide) rfl rfl
  refine own_go st79 ?_
  show Gm p e below T79 m 99 #[rv r0, iv (2 : Int32)] [(.ref b79), (.ref r0)] _
  have f85 := (f80.ext E79)
  have f86 := (((Fld.other W75 (((Fld.other W63 (((Fld.other W51 ((Fld.other W42 ((Fld.other W34 ((Fld.other W26 ((Fld.other W18 ((Fld.other W11 ((Fld.other W5 (F_exit.ext E2) (Or.inr (slot_ne (Or.inr (hw _ (List.mem_of_getElem? (i := 40) rfl))) (Or.inr (hw _ (List.mem_of_getElem? (i := 12) rfl))) (by decide) (t := (.array .int)) (t' := (.array .int)) (by decide) (by decide)))).ext E6) (Or.inr (slot_ne (Or.inr (hw _ (List.mem_of_getElem? (i := 40) rfl))) (Or.inr (hw _ (List.mem_of_getElem? (i := 14) rfl))) (by decide) (t := (.array .int)) (t' := (.array .int)) (by decide) (by decide)))).ext E12) (Or.inr (slot_ne (Or.inr (hw _ (List.mem_of_getElem? (i := 40) rfl))) (Or.inr (hw _ (List.mem_of_getElem? (i := 16) rfl))) (by decide) (t := (.array .int)) (t' := (.array .int)) (by decide) (by decide)))).ext E19) (Or.inr (slot_ne (Or.inr (hw _ (List.mem_of_getElem? (i := 40) rfl))) (Or.inr (hw _ (List.mem_of_getElem? (i := 19) rfl))) (by decide) (t := (.array .int)) (t' := (.array .double)) (by decide) (by decide)))).ext E27) (Or.inr (slot_ne (Or.inr (hw _ (List.mem_of_getElem? (i := 40) rfl))) (Or.inr (hw _ (List.mem_of_getElem? (i := 21) rfl))) (by decide) (t := (.array .int)) (t' := (.array .double)) (by decide) (by decide)))).ext E35) (Or.inr (slot_ne (Or.inr (hw _ (List.mem_of_getElem? (i := 40) rfl))) (Or.inr (hw _ (List.mem_of_getElem? (i := 23) rfl))) (by decide) (t := (.array .int)) (t' := (.array .int)) (by decide) (by decide)))).ext E43) (Or.inr (slot_ne (Or.inr (hw _ (List.mem_of_getElem? (i := 40) rfl))) (Or.inr (hw _ (List.mem_of_getElem? (i := 25) rfl))) (by decide) (t := (.array .int)) (t' := (.array .double)) (by decide) (by decide)))).keep Kc54 (ninS ne_r0_b43 nin0)).ext E55) (Or.inr (slot_ne (Or.inr (hw _ (List.mem_of_getElem? (i := 40) rfl))) (Or.inr (hw _ (List.mem_of_getElem? (i := 32) rfl))) (by decide) (t := (.array .int)) (t' := (.array .double)) (by decide) (by decide)))).keep Kc66 (ninS ne_r0_b55 nin0)).ext E67) (Or.inr (slot_ne (Or.inr (hw _ (List.mem_of_getElem? (i := 40) rfl))) (Or.inr (hw _ (List.mem_of_getElem? (i := 35) rfl))) (by decide) (t := (.array .int)) (t' := (.array .int)) (by decide) (by decide)))).keep Kc78 (ninS ne_r0_b67 nin0)).ext E79)
  obtain ⟨T87, h87, X87, e87, W87, st87⟩ := putF X79 hx hZ hown (host := "") (Or.inl (hw _ (List.mem_of_getElem? (i := 39) rfl))) Via.refl e79 f86 f85 (Or.inr ⟨(hw _ (List.mem_of_getElem? (i := 40) rfl)), rfl, hnm⟩) (hw _ (List.mem_of_getElem? (i := 2) rfl)) (ty := (.array .int)) (by decide) rfl rfl (g := (mkF m 99 #[rv r0, iv (2 : Int32)] [(.ref b79), (.ref r0)])) rfl rfl (Jvm.hb hby d1_99)
  have Fw87 := Fld.same W87 f86
  have N87 := Fr.snoc X87 N78 g_r0
  have Z87 : n0 ≤ h87.size := W87.size ▸ Z79
  have K87 : Keep h0 h87 [r0] := Keep.wr K79 W87 (Or.inl (List.mem_of_getElem? (i := 0) rfl))
  refine own_go st87 ?_
  show Gm p e below T87 m 102 #[rv r0, iv (2 : Int32)] [] _
  refine own_go (fun t₀ k₀ => XS.aloadN X87.here hx rfl (Jvm.hb hby d1_102) rfl rfl k₀) ?_
  show Gm p e below T87 m 103 #[rv r0, iv (2 : Int32)] [(.ref r0)] _
  obtain ⟨T88, X88, e88, st88⟩ := getF X87 hx hZ hown (host := "") (Or.inl (hw _ (List.mem_of_getElem? (i := 39) rfl))) Via.refl e87 Fw87 (g := (mkF m 103 #[rv r0, iv (2 : Int32)] [(.ref r0)])) rfl rfl (Jvm.hb hby d1_103)
  refine own_go st88 ?_
  show Gm p e below T88 m 106 #[rv r0, iv (2 : Int32)] [(.ref b79)] _
  refine own_go (fun t₀ k₀ => XS.iconst X88.here hx rfl (Jvm.hb hby d1_106) k₀) ?_
  show Gm p e below T88 m 107 #[rv r0, iv (2 : Int32)] [(.int (-1 : Int32)), (.ref b79)] _
  have f89 := (V79.other W87 (Ne.symm ne_r0_b79))
  obtain ⟨_, _, ⟨T90, L90, k90, n90⟩, -, X90, ⟨Lc90, hQ90, l90, y90, z90⟩, st90⟩ := Jvm.LawKit.callS X88 hx (y := (⟨"java/util/Arrays", "fill", "([II)V"⟩ : MethodName)) hown (mvT hZ (hw _ (List.mem_of_getElem? (i := 36) rfl))) (mvT hZ (hw _ (List.mem_of_getElem? (i := 37) rfl))) (mvT hZ (hw _ (List.mem_of_getElem? (i := 29) rfl))) (mvT hZ (hw _ (List.mem_of_getElem? (i := 38) rfl))) (by decide) (backOf (W := 0) (rm4_2 l Z a0 hw [] b79 (-1 : Int32) (fun _ => defaultValue .int) h87 n0 Z87 f89 g_b79) hZ (hw _ (List.mem_of_getElem? (i := 38) rfl)) (hw _ (List.mem_of_getElem? (i := 29) rfl)) (by decide) (by decide)) (g := (mkF m 107 #[rv r0, iv (2 : Int32)] [(.int (-1 : Int32)), (.ref b79)])) rfl (by rw [hml]; rfl) (argsL := [(.ref b79), (.int (-1 : Int32))]) (rest := []) (lenOf own_pd1 rfl) rfl (by show 2 * 0 + _ ≤ _; exact Nat.le_of_eq rfl) (Jvm.hb hby d1_107) (fun _ _ => ⟨rfl, e88, (by decide : 10 + 0 ≤ _), (by decide : 20 + 0 ≤ _)⟩)
  dsimp only [Pt.U, Pt.locs, Pt.cells, Pt.slots] at X90 l90 y90 z90 st90 hQ90
  subst l90 y90 z90
  obtain ⟨rfl, Nq90, Kc90, Ac90⟩ := hQ90
  have N90 := Fr.app N87 Nq90
  refine own_go st90 ?_
  have Z90 : n0 ≤ T90.heap.size := Nat.le_trans Z87 Kc90.1
  have K90 : Keep h0 T90.heap [r0] := Keep.trans K87 Kc90 (allS (Or.inr sz_b79) all0)
  show Gm p e below T90 m 110 #[rv r0, iv (2 : Int32)] [] _
  refine own_go (fun t₀ k₀ => XS.aloadN X90.here hx rfl (Jvm.hb hby d1_110) rfl rfl k₀) ?_
  show Gm p e below T90 m 111 #[rv r0, iv (2 : Int32)] [(.ref r0)] _
  refine own_go (fun t₀ k₀ => XS.iloadN X90.here hx rfl (Jvm.hb hby d1_111) rfl k₀) ?_
  show Gm p e below T90 m 112 #[rv r0, iv (2 : Int32)] [(.int (2 : Int32)), (.ref r0)] _
  obtain ⟨T91, h91, k91, X91, e91, E91, A91, st91⟩ := newP X90 hx hZ (hw _ (List.mem_of_getElem? (i := 17) rfl)) rfl (g := (mkF m 112 #[rv r0, iv (2 : Int32)] [(.int (2 : Int32)), (.ref r0)])) rfl (Jvm.hb hby d1_112) rfl (by decide) (cap := 2) (by decide) (by decide) (by decide) (by decide)
  obtain ⟨b91, g91⟩ : ∃ z, z = T90.heap.size := ⟨_, rfl⟩
  rw [← g91] at A91 st91
  have g_b91 : n0 ≤ b91 := Nat.le_trans Z90 (Nat.le_of_eq g91.symm)
  have f92 := ((f85.wr W87).keep Kc90)
  have ne_r0_b91 : r0 ≠ b91 := Nat.ne_of_lt (Nat.lt_of_lt_of_le f92.lt (Nat.le_of_eq g91.symm))
  have f93 := (((f81.ext E79).other W87 (Ne.symm ne_r0_b2)).keep Kc90 (ninS ne_b2_b79 nin0))
  have ne_b2_b91 : b2 ≠ b91 := Nat.ne_of_lt (Nat.lt_of_lt_of_le f93.lt (Nat.le_of_eq g91.symm))
  have f94 := (((f82.ext E79).other W87 (Ne.symm ne_r0_b6)).keep Kc90 (ninS ne_b6_b79 nin0))
  have ne_b6_b91 : b6 ≠ b91 := Nat.ne_of_lt (Nat.lt_of_lt_of_le f94.lt (Nat.le_of_eq g91.symm))
  have f95 := (((f83.ext E79).other W87 (Ne.symm ne_r0_b12)).keep Kc90 (ninS ne_b12_b79 nin0))
  have ne_b12_b91 : b12 ≠ b91 := Nat.ne_of_lt (Nat.lt_of_lt_of_le f95.lt (Nat.le_of_eq g91.symm))
  have f96 := (((f84.ext E79).other W87 (Ne.symm ne_r0_b35)).keep Kc90 (ninS ne_b35_b79 nin0))
  have ne_b35_b91 : b35 ≠ b91 := Nat.ne_of_lt (Nat.lt_of_lt_of_le f96.lt (Nat.le_of_eq g91.symm))
  have f97 := (((Ac78.ext E79).other W87 (Ne.symm ne_r0_b67)).keep Kc90 (ninS ne_b67_b79 nin0))
  have ne_b67_b91 : b67 ≠ b91 := Nat.ne_of_lt (Nat.lt_of_lt_of_le f97.lt (Nat.le_of_eq g91.symm))
  have ne_b79_b91 : b79 ≠ b91 := Nat.ne_of_lt (Nat.lt_of_lt_of_le Ac90.lt (Nat.le_of_eq g91.symm))
  have sz_b91 : h0.size ≤ b91 := Nat.le_trans K90.1 (Nat.le_of_eq g91.symm)
  have K91 : Keep h0 h91 [r0] := Keep.ext K90 E91
  have Z91 : n0 ≤ h91.size := Nat.le_trans Z90 E91.1
  have V91 : Af Z h91 b91 .double 2 (fun _ => defaultValue .double) := Af.new A91 (by decide) rfl rfl
  refine own_go st91 ?_
  show Gm p e below T91 m 114 #[rv r0, iv (2 : Int32)] [(.ref b91), (.ref r0)] _
  have f98 := (f92.ext E91)
  have f99 := (((Fld.other W87 (((Fld.other W75 (((Fld.other W63 (((Fld.other W51 ((Fld.other W42 ((Fld.other W34 ((Fld.other W26 ((Fld.other W18 ((Fld.other W11 ((Fld.other W5 (F_distanceM.ext E2) (Or.inr (slot_ne (Or.inr (hw _ (List.mem_of_getElem? (i := 42) rfl))) (Or.inr (hw _ (List.mem_of_getElem? (i := 12) rfl))) (by decide) (t := (.array .double)) (t' := (.array .int)) (by decide) (by decide)))).ext E6) (Or.inr (slot_ne (Or.inr (hw _ (List.mem_of_getElem? (i := 42) rfl))) (Or.inr (hw _ (List.mem_of_getElem? (i := 14) rfl))) (by decide) (t := (.array .double)) (t' := (.array .int)) (by decide) (by decide)))).ext E12) (Or.inr (slot_ne (Or.inr (hw _ (List.mem_of_getElem? (i := 42) rfl))) (Or.inr (hw _ (List.mem_of_getElem? (i := 16) rfl))) (by decide) (t := (.array .double)) (t' := (.array .int)) (by decide) (by decide)))).ext E19) (Or.inr (slot_ne (Or.inr (hw _ (List.mem_of_getElem? (i := 42) rfl))) (Or.inr (hw _ (List.mem_of_getElem? (i := 19) rfl))) (by decide) (t := (.array .double)) (t' := (.array .double)) (by decide) (by decide)))).ext E27) (Or.inr (slot_ne (Or.inr (hw _ (List.mem_of_getElem? (i := 42) rfl))) (Or.inr (hw _ (List.mem_of_getElem? (i := 21) rfl))) (by decide) (t := (.array .double)) (t' := (.array .double)) (by decide) (by decide)))).ext E35) (Or.inr (slot_ne (Or.inr (hw _ (List.mem_of_getElem? (i := 42) rfl))) (Or.inr (hw _ (List.mem_of_getElem? (i := 23) rfl))) (by decide) (t := (.array .double)) (t' := (.array .int)) (by decide) (by decide)))).ext E43) (Or.inr (slot_ne (Or.inr (hw _ (List.mem_of_getElem? (i := 42) rfl))) (Or.inr (hw _ (List.mem_of_getElem? (i := 25) rfl))) (by decide) (t := (.array .double)) (t' := (.array .double)) (by decide) (by decide)))).keep Kc54 (ninS ne_r0_b43 nin0)).ext E55) (Or.inr (slot_ne (Or.inr (hw _ (List.mem_of_getElem? (i := 42) rfl))) (Or.inr (hw _ (List.mem_of_getElem? (i := 32) rfl))) (by decide) (t := (.array .double)) (t' := (.array .double)) (by decide) (by decide)))).keep Kc66 (ninS ne_r0_b55 nin0)).ext E67) (Or.inr (slot_ne (Or.inr (hw _ (List.mem_of_getElem? (i := 42) rfl))) (Or.inr (hw _ (List.mem_of_getElem? (i := 35) rfl))) (by decide) (t := (.array .double)) (t' := (.array .int)) (by decide) (by decide)))).keep Kc78 (ninS ne_r0_b67 nin0)).ext E79) (Or.inr (slot_ne (Or.inr (hw _ (List.mem_of_getElem? (i := 42) rfl))) (Or.inr (hw _ (List.mem_of_getElem? (i := 40) rfl))) (by decide) (t := (.array .double)) (t' := (.array .int)) (by decide) (by decide)))).keep Kc90 (ninS ne_r0_b79 nin0)).ext E91)
  obtain ⟨T100, h100, X100, e100, W100, st100⟩ := putF X91 hx hZ hown (host := "") (Or.inl (hw _ (List.mem_of_getElem? (i := 41) rfl))) Via.refl e91 f99 f98 (Or.inr ⟨(hw _ (List.mem_of_getElem? (i := 42) rfl)), rfl, hnm⟩) (hw _ (List.mem_of_getElem? (i := 2) rfl)) (ty := (.array .double)) (by decide) rfl rfl (g := (mkF m 114 #[rv r0, iv (2 : Int32)] [(.ref b91), (.ref r0)])) rfl rfl (Jvm.hb hby d1_114)
  have Fw100 := Fld.same W100 f99
  have N100 := Fr.snoc X100 N90 g_r0
  have Z100 : n0 ≤ h100.size := W100.size ▸ Z91
  have K100 : Keep h0 h100 [r0] := Keep.wr K91 W100 (Or.inl (List.mem_of_getElem? (i := 0) rfl))
  refine own_go st100 ?_
  show Gm p e below T100 m 117 #[rv r0, iv (2 : Int32)] [] _
  have f101 := (f98.wr W100)
  have f102 := (Fld.other W100 (((Fld.other W87 (((Fld.other W75 (((Fld.other W63 (((Fld.other W51 ((Fld.other W42 ((Fld.other W34 ((Fld.other W26 ((Fld.other W18 ((Fld.other W11 (Fw5.ext E6) (Or.inr (slot_ne (Or.inr (hw _ (List.mem_of_getElem? (i := 12) rfl))) (Or.inr (hw _ (List.mem_of_getElem? (i := 14) rfl))) (by decide) (t := (.array .int)) (t' := (.array .int)) (by decide) (by decide)))).ext E12) (Or.inr (slot_ne (Or.inr (hw _ (List.mem_of_getElem? (i := 12) rfl))) (Or.inr (hw _ (List.mem_of_getElem? (i := 16) rfl))) (by decide) (t := (.array .int)) (t' := (.array .int)) (by decide) (by decide)))).ext E19) (Or.inr (slot_ne (Or.inr (hw _ (List.mem_of_getElem? (i := 12) rfl))) (Or.inr (hw _ (List.mem_of_getElem? (i := 19) rfl))) (by decide) (t := (.array .int)) (t' := (.array .double)) (by decide) (by decide)))).ext E27) (Or.inr (slot_ne (Or.inr (hw _ (List.mem_of_getElem? (i := 12) rfl))) (Or.inr (hw _ (List.mem_of_getElem? (i := 21) rfl))) (by decide) (t := (.array .int)) (t' := (.array .double)) (by decide) (by decide)))).ext E35) (Or.inr (slot_ne (Or.inr (hw _ (List.mem_of_getElem? (i := 12) rfl))) (Or.inr (hw _ (List.mem_of_getElem? (i := 23) rfl))) (by decide) (t := (.array .int)) (t' := (.array .int)) (by decide) (by decide)))).ext E43) (Or.inr (slot_ne (Or.inr (hw _ (List.mem_of_getElem? (i := 12) rfl))) (Or.inr (hw _ (List.mem_of_getElem? (i := 25) rfl))) (by decide) (t := (.array .int)) (t' := (.array .double)) (by decide) (by decide)))).keep Kc54 (ninS ne_r0_b43 nin0)).ext E55) (Or.inr (slot_ne (Or.inr (hw _ (List.mem_of_getElem? (i := 12) rfl))) (Or.inr (hw _ (List.mem_of_getElem? (i := 32) rfl))) (by decide) (t := (.array .int)) (t' := (.array .double)) (by decide) (by decide)))).keep Kc66 (ninS ne_r0_b55 nin0)).ext E67) (Or.inr (slot_ne (Or.inr (hw _ (List.mem_of_getElem? (i := 12) rfl))) (Or.inr (hw _ (List.mem_of_getElem? (i := 35) rfl))) (by decide) (t := (.array .int)) (t' := (.array .int)) (by decide) (by decide)))).keep Kc78 (ninS ne_r0_b67 nin0)).ext E79) (Or.inr (slot_ne (Or.inr (hw _ (List.mem_of_getElem? (i := 12) rfl))) (Or.inr (hw _ (List.mem_of_getElem? (i := 40) rfl))) (by decide) (t := (.array .int)) (t' := (.array .int)) (by decide) (by decide)))).keep Kc90 (ninS ne_r0_b79 nin0)).ext E91) (Or.inr (slot_ne (Or.inr (hw _ (List.mem_of_getElem? (i := 12) rfl))) (Or.inr (hw _ (List.mem_of_getElem? (i := 42) rfl))) (by decide) (t := (.array .int)) (t' := (.array .double)) (by decide) (by decide))))
  have f103 := ((f93.ext E91).other W100 (Ne.symm ne_r0_b2))
  have f104 := (Fld.other W100 (((Fld.other W87 (((Fld.other W75 (((Fld.other W63 (((Fld.other W51 ((Fld.other W42 ((Fld.other W34 ((Fld.other W26 ((Fld.other W18 (Fw11.ext E12) (Or.inr (slot_ne (Or.inr (hw _ (List.mem_of_getElem? (i := 14) rfl))) (Or.inr (hw _ (List.mem_of_getElem? (i := 16) rfl))) (by decide) (t := (.array .int)) (t' := (.array .int)) (by decide) (by decide)))).ext E19) (Or.inr (slot_ne (Or.inr (hw _ (List.mem_of_getElem? (i := 14) rfl))) (Or.inr (hw _ (List.mem_of_getElem? (i := 19) rfl))) (by decide) (t := (.array .int)) (t' := (.array .double)) (by decide) (by decide)))).ext E27) (Or.inr (slot_ne (Or.inr (hw _ (List.mem_of_getElem? (i := 14) rfl))) (Or.inr (hw _ (List.mem_of_getElem? (i := 21) rfl))) (by decide) (t := (.array .int)) (t' := (.array .double)) (by decide) (by decide)))).ext E35) (Or.inr (slot_ne (Or.inr (hw _ (List.mem_of_getElem? (i := 14) rfl))) (Or.inr (hw _ (List.mem_of_getElem? (i := 23) rfl))) (by decide) (t := (.array .int)) (t' := (.array .int)) (by decide) (by decide)))).ext E43) (Or.inr (slot_ne (Or.inr (hw _ (List.mem_of_getElem? (i := 14) rfl))) (Or.inr (hw _ (List.mem_of_getElem? (i := 25) rfl))) (by decide) (t := (.array .int)) (t' := (.array .double)) (by decide) (by decide)))).keep Kc54 (ninS ne_r0_b43 nin0)).ext E55) (Or.inr (slot_ne (Or.inr (hw _ (List.mem_of_getElem? (i := 14) rfl))) (Or.inr (hw _ (List.mem_of_getElem? (i := 32) rfl))) (by decide) (t := (.array .int)) (t' := (.array .double)) (by decide) (by decide)))).keep Kc66 (ninS ne_r0_b55 nin0)).ext E67) (Or.inr (slot_ne (Or.inr (hw _ (List.mem_of_getElem? (i := 14) rfl))) (Or.inr (hw _ (List.mem_of_getElem? (i := 35) rfl))) (by decide) (t := (.array .int)) (t' := (.array .int)) (by decide) (by decide)))).keep Kc78 (ninS ne_r0_b67 nin0)).ext E79) (Or.inr (slot_ne (Or.inr (hw _ (List.mem_of_getElem? (i := 14) rfl))) (Or.inr (hw _ (List.mem_of_getElem? (i := 40) rfl))) (by decide) (t := (.array .int)) (t' := (.array .int)) (by decide) (by decide)))).keep Kc90 (ninS ne_r0_b79 nin0)).ext E91) (Or.inr (slot_ne (Or.inr (hw _ (List.mem_of_getElem? (i := 14) rfl))) (Or.inr (hw _ (List.mem_of_getElem? (i := 42) rfl))) (by decide) (t := (.array .int)) (t' := (.array .double)) (by decide) (by decide))))
  have f105 := ((f94.ext E91).other W100 (Ne.symm ne_r0_b6))
  have f106 := (Fld.other W100 (((Fld.other W87 (((Fld.other W75 (((Fld.other W63 (((Fld.other W51 ((Fld.other W42 ((Fld.other W34 ((Fld.other W26 (Fw18.ext E19) (Or.inr (slot_ne (Or.inr (hw _ (List.mem_of_getElem? (i := 16) rfl))) (Or.inr (hw _ (List.mem_of_getElem? (i := 19) rfl))) (by decide) (t := (.array .int)) (t' := (.array .double)) (by decide) (by decide)))).ext E27) (Or.inr (slot_ne (Or.inr (hw _ (List.mem_of_getElem? (i := 16) rfl))) (Or.inr (hw _ (List.mem_of_getElem? (i := 21) rfl))) (by decide) (t := (.array .int)) (t' := (.array .double)) (by decide) (by decide)))).ext E35) (Or.inr (slot_ne (Or.inr (hw _ (List.mem_of_getElem? (i := 16) rfl))) (Or.inr (hw _ (List.mem_of_getElem? (i := 23) rfl))) (by decide) (t := (.array .int)) (t' := (.array .int)) (by decide) (by decide)))).ext E43) (Or.inr (slot_ne (Or.inr (hw _ (List.mem_of_getElem? (i := 16) rfl))) (Or.inr (hw _ (List.mem_of_getElem? (i := 25) rfl))) (by decide) (t := (.array .int)) (t' := (.array .double)) (by decide) (by decide)))).keep Kc54 (ninS ne_r0_b43 nin0)).ext E55) (Or.inr (slot_ne (Or.inr (hw _ (List.mem_of_getElem? (i := 16) rfl))) (Or.inr (hw _ (List.mem_of_getElem? (i := 32) rfl))) (by decide) (t := (.array .int)) (t' := (.array .double)) (by decide) (by decide)))).keep Kc66 (ninS ne_r0_b55 nin0)).ext E67) (Or.inr (slot_ne (Or.inr (hw _ (List.mem_of_getElem? (i := 16) rfl))) (Or.inr (hw _ (List.mem_of_getElem? (i := 35) rfl))) (by decide) (t := (.array .int)) (t' := (.array .int)) (by decide) (by decide)))).keep Kc78 (ninS ne_r0_b67 nin0)).ext E79) (Or.inr (slot_ne (Or.inr (hw _ (List.mem_of_getElem? (i := 16) rfl))) (Or.inr (hw _ (List.mem_of_getElem? (i := 40) rfl))) (by decide) (t := (.array .int)) (t' := (.array .int)) (by decide) (by decide)))).keep Kc90 (ninS ne_r0_b79 nin0)).ext E91) (Or.inr (slot_ne (Or.inr (hw _ (List.mem_of_getElem? (i := 16) rfl))) (Or.inr (hw _ (List.mem_of_getElem? (i := 42) rfl))) (by decide) (t := (.array .int)) (t' := (.array .double)) (by decide) (by decide))))
  have f107 := ((f95.ext E91).other W100 (Ne.symm ne_r0_b12))
  have f108 := (Fld.other W100 (((Fld.other W87 (((Fld.other W75 (((Fld.other W63 (((Fld.other W51 (Fw42.ext E43) (Or.inr (slot_ne (Or.inr (hw _ (List.mem_of_getElem? (i := 23) rfl))) (Or.inr (hw _ (List.mem_of_getElem? (i := 25) rfl))) (by decide) (t := (.array .int)) (t' := (.array .double)) (by decide) (by decide)))).keep Kc54 (ninS ne_r0_b43 nin0)).ext E55) (Or.inr (slot_ne (Or.inr (hw _ (List.mem_of_getElem? (i := 23) rfl))) (Or.inr (hw _ (List.mem_of_getElem? (i := 32) rfl))) (by decide) (t := (.array .int)) (t' := (.array .double)) (by decide) (by decide)))).keep Kc66 (ninS ne_r0_b55 nin0)).ext E67) (Or.inr (slot_ne (Or.inr (hw _ (List.mem_of_getElem? (i := 23) rfl))) (Or.inr (hw _ (List.mem_of_getElem? (i := 35) rfl))) (by decide) (t := (.array .int)) (t' := (.array .int)) (by decide) (by decide)))).keep Kc78 (ninS ne_r0_b67 nin0)).ext E79) (Or.inr (slot_ne (Or.inr (hw _ (List.mem_of_getElem? (i := 23) rfl))) (Or.inr (hw _ (List.mem_of_getElem? (i := 40) rfl))) (by decide) (t := (.array .int)) (t' := (.array .int)) (by decide) (by decide)))).keep Kc90 (ninS ne_r0_b79 nin0)).ext E91) (Or.inr (slot_ne (Or.inr (hw _ (List.mem_of_getElem? (i := 23) rfl))) (Or.inr (hw _ (List.mem_of_getElem? (i := 42) rfl))) (by decide) (t := (.array .int)) (t' := (.array .double)) (by decide) (by decide))))
  have f109 := ((f96.ext E91).other W100 (Ne.symm ne_r0_b35))
  have f110 := (Fld.other W100 (((Fld.other W87 ((Fw75.keep Kc78 (ninS ne_r0_b67 nin0)).ext E79) (Or.inr (slot_ne (Or.inr (hw _ (List.mem_of_getElem? (i := 35) rfl))) (Or.inr (hw _ (List.mem_of_getElem? (i := 40) rfl))) (by decide) (t := (.array .int)) (t' := (.array .int)) (by decide) (by decide)))).keep Kc90 (ninS ne_r0_b79 nin0)).ext E91) (Or.inr (slot_ne (Or.inr (hw _ (List.mem_of_getElem? (i := 35) rfl))) (Or.inr (hw _ (List.mem_of_getElem? (i := 42) rfl))) (by decide) (t := (.array .int)) (t' := (.array .double)) (by decide) (by decide))))
  have f111 := ((f97.ext E91).other W100 (Ne.symm ne_r0_b67))
  have f112 := (Fld.other W100 ((Fw87.keep Kc90 (ninS ne_r0_b79 nin0)).ext E91) (Or.inr (slot_ne (Or.inr (hw _ (List.mem_of_getElem? (i := 40) rfl))) (Or.inr (hw _ (List.mem_of_getElem? (i := 42) rfl))) (by decide) (t := (.array .int)) (t' := (.array .double)) (by decide) (by decide))))
  have f113 := ((Ac90.ext E91).other W100 (Ne.symm ne_r0_b79))
  exact own_retV X100 hx hlk Bd.returns (Jvm.hb hby d1_117) e100 ⟨b2, b6, b12, b35, b67, b79, rfl, N100, K100, f101, sz_b2, f102, f103, sz_b6, f104, f105, sz_b12, f106, f107, sz_b35, f108, f109, sz_b67, f110, f111, sz_b79, f112, f113, ne_b2_b6, ne_b2_b12, ne_b6_b12, ne_b2_b35, ne_b6_b35, ne_b12_b35, ne_b2_b67, ne_b6_b67, ne_b12_b67, ne_b35_b67, ne_b2_b79, ne_b6_b79, ne_b12_b79, ne_b35_b79, ne_b67_b79⟩ (by decide) (by decide)
theorem own_pn_rm3_3 : plainName "java/util/Arrays" = true := by first | (simp [plainName, overriddenIn]; done) | decide +kernel
theorem own_ef_rm3_3 (m : MethodId) (r0 : Addr) (x1 : UInt64) : entryFrame m #[(.ref r0), (.double x1)] 5 = mkF m 0 #[.val (.ref r0), .val (.double x1), .second, .unset, .unset] [] := by first | (simp [entryFrame, mkF, argsToLocals, Value.category]; done) | rfl
def Q3_3 (Z : State) (r0 : Addr) (x1 : UInt64) (f : Nat → Value) (h0 : Heap) (n0 : Nat) (v : Option Value) (h : Heap) (L : List Loc) : Prop := v = none ∧ Fr n0 L ∧ Keep h0 h [r0] ∧ ∃ f', Af Z h r0 .double 3 f'
set_option maxRecDepth 65536 in
set_option maxHeartbeats 40000000 in
theorem rm3_3 (l : Launch) (Z : State) (a0 : Array Value) (hw : ∀ d ∈ tables_1, d.before a0 Z = true) (ws : List Jvm.Cond) (r0 : Addr) (x1 : UInt64) (f : Nat → Value) (h0 : Heap) (n0 : Nat) (Z0 : n0 ≤ h0.size) (A : Af Z h0 r0 .double 3 f) (g_r0 : n0 ≤ r0) :
    MetFree l (⟨"java/util/Arrays", "fill", "([DD)V"⟩ : MethodName) (head1 (Jvm.Cond.code (⟨"java/util/Arrays", "fill", "([DD)V"⟩ : MethodName) jdk_65_method_113_code 5 none :: ws) ({ frames := 0, cells := 0, slots := 0, locals := 0 } : Room)) (fun a U => a = #[(.ref r0), (.double x1)] ∧ Z.Warmed39 U.vm ∧ U.heap = h0) (fun _ _ _ _ _ => True) (fun _ U o U' => ∃ v L, o = .returned v ∧ Q3_3 Z r0 x1 f h0 n0 v U'.heap L ∧ FrameEnd U o U' L ({ frames := 0, cells := 0, slots := 0, locals := 0 } : Room).cells ({ frames := 0, cells := 0, slots := 0, locals := 0 } : Room).slots) := by
  refine MetFree.of_bodySF (plainFor_of_name own_pn_rm3_3) hisR ?_
  intro p e s m args below meth cO s₁ Bd hml0 hP hK
  obtain ⟨rfl, hZ, hh⟩ := hP
  have hx := Bd.exec
  have hby := Bd.bytes
  have hml : cO.maxLocals = 5 := hml0
  have hown : s.vm.findClass "java/util/Arrays" = some m.cls := findClass_of_methodNamed Bd.named
  have hnm := (name_of_methodNamed Bd.named Bd.method).1
  have hlk : meth.locks = false := BodyLoose.notSynchronized Bd
  have X0 : Stand p l e ({ frames := 0, cells := 0, slots := 0, locals := 0 } : Room) s m #[(.ref r0), (.double x1)] below meth cO s₁ [] 0 0 := Stand.of_body Bd
  have e0 : s₁.heap = h0 := by rw [← hh, Bd.state]; rfl
  have N0 := Fr.nil n0
  refine own_in (own_ef_rm3_3 m r0 x1) ?_
  show Gm p e below s₁ m 0 #[rv r0, .val (.double x1), .second, .unset, .unset] [] _
  refine own_go (fun t₀ k₀ => XS.iconst X0.here hx rfl (Jvm.hb hby d3_0) k₀) ?_
  show Gm p e below s₁ m 1 #[rv r0, .val (.double x1), .second, .unset, .unset] [(.int (0 : Int32))] _
  refine own_go (fun t₀ k₀ => XS.istoreN X0.here hx rfl (Jvm.hb hby d3_1) rfl (l' := #[rv r0, .val (.double x1), .second, iv (0 : Int32), .unset]) rfl k₀) ?_
  show Gm p e below s₁ m 2 #[rv r0, .val (.double x1), .second, iv (0 : Int32), .unset] [] _
  refine own_go (fun t₀ k₀ => XS.aloadN X0.here hx rfl (Jvm.hb hby d3_2) rfl rfl k₀) ?_
  show Gm p e below s₁ m 3 #[rv r0, .val (.double x1), .second, iv (0 : Int32), .unset] [(.ref r0)] _
  refine own_go (fun t₀ k₀ => own_len X0 hx hZ e0 A (z := (3 : Int32)) rfl (g := (mkF m 3 #[rv r0, .val (.double x1), .second, iv (0 : Int32), .unset] [(.ref r0)])) rfl rfl (Jvm.hb hby d3_3) k₀) ?_
  show Gm p e below s₁ m 4 #[rv r0, .val (.double x1), .second, iv (0 : Int32), .unset] [(.int (3 : Int32))] _
  refine own_go (fun t₀ k₀ => XS.istore X0.here hx rfl (Jvm.hb hby d3_4) rfl (l' := #[rv r0, .val (.double x1), .second, iv (0 : Int32), iv (3 : Int32)]) rfl k₀) ?_
  show Gm p e below s₁ m 6 #[rv r0, .val (.double x1), .second, iv (0 : Int32), iv (3 : Int32)] [] _
  refine own_go (fun t₀ k₀ => XS.iloadN X0.here hx rfl (Jvm.hb hby d3_6) rfl k₀) ?_
  show Gm p e below s₁ m 7 #[rv r0, .val (.double x1), .second, iv (0 : Int32), iv (3 : Int32)] [(.int (0 : Int32))] _
  refine own_go (fun t₀ k₀ => XS.iload X0.here hx rfl (Jvm.hb hby d3_7) rfl k₀) ?_
  show Gm p e below s₁ m 9 #[rv r0, .val (.double x1), .second, iv (0 : Int32), iv (3 : Int32)] [(.int (3 : Int32)), (.int (0 : Int32))] _
  refine own_go (fun t₀ k₀ => XS.icmpNo X0.here hx rfl (Jvm.hb hby d3_9) rfl (XT.ii_ge_f (by decide)) k₀) ?_
  show Gm p e below s₁ m 12 #[rv r0, .val (.double x1), .second, iv (0 : Int32), iv (3 : Int32)] [] _
  refine own_go (fun t₀ k₀ => XS.aloadN X0.here hx rfl (Jvm.hb hby d3_12) rfl rfl k₀) ?_
  show Gm p e below s₁ m 13 #[rv r0, .val (.double x1), .second, iv (0 : Int32), iv (3 : Int32)] [(.ref r0)] _
  refine own_go (fun t₀ k₀ => XS.iloadN X0.here hx rfl (Jvm.hb hby d3_13) rfl k₀) ?_
  show Gm p e below s₁ m 14 #[rv r0, .val (.double x1), .second, iv (0 : Int32), iv (3 : Int32)] [(.int (0 : Int32)), (.ref r0)] _
  refine own_go (fun t₀ k₀ => XS.dloadN X0.here hx rfl (Jvm.hb hby d3_14) rfl k₀) ?_
  show Gm p e below s₁ m 15 #[rv r0, .val (.double x1), .second, iv (0 : Int32), iv (3 : Int32)] [(.double x1), (.int (0 : Int32)), (.ref r0)] _
  obtain ⟨T1, h1, X1, e1, W1, A1, st1⟩ := own_stD X0 hx hZ e0 A (j := (0 : Int32)) (k := 0) (by decide) rfl (by decide) (g := (mkF m 15 #[rv r0, .val (.double x1), .second, iv (0 : Int32), iv (3 : Int32)] [(.double x1), (.int (0 : Int32)), (.ref r0)])) rfl rfl (Jvm.hb hby d3_15)
  have N1 := Fr.snoc X1 N0 g_r0
  have Z1 : n0 ≤ h1.size := W1.size ▸ Z0
  have K1 : Keep h0 h1 [r0] := Keep.wr (Keep.refl h0 [r0]) W1 (Or.inl (List.mem_of_getElem? (i := 0) rfl))
  refine own_go st1 ?_
  show Gm p e below T1 m 16 #[rv r0, .val (.double x1), .second, iv (0 : Int32), iv (3 : Int32)] [] _
  refine own_go (fun t₀ k₀ => XS.iinc X1.here hx rfl (Jvm.hb hby d3_16) rfl (l' := #[rv r0, .val (.double x1), .second, iv (1 : Int32), iv (3 : Int32)]) rfl k₀) ?_
  show Gm p e below T1 m 19 #[rv r0, .val (.double x1), .second, iv (1 : Int32), iv (3 : Int32)] [] _
  refine own_go (fun t₀ k₀ => XS.goto X1.here hx rfl (pc0 := 19) (pc' := 6) rfl (Jvm.hb hby d3_19) (by decide) (by decide) k₀) ?_
  show Gm p e below T1 m 6 #[rv r0, .val (.double x1), .second, iv (1 : Int32), iv (3 : Int32)] [] _
  refine own_go (fun t₀ k₀ => XS.iloadN X1.here hx rfl (Jvm.hb hby d3_6) rfl k₀) ?_
  show Gm p e below T1 m 7 #[rv r0, .val (.double x1), .second, iv (1 : Int32), iv (3 : Int32)] [(.int (1 : Int32))] _
  refine own_go (fun t₀ k₀ => XS.iload X1.here hx rfl (Jvm.hb hby d3_7) rfl k₀) ?_
  show Gm p e below T1 m 9 #[rv r0, .val (.double x1), .second, iv (1 : Int32), iv (3 : Int32)] [(.int (3 : Int32)), (.int (1 : Int32))] _
  refine own_go (fun t₀ k₀ => XS.icmpNo X1.here hx rfl (Jvm.hb hby d3_9) rfl (XT.ii_ge_f (by decide)) k₀) ?_
  show Gm p e below T1 m 12 #[rv r0, .val (.double x1), .second, iv (1 : Int32), iv (3 : Int32)] [] _
  refine own_go (fun t₀ k₀ => XS.aloadN X1.here hx rfl (Jvm.hb hby d3_12) rfl rfl k₀) ?_
  show Gm p e below T1 m 13 #[rv r0, .val (.double x1), .second, iv (1 : Int32), iv (3 : Int32)] [(.ref r0)] _
  refine own_go (fun t₀ k₀ => XS.iloadN X1.here hx rfl (Jvm.hb hby d3_13) rfl k₀) ?_
  show Gm p e below T1 m 14 #[rv r0, .val (.double x1), .second, iv (1 : Int32), iv (3 : Int32)] [(.int (1 : Int32)), (.ref r0)] _
  refine own_go (fun t₀ k₀ => XS.dloadN X1.here hx rfl (Jvm.hb hby d3_14) rfl k₀) ?_
  show Gm p e below T1 m 15 #[rv r0, .val (.double x1), .second, iv (1 : Int32), iv (3 : Int32)] [(.double x1), (.int (1 : Int32)), (.ref r0)] _
  obtain ⟨T2, h2, X2, e2, W2, A2, st2⟩ := own_stD X1 hx hZ e1 A1 (j := (1 : Int32)) (k := 1) (by decide) rfl (by decide) (g := (mkF m 15 #[rv r0, .val (.double x1), .second, iv (1 : Int32), iv (3 : Int32)] [(.double x1), (.int (1 : Int32)), (.ref r0)])) rfl rfl (Jvm.hb hby d3_15)
  have N2 := Fr.snoc X2 N1 g_r0
  have Z2 : n0 ≤ h2.size := W2.size ▸ Z1
  have K2 : Keep h0 h2 [r0] := Keep.wr K1 W2 (Or.inl (List.mem_of_getElem? (i := 0) rfl))
  refine own_go st2 ?_
  show Gm p e below T2 m 16 #[rv r0, .val (.double x1), .second, iv (1 : Int32), iv (3 : Int32)] [] _
  refine own_go (fun t₀ k₀ => XS.iinc X2.here hx rfl (Jvm.hb hby d3_16) rfl (l' := #[rv r0, .val (.double x1), .second, iv (2 : Int32), iv (3 : Int32)]) rfl k₀) ?_
  show Gm p e below T2 m 19 #[rv r0, .val (.double x1), .second, iv (2 : Int32), iv (3 : Int32)] [] _
  refine own_go (fun t₀ k₀ => XS.goto X2.here hx rfl (pc0 := 19) (pc' := 6) rfl (Jvm.hb hby d3_19) (by decide) (by decide) k₀) ?_
  show Gm p e below T2 m 6 #[rv r0, .val (.double x1), .second, iv (2 : Int32), iv (3 : Int32)] [] _
  refine own_go (fun t₀ k₀ => XS.iloadN X2.here hx rfl (Jvm.hb hby d3_6) rfl k₀) ?_
  show Gm p e below T2 m 7 #[rv r0, .val (.double x1), .second, iv (2 : Int32), iv (3 : Int32)] [(.int (2 : Int32))] _
  refine own_go (fun t₀ k₀ => XS.iload X2.here hx rfl (Jvm.hb hby d3_7) rfl k₀) ?_
  show Gm p e below T2 m 9 #[rv r0, .val (.double x1), .second, iv (2 : Int32), iv (3 : Int32)] [(.int (3 : Int32)), (.int (2 : Int32))] _
  refine own_go (fun t₀ k₀ => XS.icmpNo X2.here hx rfl (Jvm.hb hby d3_9) rfl (XT.ii_ge_f (by decide)) k₀) ?_
  show Gm p e below T2 m 12 #[rv r0, .val (.double x1), .second, iv (2 : Int32), iv (3 : Int32)] [] _
  refine own_go (fun t₀ k₀ => XS.aloadN X2.here hx rfl (Jvm.hb hby d3_12) rfl rfl k₀) ?_
  show Gm p e below T2 m 13 #[rv r0, .val (.double x1), .second, iv (2 : Int32), iv (3 : Int32)] [(.ref r0)] _
  refine own_go (fun t₀ k₀ => XS.iloadN X2.here hx rfl (Jvm.hb hby d3_13) rfl k₀) ?_
  show Gm p e below T2 m 14 #[rv r0, .val (.double x1), .second, iv (2 : Int32), iv (3 : Int32)] [(.int (2 : Int32)), (.ref r0)] _
  refine own_go (fun t₀ k₀ => XS.dloadN X2.here hx rfl (Jvm.hb hby d3_14) rfl k₀) ?_
  show Gm p e below T2 m 15 #[rv r0, .val (.double x1), .second, iv (2 : Int32), iv (3 : Int32)] [(.double x1), (.int (2 : Int32)), (.ref r0)] _
  obtain ⟨T3, h3, X3, e3, W3, A3, st3⟩ := own_stD X2 hx hZ e2 A2 (j := (2 : Int32)) (k := 2) (by decide) rfl (by decide) (g := (mkF m 15 #[rv r0, .val (.double x1), .second, iv (2 : Int32), iv (3 : Int32)] [(.double x1), (.int (2 : Int32)), (.ref r0)])) rfl rfl (Jvm.hb hby d3_15)
  have N3 := Fr.snoc X3 N2 g_r0
  have Z3 : n0 ≤ h3.size := W3.size ▸ Z2
  have K3 : Keep h0 h3 [r0] := Keep.wr K2 W3 (Or.inl (List.mem_of_getElem? (i := 0) rfl))
  refine own_go st3 ?_
  show Gm p e below T3 m 16 #[rv r0, .val (.double x1), .second, iv (2 : Int32), iv (3 : Int32)] [] _
  refine own_go (fun t₀ k₀ => XS.iinc X3.here hx rfl (Jvm.hb hby d3_16) rfl (l' := #[rv r0, .val (.double x1), .second, iv (3 : Int32), iv (3 : Int32)]) rfl k₀) ?_
  show Gm p e below T3 m 19 #[rv r0, .val (.double x1), .second, iv (3 : Int32), iv (3 : Int32)] [] _
  refine own_go (fun t₀ k₀ => XS.goto X3.here hx rfl (pc0 := 19) (pc' := 6) rfl (Jvm.hb hby d3_19) (by decide) (by decide) k₀) ?_
  show Gm p e below T3 m 6 #[rv r0, .val (.double x1), .second, iv (3 : Int32), iv (3 : Int32)] [] _
  refine own_go (fun t₀ k₀ => XS.iloadN X3.here hx rfl (Jvm.hb hby d3_6) rfl k₀) ?_
  show Gm p e below T3 m 7 #[rv r0, .val (.double x1), .second, iv (3 : Int32), iv (3 : Int32)] [(.int (3 : Int32))] _
  refine own_go (fun t₀ k₀ => XS.iload X3.here hx rfl (Jvm.hb hby d3_7) rfl k₀) ?_
  show Gm p e below T3 m 9 #[rv r0, .val (.double x1), .second, iv (3 : Int32), iv (3 : Int32)] [(.int (3 : Int32)), (.int (3 : Int32))] _
  refine own_go (fun t₀ k₀ => XS.icmpYes X3.here hx rfl (pc0 := 9) (pc' := 22) rfl (Jvm.hb hby d3_9) rfl (XT.ii_ge_t (by decide)) (by decide) (by decide) k₀) ?_
  show Gm p e below T3 m 22 #[rv r0, .val (.double x1), .second, iv (3 : Int32), iv (3 : Int32)] [] _
  exact own_retV X3 hx hlk Bd.returns (Jvm.hb hby d3_22) e3 ⟨rfl, N3, K3, _, A3⟩ (by decide) (by decide)
theorem own_pn_rm4_3 : plainName "java/util/Arrays" = true := by first | (simp [plainName, overriddenIn]; done) | decide +kernel
theorem own_ef_rm4_3 (m : MethodId) (r0 : Addr) (p1 : Int32) : entryFrame m #[(.ref r0), (.int p1)] 4 = mkF m 0 #[.val (.ref r0), .val (.int p1), .unset, .unset] [] := by first | (simp [entryFrame, mkF, argsToLocals, Value.category]; done) | rfl
def Q4_3 (Z : State) (r0 : Addr) (p1 : Int32) (f : Nat → Value) (h0 : Heap) (n0 : Nat) (v : Option Value) (h : Heap) (L : List Loc) : Prop := v = none ∧ Fr n0 L ∧ Keep h0 h [r0] ∧ Af Z h r0 .int 3 (fun _ => .int p1)
set_option maxRecDepth 65536 in
set_option maxHeartbeats 40000000 in
theorem rm4_3 (l : Launch) (Z : State) (a0 : Array Value) (hw : ∀ d ∈ tables_1, d.before a0 Z = true) (ws : List Jvm.Cond) (r0 : Addr) (p1 : Int32) (f : Nat → Value) (h0 : Heap) (n0 : Nat) (Z0 : n0 ≤ h0.size) (A : Af Z h0 r0 .int 3 f) (g_r0 : n0 ≤ r0) :
    MetFree l (⟨"java/util/Arrays", "fill", "([II)V"⟩ : MethodName) (head1 (Jvm.Cond.code (⟨"java/util/Arrays", "fill", "([II)V"⟩ : MethodName) jdk_65_method_103_code 4 none :: ws) ({ frames := 0, cells := 0, slots := 0, locals := 0 } : Room)) (fun a U => a = #[(.ref r0), (.int p1)] ∧ Z.Warmed39 U.vm ∧ U.heap = h0) (fun _ _ _ _ _ => True) (fun _ U o U' => ∃ v L, o = .returned v ∧ Q4_3 Z r0 p1 f h0 n0 v U'.heap L ∧ FrameEnd U o U' L ({ frames := 0, cells := 0, slots := 0, locals := 0 } : Room).cells ({ frames := 0, cells := 0, slots := 0, locals := 0 } : Room).slots) := by
  refine MetFree.of_bodySF (plainFor_of_name own_pn_rm4_3) hisR ?_
  intro p e s m args below meth cO s₁ Bd hml0 hP hK
  obtain ⟨rfl, hZ, hh⟩ := hP
  have hx := Bd.exec
  have hby := Bd.bytes
  have hml : cO.maxLocals = 4 := hml0
  have hown : s.vm.findClass "java/util/Arrays" = some m.cls := findClass_of_methodNamed Bd.named
  have hnm := (name_of_methodNamed Bd.named Bd.method).1
  have hlk : meth.locks = false := BodyLoose.notSynchronized Bd
  have X0 : Stand p l e ({ frames := 0, cells := 0, slots := 0, locals := 0 } : Room) s m #[(.ref r0), (.int p1)] below meth cO s₁ [] 0 0 := Stand.of_body Bd
  have e0 : s₁.heap = h0 := by rw [← hh, Bd.state]; rfl
  have N0 := Fr.nil n0
  refine own_in (own_ef_rm4_3 m r0 p1) ?_
  show Gm p e below s₁ m 0 #[rv r0, iv p1, .unset, .unset] [] _
  refine own_go (fun t₀ k₀ => XS.iconst X0.here hx rfl (Jvm.hb hby d4_0) k₀) ?_
  show Gm p e below s₁ m 1 #[rv r0, iv p1, .unset, .unset] [(.int (0 : Int32))] _
  refine own_go (fun t₀ k₀ => XS.istoreN X0.here hx rfl (Jvm.hb hby d4_1) rfl (l' := #[rv r0, iv p1, iv (0 : Int32), .unset]) rfl k₀) ?_
  show Gm p e below s₁ m 2 #[rv r0, iv p1, iv (0 : Int32), .unset] [] _
  refine own_go (fun t₀ k₀ => XS.aloadN X0.here hx rfl (Jvm.hb hby d4_2) rfl rfl k₀) ?_
  show Gm p e below s₁ m 3 #[rv r0, iv p1, iv (0 : Int32), .unset] [(.ref r0)] _
  refine own_go (fun t₀ k₀ => own_len X0 hx hZ e0 A (z := (3 : Int32)) rfl (g := (mkF m 3 #[rv r0, iv p1, iv (0 : Int32), .unset] [(.ref r0)])) rfl rfl (Jvm.hb hby d4_3) k₀) ?_
  show Gm p e below s₁ m 4 #[rv r0, iv p1, iv (0 : Int32), .unset] [(.int (3 : Int32))] _
  refine own_go (fun t₀ k₀ => XS.istoreN X0.here hx rfl (Jvm.hb hby d4_4) rfl (l' := #[rv r0, iv p1, iv (0 : Int32), iv (3 : Int32)]) rfl k₀) ?_
  show Gm p e below s₁ m 5 #[rv r0, iv p1, iv (0 : Int32), iv (3 : Int32)] [] _
  refine own_go (fun t₀ k₀ => XS.iloadN X0.here hx rfl (Jvm.hb hby d4_5) rfl k₀) ?_
  show Gm p e below s₁ m 6 #[rv r0, iv p1, iv (0 : Int32), iv (3 : Int32)] [(.int (0 : Int32))] _
  refine own_go (fun t₀ k₀ => XS.iloadN X0.here hx rfl (Jvm.hb hby d4_6) rfl k₀) ?_
  show Gm p e below s₁ m 7 #[rv r0, iv p1, iv (0 : Int32), iv (3 : Int32)] [(.int (3 : Int32)), (.int (0 : Int32))] _
  refine own_go (fun t₀ k₀ => XS.icmpNo X0.here hx rfl (Jvm.hb hby d4_7) rfl (XT.ii_ge_f (by decide)) k₀) ?_
  show Gm p e below s₁ m 10 #[rv r0, iv p1, iv (0 : Int32), iv (3 : Int32)] [] _
  refine own_go (fun t₀ k₀ => XS.aloadN X0.here hx rfl (Jvm.hb hby d4_10) rfl rfl k₀) ?_
  show Gm p e below s₁ m 11 #[rv r0, iv p1, iv (0 : Int32), iv (3 : Int32)] [(.ref r0)] _
  refine own_go (fun t₀ k₀ => XS.iloadN X0.here hx rfl (Jvm.hb hby d4_11) rfl k₀) ?_
  show Gm p e below s₁ m 12 #[rv r0, iv p1, iv (0 : Int32), iv (3 : Int32)] [(.int (0 : Int32)), (.ref r0)] _
  refine own_go (fun t₀ k₀ => XS.iloadN X0.here hx rfl (Jvm.hb hby d4_12) rfl k₀) ?_
  show Gm p e below s₁ m 13 #[rv r0, iv p1, iv (0 : Int32), iv (3 : Int32)] [(.int p1), (.int (0 : Int32)), (.ref r0)] _
  obtain ⟨T1, h1, X1, e1, W1, A1, st1⟩ := own_stI X0 hx hZ e0 A (j := (0 : Int32)) (k := 0) (by decide) rfl (by decide) (g := (mkF m 13 #[rv r0, iv p1, iv (0 : Int32), iv (3 : Int32)] [(.int p1), (.int (0 : Int32)), (.ref r0)])) rfl rfl (Jvm.hb hby d4_13)
  have N1 := Fr.snoc X1 N0 g_r0
  have Z1 : n0 ≤ h1.size := W1.size ▸ Z0
  have K1 : Keep h0 h1 [r0] := Keep.wr (Keep.refl h0 [r0]) W1 (Or.inl (List.mem_of_getElem? (i := 0) rfl))
  refine own_go st1 ?_
  show Gm p e below T1 m 14 #[rv r0, iv p1, iv (0 : Int32), iv (3 : Int32)] [] _
  refine own_go (fun t₀ k₀ => XS.iinc X1.here hx rfl (Jvm.hb hby d4_14) rfl (l' := #[rv r0, iv p1, iv (1 : Int32), iv (3 : Int32)]) rfl k₀) ?_
  show Gm p e below T1 m 17 #[rv r0, iv p1, iv (1 : Int32), iv (3 : Int32)] [] _
  refine own_go (fun t₀ k₀ => XS.goto X1.here hx rfl (pc0 := 17) (pc' := 5) rfl (Jvm.hb hby d4_17) (by decide) (by decide) k₀) ?_
  show Gm p e below T1 m 5 #[rv r0, iv p1, iv (1 : Int32), iv (3 : Int32)] [] _
  refine own_go (fun t₀ k₀ => XS.iloadN X1.here hx rfl (Jvm.hb hby d4_5) rfl k₀) ?_
  show Gm p e below T1 m 6 #[rv r0, iv p1, iv (1 : Int32), iv (3 : Int32)] [(.int (1 : Int32))] _
  refine own_go (fun t₀ k₀ => XS.iloadN X1.here hx rfl (Jvm.hb hby d4_6) rfl k₀) ?_
  show Gm p e below T1 m 7 #[rv r0, iv p1, iv (1 : Int32), iv (3 : Int32)] [(.int (3 : Int32)), (.int (1 : Int32))] _
  refine own_go (fun t₀ k₀ => XS.icmpNo X1.here hx rfl (Jvm.hb hby d4_7) rfl (XT.ii_ge_f (by decide)) k₀) ?_
  show Gm p e below T1 m 10 #[rv r0, iv p1, iv (1 : Int32), iv (3 : Int32)] [] _
  refine own_go (fun t₀ k₀ => XS.aloadN X1.here hx rfl (Jvm.hb hby d4_10) rfl rfl k₀) ?_
  show Gm p e below T1 m 11 #[rv r0, iv p1, iv (1 : Int32), iv (3 : Int32)] [(.ref r0)] _
  refine own_go (fun t₀ k₀ => XS.iloadN X1.here hx rfl (Jvm.hb hby d4_11) rfl k₀) ?_
  show Gm p e below T1 m 12 #[rv r0, iv p1, iv (1 : Int32), iv (3 : Int32)] [(.int (1 : Int32)), (.ref r0)] _
  refine own_go (fun t₀ k₀ => XS.iloadN X1.here hx rfl (Jvm.hb hby d4_12) rfl k₀) ?_
  show Gm p e below T1 m 13 #[rv r0, iv p1, iv (1 : Int32), iv (3 : Int32)] [(.int p1), (.int (1 : Int32)), (.ref r0)] _
  obtain ⟨T2, h2, X2, e2, W2, A2, st2⟩ := own_stI X1 hx hZ e1 A1 (j := (1 : Int32)) (k := 1) (by decide) rfl (by decide) (g := (mkF m 13 #[rv r0, iv p1, iv (1 : Int32), iv (3 : Int32)] [(.int p1), (.int (1 : Int32)), (.ref r0)])) rfl rfl (Jvm.hb hby d4_13)
  have N2 := Fr.snoc X2 N1 g_r0
  have Z2 : n0 ≤ h2.size := W2.size ▸ Z1
  have K2 : Keep h0 h2 [r0] := Keep.wr K1 W2 (Or.inl (List.mem_of_getElem? (i := 0) rfl))
  refine own_go st2 ?_
  show Gm p e below T2 m 14 #[rv r0, iv p1, iv (1 : Int32), iv (3 : Int32)] [] _
  refine own_go (fun t₀ k₀ => XS.iinc X2.here hx rfl (Jvm.hb hby d4_14) rfl (l' := #[rv r0, iv p1, iv (2 : Int32), iv (3 : Int32)]) rfl k₀) ?_
  show Gm p e below T2 m 17 #[rv r0, iv p1, iv (2 : Int32), iv (3 : Int32)] [] _
  refine own_go (fun t₀ k₀ => XS.goto X2.here hx rfl (pc0 := 17) (pc' := 5) rfl (Jvm.hb hby d4_17) (by decide) (by decide) k₀) ?_
  show Gm p e below T2 m 5 #[rv r0, iv p1, iv (2 : Int32), iv (3 : Int32)] [] _
  refine own_go (fun t₀ k₀ => XS.iloadN X2.here hx rfl (Jvm.hb hby d4_5) rfl k₀) ?_
  show Gm p e below T2 m 6 #[rv r0, iv p1, iv (2 : Int32), iv (3 : Int32)] [(.int (2 : Int32))] _
  refine own_go (fun t₀ k₀ => XS.iloadN X2.here hx rfl (Jvm.hb hby d4_6) rfl k₀) ?_
  show Gm p e below T2 m 7 #[rv r0, iv p1, iv (2 : Int32), iv (3 : Int32)] [(.int (3 : Int32)), (.int (2 : Int32))] _
  refine own_go (fun t₀ k₀ => XS.icmpNo X2.here hx rfl (Jvm.hb hby d4_7) rfl (XT.ii_ge_f (by decide)) k₀) ?_
  show Gm p e below T2 m 10 #[rv r0, iv p1, iv (2 : Int32), iv (3 : Int32)] [] _
  refine own_go (fun t₀ k₀ => XS.aloadN X2.here hx rfl (Jvm.hb hby d4_10) rfl rfl k₀) ?_
  show Gm p e below T2 m 11 #[rv r0, iv p1, iv (2 : Int32), iv (3 : Int32)] [(.ref r0)] _
  refine own_go (fun t₀ k₀ => XS.iloadN X2.here hx rfl (Jvm.hb hby d4_11) rfl k₀) ?_
  show Gm p e below T2 m 12 #[rv r0, iv p1, iv (2 : Int32), iv (3 : Int32)] [(.int (2 : Int32)), (.ref r0)] _
  refine own_go (fun t₀ k₀ => XS.iloadN X2.here hx rfl (Jvm.hb hby d4_12) rfl k₀) ?_
  show Gm p e below T2 m 13 #[rv r0, iv p1, iv (2 : Int32), iv (3 : Int32)] [(.int p1), (.int (2 : Int32)), (.ref r0)] _
  obtain ⟨T3, h3, X3, e3, W3, A3, st3⟩ := own_stI X2 hx hZ e2 A2 (j := (2 : Int32)) (k := 2) (by decide) rfl (by decide) (g := (mkF m 13 #[rv r0, iv p1, iv (2 : Int32), iv (3 : Int32)] [(.int p1), (.int (2 : Int32)), (.ref r0)])) rfl rfl (Jvm.hb hby d4_13)
  have N3 := Fr.snoc X3 N2 g_r0
  have Z3 : n0 ≤ h3.size := W3.size ▸ Z2
  have K3 : Keep h0 h3 [r0] := Keep.wr K2 W3 (Or.inl (List.mem_of_getElem? (i := 0) rfl))
  refine own_go st3 ?_
  show Gm p e below T3 m 14 #[rv r0, iv p1, iv (2 : Int32), iv (3 : Int32)] [] _
  refine own_go (fun t₀ k₀ => XS.iinc X3.here hx rfl (Jvm.hb hby d4_14) rfl (l' := #[rv r0, iv p1, iv (3 : Int32), iv (3 : Int32)]) rfl k₀) ?_
  show Gm p e below T3 m 17 #[rv r0, iv p1, iv (3 : Int32), iv (3 : Int32)] [] _
  refine own_go (fun t₀ k₀ => XS.goto X3.here hx rfl (pc0 := 17) (pc' := 5) rfl (Jvm.hb hby d4_17) (by decide) (by decide) k₀) ?_
  show Gm p e below T3 m 5 #[rv r0, iv p1, iv (3 : Int32), iv (3 : Int32)] [] _
  refine own_go (fun t₀ k₀ => XS.iloadN X3.here hx rfl (Jvm.hb hby d4_5) rfl k₀) ?_
  show Gm p e below T3 m 6 #[rv r0, iv p1, iv (3 : Int32), iv (3 : Int32)] [(.int (3 : Int32))] _
  refine own_go (fun t₀ k₀ => XS.iloadN X3.here hx rfl (Jvm.hb hby d4_6) rfl k₀) ?_
  show Gm p e below T3 m 7 #[rv r0, iv p1, iv (3 : Int32), iv (3 : Int32)] [(.int (3 : Int32)), (.int (3 : Int32))] _
  refine own_go (fun t₀ k₀ => XS.icmpYes X3.here hx rfl (pc0 := 7) (pc' := 20) rfl (Jvm.hb hby d4_7) rfl (XT.ii_ge_t (by decide)) (by decide) (by decide) k₀) ?_
  show Gm p e below T3 m 20 #[rv r0, iv p1, iv (3 : Int32), iv (3 : Int32)] [] _
  exact own_retV X3 hx hlk Bd.returns (Jvm.hb hby d4_20) e3 ⟨rfl, N3, K3, (Af.congr A3 (fun i hi => by
      rcases (by omega : i = 0 ∨ i = 1 ∨ i = 2) with rfl | rfl | rfl <;> rfl))⟩ (by decide) (by decide)
theorem own_pn_rm1_3 : plainName "com/example/throughfare/throughfare/simulation/Walkers" = true := by first | (simp [plainName, overriddenIn]; done) | decide +kernel
theorem own_ef_rm1_3 (m : MethodId) (r0 : Addr) : entryFrame m #[(.ref r0), (.int (3 : Int32))] 2 = mkF m 0 #[.val (.ref r0), .val (.int (3 : Int32))] [] := by first | (simp [entryFrame, mkF, argsToLocals, Value.category]; done) | rfl
def Q1_3 (Z : State) (r0 : Addr) (h0 : Heap) (n0 : Nat) (v : Option Value) (h : Heap) (L : List Loc) : Prop := ∃ c_floor c_startCell c_cell c_heading c_leaving c_exit : Addr, v = none ∧ Fr n0 L ∧ Keep h0 h [r0] ∧ Exa Z h r0 "com/example/throughfare/throughfare/simulation/Walkers" ∧ h0.size ≤ c_floor ∧ Fld Z h r0 "com/example/throughfare/throughfare/simulation/Walkers" "floor" "[I" (.ref c_floor) ∧ Af Z h c_floor .int 3 (fun _ => defaultValue .int) ∧ h0.size ≤ c_startCell ∧ Fld Z h r0 "com/example/throughfare/throughfare/simulation/Walkers" "startCell" "[I" (.ref c_startCell) ∧ Af Z h c_startCell .int 3 (fun _ => defaultValue .int) ∧ h0.size ≤ c_cell ∧ Fld Z h r0 "com/example/throughfare/throughfare/simulation/Walkers" "cell" "[I" (.ref c_cell) ∧ Af Z h c_cell .int 3 (fun _ => defaultValue .int) ∧ h0.size ≤ c_heading ∧ Fld Z h r0 "com/example/throughfare/throughfare/simulation/Walkers" "heading" "[I" (.ref c_heading) ∧ Af Z h c_heading .int 3 (fun _ => defaultValue .int) ∧ h0.size ≤ c_leaving ∧ Fld Z h r0 "com/example/throughfare/throughfare/simulation/Walkers" "leaving" "[I" (.ref c_leaving) ∧ Af Z h c_leaving .int 3 (fun _ => (.int (-1 : Int32))) ∧ h0.size ≤ c_exit ∧ Fld Z h r0 "com/example/throughfare/throughfare/simulation/Walkers" "exit" "[I" (.ref c_exit) ∧ Af Z h c_exit .int 3 (fun _ => (.int (-1 : Int32))) ∧ c_floor ≠ c_startCell ∧ c_floor ≠ c_cell ∧ c_startCell ≠ c_cell ∧ c_floor ≠ c_heading ∧ c_startCell ≠ c_heading ∧ c_cell ≠ c_heading ∧ c_floor ≠ c_leaving ∧ c_startCell ≠ c_leaving ∧ c_cell ≠ c_leaving ∧ c_heading ≠ c_leaving ∧ c_floor ≠ c_exit ∧ c_startCell ≠ c_exit ∧ c_cell ≠ c_exit ∧ c_heading ≠ c_exit ∧ c_leaving ≠ c_exit
set_option maxRecDepth 65536 in
set_option maxHeartbeats 40000000 in
theorem rm1_3 (l : Launch) (Z : State) (a0 : Array Value) (hw : ∀ d ∈ tables_1, d.before a0 Z = true) (ws : List Jvm.Cond) (r0 : Addr) (h0 : Heap) (n0 : Nat) (Z0 : n0 ≤ h0.size) (E_r0 : Exa Z h0 r0 "com/example/throughfare/throughfare/simulation/Walkers") (F_floor : Fld Z h0 r0 "com/example/throughfare/throughfare/simulation/Walkers" "floor" "[I" .null) (F_startCell : Fld Z h0 r0 "com/example/throughfare/throughfare/simulation/Walkers" "startCell" "[I" .null) (F_cell : Fld Z h0 r0 "com/example/throughfare/throughfare/simulation/Walkers" "cell" "[I" .null) (F_speedMps : Fld Z h0 r0 "com/example/throughfare/throughfare/simulation/Walkers" "speedMps" "[D" .null) (F_reactionS : Fld Z h0 r0 "com/example/throughfare/throughfare/simulation/Walkers" "reactionS" "[D" .null) (F_heading : Fld Z h0 r0 "com/example/throughfare/throughfare/simulation/Walkers" "heading" "[I" .null) (F_heldUpS : Fld Z h0 r0 "com/example/throughfare/throughfare/simulation/Walkers" "heldUpS" "[D" .null) (F_exitTimeS : Fld Z h0 r0 "com/example/throughfare/throughfare/simulation/Walkers" "exitTimeS" "[D" .null) (F_leaving : Fld Z h0 r0 "com/example/throughfare/throughfare/simulation/Walkers" "leaving" "[I" .null) (F_exit : Fld Z h0 r0 "com/example/throughfare/throughfare/simulation/Walkers" "exit" "[I" .null) (F_distanceM : Fld Z h0 r0 "com/example/throughfare/throughfare/simulation/Walkers" "distanceM" "[D" .null) (g_r0 : n0 ≤ r0) :
    MetFree l (⟨"com/example/throughfare/throughfare/simulation/Walkers", "<init>", "(I)V"⟩ : MethodName) (head1 (Jvm.Cond.code (⟨"com/example/throughfare/throughfare/simulation/Walkers", "<init>", "(I)V"⟩ : MethodName) prog_63_method_1_code 2 none :: ws) ({ frames := 1, cells := 11, slots := 33, locals := 20 } : Room)) (fun a U => a = #[(.ref r0), (.int (3 : Int32))] ∧ Z.Warmed39 U.vm ∧ U.heap = h0) (fun _ _ _ _ _ => True) (fun _ U o U' => ∃ v L, o = .returned v ∧ Q1_3 Z r0 h0 n0 v U'.heap L ∧ FrameEnd U o U' L ({ frames := 1, cells := 11, slots := 33, locals := 20 } : Room).cells ({ frames := 1, cells := 11, slots := 33, locals := 20 } : Room).slots) := by
  refine MetFree.of_bodySF (plainFor_of_name own_pn_rm1_3) hisR ?_
  intro p e s m args below meth cO s₁ Bd hml0 hP hK
  obtain ⟨rfl, hZ, hh⟩ := hP
  have hx := Bd.exec
  have hby := Bd.bytes
  have hml : cO.maxLocals = 2 := hml0
  have hown : s.vm.findClass "com/example/throughfare/throughfare/simulation/Walkers" = some m.cls := findClass_of_methodNamed Bd.named
  have hnm := (name_of_methodNamed Bd.named Bd.method).1
  have hlk : meth.locks = false := BodyLoose.notSynchronized Bd
  have X0 : Stand p l e ({ frames := 1, cells := 11, slots := 33, locals := 20 } : Room) s m #[(.ref r0), (.int (3 : Int32))] below meth cO s₁ [] 0 0 := Stand.of_body Bd
  have e0 : s₁.heap = h0 := by rw [← hh, Bd.state]; rfl
  have N0 := Fr.nil n0
  refine own_in (own_ef_rm1_3 m r0) ?_
  show Gm p e below s₁ m 0 #[rv r0, iv (3 : Int32)] [] _
  refine own_go (fun t₀ k₀ => XS.aloadN X0.here hx rfl (Jvm.hb hby d1_0) rfl rfl k₀) ?_
  show Gm p e below s₁ m 1 #[rv r0, iv (3 : Int32)] [(.ref r0)] _
  obtain ⟨T1, X1, e1, st1⟩ := initO X0 hx hZ hown (hw _ (List.mem_of_getElem? (i := 7) rfl)) (hw _ (List.mem_of_getElem? (i := 8) rfl)) (hw _ (List.mem_of_getElem? (i := 9) rfl)) e0 (g := (mkF m 1 #[rv r0, iv (3 : Int32)] [(.ref r0)])) rfl (by rw [hml]; rfl) rfl (Jvm.hb hby d1_1) (by decide) (W := 0) (by show 2 * 0 + _ ≤ _; exact Nat.le_of_eq rfl) (by decide)
  refine own_go st1 ?_
  show Gm p e below T1 m 4 #[rv r0, iv (3 : Int32)] [] _
  refine own_go (fun t₀ k₀ => XS.aloadN X1.here hx rfl (Jvm.hb hby d1_4) rfl rfl k₀) ?_
  show Gm p e below T1 m 5 #[rv r0, iv (3 : Int32)] [(.ref r0)] _
  refine own_go (fun t₀ k₀ => XS.iloadN X1.here hx rfl (Jvm.hb hby d1_5) rfl k₀) ?_
  show Gm p e below T1 m 6 #[rv r0, iv (3 : Int32)] [(.int (3 : Int32)), (.ref r0)] _
  obtain ⟨T2, h2, k2, X2, e2, E2, A2, st2⟩ := newP X1 hx hZ (hw _ (List.mem_of_getElem? (i := 10) rfl)) e1 (g := (mkF m 6 #[rv r0, iv (3 : Int32)] [(.int (3 : Int32)), (.ref r0)])) rfl (Jvm.hb hby d1_6) rfl (by decide) (cap := 3) (by decide) (by decide) (by decide) (by decide)
  obtain ⟨b2, g2⟩ : ∃ z, z = h0.size := ⟨_, rfl⟩
  rw [← g2] at A2 st2
  have g_b2 : n0 ≤ b2 := Nat.le_trans Z0 (Nat.le_of_eq g2.symm)
  have ne_r0_b2 : r0 ≠ b2 := Nat.ne_of_lt (Nat.lt_of_lt_of_le E_r0.lt (Nat.le_of_eq g2.symm))
  have sz_b2 : h0.size ≤ b2 := Nat.le_trans (Keep.refl h0 [r0]).1 (Nat.le_of_eq g2.symm)
  have K2 : Keep h0 h2 [r0] := Keep.ext (Keep.refl h0 [r0]) E2
  have Z2 : n0 ≤ h2.size := Nat.le_trans Z0 E2.1
  have V2 : Af Z h2 b2 .int 3 (fun _ => defaultValue .int) := Af.new A2 (by decide) rfl rfl
  refine own_go st2 ?_
  show Gm p e below T2 m 8 #[rv r0, iv (3 : Int32)] [(.ref b2), (.ref r0)] _
  have f3 := (E_r0.ext E2)
  have f4 := (F_floor.ext E2)
  obtain ⟨T5, h5, X5, e5, W5, st5⟩ := putF X2 hx hZ hown (host := "") (Or.inl (hw _ (List.mem_of_getElem? (i := 11) rfl))) Via.refl e2 f4 f3 (Or.inr ⟨(hw _ (List.mem_of_getElem? (i := 12) rfl)), rfl, hnm⟩) (hw _ (List.mem_of_getElem? (i := 2) rfl)) (ty := (.array .int)) (by decide) rfl rfl (g := (mkF m 8 #[rv r0, iv (3 : Int32)] [(.ref b2), (.ref r0)])) rfl rfl (Jvm.hb hby d1_8)
  have Fw5 := Fld.same W5 f4
  have N5 := Fr.snoc X5 N0 g_r0
  have Z5 : n0 ≤ h5.size := W5.size ▸ Z2
  have K5 : Keep h0 h5 [r0] := Keep.wr K2 W5 (Or.inl (List.mem_of_getElem? (i := 0) rfl))
  refine own_go st5 ?_
  show Gm p e below T5 m 11 #[rv r0, iv (3 : Int32)] [] _
  refine own_go (fun t₀ k₀ => XS.aloadN X5.here hx rfl (Jvm.hb hby d1_11) rfl rfl k₀) ?_
  show Gm p e below T5 m 12 #[rv r0, iv (3 : Int32)] [(.ref r0)] _
  refine own_go (fun t₀ k₀ => XS.iloadN X5.here hx rfl (Jvm.hb hby d1_12) rfl k₀) ?_
  show Gm p e below T5 m 13 #[rv r0, iv (3 : Int32)] [(.int (3 : Int32)), (.ref r0)] _
  obtain ⟨T6, h6, k6, X6, e6, E6, A6, st6⟩ := newP X5 hx hZ (hw _ (List.mem_of_getElem? (i := 10) rfl)) e5 (g := (mkF m 13 #[rv r0, iv (3 : Int32)] [(.int (3 : Int32)), (.ref r0)])) rfl (Jvm.hb hby d1_13) rfl (by decide) (cap := 3) (by decide) (by decide) (by decide) (by decide)
  obtain ⟨b6, g6⟩ : ∃ z, z = h5.size := ⟨_, rfl⟩
  rw [← g6] at A6 st6
  have g_b6 : n0 ≤ b6 := Nat.le_trans Z5 (Nat.le_of_eq g6.symm)
  have f7 := (f3.wr W5)
  have ne_r0_b6 : r0 ≠ b6 := Nat.ne_of_lt (Nat.lt_of_lt_of_le f7.lt (Nat.le_of_eq g6.symm))
  have f8 := (V2.other W5 (Ne.symm ne_r0_b2))
  have ne_b2_b6 : b2 ≠ b6 := Nat.ne_of_lt (Nat.lt_of_lt_of_le f8.lt (Nat.le_of_eq g6.symm))
  have sz_b6 : h0.size ≤ b6 := Nat.le_trans K5.1 (Nat.le_of_eq g6.symm)
  have K6 : Keep h0 h6 [r0] := Keep.ext K5 E6
  have Z6 : n0 ≤ h6.size := Nat.le_trans Z5 E6.1
  have V6 : Af Z h6 b6 .int 3 (fun _ => defaultValue .int) := Af.new A6 (by decide) rfl rfl
  refine own_go st6 ?_
  show Gm p e below T6 m 15 #[rv r0, iv (3 : Int32)] [(.ref b6), (.ref r0)] _
  have f9 := (f7.ext E6)
  have f10 := ((Fld.other W5 (F_startCell.ext E2) (Or.inr (slot_ne (Or.inr (hw _ (List.mem_of_getElem? (i := 14) rfl))) (Or.inr (hw _ (List.mem_of_getElem? (i := 12) rfl))) (by decide) (t := (.array .int)) (t' := (.array .int)) (by decide) (by decide)))).ext E6)
  obtain ⟨T11, h11, X11, e11, W11, st11⟩ := putF X6 hx hZ hown (host := "") (Or.inl (hw _ (List.mem_of_getElem? (i := 13) rfl))) Via.refl e6 f10 f9 (Or.inr ⟨(hw _ (List.mem_of_getElem? (i := 14) rfl)), rfl, hnm⟩) (hw _ (List.mem_of_getElem? (i := 2) rfl)) (ty := (.array .int)) (by decide) rfl rfl (g := (mkF m 15 #[rv r0, iv (3 : Int32)] [(.ref b6), (.ref r0)])) rfl rfl (Jvm.hb hby d1_15)
  have Fw11 := Fld.same W11 f10
  have N11 := Fr.snoc X11 N5 g_r0
  have Z11 : n0 ≤ h11.size := W11.size ▸ Z6
  have K11 : Keep h0 h11 [r0] := Keep.wr K6 W11 (Or.inl (List.mem_of_getElem? (i := 0) rfl))
  refine own_go st11 ?_
  show Gm p e below T11 m 18 #[rv r0, iv (3 : Int32)] [] _
  refine own_go (fun t₀ k₀ => XS.aloadN X11.here hx rfl (Jvm.hb hby d1_18) rfl rfl k₀) ?_
  show Gm p e below T11 m 19 #[rv r0, iv (3 : Int32)] [(.ref r0)] _
  refine own_go (fun t₀ k₀ => XS.iloadN X11.here hx rfl (Jvm.hb hby d1_19) rfl k₀) ?_
  show Gm p e below T11 m 20 #[rv r0, iv (3 : Int32)] [(.int (3 : Int32)), (.ref r0)] _
  obtain ⟨T12, h12, k12, X12, e12, E12, A12, st12⟩ := newP X11 hx hZ (hw _ (List.mem_of_getElem? (i := 10) rfl)) e11 (g := (mkF m 20 #[rv r0, iv (3 : Int32)] [(.int (3 : Int32)), (.ref r0)])) rfl (Jvm.hb hby d1_20) rfl (by decide) (cap := 3) (by decide) (by decide) (by decide) (by decide)
  obtain ⟨b12, g12⟩ : ∃ z, z = h11.size := ⟨_, rfl⟩
  rw [← g12] at A12 st12
  have g_b12 : n0 ≤ b12 := Nat.le_trans Z11 (Nat.le_of_eq g12.symm)
  have f13 := (f9.wr W11)
  have ne_r0_b12 : r0 ≠ b12 := Nat.ne_of_lt (Nat.lt_of_lt_of_le f13.lt (Nat.le_of_eq g12.symm))
  have f14 := ((f8.ext E6).other W11 (Ne.symm ne_r0_b2))
  have ne_b2_b12 : b2 ≠ b12 := Nat.ne_of_lt (Nat.lt_of_lt_of_le f14.lt (Nat.le_of_eq g12.symm))
  have f15 := (V6.other W11 (Ne.symm ne_r0_b6))
  have ne_b6_b12 : b6 ≠ b12 := Nat.ne_of_lt (Nat.lt_of_lt_of_le f15.lt (Nat.le_of_eq g12.symm))
  have sz_b12 : h0.size ≤ b12 := Nat.le_trans K11.1 (Nat.le_of_eq g12.symm)
  have K12 : Keep h0 h12 [r0] := Keep.ext K11 E12
  have Z12 : n0 ≤ h12.size := Nat.le_trans Z11 E12.1
  have V12 : Af Z h12 b12 .int 3 (fun _ => defaultValue .int) := Af.new A12 (by decide) rfl rfl
  refine own_go st12 ?_
  show Gm p e below T12 m 22 #[rv r0, iv (3 : Int32)] [(.ref b12), (.ref r0)] _
  have f16 := (f13.ext E12)
  have f17 := ((Fld.other W11 ((Fld.other W5 (F_cell.ext E2) (Or.inr (slot_ne (Or.inr (hw _ (List.mem_of_getElem? (i := 16) rfl))) (Or.inr (hw _ (List.mem_of_getElem? (i := 12) rfl))) (by decide) (t := (.array .int)) (t' := (.array .int)) (by decide) (by decide)))).ext E6) (Or.inr (slot_ne (Or.inr (hw _ (List.mem_of_getElem? (i := 16) rfl))) (Or.inr (hw _ (List.mem_of_getElem? (i := 14) rfl))) (by decide) (t := (.array .int)) (t' := (.array .int)) (by decide) (by decide)))).ext E12)
  obtain ⟨T18, h18, X18, e18, W18, st18⟩ := putF X12 hx hZ hown (host := "") (Or.inl (hw _ (List.mem_of_getElem? (i := 15) rfl))) Via.refl e12 f17 f16 (Or.inr ⟨(hw _ (List.mem_of_getElem? (i := 16) rfl)), rfl, hnm⟩) (hw _ (List.mem_of_getElem? (i := 2) rfl)) (ty := (.array .int)) (by decide) rfl rfl (g := (mkF m 22 #[rv r0, iv (3 : Int32)] [(.ref b12), (.ref r0)])) rfl rfl (Jvm.hb hby d1_22)
  have Fw18 := Fld.same W18 f17
  have N18 := Fr.snoc X18 N11 g_r0
  have Z18 : n0 ≤ h18.size := W18.size ▸ Z12
  have K18 : Keep h0 h18 [r0] := Keep.wr K12 W18 (Or.inl (List.mem_of_getElem? (i := 0) rfl))
  refine own_go st18 ?_
  show Gm p e below T18 m 25 #[rv r0, iv (3 : Int32)] [] _
  refine own_go (fun t₀ k₀ => XS.aloadN X18.here hx rfl (Jvm.hb hby d1_25) rfl rfl k₀) ?_
  show Gm p e below T18 m 26 #[rv r0, iv (3 : Int32)] [(.ref r0)] _
  refine own_go (fun t₀ k₀ => XS.iloadN X18.here hx rfl (Jvm.hb hby d1_26) rfl k₀) ?_
  show Gm p e below T18 m 27 #[rv r0, iv (3 : Int32)] [(.int (3 : Int32)), (.ref r0)] _
  obtain ⟨T19, h19, k19, X19, e19, E19, A19, st19⟩ := newP X18 hx hZ (hw _ (List.mem_of_getElem? (i := 17) rfl)) e18 (g := (mkF m 27 #[rv r0, iv (3 : Int32)] [(.int (3 : Int32)), (.ref r0)])) rfl (Jvm.hb hby d1_27) rfl (by decide) (cap := 3) (by decide) (by decide) (by decide) (by decide)
  obtain ⟨b19, g19⟩ : ∃ z, z = h18.size := ⟨_, rfl⟩
  rw [← g19] at A19 st19
  have g_b19 : n0 ≤ b19 := Nat.le_trans Z18 (Nat.le_of_eq g19.symm)
  have f20 := (f16.wr W18)
  have ne_r0_b19 : r0 ≠ b19 := Nat.ne_of_lt (Nat.lt_of_lt_of_le f20.lt (Nat.le_of_eq g19.symm))
  have f21 := ((f14.ext E12).other W18 (Ne.symm ne_r0_b2))
  have ne_b2_b19 : b2 ≠ b19 := Nat.ne_of_lt (Nat.lt_of_lt_of_le f21.lt (Nat.le_of_eq g19.symm))
  have f22 := ((f15.ext E12).other W18 (Ne.symm ne_r0_b6))
  have ne_b6_b19 : b6 ≠ b19 := Nat.ne_of_lt (Nat.lt_of_lt_of_le f22.lt (Nat.le_of_eq g19.symm))
  have f23 := (V12.other W18 (Ne.symm ne_r0_b12))
  have ne_b12_b19 : b12 ≠ b19 := Nat.ne_of_lt (Nat.lt_of_lt_of_le f23.lt (Nat.le_of_eq g19.symm))
  have sz_b19 : h0.size ≤ b19 := Nat.le_trans K18.1 (Nat.le_of_eq g19.symm)
  have K19 : Keep h0 h19 [r0] := Keep.ext K18 E19
  have Z19 : n0 ≤ h19.size := Nat.le_trans Z18 E19.1
  have V19 : Af Z h19 b19 .double 3 (fun _ => defaultValue .double) := Af.new A19 (by decide) rfl rfl
  refine own_go st19 ?_
  show Gm p e below T19 m 29 #[rv r0, iv (3 : Int32)] [(.ref b19), (.ref r0)] _
  have f24 := (f20.ext E19)
  have f25 := ((Fld.other W18 ((Fld.other W11 ((Fld.other W5 (F_speedMps.ext E2) (Or.inr (slot_ne (Or.inr (hw _ (List.mem_of_getElem? (i := 19) rfl))) (Or.inr (hw _ (List.mem_of_getElem? (i := 12) rfl))) (by decide) (t := (.array .double)) (t' := (.array .int)) (by decide) (by decide)))).ext E6) (Or.inr (slot_ne (Or.inr (hw _ (List.mem_of_getElem? (i := 19) rfl))) (Or.inr (hw _ (List.mem_of_getElem? (i := 14) rfl))) (by decide) (t := (.array .double)) (t' := (.array .int)) (by decide) (by decide)))).ext E12) (Or.inr (slot_ne (Or.inr (hw _ (List.mem_of_getElem? (i := 19) rfl))) (Or.inr (hw _ (List.mem_of_getElem? (i := 16) rfl))) (by decide) (t := (.array .double)) (t' := (.array .int)) (by decide) (by decide)))).ext E19)
  obtain ⟨T26, h26, X26, e26, W26, st26⟩ := putF X19 hx hZ hown (host := "") (Or.inl (hw _ (List.mem_of_getElem? (i := 18) rfl))) Via.refl e19 f25 f24 (Or.inr ⟨(hw _ (List.mem_of_getElem? (i := 19) rfl)), rfl, hnm⟩) (hw _ (List.mem_of_getElem? (i := 2) rfl)) (ty := (.array .double)) (by decide) rfl rfl (g := (mkF m 29 #[rv r0, iv (3 : Int32)] [(.ref b19), (.ref r0)])) rfl rfl (Jvm.hb hby d1_29)
  have Fw26 := Fld.same W26 f25
  have N26 := Fr.snoc X26 N18 g_r0
  have Z26 : n0 ≤ h26.size := W26.size ▸ Z19
  have K26 : Keep h0 h26 [r0] := Keep.wr K19 W26 (Or.inl (List.mem_of_getElem? (i := 0) rfl))
  refine own_go st26 ?_
  show Gm p e below T26 m 32 #[rv r0, iv (3 : Int32)] [] _
  refine own_go (fun t₀ k₀ => XS.aloadN X26.here hx rfl (Jvm.hb hby d1_32) rfl rfl k₀) ?_
  show Gm p e below T26 m 33 #[rv r0, iv (3 : Int32)] [(.ref r0)] _
  refine own_go (fun t₀ k₀ => XS.iloadN X26.here hx rfl (Jvm.hb hby d1_33) rfl k₀) ?_
  show Gm p e below T26 m 34 #[rv r0, iv (3 : Int32)] [(.int (3 : Int32)), (.ref r0)] _
  obtain ⟨T27, h27, k27, X27, e27, E27, A27, st27⟩ := newP X26 hx hZ (hw _ (List.mem_of_getElem? (i := 17) rfl)) e26 (g := (mkF m 34 #[rv r0, iv (3 : Int32)] [(.int (3 : Int32)), (.ref r0)])) rfl (Jvm.hb hby d1_34) rfl (by decide) (cap := 3) (by decide) (by decide) (by decide) (by decide)
  obtain ⟨b27, g27⟩ : ∃ z, z = h26.size := ⟨_, rfl⟩
  rw [← g27] at A27 st27
  have g_b27 : n0 ≤ b27 := Nat.le_trans Z26 (Nat.le_of_eq g27.symm)
  have f28 := (f24.wr W26)
  have ne_r0_b27 : r0 ≠ b27 := Nat.ne_of_lt (Nat.lt_of_lt_of_le f28.lt (Nat.le_of_eq g27.symm))
  have f29 := ((f21.ext E19).other W26 (Ne.symm ne_r0_b2))
  have ne_b2_b27 : b2 ≠ b27 := Nat.ne_of_lt (Nat.lt_of_lt_of_le f29.lt (Nat.le_of_eq g27.symm))
  have f30 := ((f22.ext E19).other W26 (Ne.symm ne_r0_b6))
  have ne_b6_b27 : b6 ≠ b27 := Nat.ne_of_lt (Nat.lt_of_lt_of_le f30.lt (Nat.le_of_eq g27.symm))
  have f31 := ((f23.ext E19).other W26 (Ne.symm ne_r0_b12))
  have ne_b12_b27 : b12 ≠ b27 := Nat.ne_of_lt (Nat.lt_of_lt_of_le f31.lt (Nat.le_of_eq g27.symm))
  have sz_b27 : h0.size ≤ b27 := Nat.le_trans K26.1 (Nat.le_of_eq g27.symm)
  have K27 : Keep h0 h27 [r0] := Keep.ext K26 E27
  have Z27 : n0 ≤ h27.size := Nat.le_trans Z26 E27.1
  have V27 : Af Z h27 b27 .double 3 (fun _ => defaultValue .double) := Af.new A27 (by decide) rfl rfl
  refine own_go st27 ?_
  show Gm p e below T27 m 36 #[rv r0, iv (3 : Int32)] [(.ref b27), (.ref r0)] _
  have f32 := (f28.ext E27)
  have f33 := ((Fld.other W26 ((Fld.other W18 ((Fld.other W11 ((Fld.other W5 (F_reactionS.ext E2) (Or.inr (slot_ne (Or.inr (hw _ (List.mem_of_getElem? (i := 21) rfl))) (Or.inr (hw _ (List.mem_of_getElem? (i := 12) rfl))) (by decide) (t := (.array .double)) (t' := (.array .int)) (by decide) (by decide)))).ext E6) (Or.inr (slot_ne (Or.inr (hw _ (List.mem_of_getElem? (i := 21) rfl))) (Or.inr (hw _ (List.mem_of_getElem? (i := 14) rfl))) (by decide) (t := (.array .double)) (t' := (.array .int)) (by decide) (by decide)))).ext E12) (Or.inr (slot_ne (Or.inr (hw _ (List.mem_of_getElem? (i := 21) rfl))) (Or.inr (hw _ (List.mem_of_getElem? (i := 16) rfl))) (by decide) (t := (.array .double)) (t' := (.array .int)) (by decide) (by decide)))).ext E19) (Or.inr (slot_ne (Or.inr (hw _ (List.mem_of_getElem? (i := 21) rfl))) (Or.inr (hw _ (List.mem_of_getElem? (i := 19) rfl))) (by decide) (t := (.array .double)) (t' := (.array .double)) (by decide) (by decide)))).ext E27)
  obtain ⟨T34, h34, X34, e34, W34, st34⟩ := putF X27 hx hZ hown (host := "") (Or.inl (hw _ (List.mem_of_getElem? (i := 20) rfl))) Via.refl e27 f33 f32 (Or.inr ⟨(hw _ (List.mem_of_getElem? (i := 21) rfl)), rfl, hnm⟩) (hw _ (List.mem_of_getElem? (i := 2) rfl)) (ty := (.array .double)) (by decide) rfl rfl (g := (mkF m 36 #[rv r0, iv (3 : Int32)] [(.ref b27), (.ref r0)])) rfl rfl (Jvm.hb hby d1_36)
  have Fw34 := Fld.same W34 f33
  have N34 := Fr.snoc X34 N26 g_r0
  have Z34 : n0 ≤ h34.size := W34.size ▸ Z27
  have K34 : Keep h0 h34 [r0] := Keep.wr K27 W34 (Or.inl (List.mem_of_getElem? (i := 0) rfl))
  refine own_go st34 ?_
  show Gm p e below T34 m 39 #[rv r0, iv (3 : Int32)] [] _
  refine own_go (fun t₀ k₀ => XS.aloadN X34.here hx rfl (Jvm.hb hby d1_39) rfl rfl k₀) ?_
  show Gm p e below T34 m 40 #[rv r0, iv (3 : Int32)] [(.ref r0)] _
  refine own_go (fun t₀ k₀ => XS.iloadN X34.here hx rfl (Jvm.hb hby d1_40) rfl k₀) ?_
  show Gm p e below T34 m 41 #[rv r0, iv (3 : Int32)] [(.int (3 : Int32)), (.ref r0)] _
  obtain ⟨T35, h35, k35, X35, e35, E35, A35, st35⟩ := newP X34 hx hZ (hw _ (List.mem_of_getElem? (i := 10) rfl)) e34 (g := (mkF m 41 #[rv r0, iv (3 : Int32)] [(.int (3 : Int32)), (.ref r0)])) rfl (Jvm.hb hby d1_41) rfl (by decide) (cap := 3) (by decide) (by decide) (by decide) (by decide)
  obtain ⟨b35, g35⟩ : ∃ z, z = h34.size := ⟨_, rfl⟩
  rw [← g35] at A35 st35
  have g_b35 : n0 ≤ b35 := Nat.le_trans Z34 (Nat.le_of_eq g35.symm)
  have f36 := (f32.wr W34)
  have ne_r0_b35 : r0 ≠ b35 := Nat.ne_of_lt (Nat.lt_of_lt_of_le f36.lt (Nat.le_of_eq g35.symm))
  have f37 := ((f29.ext E27).other W34 (Ne.symm ne_r0_b2))
  have ne_b2_b35 : b2 ≠ b35 := Nat.ne_of_lt (Nat.lt_of_lt_of_le f37.lt (Nat.le_of_eq g35.symm))
  have f38 := ((f30.ext E27).other W34 (Ne.symm ne_r0_b6))
  have ne_b6_b35 : b6 ≠ b35 := Nat.ne_of_lt (Nat.lt_of_lt_of_le f38.lt (Nat.le_of_eq g35.symm))
  have f39 := ((f31.ext E27).other W34 (Ne.symm ne_r0_b12))
  have ne_b12_b35 : b12 ≠ b35 := Nat.ne_of_lt (Nat.lt_of_lt_of_le f39.lt (Nat.le_of_eq g35.symm))
  have sz_b35 : h0.size ≤ b35 := Nat.le_trans K34.1 (Nat.le_of_eq g35.symm)
  have K35 : Keep h0 h35 [r0] := Keep.ext K34 E35
  have Z35 : n0 ≤ h35.size := Nat.le_trans Z34 E35.1
  have V35 : Af Z h35 b35 .int 3 (fun _ => defaultValue .int) := Af.new A35 (by decide) rfl rfl
  refine own_go st35 ?_
  show Gm p e below T35 m 43 #[rv r0, iv (3 : Int32)] [(.ref b35), (.ref r0)] _
  have f40 := (f36.ext E35)
  have f41 := ((Fld.other W34 ((Fld.other W26 ((Fld.other W18 ((Fld.other W11 ((Fld.other W5 (F_heading.ext E2) (Or.inr (slot_ne (Or.inr (hw _ (List.mem_of_getElem? (i := 23) rfl))) (Or.inr (hw _ (List.mem_of_getElem? (i := 12) rfl))) (by decide) (t := (.array .int)) (t' := (.array .int)) (by decide) (by decide)))).ext E6) (Or.inr (slot_ne (Or.inr (hw _ (List.mem_of_getElem? (i := 23) rfl))) (Or.inr (hw _ (List.mem_of_getElem? (i := 14) rfl))) (by decide) (t := (.array .int)) (t' := (.array .int)) (by decide) (by decide)))).ext E12) (Or.inr (slot_ne (Or.inr (hw _ (List.mem_of_getElem? (i := 23) rfl))) (Or.inr (hw _ (List.mem_of_getElem? (i := 16) rfl))) (by decide) (t := (.array .int)) (t' := (.array .int)) (by decide) (by decide)))).ext E19) (Or.inr (slot_ne (Or.inr (hw _ (List.mem_of_getElem? (i := 23) rfl))) (Or.inr (hw _ (List.mem_of_getElem? (i := 19) rfl))) (by decide) (t := (.array .int)) (t' := (.array .double)) (by decide) (by decide)))).ext E27) (Or.inr (slot_ne (Or.inr (hw _ (List.mem_of_getElem? (i := 23) rfl))) (Or.inr (hw _ (List.mem_of_getElem? (i := 21) rfl))) (by decide) (t := (.array .int)) (t' := (.array .double)) (by decide) (by decide)))).ext E35)
  obtain ⟨T42, h42, X42, e42, W42, st42⟩ := putF X35 hx hZ hown (host := "") (Or.inl (hw _ (List.mem_of_getElem? (i := 22) rfl))) Via.refl e35 f41 f40 (Or.inr ⟨(hw _ (List.mem_of_getElem? (i := 23) rfl)), rfl, hnm⟩) (hw _ (List.mem_of_getElem? (i := 2) rfl)) (ty := (.array .int)) (by decide) rfl rfl (g := (mkF m 43 #[rv r0, iv (3 : Int32)] [(.ref b35), (.ref r0)])) rfl rfl (Jvm.hb hby d1_43)
  have Fw42 := Fld.same W42 f41
  have N42 := Fr.snoc X42 N34 g_r0
  have Z42 : n0 ≤ h42.size := W42.size ▸ Z35
  have K42 : Keep h0 h42 [r0] := Keep.wr K35 W42 (Or.inl (List.mem_of_getElem? (i := 0) rfl))
  refine own_go st42 ?_
  show Gm p e below T42 m 46 #[rv r0, iv (3 : Int32)] [] _
  refine own_go (fun t₀ k₀ => XS.aloadN X42.here hx rfl (Jvm.hb hby d1_46) rfl rfl k₀) ?_
  show Gm p e below T42 m 47 #[rv r0, iv (3 : Int32)] [(.ref r0)] _
  refine own_go (fun t₀ k₀ => XS.iloadN X42.here hx rfl (Jvm.hb hby d1_47) rfl k₀) ?_
  show Gm p e below T42 m 48 #[rv r0, iv (3 : Int32)] [(.int (3 : Int32)), (.ref r0)] _
  obtain ⟨T43, h43, k43, X43, e43, E43, A43, st43⟩ := newP X42 hx hZ (hw _ (List.mem_of_getElem? (i := 17) rfl)) e42 (g := (mkF m 48 #[rv r0, iv (3 : Int32)] [(.int (3 : Int32)), (.ref r0)])) rfl (Jvm.hb hby d1_48) rfl (by decide) (cap := 3) (by decide) (by decide) (by decide) (by decide)
  obtain ⟨b43, g43⟩ : ∃ z, z = h42.size := ⟨_, rfl⟩
  rw [← g43] at A43 st43
  have g_b43 : n0 ≤ b43 := Nat.le_trans Z42 (Nat.le_of_eq g43.symm)
  have f44 := (f40.wr W42)
  have ne_r0_b43 : r0 ≠ b43 := Nat.ne_of_lt (Nat.lt_of_lt_of_le f44.lt (Nat.le_of_eq g43.symm))
  have f45 := ((f37.ext E35).other W42 (Ne.symm ne_r0_b2))
  have ne_b2_b43 : b2 ≠ b43 := Nat.ne_of_lt (Nat.lt_of_lt_of_le f45.lt (Nat.le_of_eq g43.symm))
  have f46 := ((f38.ext E35).other W42 (Ne.symm ne_r0_b6))
  have ne_b6_b43 : b6 ≠ b43 := Nat.ne_of_lt (Nat.lt_of_lt_of_le f46.lt (Nat.le_of_eq g43.symm))
  have f47 := ((f39.ext E35).other W42 (Ne.symm ne_r0_b12))
  have ne_b12_b43 : b12 ≠ b43 := Nat.ne_of_lt (Nat.lt_of_lt_of_le f47.lt (Nat.le_of_eq g43.symm))
  have f48 := (V35.other W42 (Ne.symm ne_r0_b35))
  have ne_b35_b43 : b35 ≠ b43 := Nat.ne_of_lt (Nat.lt_of_lt_of_le f48.lt (Nat.le_of_eq g43.symm))
  have sz_b43 : h0.size ≤ b43 := Nat.le_trans K42.1 (Nat.le_of_eq g43.symm)
  have K43 : Keep h0 h43 [r0] := Keep.ext K42 E43
  have Z43 : n0 ≤ h43.size := Nat.le_trans Z42 E43.1
  have V43 : Af Z h43 b43 .double 3 (fun _ => defaultValue .double) := Af.new A43 (by decide) rfl rfl
  refine own_go st43 ?_
  show Gm p e below T43 m 50 #[rv r0, iv (3 : Int32)] [(.ref b43), (.ref r0)] _
  have f49 := (f44.ext E43)
  have f50 := ((Fld.other W42 ((Fld.other W34 ((Fld.other W26 ((Fld.other W18 ((Fld.other W11 ((Fld.other W5 (F_heldUpS.ext E2) (Or.inr (slot_ne (Or.inr (hw _ (List.mem_of_getElem? (i := 25) rfl))) (Or.inr (hw _ (List.mem_of_getElem? (i := 12) rfl))) (by decide) (t := (.array .double)) (t' := (.array .int)) (by decide) (by decide)))).ext E6) (Or.inr (slot_ne (Or.inr (hw _ (List.mem_of_getElem? (i := 25) rfl))) (Or.inr (hw _ (List.mem_of_getElem? (i := 14) rfl))) (by decide) (t := (.array .double)) (t' := (.array .int)) (by decide) (by decide)))).ext E12) (Or.inr (slot_ne (Or.inr (hw _ (List.mem_of_getElem? (i := 25) rfl))) (Or.inr (hw _ (List.mem_of_getElem? (i := 16) rfl))) (by decide) (t := (.array .double)) (t' := (.array .int)) (by decide) (by decide)))).ext E19) (Or.inr (slot_ne (Or.inr (hw _ (List.mem_of_getElem? (i := 25) rfl))) (Or.inr (hw _ (List.mem_of_getElem? (i := 19) rfl))) (by decide) (t := (.array .double)) (t' := (.array .double)) (by decide) (by decide)))).ext E27) (Or.inr (slot_ne (Or.inr (hw _ (List.mem_of_getElem? (i := 25) rfl))) (Or.inr (hw _ (List.mem_of_getElem? (i := 21) rfl))) (by decide) (t := (.array .double)) (t' := (.array .double)) (by decide) (by decide)))).ext E35) (Or.inr (slot_ne (Or.inr (hw _ (List.mem_of_getElem? (i := 25) rfl))) (Or.inr (hw _ (List.mem_of_getElem? (i := 23) rfl))) (by decide) (t := (.array .double)) (t' := (.array .int)) (by decide) (by decide)))).ext E43)
  obtain ⟨T51, h51, X51, e51, W51, st51⟩ := putF X43 hx hZ hown (host := "") (Or.inl (hw _ (List.mem_of_getElem? (i := 24) rfl))) Via.refl e43 f50 f49 (Or.inr ⟨(hw _ (List.mem_of_getElem? (i := 25) rfl)), rfl, hnm⟩) (hw _ (List.mem_of_getElem? (i := 2) rfl)) (ty := (.array .double)) (by decide) rfl rfl (g := (mkF m 50 #[rv r0, iv (3 : Int32)] [(.ref b43), (.ref r0)])) rfl rfl (Jvm.hb hby d1_50)
  have Fw51 := Fld.same W51 f50
  have N51 := Fr.snoc X51 N42 g_r0
  have Z51 : n0 ≤ h51.size := W51.size ▸ Z43
  have K51 : Keep h0 h51 [r0] := Keep.wr K43 W51 (Or.inl (List.mem_of_getElem? (i := 0) rfl))
  refine own_go st51 ?_
  show Gm p e below T51 m 53 #[rv r0, iv (3 : Int32)] [] _
  refine own_go (fun t₀ k₀ => XS.aloadN X51.here hx rfl (Jvm.hb hby d1_53) rfl rfl k₀) ?_
  show Gm p e below T51 m 54 #[rv r0, iv (3 : Int32)] [(.ref r0)] _
  obtain ⟨T52, X52, e52, st52⟩ := getF X51 hx hZ hown (host := "") (Or.inl (hw _ (List.mem_of_getElem? (i := 24) rfl))) Via.refl e51 Fw51 (g := (mkF m 54 #[rv r0, iv (3 : Int32)] [(.ref r0)])) rfl rfl (Jvm.hb hby d1_54)
  refine own_go st52 ?_
  show Gm p e below T52 m 57 #[rv r0, iv (3 : Int32)] [(.ref b43)] _
  refine own_go (fun t₀ k₀ => X52.ldc2DoubleC hx hown (mvT hZ (hw _ (List.mem_of_getElem? (i := 26) rfl))) (g := (mkF m 57 #[rv r0, iv (3 : Int32)] [(.ref b43)])) rfl (Jvm.hb hby d1_57) _ k₀) ?_
  show Gm p e below T52 m 60 #[rv r0, iv (3 : Int32)] [(.double (18442240474082181120 : UInt64)), (.ref b43)] _
  have f53 := (V43.other W51 (Ne.symm ne_r0_b43))
  obtain ⟨_, _, ⟨T54, L54, k54, n54⟩, -, X54, ⟨Lc54, hQ54, l54, y54, z54⟩, st54⟩ := Jvm.LawKit.callS X52 hx (y := (⟨"java/util/Arrays", "fill", "([DD)V"⟩ : MethodName)) hown (mvT hZ (hw _ (List.mem_of_getElem? (i := 27) rfl))) (mvT hZ (hw _ (List.mem_of_getElem? (i := 28) rfl))) (mvT hZ (hw _ (List.mem_of_getElem? (i := 29) rfl))) (mvT hZ (hw _ (List.mem_of_getElem? (i := 30) rfl))) (by decide) (backOf (W := 0) (rm3_3 l Z a0 hw [] b43 (18442240474082181120 : UInt64) (fun _ => defaultValue .double) h51 n0 Z51 f53 g_b43) hZ (hw _ (List.mem_of_getElem? (i := 30) rfl)) (hw _ (List.mem_of_getElem? (i := 29) rfl)) (by decide) (by decide)) (g := (mkF m 60 #[rv r0, iv (3 : Int32)] [(.double (18442240474082181120 : UInt64)), (.ref b43)])) rfl (by rw [hml]; rfl) (argsL := [(.ref b43), (.double (18442240474082181120 : UInt64))]) (rest := []) (lenOf own_pd0 rfl) rfl (by show 2 * 0 + _ ≤ _; exact Nat.le_of_eq rfl) (Jvm.hb hby d1_60) (fun _ _ => ⟨rfl, e52, (by decide : 7 + 0 ≤ _), (by decide : 21 + 0 ≤ _)⟩)
  dsimp only [Pt.U, Pt.locs, Pt.cells, Pt.slots] at X54 l54 y54 z54 st54 hQ54
  subst l54 y54 z54
  obtain ⟨rfl, Nq54, Kc54, fd54, Ac54⟩ := hQ54
  have N54 := Fr.app N51 Nq54
  refine own_go st54 ?_
  have Z54 : n0 ≤ T54.heap.size := Nat.le_trans Z51 Kc54.1
  have K54 : Keep h0 T54.heap [r0] := Keep.trans K51 Kc54 (allS (Or.inr sz_b43) all0)
  show Gm p e below T54 m 63 #[rv r0, iv (3 : Int32)] [] _
  refine own_go (fun t₀ k₀ => XS.aloadN X54.here hx rfl (Jvm.hb hby d1_63) rfl rfl k₀) ?_
  show Gm p e below T54 m 64 #[rv r0, iv (3 : Int32)] [(.ref r0)] _
  refine own_go (fun t₀ k₀ => XS.iloadN X54.here hx rfl (Jvm.hb hby d1_64) rfl k₀) ?_
  show Gm p e below T54 m 65 #[rv r0, iv (3 : Int32)] [(.int (3 : Int32)), (.ref r0)] _
  obtain ⟨T55, h55, k55, X55, e55, E55, A55, st55⟩ := newP X54 hx hZ (hw _ (List.mem_of_getElem? (i := 17) rfl)) rfl (g := (mkF m 65 #[rv r0, iv (3 : Int32)] [(.int (3 : Int32)), (.ref r0)])) rfl (Jvm.hb hby d1_65) rfl (by decide) (cap := 3) (by decide) (by decide) (by decide) (by decide)
  obtain ⟨b55, g55⟩ : ∃ z, z = T54.heap.size := ⟨_, rfl⟩
  rw [← g55] at A55 st55
  have g_b55 : n0 ≤ b55 := Nat.le_trans Z54 (Nat.le_of_eq g55.symm)
  have f56 := ((f49.wr W51).keep Kc54)
  have ne_r0_b55 : r0 ≠ b55 := Nat.ne_of_lt (Nat.lt_of_lt_of_le f56.lt (Nat.le_of_eq g55.symm))
  have f57 := (((f45.ext E43).other W51 (Ne.symm ne_r0_b2)).keep Kc54 (ninS ne_b2_b43 nin0))
  have ne_b2_b55 : b2 ≠ b55 := Nat.ne_of_lt (Nat.lt_of_lt_of_le f57.lt (Nat.le_of_eq g55.symm))
  have f58 := (((f46.ext E43).other W51 (Ne.symm ne_r0_b6)).keep Kc54 (ninS ne_b6_b43 nin0))
  have ne_b6_b55 : b6 ≠ b55 := Nat.ne_of_lt (Nat.lt_of_lt_of_le f58.lt (Nat.le_of_eq g55.symm))
  have f59 := (((f47.ext E43).other W51 (Ne.symm ne_r0_b12)).keep Kc54 (ninS ne_b12_b43 nin0))
  have ne_b12_b55 : b12 ≠ b55 := Nat.ne_of_lt (Nat.lt_of_lt_of_le f59.lt (Nat.le_of_eq g55.symm))
  have f60 := (((f48.ext E43).other W51 (Ne.symm ne_r0_b35)).keep Kc54 (ninS ne_b35_b43 nin0))
  have ne_b35_b55 : b35 ≠ b55 := Nat.ne_of_lt (Nat.lt_of_lt_of_le f60.lt (Nat.le_of_eq g55.symm))
  have sz_b55 : h0.size ≤ b55 := Nat.le_trans K54.1 (Nat.le_of_eq g55.symm)
  have K55 : Keep h0 h55 [r0] := Keep.ext K54 E55
  have Z55 : n0 ≤ h55.size := Nat.le_trans Z54 E55.1
  have V55 : Af Z h55 b55 .double 3 (fun _ => defaultValue .double) := Af.new A55 (by decide) rfl rfl
  refine own_go st55 ?_
  show Gm p e below T55 m 67 #[rv r0, iv (3 : Int32)] [(.ref b55), (.ref r0)] _
  have f61 := (f56.ext E55)
  have f62 := (((Fld.other W51 ((Fld.other W42 ((Fld.other W34 ((Fld.other W26 ((Fld.other W18 ((Fld.other W11 ((Fld.other W5 (F_exitTimeS.ext E2) (Or.inr (slot_ne (Or.inr (hw _ (List.mem_of_getElem? (i := 32) rfl))) (Or.inr (hw _ (List.mem_of_getElem? (i := 12) rfl))) (by decide) (t := (.array .double)) (t' := (.array .int)) (by decide) (by decide)))).ext E6) (Or.inr (slot_ne (Or.inr (hw _ (List.mem_of_getElem? (i := 32) rfl))) (Or.inr (hw _ (List.mem_of_getElem? (i := 14) rfl))) (by decide) (t := (.array .double)) (t' := (.array .int)) (by decide) (by decide)))).ext E12) (Or.inr (slot_ne (Or.inr (hw _ (List.mem_of_getElem? (i := 32) rfl))) (Or.inr (hw _ (List.mem_of_getElem? (i := 16) rfl))) (by decide) (t := (.array .double)) (t' := (.array .int)) (by decide) (by decide)))).ext E19) (Or.inr (slot_ne (Or.inr (hw _ (List.mem_of_getElem? (i := 32) rfl))) (Or.inr (hw _ (List.mem_of_getElem? (i := 19) rfl))) (by decide) (t := (.array .double)) (t' := (.array .double)) (by decide) (by decide)))).ext E27) (Or.inr (slot_ne (Or.inr (hw _ (List.mem_of_getElem? (i := 32) rfl))) (Or.inr (hw _ (List.mem_of_getElem? (i := 21) rfl))) (by decide) (t := (.array .double)) (t' := (.array .double)) (by decide) (by decide)))).ext E35) (Or.inr (slot_ne (Or.inr (hw _ (List.mem_of_getElem? (i := 32) rfl))) (Or.inr (hw _ (List.mem_of_getElem? (i := 23) rfl))) (by decide) (t := (.array .double)) (t' := (.array .int)) (by decide) (by decide)))).ext E43) (Or.inr (slot_ne (Or.inr (hw _ (List.mem_of_getElem? (i := 32) rfl))) (Or.inr (hw _ (List.mem_of_getElem? (i := 25) rfl))) (by decide) (t := (.array .double)) (t' := (.array .double)) (by decide) (by decide)))).keep Kc54 (ninS ne_r0_b43 nin0)).ext E55)
  obtain ⟨T63, h63, X63, e63, W63, st63⟩ := putF X55 hx hZ hown (host := "") (Or.inl (hw _ (List.mem_of_getElem? (i := 31) rfl))) Via.refl e55 f62 f61 (Or.inr ⟨(hw _ (List.mem_of_getElem? (i := 32) rfl)), rfl, hnm⟩) (hw _ (List.mem_of_getElem? (i := 2) rfl)) (ty := (.array .double)) (by decide) rfl rfl (g := (mkF m 67 #[rv r0, iv (3 : Int32)] [(.ref b55), (.ref r0)])) rfl rfl (Jvm.hb hby d1_67)
  have Fw63 := Fld.same W63 f62
  have N63 := Fr.snoc X63 N54 g_r0
  have Z63 : n0 ≤ h63.size := W63.size ▸ Z55
  have K63 : Keep h0 h63 [r0] := Keep.wr K55 W63 (Or.inl (List.mem_of_getElem? (i := 0) rfl))
  refine own_go st63 ?_
  show Gm p e below T63 m 70 #[rv r0, iv (3 : Int32)] [] _
  refine own_go (fun t₀ k₀ => XS.aloadN X63.here hx rfl (Jvm.hb hby d1_70) rfl rfl k₀) ?_
  show Gm p e below T63 m 71 #[rv r0, iv (3 : Int32)] [(.ref r0)] _
  obtain ⟨T64, X64, e64, st64⟩ := getF X63 hx hZ hown (host := "") (Or.inl (hw _ (List.mem_of_getElem? (i := 31) rfl))) Via.refl e63 Fw63 (g := (mkF m 71 #[rv r0, iv (3 : Int32)] [(.ref r0)])) rfl rfl (Jvm.hb hby d1_71)
  refine own_go st64 ?_
  show Gm p e below T64 m 74 #[rv r0, iv (3 : Int32)] [(.ref b55)] _
  refine own_go (fun t₀ k₀ => X64.ldc2DoubleC hx hown (mvT hZ (hw _ (List.mem_of_getElem? (i := 33) rfl))) (g := (mkF m 74 #[rv r0, iv (3 : Int32)] [(.ref b55)])) rfl (Jvm.hb hby d1_74) _ k₀) ?_
  show Gm p e below T64 m 77 #[rv r0, iv (3 : Int32)] [(.double (9218868437227405312 : UInt64)), (.ref b55)] _
  have f65 := (V55.other W63 (Ne.symm ne_r0_b55))
  obtain ⟨_, _, ⟨T66, L66, k66, n66⟩, -, X66, ⟨Lc66, hQ66, l66, y66, z66⟩, st66⟩ := Jvm.LawKit.callS X64 hx (y := (⟨"java/util/Arrays", "fill", "([DD)V"⟩ : MethodName)) hown (mvT hZ (hw _ (List.mem_of_getElem? (i := 27) rfl))) (mvT hZ (hw _ (List.mem_of_getElem? (i := 28) rfl))) (mvT hZ (hw _ (List.mem_of_getElem? (i := 29) rfl))) (mvT hZ (hw _ (List.mem_of_getElem? (i := 30) rfl))) (by decide) (backOf (W := 0) (rm3_3 l Z a0 hw [] b55 (9218868437227405312 : UInt64) (fun _ => defaultValue .double) h63 n0 Z63 f65 g_b55) hZ (hw _ (List.mem_of_getElem? (i := 30) rfl)) (hw _ (List.mem_of_getElem? (i := 29) rfl)) (by decide) (by decide)) (g := (mkF m 77 #[rv r0, iv (3 : Int32)] [(.double (9218868437227405312 : UInt64)), (.ref b55)])) rfl (by rw [hml]; rfl) (argsL := [(.ref b55), (.double (9218868437227405312 : UInt64))]) (rest := []) (lenOf own_pd0 rfl) rfl (by show 2 * 0 + _ ≤ _; exact Nat.le_of_eq rfl) (Jvm.hb hby d1_77) (fun _ _ => ⟨rfl, e64, (by decide : 8 + 0 ≤ _), (by decide : 24 + 0 ≤ _)⟩)
  dsimp only [Pt.U, Pt.locs, Pt.cells, Pt.slots] at X66 l66 y66 z66 st66 hQ66
  subst l66 y66 z66
  obtain ⟨rfl, Nq66, Kc66, fd66, Ac66⟩ := hQ66
  have N66 := Fr.app N63 Nq66
  refine own_go st66 ?_
  have Z66 : n0 ≤ T66.heap.size := Nat.le_trans Z63 Kc66.1
  have K66 : Keep h0 T66.heap [r0] := Keep.trans K63 Kc66 (allS (Or.inr sz_b55) all0)
  show Gm p e below T66 m 80 #[rv r0, iv (3 : Int32)] [] _
  refine own_go (fun t₀ k₀ => XS.aloadN X66.here hx rfl (Jvm.hb hby d1_80) rfl rfl k₀) ?_
  show Gm p e below T66 m 81 #[rv r0, iv (3 : Int32)] [(.ref r0)] _
  refine own_go (fun t₀ k₀ => XS.iloadN X66.here hx rfl (Jvm.hb hby d1_81) rfl k₀) ?_
  show Gm p e below T66 m 82 #[rv r0, iv (3 : Int32)] [(.int (3 : Int32)), (.ref r0)] _
  obtain ⟨T67, h67, k67, X67, e67, E67, A67, st67⟩ := newP X66 hx hZ (hw _ (List.mem_of_getElem? (i := 10) rfl)) rfl (g := (mkF m 82 #[rv r0, iv (3 : Int32)] [(.int (3 : Int32)), (.ref r0)])) rfl (Jvm.hb hby d1_82) rfl (by decide) (cap := 3) (by decide) (by decide) (by decide) (by decide)
  obtain ⟨b67, g67⟩ : ∃ z, z = T66.heap.size := ⟨_, rfl⟩
  rw [← g67] at A67 st67
  have g_b67 : n0 ≤ b67 := Nat.le_trans Z66 (Nat.le_of_eq g67.symm)
  have f68 := ((f61.wr W63).keep Kc66)
  have ne_r0_b67 : r0 ≠ b67 := Nat.ne_of_lt (Nat.lt_of_lt_of_le f68.lt (Nat.le_of_eq g67.symm))
  have f69 := (((f57.ext E55).other W63 (Ne.symm ne_r0_b2)).keep Kc66 (ninS ne_b2_b55 nin0))
  have ne_b2_b67 : b2 ≠ b67 := Nat.ne_of_lt (Nat.lt_of_lt_of_le f69.lt (Nat.le_of_eq g67.symm))
  have f70 := (((f58.ext E55).other W63 (Ne.symm ne_r0_b6)).keep Kc66 (ninS ne_b6_b55 nin0))
  have ne_b6_b67 : b6 ≠ b67 := Nat.ne_of_lt (Nat.lt_of_lt_of_le f70.lt (Nat.le_of_eq g67.symm))
  have f71 := (((f59.ext E55).other W63 (Ne.symm ne_r0_b12)).keep Kc66 (ninS ne_b12_b55 nin0))
  have ne_b12_b67 : b12 ≠ b67 := Nat.ne_of_lt (Nat.lt_of_lt_of_le f71.lt (Nat.le_of_eq g67.symm))
  have f72 := (((f60.ext E55).other W63 (Ne.symm ne_r0_b35)).keep Kc66 (ninS ne_b35_b55 nin0))
  have ne_b35_b67 : b35 ≠ b67 := Nat.ne_of_lt (Nat.lt_of_lt_of_le f72.lt (Nat.le_of_eq g67.symm))
  have sz_b67 : h0.size ≤ b67 := Nat.le_trans K66.1 (Nat.le_of_eq g67.symm)
  have K67 : Keep h0 h67 [r0] := Keep.ext K66 E67
  have Z67 : n0 ≤ h67.size := Nat.le_trans Z66 E67.1
  have V67 : Af Z h67 b67 .int 3 (fun _ => defaultValue .int) := Af.new A67 (by decide) rfl rfl
  refine own_go st67 ?_
  show Gm p e below T67 m 84 #[rv r0, iv (3 : Int32)] [(.ref b67), (.ref r0)] _
  have f73 := (f68.ext E67)
  have f74 := (((Fld.other W63 (((Fld.other W51 ((Fld.other W42 ((Fld.other W34 ((Fld.other W26 ((Fld.other W18 ((Fld.other W11 ((Fld.other W5 (F_leaving.ext E2) (Or.inr (slot_ne (Or.inr (hw _ (List.mem_of_getElem? (i := 35) rfl))) (Or.inr (hw _ (List.mem_of_getElem? (i := 12) rfl))) (by decide) (t := (.array .int)) (t' := (.array .int)) (by decide) (by decide)))).ext E6) (Or.inr (slot_ne (Or.inr (hw _ (List.mem_of_getElem? (i := 35) rfl))) (Or.inr (hw _ (List.mem_of_getElem? (i := 14) rfl))) (by decide) (t := (.array .int)) (t' := (.array .int)) (by decide) (by decide)))).ext E12) (Or.inr (slot_ne (Or.inr (hw _ (List.mem_of_getElem? (i := 35) rfl))) (Or.inr (hw _ (List.mem_of_getElem? (i := 16) rfl))) (by decide) (t := (.array .int)) (t' := (.array .int)) (by decide) (by decide)))).ext E19) (Or.inr (slot_ne (Or.inr (hw _ (List.mem_of_getElem? (i := 35) rfl))) (Or.inr (hw _ (List.mem_of_getElem? (i := 19) rfl))) (by decide) (t := (.array .int)) (t' := (.array .double)) (by decide) (by decide)))).ext E27) (Or.inr (slot_ne (Or.inr (hw _ (List.mem_of_getElem? (i := 35) rfl))) (Or.inr (hw _ (List.mem_of_getElem? (i := 21) rfl))) (by decide) (t := (.array .int)) (t' := (.array .double)) (by decide) (by decide)))).ext E35) (Or.inr (slot_ne (Or.inr (hw _ (List.mem_of_getElem? (i := 35) rfl))) (Or.inr (hw _ (List.mem_of_getElem? (i := 23) rfl))) (by decide) (t := (.array .int)) (t' := (.array .int)) (by decide) (by decide)))).ext E43) (Or.inr (slot_ne (Or.inr (hw _ (List.mem_of_getElem? (i := 35) rfl))) (Or.inr (hw _ (List.mem_of_getElem? (i := 25) rfl))) (by decide) (t := (.array .int)) (t' := (.array .double)) (by decide) (by decide)))).keep Kc54 (ninS ne_r0_b43 nin0)).ext E55) (Or.inr (slot_ne (Or.inr (hw _ (List.mem_of_getElem? (i := 35) rfl))) (Or.inr (hw _ (List.mem_of_getElem? (i := 32) rfl))) (by decide) (t := (.array .int)) (t' := (.array .double)) (by decide) (by decide)))).keep Kc66 (ninS ne_r0_b55 nin0)).ext E67)
  obtain ⟨T75, h75, X75, e75, W75, st75⟩ := putF X67 hx hZ hown (host := "") (Or.inl (hw _ (List.mem_of_getElem? (i := 34) rfl))) Via.refl e67 f74 f73 (Or.inr ⟨(hw _ (List.mem_of_getElem? (i := 35) rfl)), rfl, hnm⟩) (hw _ (List.mem_of_getElem? (i := 2) rfl)) (ty := (.array .int)) (by decide) rfl rfl (g := (mkF m 84 #[rv r0, iv (3 : Int32)] [(.ref b67), (.ref r0)])) rfl rfl (Jvm.hb hby d1_84)
  have Fw75 := Fld.same W75 f74
  have N75 := Fr.snoc X75 N66 g_r0
  have Z75 : n0 ≤ h75.size := W75.size ▸ Z67
  have K75 : Keep h0 h75 [r0] := Keep.wr K67 W75 (Or.inl (List.mem_of_getElem? (i := 0) rfl))
  refine own_go st75 ?_
  show Gm p e below T75 m 87 #[rv r0, iv (3 : Int32)] [] _
  refine own_go (fun t₀ k₀ => XS.aloadN X75.here hx rfl (Jvm.hb hby d1_87) rfl rfl k₀) ?_
  show Gm p e below T75 m 88 #[rv r0, iv (3 : Int32)] [(.ref r0)] _
  obtain ⟨T76, X76, e76, st76⟩ := getF X75 hx hZ hown (host := "") (Or.inl (hw _ (List.mem_of_getElem? (i := 34) rfl))) Via.refl e75 Fw75 (g := (mkF m 88 #[rv r0, iv (3 : Int32)] [(.ref r0)])) rfl rfl (Jvm.hb hby d1_88)
  refine own_go st76 ?_
  show Gm p e below T76 m 91 #[rv r0, iv (3 : Int32)] [(.ref b67)] _
  refine own_go (fun t₀ k₀ => XS.iconst X76.here hx rfl (Jvm.hb hby d1_91) k₀) ?_
  show Gm p e below T76 m 92 #[rv r0, iv (3 : Int32)] [(.int (-1 : Int32)), (.ref b67)] _
  have f77 := (V67.other W75 (Ne.symm ne_r0_b67))
  obtain ⟨_, _, ⟨T78, L78, k78, n78⟩, -, X78, ⟨Lc78, hQ78, l78, y78, z78⟩, st78⟩ := Jvm.LawKit.callS X76 hx (y := (⟨"java/util/Arrays", "fill", "([II)V"⟩ : MethodName)) hown (mvT hZ (hw _ (List.mem_of_getElem? (i := 36) rfl))) (mvT hZ (hw _ (List.mem_of_getElem? (i := 37) rfl))) (mvT hZ (hw _ (List.mem_of_getElem? (i := 29) rfl))) (mvT hZ (hw _ (List.mem_of_getElem? (i := 38) rfl))) (by decide) (backOf (W := 0) (rm4_3 l Z a0 hw [] b67 (-1 : Int32) (fun _ => defaultValue .int) h75 n0 Z75 f77 g_b67) hZ (hw _ (List.mem_of_getElem? (i := 38) rfl)) (hw _ (List.mem_of_getElem? (i := 29) rfl)) (by decide) (by decide)) (g := (mkF m 92 #[rv r0, iv (3 : Int32)] [(.int (-1 : Int32)), (.ref b67)])) rfl (by rw [hml]; rfl) (argsL := [(.ref b67), (.int (-1 : Int32))]) (rest := []) (lenOf own_pd1 rfl) rfl (by show 2 * 0 + _ ≤ _; exact Nat.le_of_eq rfl) (Jvm.hb hby d1_92) (fun _ _ => ⟨rfl, e76, (by decide : 9 + 0 ≤ _), (by decide : 27 + 0 ≤ _)⟩)
  dsimp only [Pt.U, Pt.locs, Pt.cells, Pt.slots] at X78 l78 y78 z78 st78 hQ78
  subst l78 y78 z78
  obtain ⟨rfl, Nq78, Kc78, Ac78⟩ := hQ78
  have N78 := Fr.app N75 Nq78
  refine own_go st78 ?_
  have Z78 : n0 ≤ T78.heap.size := Nat.le_trans Z75 Kc78.1
  have K78 : Keep h0 T78.heap [r0] := Keep.trans K75 Kc78 (allS (Or.inr sz_b67) all0)
  show Gm p e below T78 m 95 #[rv r0, iv (3 : Int32)] [] _
  refine own_go (fun t₀ k₀ => XS.aloadN X78.here hx rfl (Jvm.hb hby d1_95) rfl rfl k₀) ?_
  show Gm p e below T78 m 96 #[rv r0, iv (3 : Int32)] [(.ref r0)] _
  refine own_go (fun t₀ k₀ => XS.iloadN X78.here hx rfl (Jvm.hb hby d1_96) rfl k₀) ?_
  show Gm p e below T78 m 97 #[rv r0, iv (3 : Int32)] [(.int (3 : Int32)), (.ref r0)] _
  obtain ⟨T79, h79, k79, X79, e79, E79, A79, st79⟩ := newP X78 hx hZ (hw _ (List.mem_of_getElem? (i := 10) rfl)) rfl (g := (mkF m 97 #[rv r0, iv (3 : Int32)] [(.int (3 : Int32)), (.ref r0)])) rfl (Jvm.hb hby d1_97) rfl (by decide) (cap := 3) (by decide) (by decide) (by decide) (by decide)
  obtain ⟨b79, g79⟩ : ∃ z, z = T78.heap.size := ⟨_, rfl⟩
  rw [← g79] at A79 st79
  have g_b79 : n0 ≤ b79 := Nat.le_trans Z78 (Nat.le_of_eq g79.symm)
  have f80 := ((f73.wr W75).keep Kc78)
  have ne_r0_b79 : r0 ≠ b79 := Nat.ne_of_lt (Nat.lt_of_lt_of_le f80.lt (Nat.le_of_eq g79.symm))
  have f81 := (((f69.ext E67).other W75 (Ne.symm ne_r0_b2)).keep Kc78 (ninS ne_b2_b67 nin0))
  have ne_b2_b79 : b2 ≠ b79 := Nat.ne_of_lt (Nat.lt_of_lt_of_le f81.lt (Nat.le_of_eq g79.symm))
  have f82 := (((f70.ext E67).other W75 (Ne.symm ne_r0_b6)).keep Kc78 (ninS ne_b6_b67 nin0))
  have ne_b6_b79 : b6 ≠ b79 := Nat.ne_of_lt (Nat.lt_of_lt_of_le f82.lt (Nat.le_of_eq g79.symm))
  have f83 := (((f71.ext E67).other W75 (Ne.symm ne_r0_b12)).keep Kc78 (ninS ne_b12_b67 nin0))
  have ne_b12_b79 : b12 ≠ b79 := Nat.ne_of_lt (Nat.lt_of_lt_of_le f83.lt (Nat.le_of_eq g79.symm))
  have f84 := (((f72.ext E67).other W75 (Ne.symm ne_r0_b35)).keep Kc78 (ninS ne_b35_b67 nin0))
  have ne_b35_b79 : b35 ≠ b79 := Nat.ne_of_lt (Nat.lt_of_lt_of_le f84.lt (Nat.le_of_eq g79.symm))
  have ne_b67_b79 : b67 ≠ b79 := Nat.ne_of_lt (Nat.lt_of_lt_of_le Ac78.lt (Nat.le_of_eq g79.symm))
  have sz_b79 : h0.size ≤ b79 := Nat.le_trans K78.1 (Nat.le_of_eq g79.symm)
  have K79 : Keep h0 h79 [r0] := Keep.ext K78 E79
  have Z79 : n0 ≤ h79.size := Nat.le_trans Z78 E79.1
  have V79 : Af Z h79 b79 .int 3 (fun _ => defaultValue .int) := Af.new A79 (by decide) rfl rfl
  refine own_go st79 ?_
  show Gm p e below T79 m 99 #[rv r0, iv (3 : Int32)] [(.ref b79), (.ref r0)] _
  have f85 := (f80.ext E79)
  have f86 := (((Fld.other W75 (((Fld.other W63 (((Fld.other W51 ((Fld.other W42 ((Fld.other W34 ((Fld.other W26 ((Fld.other W18 ((Fld.other W11 ((Fld.other W5 (F_exit.ext E2) (Or.inr (slot_ne (Or.inr (hw _ (List.mem_of_getElem? (i := 40) rfl))) (Or.inr (hw _ (List.mem_of_getElem? (i := 12) rfl))) (by decide) (t := (.array .int)) (t' := (.array .int)) (by decide) (by decide)))).ext E6) (Or.inr (slot_ne (Or.inr (hw _ (List.mem_of_getElem? (i := 40) rfl))) (Or.inr (hw _ (List.mem_of_getElem? (i := 14) rfl))) (by decide) (t := (.array .int)) (t' := (.array .int)) (by decide) (by decide)))).ext E12) (Or.inr (slot_ne (Or.inr (hw _ (List.mem_of_getElem? (i := 40) rfl))) (Or.inr (hw _ (List.mem_of_getElem? (i := 16) rfl))) (by decide) (t := (.array .int)) (t' := (.array .int)) (by decide) (by decide)))).ext E19) (Or.inr (slot_ne (Or.inr (hw _ (List.mem_of_getElem? (i := 40) rfl))) (Or.inr (hw _ (List.mem_of_getElem? (i := 19) rfl))) (by decide) (t := (.array .int)) (t' := (.array .double)) (by decide) (by decide)))).ext E27) (Or.inr (slot_ne (Or.inr (hw _ (List.mem_of_getElem? (i := 40) rfl))) (Or.inr (hw _ (List.mem_of_getElem? (i := 21) rfl))) (by decide) (t := (.array .int)) (t' := (.array .double)) (by decide) (by decide)))).ext E35) (Or.inr (slot_ne (Or.inr (hw _ (List.mem_of_getElem? (i := 40) rfl))) (Or.inr (hw _ (List.mem_of_getElem? (i := 23) rfl))) (by decide) (t := (.array .int)) (t' := (.array .int)) (by decide) (by decide)))).ext E43) (Or.inr (slot_ne (Or.inr (hw _ (List.mem_of_getElem? (i := 40) rfl))) (Or.inr (hw _ (List.mem_of_getElem? (i := 25) rfl))) (by decide) (t := (.array .int)) (t' := (.array .double)) (by decide) (by decide)))).keep Kc54 (ninS ne_r0_b43 nin0)).ext E55) (Or.inr (slot_ne (Or.inr (hw _ (List.mem_of_getElem? (i := 40) rfl))) (Or.inr (hw _ (List.mem_of_getElem? (i := 32) rfl))) (by decide) (t := (.array .int)) (t' := (.array .double)) (by decide) (by decide)))).keep Kc66 (ninS ne_r0_b55 nin0)).ext E67) (Or.inr (slot_ne (Or.inr (hw _ (List.mem_of_getElem? (i := 40) rfl))) (Or.inr (hw _ (List.mem_of_getElem? (i := 35) rfl))) (by decide) (t := (.array .int)) (t' := (.array .int)) (by decide) (by decide)))).keep Kc78 (ninS ne_r0_b67 nin0)).ext E79)
  obtain ⟨T87, h87, X87, e87, W87, st87⟩ := putF X79 hx hZ hown (host := "") (Or.inl (hw _ (List.mem_of_getElem? (i := 39) rfl))) Via.refl e79 f86 f85 (Or.inr ⟨(hw _ (List.mem_of_getElem? (i := 40) rfl)), rfl, hnm⟩) (hw _ (List.mem_of_getElem? (i := 2) rfl)) (ty := (.array .int)) (by decide) rfl rfl (g := (mkF m 99 #[rv r0, iv (3 : Int32)] [(.ref b79), (.ref r0)])) rfl rfl (Jvm.hb hby d1_99)
  have Fw87 := Fld.same W87 f86
  have N87 := Fr.snoc X87 N78 g_r0
  have Z87 : n0 ≤ h87.size := W87.size ▸ Z79
  have K87 : Keep h0 h87 [r0] := Keep.wr K79 W87 (Or.inl (List.mem_of_getElem? (i := 0) rfl))
  refine own_go st87 ?_
  show Gm p e below T87 m 102 #[rv r0, iv (3 : Int32)] [] _
  refine own_go (fun t₀ k₀ => XS.aloadN X87.here hx rfl (Jvm.hb hby d1_102) rfl rfl k₀) ?_
  show Gm p e below T87 m 103 #[rv r0, iv (3 : Int32)] [(.ref r0)] _
  obtain ⟨T88, X88, e88, st88⟩ := getF X87 hx hZ hown (host := "") (Or.inl (hw _ (List.mem_of_getElem? (i := 39) rfl))) Via.refl e87 Fw87 (g := (mkF m 103 #[rv r0, iv (3 : Int32)] [(.ref r0)])) rfl rfl (Jvm.hb hby d1_103)
  refine own_go st88 ?_
  show Gm p e below T88 m 106 #[rv r0, iv (3 : Int32)] [(.ref b79)] _
  refine own_go (fun t₀ k₀ => XS.iconst X88.here hx rfl (Jvm.hb hby d1_106) k₀) ?_
  show Gm p e below T88 m 107 #[rv r0, iv (3 : Int32)] [(.int (-1 : Int32)), (.ref b79)] _
  have f89 := (V79.other W87 (Ne.symm ne_r0_b79))
  obtain ⟨_, _, ⟨T90, L90, k90, n90⟩, -, X90, ⟨Lc90, hQ90, l90, y90, z90⟩, st90⟩ := Jvm.LawKit.callS X88 hx (y := (⟨"java/util/Arrays", "fill", "([II)V"⟩ : MethodName)) hown (mvT hZ (hw _ (List.mem_of_getElem? (i := 36) rfl))) (mvT hZ (hw _ (List.mem_of_getElem? (i := 37) rfl))) (mvT hZ (hw _ (List.mem_of_getElem? (i := 29) rfl))) (mvT hZ (hw _ (List.mem_of_getElem? (i := 38) rfl))) (by decide) (backOf (W := 0) (rm4_3 l Z a0 hw [] b79 (-1 : Int32) (fun _ => defaultValue .int) h87 n0 Z87 f89 g_b79) hZ (hw _ (List.mem_of_getElem? (i := 38) rfl)) (hw _ (List.mem_of_getElem? (i := 29) rfl)) (by decide) (by decide)) (g := (mkF m 107 #[rv r0, iv (3 : Int32)] [(.int (-1 : Int32)), (.ref b79)])) rfl (by rw [hml]; rfl) (argsL := [(.ref b79), (.int (-1 : Int32))]) (rest := []) (lenOf own_pd1 rfl) rfl (by show 2 * 0 + _ ≤ _; exact Nat.le_of_eq rfl) (Jvm.hb hby d1_107) (fun _ _ => ⟨rfl, e88, (by decide : 10 + 0 ≤ _), (by decide : 30 + 0 ≤ _)⟩)
  dsimp only [Pt.U, Pt.locs, Pt.cells, Pt.slots] at X90 l90 y90 z90 st90 hQ90
  subst l90 y90 z90
  obtain ⟨rfl, Nq90, Kc90, Ac90⟩ := hQ90
  have N90 := Fr.app N87 Nq90
  refine own_go st90 ?_
  have Z90 : n0 ≤ T90.heap.size := Nat.le_trans Z87 Kc90.1
  have K90 : Keep h0 T90.heap [r0] := Keep.trans K87 Kc90 (allS (Or.inr sz_b79) all0)
  show Gm p e below T90 m 110 #[rv r0, iv (3 : Int32)] [] _
  refine own_go (fun t₀ k₀ => XS.aloadN X90.here hx rfl (Jvm.hb hby d1_110) rfl rfl k₀) ?_
  show Gm p e below T90 m 111 #[rv r0, iv (3 : Int32)] [(.ref r0)] _
  refine own_go (fun t₀ k₀ => XS.iloadN X90.here hx rfl (Jvm.hb hby d1_111) rfl k₀) ?_
  show Gm p e below T90 m 112 #[rv r0, iv (3 : Int32)] [(.int (3 : Int32)), (.ref r0)] _
  obtain ⟨T91, h91, k91, X91, e91, E91, A91, st91⟩ := newP X90 hx hZ (hw _ (List.mem_of_getElem? (i := 17) rfl)) rfl (g := (mkF m 112 #[rv r0, iv (3 : Int32)] [(.int (3 : Int32)), (.ref r0)])) rfl (Jvm.hb hby d1_112) rfl (by decide) (cap := 3) (by decide) (by decide) (by decide) (by decide)
  obtain ⟨b91, g91⟩ : ∃ z, z = T90.heap.size := ⟨_, rfl⟩
  rw [← g91] at A91 st91
  have g_b91 : n0 ≤ b91 := Nat.le_trans Z90 (Nat.le_of_eq g91.symm)
  have f92 := ((f85.wr W87).keep Kc90)
  have ne_r0_b91 : r0 ≠ b91 := Nat.ne_of_lt (Nat.lt_of_lt_of_le f92.lt (Nat.le_of_eq g91.symm))
  have f93 := (((f81.ext E79).other W87 (Ne.symm ne_r0_b2)).keep Kc90 (ninS ne_b2_b79 nin0))
  have ne_b2_b91 : b2 ≠ b91 := Nat.ne_of_lt (Nat.lt_of_lt_of_le f93.lt (Nat.le_of_eq g91.symm))
  have f94 := (((f82.ext E79).other W87 (Ne.symm ne_r0_b6)).keep Kc90 (ninS ne_b6_b79 nin0))
  have ne_b6_b91 : b6 ≠ b91 := Nat.ne_of_lt (Nat.lt_of_lt_of_le f94.lt (Nat.le_of_eq g91.symm))
  have f95 := (((f83.ext E79).other W87 (Ne.symm ne_r0_b12)).keep Kc90 (ninS ne_b12_b79 nin0))
  have ne_b12_b91 : b12 ≠ b91 := Nat.ne_of_lt (Nat.lt_of_lt_of_le f95.lt (Nat.le_of_eq g91.symm))
  have f96 := (((f84.ext E79).other W87 (Ne.symm ne_r0_b35)).keep Kc90 (ninS ne_b35_b79 nin0))
  have ne_b35_b91 : b35 ≠ b91 := Nat.ne_of_lt (Nat.lt_of_lt_of_le f96.lt (Nat.le_of_eq g91.symm))
  have f97 := (((Ac78.ext E79).other W87 (Ne.symm ne_r0_b67)).keep Kc90 (ninS ne_b67_b79 nin0))
  have ne_b67_b91 : b67 ≠ b91 := Nat.ne_of_lt (Nat.lt_of_lt_of_le f97.lt (Nat.le_of_eq g91.symm))
  have ne_b79_b91 : b79 ≠ b91 := Nat.ne_of_lt (Nat.lt_of_lt_of_le Ac90.lt (Nat.le_of_eq g91.symm))
  have sz_b91 : h0.size ≤ b91 := Nat.le_trans K90.1 (Nat.le_of_eq g91.symm)
  have K91 : Keep h0 h91 [r0] := Keep.ext K90 E91
  have Z91 : n0 ≤ h91.size := Nat.le_trans Z90 E91.1
  have V91 : Af Z h91 b91 .double 3 (fun _ => defaultValue .double) := Af.new A91 (by decide) rfl rfl
  refine own_go st91 ?_
  show Gm p e below T91 m 114 #[rv r0, iv (3 : Int32)] [(.ref b91), (.ref r0)] _
  have f98 := (f92.ext E91)
  have f99 := (((Fld.other W87 (((Fld.other W75 (((Fld.other W63 (((Fld.other W51 ((Fld.other W42 ((Fld.other W34 ((Fld.other W26 ((Fld.other W18 ((Fld.other W11 ((Fld.other W5 (F_distanceM.ext E2) (Or.inr (slot_ne (Or.inr (hw _ (List.mem_of_getElem? (i := 42) rfl))) (Or.inr (hw _ (List.mem_of_getElem? (i := 12) rfl))) (by decide) (t := (.array .double)) (t' := (.array .int)) (by decide) (by decide)))).ext E6) (Or.inr (slot_ne (Or.inr (hw _ (List.mem_of_getElem? (i := 42) rfl))) (Or.inr (hw _ (List.mem_of_getElem? (i := 14) rfl))) (by decide) (t := (.array .double)) (t' := (.array .int)) (by decide) (by decide)))).ext E12) (Or.inr (slot_ne (Or.inr (hw _ (List.mem_of_getElem? (i := 42) rfl))) (Or.inr (hw _ (List.mem_of_getElem? (i := 16) rfl))) (by decide) (t := (.array .double)) (t' := (.array .int)) (by decide) (by decide)))).ext E19) (Or.inr (slot_ne (Or.inr (hw _ (List.mem_of_getElem? (i := 42) rfl))) (Or.inr (hw _ (List.mem_of_getElem? (i := 19) rfl))) (by decide) (t := (.array .double)) (t' := (.array .double)) (by decide) (by decide)))).ext E27) (Or.inr (slot_ne (Or.inr (hw _ (List.mem_of_getElem? (i := 42) rfl))) (Or.inr (hw _ (List.mem_of_getElem? (i := 21) rfl))) (by decide) (t := (.array .double)) (t' := (.array .double)) (by decide) (by decide)))).ext E35) (Or.inr (slot_ne (Or.inr (hw _ (List.mem_of_getElem? (i := 42) rfl))) (Or.inr (hw _ (List.mem_of_getElem? (i := 23) rfl))) (by decide) (t := (.array .double)) (t' := (.array .int)) (by decide) (by decide)))).ext E43) (Or.inr (slot_ne (Or.inr (hw _ (List.mem_of_getElem? (i := 42) rfl))) (Or.inr (hw _ (List.mem_of_getElem? (i := 25) rfl))) (by decide) (t := (.array .double)) (t' := (.array .double)) (by decide) (by decide)))).keep Kc54 (ninS ne_r0_b43 nin0)).ext E55) (Or.inr (slot_ne (Or.inr (hw _ (List.mem_of_getElem? (i := 42) rfl))) (Or.inr (hw _ (List.mem_of_getElem? (i := 32) rfl))) (by decide) (t := (.array .double)) (t' := (.array .double)) (by decide) (by decide)))).keep Kc66 (ninS ne_r0_b55 nin0)).ext E67) (Or.inr (slot_ne (Or.inr (hw _ (List.mem_of_getElem? (i := 42) rfl))) (Or.inr (hw _ (List.mem_of_getElem? (i := 35) rfl))) (by decide) (t := (.array .double)) (t' := (.array .int)) (by decide) (by decide)))).keep Kc78 (ninS ne_r0_b67 nin0)).ext E79) (Or.inr (slot_ne (Or.inr (hw _ (List.mem_of_getElem? (i := 42) rfl))) (Or.inr (hw _ (List.mem_of_getElem? (i := 40) rfl))) (by decide) (t := (.array .double)) (t' := (.array .int)) (by decide) (by decide)))).keep Kc90 (ninS ne_r0_b79 nin0)).ext E91)
  obtain ⟨T100, h100, X100, e100, W100, st100⟩ := putF X91 hx hZ hown (host := "") (Or.inl (hw _ (List.mem_of_getElem? (i := 41) rfl))) Via.refl e91 f99 f98 (Or.inr ⟨(hw _ (List.mem_of_getElem? (i := 42) rfl)), rfl, hnm⟩) (hw _ (List.mem_of_getElem? (i := 2) rfl)) (ty := (.array .double)) (by decide) rfl rfl (g := (mkF m 114 #[rv r0, iv (3 : Int32)] [(.ref b91), (.ref r0)])) rfl rfl (Jvm.hb hby d1_114)
  have Fw100 := Fld.same W100 f99
  have N100 := Fr.snoc X100 N90 g_r0
  have Z100 : n0 ≤ h100.size := W100.size ▸ Z91
  have K100 : Keep h0 h100 [r0] := Keep.wr K91 W100 (Or.inl (List.mem_of_getElem? (i := 0) rfl))
  refine own_go st100 ?_
  show Gm p e below T100 m 117 #[rv r0, iv (3 : Int32)] [] _
  have f101 := (f98.wr W100)
  have f102 := (Fld.other W100 (((Fld.other W87 (((Fld.other W75 (((Fld.other W63 (((Fld.other W51 ((Fld.other W42 ((Fld.other W34 ((Fld.other W26 ((Fld.other W18 ((Fld.other W11 (Fw5.ext E6) (Or.inr (slot_ne (Or.inr (hw _ (List.mem_of_getElem? (i := 12) rfl))) (Or.inr (hw _ (List.mem_of_getElem? (i := 14) rfl))) (by decide) (t := (.array .int)) (t' := (.array .int)) (by decide) (by decide)))).ext E12) (Or.inr (slot_ne (Or.inr (hw _ (List.mem_of_getElem? (i := 12) rfl))) (Or.inr (hw _ (List.mem_of_getElem? (i := 16) rfl))) (by decide) (t := (.array .int)) (t' := (.array .int)) (by decide) (by decide)))).ext E19) (Or.inr (slot_ne (Or.inr (hw _ (List.mem_of_getElem? (i := 12) rfl))) (Or.inr (hw _ (List.mem_of_getElem? (i := 19) rfl))) (by decide) (t := (.array .int)) (t' := (.array .double)) (by decide) (by decide)))).ext E27) (Or.inr (slot_ne (Or.inr (hw _ (List.mem_of_getElem? (i := 12) rfl))) (Or.inr (hw _ (List.mem_of_getElem? (i := 21) rfl))) (by decide) (t := (.array .int)) (t' := (.array .double)) (by decide) (by decide)))).ext E35) (Or.inr (slot_ne (Or.inr (hw _ (List.mem_of_getElem? (i := 12) rfl))) (Or.inr (hw _ (List.mem_of_getElem? (i := 23) rfl))) (by decide) (t := (.array .int)) (t' := (.array .int)) (by decide) (by decide)))).ext E43) (Or.inr (slot_ne (Or.inr (hw _ (List.mem_of_getElem? (i := 12) rfl))) (Or.inr (hw _ (List.mem_of_getElem? (i := 25) rfl))) (by decide) (t := (.array .int)) (t' := (.array .double)) (by decide) (by decide)))).keep Kc54 (ninS ne_r0_b43 nin0)).ext E55) (Or.inr (slot_ne (Or.inr (hw _ (List.mem_of_getElem? (i := 12) rfl))) (Or.inr (hw _ (List.mem_of_getElem? (i := 32) rfl))) (by decide) (t := (.array .int)) (t' := (.array .double)) (by decide) (by decide)))).keep Kc66 (ninS ne_r0_b55 nin0)).ext E67) (Or.inr (slot_ne (Or.inr (hw _ (List.mem_of_getElem? (i := 12) rfl))) (Or.inr (hw _ (List.mem_of_getElem? (i := 35) rfl))) (by decide) (t := (.array .int)) (t' := (.array .int)) (by decide) (by decide)))).keep Kc78 (ninS ne_r0_b67 nin0)).ext E79) (Or.inr (slot_ne (Or.inr (hw _ (List.mem_of_getElem? (i := 12) rfl))) (Or.inr (hw _ (List.mem_of_getElem? (i := 40) rfl))) (by decide) (t := (.array .int)) (t' := (.array .int)) (by decide) (by decide)))).keep Kc90 (ninS ne_r0_b79 nin0)).ext E91) (Or.inr (slot_ne (Or.inr (hw _ (List.mem_of_getElem? (i := 12) rfl))) (Or.inr (hw _ (List.mem_of_getElem? (i := 42) rfl))) (by decide) (t := (.array .int)) (t' := (.array .double)) (by decide) (by decide))))
  have f103 := ((f93.ext E91).other W100 (Ne.symm ne_r0_b2))
  have f104 := (Fld.other W100 (((Fld.other W87 (((Fld.other W75 (((Fld.other W63 (((Fld.other W51 ((Fld.other W42 ((Fld.other W34 ((Fld.other W26 ((Fld.other W18 (Fw11.ext E12) (Or.inr (slot_ne (Or.inr (hw _ (List.mem_of_getElem? (i := 14) rfl))) (Or.inr (hw _ (List.mem_of_getElem? (i := 16) rfl))) (by decide) (t := (.array .int)) (t' := (.array .int)) (by decide) (by decide)))).ext E19) (Or.inr (slot_ne (Or.inr (hw _ (List.mem_of_getElem? (i := 14) rfl))) (Or.inr (hw _ (List.mem_of_getElem? (i := 19) rfl))) (by decide) (t := (.array .int)) (t' := (.array .double)) (by decide) (by decide)))).ext E27) (Or.inr (slot_ne (Or.inr (hw _ (List.mem_of_getElem? (i := 14) rfl))) (Or.inr (hw _ (List.mem_of_getElem? (i := 21) rfl))) (by decide) (t := (.array .int)) (t' := (.array .double)) (by decide) (by decide)))).ext E35) (Or.inr (slot_ne (Or.inr (hw _ (List.mem_of_getElem? (i := 14) rfl))) (Or.inr (hw _ (List.mem_of_getElem? (i := 23) rfl))) (by decide) (t := (.array .int)) (t' := (.array .int)) (by decide) (by decide)))).ext E43) (Or.inr (slot_ne (Or.inr (hw _ (List.mem_of_getElem? (i := 14) rfl))) (Or.inr (hw _ (List.mem_of_getElem? (i := 25) rfl))) (by decide) (t := (.array .int)) (t' := (.array .double)) (by decide) (by decide)))).keep Kc54 (ninS ne_r0_b43 nin0)).ext E55) (Or.inr (slot_ne (Or.inr (hw _ (List.mem_of_getElem? (i := 14) rfl))) (Or.inr (hw _ (List.mem_of_getElem? (i := 32) rfl))) (by decide) (t := (.array .int)) (t' := (.array .double)) (by decide) (by decide)))).keep Kc66 (ninS ne_r0_b55 nin0)).ext E67) (Or.inr (slot_ne (Or.inr (hw _ (List.mem_of_getElem? (i := 14) rfl))) (Or.inr (hw _ (List.mem_of_getElem? (i := 35) rfl))) (by decide) (t := (.array .int)) (t' := (.array .int)) (by decide) (by decide)))).keep Kc78 (ninS ne_r0_b67 nin0)).ext E79) (Or.inr (slot_ne (Or.inr (hw _ (List.mem_of_getElem? (i := 14) rfl))) (Or.inr (hw _ (List.mem_of_getElem? (i := 40) rfl))) (by decide) (t := (.array .int)) (t' := (.array .int)) (by decide) (by decide)))).keep Kc90 (ninS ne_r0_b79 nin0)).ext E91) (Or.inr (slot_ne (Or.inr (hw _ (List.mem_of_getElem? (i := 14) rfl))) (Or.inr (hw _ (List.mem_of_getElem? (i := 42) rfl))) (by decide) (t := (.array .int)) (t' := (.array .double)) (by decide) (by decide))))
  have f105 := ((f94.ext E91).other W100 (Ne.symm ne_r0_b6))
  have f106 := (Fld.other W100 (((Fld.other W87 (((Fld.other W75 (((Fld.other W63 (((Fld.other W51 ((Fld.other W42 ((Fld.other W34 ((Fld.other W26 (Fw18.ext E19) (Or.inr (slot_ne (Or.inr (hw _ (List.mem_of_getElem? (i := 16) rfl))) (Or.inr (hw _ (List.mem_of_getElem? (i := 19) rfl))) (by decide) (t := (.array .int)) (t' := (.array .double)) (by decide) (by decide)))).ext E27) (Or.inr (slot_ne (Or.inr (hw _ (List.mem_of_getElem? (i := 16) rfl))) (Or.inr (hw _ (List.mem_of_getElem? (i := 21) rfl))) (by decide) (t := (.array .int)) (t' := (.array .double)) (by decide) (by decide)))).ext E35) (Or.inr (slot_ne (Or.inr (hw _ (List.mem_of_getElem? (i := 16) rfl))) (Or.inr (hw _ (List.mem_of_getElem? (i := 23) rfl))) (by decide) (t := (.array .int)) (t' := (.array .int)) (by decide) (by decide)))).ext E43) (Or.inr (slot_ne (Or.inr (hw _ (List.mem_of_getElem? (i := 16) rfl))) (Or.inr (hw _ (List.mem_of_getElem? (i := 25) rfl))) (by decide) (t := (.array .int)) (t' := (.array .double)) (by decide) (by decide)))).keep Kc54 (ninS ne_r0_b43 nin0)).ext E55) (Or.inr (slot_ne (Or.inr (hw _ (List.mem_of_getElem? (i := 16) rfl))) (Or.inr (hw _ (List.mem_of_getElem? (i := 32) rfl))) (by decide) (t := (.array .int)) (t' := (.array .double)) (by decide) (by decide)))).keep Kc66 (ninS ne_r0_b55 nin0)).ext E67) (Or.inr (slot_ne (Or.inr (hw _ (List.mem_of_getElem? (i := 16) rfl))) (Or.inr (hw _ (List.mem_of_getElem? (i := 35) rfl))) (by decide) (t := (.array .int)) (t' := (.array .int)) (by decide) (by decide)))).keep Kc78 (ninS ne_r0_b67 nin0)).ext E79) (Or.inr (slot_ne (Or.inr (hw _ (List.mem_of_getElem? (i := 16) rfl))) (Or.inr (hw _ (List.mem_of_getElem? (i := 40) rfl))) (by decide) (t := (.array .int)) (t' := (.array .int)) (by decide) (by decide)))).keep Kc90 (ninS ne_r0_b79 nin0)).ext E91) (Or.inr (slot_ne (Or.inr (hw _ (List.mem_of_getElem? (i := 16) rfl))) (Or.inr (hw _ (List.mem_of_getElem? (i := 42) rfl))) (by decide) (t := (.array .int)) (t' := (.array .double)) (by decide) (by decide))))
  have f107 := ((f95.ext E91).other W100 (Ne.symm ne_r0_b12))
  have f108 := (Fld.other W100 (((Fld.other W87 (((Fld.other W75 (((Fld.other W63 (((Fld.other W51 (Fw42.ext E43) (Or.inr (slot_ne (Or.inr (hw _ (List.mem_of_getElem? (i := 23) rfl))) (Or.inr (hw _ (List.mem_of_getElem? (i := 25) rfl))) (by decide) (t := (.array .int)) (t' := (.array .double)) (by decide) (by decide)))).keep Kc54 (ninS ne_r0_b43 nin0)).ext E55) (Or.inr (slot_ne (Or.inr (hw _ (List.mem_of_getElem? (i := 23) rfl))) (Or.inr (hw _ (List.mem_of_getElem? (i := 32) rfl))) (by decide) (t := (.array .int)) (t' := (.array .double)) (by decide) (by decide)))).keep Kc66 (ninS ne_r0_b55 nin0)).ext E67) (Or.inr (slot_ne (Or.inr (hw _ (List.mem_of_getElem? (i := 23) rfl))) (Or.inr (hw _ (List.mem_of_getElem? (i := 35) rfl))) (by decide) (t := (.array .int)) (t' := (.array .int)) (by decide) (by decide)))).keep Kc78 (ninS ne_r0_b67 nin0)).ext E79) (Or.inr (slot_ne (Or.inr (hw _ (List.mem_of_getElem? (i := 23) rfl))) (Or.inr (hw _ (List.mem_of_getElem? (i := 40) rfl))) (by decide) (t := (.array .int)) (t' := (.array .int)) (by decide) (by decide)))).keep Kc90 (ninS ne_r0_b79 nin0)).ext E91) (Or.inr (slot_ne (Or.inr (hw _ (List.mem_of_getElem? (i := 23) rfl))) (Or.inr (hw _ (List.mem_of_getElem? (i := 42) rfl))) (by decide) (t := (.array .int)) (t' := (.array .double)) (by decide) (by decide))))
  have f109 := ((f96.ext E91).other W100 (Ne.symm ne_r0_b35))
  have f110 := (Fld.other W100 (((Fld.other W87 ((Fw75.keep Kc78 (ninS ne_r0_b67 nin0)).ext E79) (Or.inr (slot_ne (Or.inr (hw _ (List.mem_of_getElem? (i := 35) rfl))) (Or.inr (hw _ (List.mem_of_getElem? (i := 40) rfl))) (by decide) (t := (.array .int)) (t' := (.array .int)) (by decide) (by decide)))).keep Kc90 (ninS ne_r0_b79 nin0)).ext E91) (Or.inr (slot_ne (Or.inr (hw _ (List.mem_of_getElem? (i := 35) rfl))) (Or.inr (hw _ (List.mem_of_getElem? (i := 42) rfl))) (by decide) (t := (.array .int)) (t' := (.array .double)) (by decide) (by decide))))
  have f111 := ((f97.ext E91).other W100 (Ne.symm ne_r0_b67))
  have f112 := (Fld.other W100 ((Fw87.keep Kc90 (ninS ne_r0_b79 nin0)).ext E91) (Or.inr (slot_ne (Or.inr (hw _ (List.mem_of_getElem? (i := 40) rfl))) (Or.inr (hw _ (List.mem_of_getElem? (i := 42) rfl))) (by decide) (t := (.array .int)) (t' := (.array .double)) (by decide) (by decide))))
  have f113 := ((Ac90.ext E91).other W100 (Ne.symm ne_r0_b79))
  exact own_retV X100 hx hlk Bd.returns (Jvm.hb hby d1_117) e100 ⟨b2, b6, b12, b35, b67, b79, rfl, N100, K100, f101, sz_b2, f102, f103, sz_b6, f104, f105, sz_b12, f106, f107, sz_b35, f108, f109, sz_b67, f110, f111, sz_b79, f112, f113, ne_b2_b6, ne_b2_b12, ne_b6_b12, ne_b2_b35, ne_b6_b35, ne_b12_b35, ne_b2_b67, ne_b6_b67, ne_b12_b67, ne_b35_b67, ne_b2_b79, ne_b6_b79, ne_b12_b79, ne_b35_b79, ne_b67_b79⟩ (by decide) (by decide)
theorem own_pn_rm3_4 : plainName "java/util/Arrays" = true := by first | (simp [plainName, overriddenIn]; done) | decide +kernel
theorem own_ef_rm3_4 (m : MethodId) (r0 : Addr) (x1 : UInt64) : entryFrame m #[(.ref r0), (.double x1)] 5 = mkF m 0 #[.val (.ref r0), .val (.double x1), .second, .unset, .unset] [] := by first | (simp [entryFrame, mkF, argsToLocals, Value.category]; done) | rfl
def Q3_4 (Z : State) (r0 : Addr) (x1 : UInt64) (f : Nat → Value) (h0 : Heap) (n0 : Nat) (v : Option Value) (h : Heap) (L : List Loc) : Prop := v = none ∧ Fr n0 L ∧ Keep h0 h [r0] ∧ ∃ f', Af Z h r0 .double 4 f'
set_option maxRecDepth 65536 in
set_option maxHeartbeats 40000000 in
theorem rm3_4 (l : Launch) (Z : State) (a0 : Array Value) (hw : ∀ d ∈ tables_1, d.before a0 Z = true) (ws : List Jvm.Cond) (r0 : Addr) (x1 : UInt64) (f : Nat → Value) (h0 : Heap) (n0 : Nat) (Z0 : n0 ≤ h0.size) (A : Af Z h0 r0 .double 4 f) (g_r0 : n0 ≤ r0) :
    MetFree l (⟨"java/util/Arrays", "fill", "([DD)V"⟩ : MethodName) (head1 (Jvm.Cond.code (⟨"java/util/Arrays", "fill", "([DD)V"⟩ : MethodName) jdk_65_method_113_code 5 none :: ws) ({ frames := 0, cells := 0, slots := 0, locals := 0 } : Room)) (fun a U => a = #[(.ref r0), (.double x1)] ∧ Z.Warmed39 U.vm ∧ U.heap = h0) (fun _ _ _ _ _ => True) (fun _ U o U' => ∃ v L, o = .returned v ∧ Q3_4 Z r0 x1 f h0 n0 v U'.heap L ∧ FrameEnd U o U' L ({ frames := 0, cells := 0, slots := 0, locals := 0 } : Room).cells ({ frames := 0, cells := 0, slots := 0, locals := 0 } : Room).slots) := by
  refine MetFree.of_bodySF (plainFor_of_name own_pn_rm3_4) hisR ?_
  intro p e s m args below meth cO s₁ Bd hml0 hP hK
  obtain ⟨rfl, hZ, hh⟩ := hP
  have hx := Bd.exec
  have hby := Bd.bytes
  have hml : cO.maxLocals = 5 := hml0
  have hown : s.vm.findClass "java/util/Arrays" = some m.cls := findClass_of_methodNamed Bd.named
  have hnm := (name_of_methodNamed Bd.named Bd.method).1
  have hlk : meth.locks = false := BodyLoose.notSynchronized Bd
  have X0 : Stand p l e ({ frames := 0, cells := 0, slots := 0, locals := 0 } : Room) s m #[(.ref r0), (.double x1)] below meth cO s₁ [] 0 0 := Stand.of_body Bd
  have e0 : s₁.heap = h0 := by rw [← hh, Bd.state]; rfl
  have N0 := Fr.nil n0
  refine own_in (own_ef_rm3_4 m r0 x1) ?_
  show Gm p e below s₁ m 0 #[rv r0, .val (.double x1), .second, .unset, .unset] [] _
  refine own_go (fun t₀ k₀ => XS.iconst X0.here hx rfl (Jvm.hb hby d3_0) k₀) ?_
  show Gm p e below s₁ m 1 #[rv r0, .val (.double x1), .second, .unset, .unset] [(.int (0 : Int32))] _
  refine own_go (fun t₀ k₀ => XS.istoreN X0.here hx rfl (Jvm.hb hby d3_1) rfl (l' := #[rv r0, .val (.double x1), .second, iv (0 : Int32), .unset]) rfl k₀) ?_
  show Gm p e below s₁ m 2 #[rv r0, .val (.double x1), .second, iv (0 : Int32), .unset] [] _
  refine own_go (fun t₀ k₀ => XS.aloadN X0.here hx rfl (Jvm.hb hby d3_2) rfl rfl k₀) ?_
  show Gm p e below s₁ m 3 #[rv r0, .val (.double x1), .second, iv (0 : Int32), .unset] [(.ref r0)] _
  refine own_go (fun t₀ k₀ => own_len X0 hx hZ e0 A (z := (4 : Int32)) rfl (g := (mkF m 3 #[rv r0, .val (.double x1), .second, iv (0 : Int32), .unset] [(.ref r0)])) rfl rfl (Jvm.hb hby d3_3) k₀) ?_
  show Gm p e below s₁ m 4 #[rv r0, .val (.double x1), .second, iv (0 : Int32), .unset] [(.int (4 : Int32))] _
  refine own_go (fun t₀ k₀ => XS.istore X0.here hx rfl (Jvm.hb hby d3_4) rfl (l' := #[rv r0, .val (.double x1), .second, iv (0 : Int32), iv (4 : Int32)]) rfl k₀) ?_
  show Gm p e below s₁ m 6 #[rv r0, .val (.double x1), .second, iv (0 : Int32), iv (4 : Int32)] [] _
  refine own_go (fun t₀ k₀ => XS.iloadN X0.here hx rfl (Jvm.hb hby d3_6) rfl k₀) ?_
  show Gm p e below s₁ m 7 #[rv r0, .val (.double x1), .second, iv (0 : Int32), iv (4 : Int32)] [(.int (0 : Int32))] _
  refine own_go (fun t₀ k₀ => XS.iload X0.here hx rfl (Jvm.hb hby d3_7) rfl k₀) ?_
  show Gm p e below s₁ m 9 #[rv r0, .val (.double x1), .second, iv (0 : Int32), iv (4 : Int32)] [(.int (4 : Int32)), (.int (0 : Int32))] _
  refine own_go (fun t₀ k₀ => XS.icmpNo X0.here hx rfl (Jvm.hb hby d3_9) rfl (XT.ii_ge_f (by decide)) k₀) ?_
  show Gm p e below s₁ m 12 #[rv r0, .val (.double x1), .second, iv (0 : Int32), iv (4 : Int32)] [] _
  refine own_go (fun t₀ k₀ => XS.aloadN X0.here hx rfl (Jvm.hb hby d3_12) rfl rfl k₀) ?_
  show Gm p e below s₁ m 13 #[rv r0, .val (.double x1), .second, iv (0 : Int32), iv (4 : Int32)] [(.ref r0)] _
  refine own_go (fun t₀ k₀ => XS.iloadN X0.here hx rfl (Jvm.hb hby d3_13) rfl k₀) ?_
  show Gm p e below s₁ m 14 #[rv r0, .val (.double x1), .second, iv (0 : Int32), iv (4 : Int32)] [(.int (0 : Int32)), (.ref r0)] _
  refine own_go (fun t₀ k₀ => XS.dloadN X0.here hx rfl (Jvm.hb hby d3_14) rfl k₀) ?_
  show Gm p e below s₁ m 15 #[rv r0, .val (.double x1), .second, iv (0 : Int32), iv (4 : Int32)] [(.double x1), (.int (0 : Int32)), (.ref r0)] _
  obtain ⟨T1, h1, X1, e1, W1, A1, st1⟩ := own_stD X0 hx hZ e0 A (j := (0 : Int32)) (k := 0) (by decide) rfl (by decide) (g := (mkF m 15 #[rv r0, .val (.double x1), .second, iv (0 : Int32), iv (4 : Int32)] [(.double x1), (.int (0 : Int32)), (.ref r0)])) rfl rfl (Jvm.hb hby d3_15)
  have N1 := Fr.snoc X1 N0 g_r0
  have Z1 : n0 ≤ h1.size := W1.size ▸ Z0
  have K1 : Keep h0 h1 [r0] := Keep.wr (Keep.refl h0 [r0]) W1 (Or.inl (List.mem_of_getElem? (i := 0) rfl))
  refine own_go st1 ?_
  show Gm p e below T1 m 16 #[rv r0, .val (.double x1), .second, iv (0 : Int32), iv (4 : Int32)] [] _
  refine own_go (fun t₀ k₀ => XS.iinc X1.here hx rfl (Jvm.hb hby d3_16) rfl (l' := #[rv r0, .val (.double x1), .second, iv (1 : Int32), iv (4 : Int32)]) rfl k₀) ?_
  show Gm p e below T1 m 19 #[rv r0, .val (.double x1), .second, iv (1 : Int32), iv (4 : Int32)] [] _
  refine own_go (fun t₀ k₀ => XS.goto X1.here hx rfl (pc0 := 19) (pc' := 6) rfl (Jvm.hb hby d3_19) (by decide) (by decide) k₀) ?_
  show Gm p e below T1 m 6 #[rv r0, .val (.double x1), .second, iv (1 : Int32), iv (4 : Int32)] [] _
  refine own_go (fun t₀ k₀ => XS.iloadN X1.here hx rfl (Jvm.hb hby d3_6) rfl k₀) ?_
  show Gm p e below T1 m 7 #[rv r0, .val (.double x1), .second, iv (1 : Int32), iv (4 : Int32)] [(.int (1 : Int32))] _
  refine own_go (fun t₀ k₀ => XS.iload X1.here hx rfl (Jvm.hb hby d3_7) rfl k₀) ?_
  show Gm p e below T1 m 9 #[rv r0, .val (.double x1), .second, iv (1 : Int32), iv (4 : Int32)] [(.int (4 : Int32)), (.int (1 : Int32))] _
  refine own_go (fun t₀ k₀ => XS.icmpNo X1.here hx rfl (Jvm.hb hby d3_9) rfl (XT.ii_ge_f (by decide)) k₀) ?_
  show Gm p e below T1 m 12 #[rv r0, .val (.double x1), .second, iv (1 : Int32), iv (4 : Int32)] [] _
  refine own_go (fun t₀ k₀ => XS.aloadN X1.here hx rfl (Jvm.hb hby d3_12) rfl rfl k₀) ?_
  show Gm p e below T1 m 13 #[rv r0, .val (.double x1), .second, iv (1 : Int32), iv (4 : Int32)] [(.ref r0)] _
  refine own_go (fun t₀ k₀ => XS.iloadN X1.here hx rfl (Jvm.hb hby d3_13) rfl k₀) ?_
  show Gm p e below T1 m 14 #[rv r0, .val (.double x1), .second, iv (1 : Int32), iv (4 : Int32)] [(.int (1 : Int32)), (.ref r0)] _
  refine own_go (fun t₀ k₀ => XS.dloadN X1.here hx rfl (Jvm.hb hby d3_14) rfl k₀) ?_
  show Gm p e below T1 m 15 #[rv r0, .val (.double x1), .second, iv (1 : Int32), iv (4 : Int32)] [(.double x1), (.int (1 : Int32)), (.ref r0)] _
  obtain ⟨T2, h2, X2, e2, W2, A2, st2⟩ := own_stD X1 hx hZ e1 A1 (j := (1 : Int32)) (k := 1) (by decide) rfl (by decide) (g := (mkF m 15 #[rv r0, .val (.double x1), .second, iv (1 : Int32), iv (4 : Int32)] [(.double x1), (.int (1 : Int32)), (.ref r0)])) rfl rfl (Jvm.hb hby d3_15)
  have N2 := Fr.snoc X2 N1 g_r0
  have Z2 : n0 ≤ h2.size := W2.size ▸ Z1
  have K2 : Keep h0 h2 [r0] := Keep.wr K1 W2 (Or.inl (List.mem_of_getElem? (i := 0) rfl))
  refine own_go st2 ?_
  show Gm p e below T2 m 16 #[rv r0, .val (.double x1), .second, iv (1 : Int32), iv (4 : Int32)] [] _
  refine own_go (fun t₀ k₀ => XS.iinc X2.here hx rfl (Jvm.hb hby d3_16) rfl (l' := #[rv r0, .val (.double x1), .second, iv (2 : Int32), iv (4 : Int32)]) rfl k₀) ?_
  show Gm p e below T2 m 19 #[rv r0, .val (.double x1), .second, iv (2 : Int32), iv (4 : Int32)] [] _
  refine own_go (fun t₀ k₀ => XS.goto X2.here hx rfl (pc0 := 19) (pc' := 6) rfl (Jvm.hb hby d3_19) (by decide) (by decide) k₀) ?_
  show Gm p e below T2 m 6 #[rv r0, .val (.double x1), .second, iv (2 : Int32), iv (4 : Int32)] [] _
  refine own_go (fun t₀ k₀ => XS.iloadN X2.here hx rfl (Jvm.hb hby d3_6) rfl k₀) ?_
  show Gm p e below T2 m 7 #[rv r0, .val (.double x1), .second, iv (2 : Int32), iv (4 : Int32)] [(.int (2 : Int32))] _
  refine own_go (fun t₀ k₀ => XS.iload X2.here hx rfl (Jvm.hb hby d3_7) rfl k₀) ?_
  show Gm p e below T2 m 9 #[rv r0, .val (.double x1), .second, iv (2 : Int32), iv (4 : Int32)] [(.int (4 : Int32)), (.int (2 : Int32))] _
  refine own_go (fun t₀ k₀ => XS.icmpNo X2.here hx rfl (Jvm.hb hby d3_9) rfl (XT.ii_ge_f (by decide)) k₀) ?_
  show Gm p e below T2 m 12 #[rv r0, .val (.double x1), .second, iv (2 : Int32), iv (4 : Int32)] [] _
  refine own_go (fun t₀ k₀ => XS.aloadN X2.here hx rfl (Jvm.hb hby d3_12) rfl rfl k₀) ?_
  show Gm p e below T2 m 13 #[rv r0, .val (.double x1), .second, iv (2 : Int32), iv (4 : Int32)] [(.ref r0)] _
  refine own_go (fun t₀ k₀ => XS.iloadN X2.here hx rfl (Jvm.hb hby d3_13) rfl k₀) ?_
  show Gm p e below T2 m 14 #[rv r0, .val (.double x1), .second, iv (2 : Int32), iv (4 : Int32)] [(.int (2 : Int32)), (.ref r0)] _
  refine own_go (fun t₀ k₀ => XS.dloadN X2.here hx rfl (Jvm.hb hby d3_14) rfl k₀) ?_
  show Gm p e below T2 m 15 #[rv r0, .val (.double x1), .second, iv (2 : Int32), iv (4 : Int32)] [(.double x1), (.int (2 : Int32)), (.ref r0)] _
  obtain ⟨T3, h3, X3, e3, W3, A3, st3⟩ := own_stD X2 hx hZ e2 A2 (j := (2 : Int32)) (k := 2) (by decide) rfl (by decide) (g := (mkF m 15 #[rv r0, .val (.double x1), .second, iv (2 : Int32), iv (4 : Int32)] [(.double x1), (.int (2 : Int32)), (.ref r0)])) rfl rfl (Jvm.hb hby d3_15)
  have N3 := Fr.snoc X3 N2 g_r0
  have Z3 : n0 ≤ h3.size := W3.size ▸ Z2
  have K3 : Keep h0 h3 [r0] := Keep.wr K2 W3 (Or.inl (List.mem_of_getElem? (i := 0) rfl))
  refine own_go st3 ?_
  show Gm p e below T3 m 16 #[rv r0, .val (.double x1), .second, iv (2 : Int32), iv (4 : Int32)] [] _
  refine own_go (fun t₀ k₀ => XS.iinc X3.here hx rfl (Jvm.hb hby d3_16) rfl (l' := #[rv r0, .val (.double x1), .second, iv (3 : Int32), iv (4 : Int32)]) rfl k₀) ?_
  show Gm p e below T3 m 19 #[rv r0, .val (.double x1), .second, iv (3 : Int32), iv (4 : Int32)] [] _
  refine own_go (fun t₀ k₀ => XS.goto X3.here hx rfl (pc0 := 19) (pc' := 6) rfl (Jvm.hb hby d3_19) (by decide) (by decide) k₀) ?_
  show Gm p e below T3 m 6 #[rv r0, .val (.double x1), .second, iv (3 : Int32), iv (4 : Int32)] [] _
  refine own_go (fun t₀ k₀ => XS.iloadN X3.here hx rfl (Jvm.hb hby d3_6) rfl k₀) ?_
  show Gm p e below T3 m 7 #[rv r0, .val (.double x1), .second, iv (3 : Int32), iv (4 : Int32)] [(.int (3 : Int32))] _
  refine own_go (fun t₀ k₀ => XS.iload X3.here hx rfl (Jvm.hb hby d3_7) rfl k₀) ?_
  show Gm p e below T3 m 9 #[rv r0, .val (.double x1), .second, iv (3 : Int32), iv (4 : Int32)] [(.int (4 : Int32)), (.int (3 : Int32))] _
  refine own_go (fun t₀ k₀ => XS.icmpNo X3.here hx rfl (Jvm.hb hby d3_9) rfl (XT.ii_ge_f (by decide)) k₀) ?_
  show Gm p e below T3 m 12 #[rv r0, .val (.double x1), .second, iv (3 : Int32), iv (4 : Int32)] [] _
  refine own_go (fun t₀ k₀ => XS.aloadN X3.here hx rfl (Jvm.hb hby d3_12) rfl rfl k₀) ?_
  show Gm p e below T3 m 13 #[rv r0, .val (.double x1), .second, iv (3 : Int32), iv (4 : Int32)] [(.ref r0)] _
  refine own_go (fun t₀ k₀ => XS.iloadN X3.here hx rfl (Jvm.hb hby d3_13) rfl k₀) ?_
  show Gm p e below T3 m 14 #[rv r0, .val (.double x1), .second, iv (3 : Int32), iv (4 : Int32)] [(.int (3 : Int32)), (.ref r0)] _
  refine own_go (fun t₀ k₀ => XS.dloadN X3.here hx rfl (Jvm.hb hby d3_14) rfl k₀) ?_
  show Gm p e below T3 m 15 #[rv r0, .val (.double x1), .second, iv (3 : Int32), iv (4 : Int32)] [(.double x1), (.int (3 : Int32)), (.ref r0)] _
  obtain ⟨T4, h4, X4, e4, W4, A4, st4⟩ := own_stD X3 hx hZ e3 A3 (j := (3 : Int32)) (k := 3) (by decide) rfl (by decide) (g := (mkF m 15 #[rv r0, .val (.double x1), .second, iv (3 : Int32), iv (4 : Int32)] [(.double x1), (.int (3 : Int32)), (.ref r0)])) rfl rfl (Jvm.hb hby d3_15)
  have N4 := Fr.snoc X4 N3 g_r0
  have Z4 : n0 ≤ h4.size := W4.size ▸ Z3
  have K4 : Keep h0 h4 [r0] := Keep.wr K3 W4 (Or.inl (List.mem_of_getElem? (i := 0) rfl))
  refine own_go st4 ?_
  show Gm p e below T4 m 16 #[rv r0, .val (.double x1), .second, iv (3 : Int32), iv (4 : Int32)] [] _
  refine own_go (fun t₀ k₀ => XS.iinc X4.here hx rfl (Jvm.hb hby d3_16) rfl (l' := #[rv r0, .val (.double x1), .second, iv (4 : Int32), iv (4 : Int32)]) rfl k₀) ?_
  show Gm p e below T4 m 19 #[rv r0, .val (.double x1), .second, iv (4 : Int32), iv (4 : Int32)] [] _
  refine own_go (fun t₀ k₀ => XS.goto X4.here hx rfl (pc0 := 19) (pc' := 6) rfl (Jvm.hb hby d3_19) (by decide) (by decide) k₀) ?_
  show Gm p e below T4 m 6 #[rv r0, .val (.double x1), .second, iv (4 : Int32), iv (4 : Int32)] [] _
  refine own_go (fun t₀ k₀ => XS.iloadN X4.here hx rfl (Jvm.hb hby d3_6) rfl k₀) ?_
  show Gm p e below T4 m 7 #[rv r0, .val (.double x1), .second, iv (4 : Int32), iv (4 : Int32)] [(.int (4 : Int32))] _
  refine own_go (fun t₀ k₀ => XS.iload X4.here hx rfl (Jvm.hb hby d3_7) rfl k₀) ?_
  show Gm p e below T4 m 9 #[rv r0, .val (.double x1), .second, iv (4 : Int32), iv (4 : Int32)] [(.int (4 : Int32)), (.int (4 : Int32))] _
  refine own_go (fun t₀ k₀ => XS.icmpYes X4.here hx rfl (pc0 := 9) (pc' := 22) rfl (Jvm.hb hby d3_9) rfl (XT.ii_ge_t (by decide)) (by decide) (by decide) k₀) ?_
  show Gm p e below T4 m 22 #[rv r0, .val (.double x1), .second, iv (4 : Int32), iv (4 : Int32)] [] _
  exact own_retV X4 hx hlk Bd.returns (Jvm.hb hby d3_22) e4 ⟨rfl, N4, K4, _, A4⟩ (by decide) (by decide)
theorem own_pn_rm4_4 : plainName "java/util/Arrays" = true := by first | (simp [plainName, overriddenIn]; done) | decide +kernel
theorem own_ef_rm4_4 (m : MethodId) (r0 : Addr) (p1 : Int32) : entryFrame m #[(.ref r0), (.int p1)] 4 = mkF m 0 #[.val (.ref r0), .val (.int p1), .unset, .unset] [] := by first | (simp [entryFrame, mkF, argsToLocals, Value.category]; done) | rfl
def Q4_4 (Z : State) (r0 : Addr) (p1 : Int32) (f : Nat → Value) (h0 : Heap) (n0 : Nat) (v : Option Value) (h : Heap) (L : List Loc) : Prop := v = none ∧ Fr n0 L ∧ Keep h0 h [r0] ∧ Af Z h r0 .int 4 (fun _ => .int p1)
set_option maxRecDepth 65536 in
set_option maxHeartbeats 40000000 in
theorem rm4_4 (l : Launch) (Z : State) (a0 : Array Value) (hw : ∀ d ∈ tables_1, d.before a0 Z = true) (ws : List Jvm.Cond) (r0 : Addr) (p1 : Int32) (f : Nat → Value) (h0 : Heap) (n0 : Nat) (Z0 : n0 ≤ h0.size) (A : Af Z h0 r0 .int 4 f) (g_r0 : n0 ≤ r0) :
    MetFree l (⟨"java/util/Arrays", "fill", "([II)V"⟩ : MethodName) (head1 (Jvm.Cond.code (⟨"java/util/Arrays", "fill", "([II)V"⟩ : MethodName) jdk_65_method_103_code 4 none :: ws) ({ frames := 0, cells := 0, slots := 0, locals := 0 } : Room)) (fun a U => a = #[(.ref r0), (.int p1)] ∧ Z.Warmed39 U.vm ∧ U.heap = h0) (fun _ _ _ _ _ => True) (fun _ U o U' => ∃ v L, o = .returned v ∧ Q4_4 Z r0 p1 f h0 n0 v U'.heap L ∧ FrameEnd U o U' L ({ frames := 0, cells := 0, slots := 0, locals := 0 } : Room).cells ({ frames := 0, cells := 0, slots := 0, locals := 0 } : Room).slots) := by
  refine MetFree.of_bodySF (plainFor_of_name own_pn_rm4_4) hisR ?_
  intro p e s m args below meth cO s₁ Bd hml0 hP hK
  obtain ⟨rfl, hZ, hh⟩ := hP
  have hx := Bd.exec
  have hby := Bd.bytes
  have hml : cO.maxLocals = 4 := hml0
  have hown : s.vm.findClass "java/util/Arrays" = some m.cls := findClass_of_methodNamed Bd.named
  have hnm := (name_of_methodNamed Bd.named Bd.method).1
  have hlk : meth.locks = false := BodyLoose.notSynchronized Bd
  have X0 : Stand p l e ({ frames := 0, cells := 0, slots := 0, locals := 0 } : Room) s m #[(.ref r0), (.int p1)] below meth cO s₁ [] 0 0 := Stand.of_body Bd
  have e0 : s₁.heap = h0 := by rw [← hh, Bd.state]; rfl
  have N0 := Fr.nil n0
  refine own_in (own_ef_rm4_4 m r0 p1) ?_
  show Gm p e below s₁ m 0 #[rv r0, iv p1, .unset, .unset] [] _
  refine own_go (fun t₀ k₀ => XS.iconst X0.here hx rfl (Jvm.hb hby d4_0) k₀) ?_
  show Gm p e below s₁ m 1 #[rv r0, iv p1, .unset, .unset] [(.int (0 : Int32))] _
  refine own_go (fun t₀ k₀ => XS.istoreN X0.here hx rfl (Jvm.hb hby d4_1) rfl (l' := #[rv r0, iv p1, iv (0 : Int32), .unset]) rfl k₀) ?_
  show Gm p e below s₁ m 2 #[rv r0, iv p1, iv (0 : Int32), .unset] [] _
  refine own_go (fun t₀ k₀ => XS.aloadN X0.here hx rfl (Jvm.hb hby d4_2) rfl rfl k₀) ?_
  show Gm p e below s₁ m 3 #[rv r0, iv p1, iv (0 : Int32), .unset] [(.ref r0)] _
  refine own_go (fun t₀ k₀ => own_len X0 hx hZ e0 A (z := (4 : Int32)) rfl (g := (mkF m 3 #[rv r0, iv p1, iv (0 : Int32), .unset] [(.ref r0)])) rfl rfl (Jvm.hb hby d4_3) k₀) ?_
  show Gm p e below s₁ m 4 #[rv r0, iv p1, iv (0 : Int32), .unset] [(.int (4 : Int32))] _
  refine own_go (fun t₀ k₀ => XS.istoreN X0.here hx rfl (Jvm.hb hby d4_4) rfl (l' := #[rv r0, iv p1, iv (0 : Int32), iv (4 : Int32)]) rfl k₀) ?_
  show Gm p e below s₁ m 5 #[rv r0, iv p1, iv (0 : Int32), iv (4 : Int32)] [] _
  refine own_go (fun t₀ k₀ => XS.iloadN X0.here hx rfl (Jvm.hb hby d4_5) rfl k₀) ?_
  show Gm p e below s₁ m 6 #[rv r0, iv p1, iv (0 : Int32), iv (4 : Int32)] [(.int (0 : Int32))] _
  refine own_go (fun t₀ k₀ => XS.iloadN X0.here hx rfl (Jvm.hb hby d4_6) rfl k₀) ?_
  show Gm p e below s₁ m 7 #[rv r0, iv p1, iv (0 : Int32), iv (4 : Int32)] [(.int (4 : Int32)), (.int (0 : Int32))] _
  refine own_go (fun t₀ k₀ => XS.icmpNo X0.here hx rfl (Jvm.hb hby d4_7) rfl (XT.ii_ge_f (by decide)) k₀) ?_
  show Gm p e below s₁ m 10 #[rv r0, iv p1, iv (0 : Int32), iv (4 : Int32)] [] _
  refine own_go (fun t₀ k₀ => XS.aloadN X0.here hx rfl (Jvm.hb hby d4_10) rfl rfl k₀) ?_
  show Gm p e below s₁ m 11 #[rv r0, iv p1, iv (0 : Int32), iv (4 : Int32)] [(.ref r0)] _
  refine own_go (fun t₀ k₀ => XS.iloadN X0.here hx rfl (Jvm.hb hby d4_11) rfl k₀) ?_
  show Gm p e below s₁ m 12 #[rv r0, iv p1, iv (0 : Int32), iv (4 : Int32)] [(.int (0 : Int32)), (.ref r0)] _
  refine own_go (fun t₀ k₀ => XS.iloadN X0.here hx rfl (Jvm.hb hby d4_12) rfl k₀) ?_
  show Gm p e below s₁ m 13 #[rv r0, iv p1, iv (0 : Int32), iv (4 : Int32)] [(.int p1), (.int (0 : Int32)), (.ref r0)] _
  obtain ⟨T1, h1, X1, e1, W1, A1, st1⟩ := own_stI X0 hx hZ e0 A (j := (0 : Int32)) (k := 0) (by decide) rfl (by decide) (g := (mkF m 13 #[rv r0, iv p1, iv (0 : Int32), iv (4 : Int32)] [(.int p1), (.int (0 : Int32)), (.ref r0)])) rfl rfl (Jvm.hb hby d4_13)
  have N1 := Fr.snoc X1 N0 g_r0
  have Z1 : n0 ≤ h1.size := W1.size ▸ Z0
  have K1 : Keep h0 h1 [r0] := Keep.wr (Keep.refl h0 [r0]) W1 (Or.inl (List.mem_of_getElem? (i := 0) rfl))
  refine own_go st1 ?_
  show Gm p e below T1 m 14 #[rv r0, iv p1, iv (0 : Int32), iv (4 : Int32)] [] _
  refine own_go (fun t₀ k₀ => XS.iinc X1.here hx rfl (Jvm.hb hby d4_14) rfl (l' := #[rv r0, iv p1, iv (1 : Int32), iv (4 : Int32)]) rfl k₀) ?_
  show Gm p e below T1 m 17 #[rv r0, iv p1, iv (1 : Int32), iv (4 : Int32)] [] _
  refine own_go (fun t₀ k₀ => XS.goto X1.here hx rfl (pc0 := 17) (pc' := 5) rfl (Jvm.hb hby d4_17) (by decide) (by decide) k₀) ?_
  show Gm p e below T1 m 5 #[rv r0, iv p1, iv (1 : Int32), iv (4 : Int32)] [] _
  refine own_go (fun t₀ k₀ => XS.iloadN X1.here hx rfl (Jvm.hb hby d4_5) rfl k₀) ?_
  show Gm p e below T1 m 6 #[rv r0, iv p1, iv (1 : Int32), iv (4 : Int32)] [(.int (1 : Int32))] _
  refine own_go (fun t₀ k₀ => XS.iloadN X1.here hx rfl (Jvm.hb hby d4_6) rfl k₀) ?_
  show Gm p e below T1 m 7 #[rv r0, iv p1, iv (1 : Int32), iv (4 : Int32)] [(.int (4 : Int32)), (.int (1 : Int32))] _
  refine own_go (fun t₀ k₀ => XS.icmpNo X1.here hx rfl (Jvm.hb hby d4_7) rfl (XT.ii_ge_f (by decide)) k₀) ?_
  show Gm p e below T1 m 10 #[rv r0, iv p1, iv (1 : Int32), iv (4 : Int32)] [] _
  refine own_go (fun t₀ k₀ => XS.aloadN X1.here hx rfl (Jvm.hb hby d4_10) rfl rfl k₀) ?_
  show Gm p e below T1 m 11 #[rv r0, iv p1, iv (1 : Int32), iv (4 : Int32)] [(.ref r0)] _
  refine own_go (fun t₀ k₀ => XS.iloadN X1.here hx rfl (Jvm.hb hby d4_11) rfl k₀) ?_
  show Gm p e below T1 m 12 #[rv r0, iv p1, iv (1 : Int32), iv (4 : Int32)] [(.int (1 : Int32)), (.ref r0)] _
  refine own_go (fun t₀ k₀ => XS.iloadN X1.here hx rfl (Jvm.hb hby d4_12) rfl k₀) ?_
  show Gm p e below T1 m 13 #[rv r0, iv p1, iv (1 : Int32), iv (4 : Int32)] [(.int p1), (.int (1 : Int32)), (.ref r0)] _
  obtain ⟨T2, h2, X2, e2, W2, A2, st2⟩ := own_stI X1 hx hZ e1 A1 (j := (1 : Int32)) (k := 1) (by decide) rfl (by decide) (g := (mkF m 13 #[rv r0, iv p1, iv (1 : Int32), iv (4 : Int32)] [(.int p1), (.int (1 : Int32)), (.ref r0)])) rfl rfl (Jvm.hb hby d4_13)
  have N2 := Fr.snoc X2 N1 g_r0
  have Z2 : n0 ≤ h2.size := W2.size ▸ Z1
  have K2 : Keep h0 h2 [r0] := Keep.wr K1 W2 (Or.inl (List.mem_of_getElem? (i := 0) rfl))
  refine own_go st2 ?_
  show Gm p e below T2 m 14 #[rv r0, iv p1, iv (1 : Int32), iv (4 : Int32)] [] _
  refine own_go (fun t₀ k₀ => XS.iinc X2.here hx rfl (Jvm.hb hby d4_14) rfl (l' := #[rv r0, iv p1, iv (2 : Int32), iv (4 : Int32)]) rfl k₀) ?_
  show Gm p e below T2 m 17 #[rv r0, iv p1, iv (2 : Int32), iv (4 : Int32)] [] _
  refine own_go (fun t₀ k₀ => XS.goto X2.here hx rfl (pc0 := 17) (pc' := 5) rfl (Jvm.hb hby d4_17) (by decide) (by decide) k₀) ?_
  show Gm p e below T2 m 5 #[rv r0, iv p1, iv (2 : Int32), iv (4 : Int32)] [] _
  refine own_go (fun t₀ k₀ => XS.iloadN X2.here hx rfl (Jvm.hb hby d4_5) rfl k₀) ?_
  show Gm p e below T2 m 6 #[rv r0, iv p1, iv (2 : Int32), iv (4 : Int32)] [(.int (2 : Int32))] _
  refine own_go (fun t₀ k₀ => XS.iloadN X2.here hx rfl (Jvm.hb hby d4_6) rfl k₀) ?_
  show Gm p e below T2 m 7 #[rv r0, iv p1, iv (2 : Int32), iv (4 : Int32)] [(.int (4 : Int32)), (.int (2 : Int32))] _
  refine own_go (fun t₀ k₀ => XS.icmpNo X2.here hx rfl (Jvm.hb hby d4_7) rfl (XT.ii_ge_f (by decide)) k₀) ?_
  show Gm p e below T2 m 10 #[rv r0, iv p1, iv (2 : Int32), iv (4 : Int32)] [] _
  refine own_go (fun t₀ k₀ => XS.aloadN X2.here hx rfl (Jvm.hb hby d4_10) rfl rfl k₀) ?_
  show Gm p e below T2 m 11 #[rv r0, iv p1, iv (2 : Int32), iv (4 : Int32)] [(.ref r0)] _
  refine own_go (fun t₀ k₀ => XS.iloadN X2.here hx rfl (Jvm.hb hby d4_11) rfl k₀) ?_
  show Gm p e below T2 m 12 #[rv r0, iv p1, iv (2 : Int32), iv (4 : Int32)] [(.int (2 : Int32)), (.ref r0)] _
  refine own_go (fun t₀ k₀ => XS.iloadN X2.here hx rfl (Jvm.hb hby d4_12) rfl k₀) ?_
  show Gm p e below T2 m 13 #[rv r0, iv p1, iv (2 : Int32), iv (4 : Int32)] [(.int p1), (.int (2 : Int32)), (.ref r0)] _
  obtain ⟨T3, h3, X3, e3, W3, A3, st3⟩ := own_stI X2 hx hZ e2 A2 (j := (2 : Int32)) (k := 2) (by decide) rfl (by decide) (g := (mkF m 13 #[rv r0, iv p1, iv (2 : Int32), iv (4 : Int32)] [(.int p1), (.int (2 : Int32)), (.ref r0)])) rfl rfl (Jvm.hb hby d4_13)
  have N3 := Fr.snoc X3 N2 g_r0
  have Z3 : n0 ≤ h3.size := W3.size ▸ Z2
  have K3 : Keep h0 h3 [r0] := Keep.wr K2 W3 (Or.inl (List.mem_of_getElem? (i := 0) rfl))
  refine own_go st3 ?_
  show Gm p e below T3 m 14 #[rv r0, iv p1, iv (2 : Int32), iv (4 : Int32)] [] _
  refine own_go (fun t₀ k₀ => XS.iinc X3.here hx rfl (Jvm.hb hby d4_14) rfl (l' := #[rv r0, iv p1, iv (3 : Int32), iv (4 : Int32)]) rfl k₀) ?_
  show Gm p e below T3 m 17 #[rv r0, iv p1, iv (3 : Int32), iv (4 : Int32)] [] _
  refine own_go (fun t₀ k₀ => XS.goto X3.here hx rfl (pc0 := 17) (pc' := 5) rfl (Jvm.hb hby d4_17) (by decide) (by decide) k₀) ?_
  show Gm p e below T3 m 5 #[rv r0, iv p1, iv (3 : Int32), iv (4 : Int32)] [] _
  refine own_go (fun t₀ k₀ => XS.iloadN X3.here hx rfl (Jvm.hb hby d4_5) rfl k₀) ?_
  show Gm p e below T3 m 6 #[rv r0, iv p1, iv (3 : Int32), iv (4 : Int32)] [(.int (3 : Int32))] _
  refine own_go (fun t₀ k₀ => XS.iloadN X3.here hx rfl (Jvm.hb hby d4_6) rfl k₀) ?_
  show Gm p e below T3 m 7 #[rv r0, iv p1, iv (3 : Int32), iv (4 : Int32)] [(.int (4 : Int32)), (.int (3 : Int32))] _
  refine own_go (fun t₀ k₀ => XS.icmpNo X3.here hx rfl (Jvm.hb hby d4_7) rfl (XT.ii_ge_f (by decide)) k₀) ?_
  show Gm p e below T3 m 10 #[rv r0, iv p1, iv (3 : Int32), iv (4 : Int32)] [] _
  refine own_go (fun t₀ k₀ => XS.aloadN X3.here hx rfl (Jvm.hb hby d4_10) rfl rfl k₀) ?_
  show Gm p e below T3 m 11 #[rv r0, iv p1, iv (3 : Int32), iv (4 : Int32)] [(.ref r0)] _
  refine own_go (fun t₀ k₀ => XS.iloadN X3.here hx rfl (Jvm.hb hby d4_11) rfl k₀) ?_
  show Gm p e below T3 m 12 #[rv r0, iv p1, iv (3 : Int32), iv (4 : Int32)] [(.int (3 : Int32)), (.ref r0)] _
  refine own_go (fun t₀ k₀ => XS.iloadN X3.here hx rfl (Jvm.hb hby d4_12) rfl k₀) ?_
  show Gm p e below T3 m 13 #[rv r0, iv p1, iv (3 : Int32), iv (4 : Int32)] [(.int p1), (.int (3 : Int32)), (.ref r0)] _
  obtain ⟨T4, h4, X4, e4, W4, A4, st4⟩ := own_stI X3 hx hZ e3 A3 (j := (3 : Int32)) (k := 3) (by decide) rfl (by decide) (g := (mkF m 13 #[rv r0, iv p1, iv (3 : Int32), iv (4 : Int32)] [(.int p1), (.int (3 : Int32)), (.ref r0)])) rfl rfl (Jvm.hb hby d4_13)
  have N4 := Fr.snoc X4 N3 g_r0
  have Z4 : n0 ≤ h4.size := W4.size ▸ Z3
  have K4 : Keep h0 h4 [r0] := Keep.wr K3 W4 (Or.inl (List.mem_of_getElem? (i := 0) rfl))
  refine own_go st4 ?_
  show Gm p e below T4 m 14 #[rv r0, iv p1, iv (3 : Int32), iv (4 : Int32)] [] _
  refine own_go (fun t₀ k₀ => XS.iinc X4.here hx rfl (Jvm.hb hby d4_14) rfl (l' := #[rv r0, iv p1, iv (4 : Int32), iv (4 : Int32)]) rfl k₀) ?_
  show Gm p e below T4 m 17 #[rv r0, iv p1, iv (4 : Int32), iv (4 : Int32)] [] _
  refine own_go (fun t₀ k₀ => XS.goto X4.here hx rfl (pc0 := 17) (pc' := 5) rfl (Jvm.hb hby d4_17) (by decide) (by decide) k₀) ?_
  show Gm p e below T4 m 5 #[rv r0, iv p1, iv (4 : Int32), iv (4 : Int32)] [] _
  refine own_go (fun t₀ k₀ => XS.iloadN X4.here hx rfl (Jvm.hb hby d4_5) rfl k₀) ?_
  show Gm p e below T4 m 6 #[rv r0, iv p1, iv (4 : Int32), iv (4 : Int32)] [(.int (4 : Int32))] _
  refine own_go (fun t₀ k₀ => XS.iloadN X4.here hx rfl (Jvm.hb hby d4_6) rfl k₀) ?_
  show Gm p e below T4 m 7 #[rv r0, iv p1, iv (4 : Int32), iv (4 : Int32)] [(.int (4 : Int32)), (.int (4 : Int32))] _
  refine own_go (fun t₀ k₀ => XS.icmpYes X4.here hx rfl (pc0 := 7) (pc' := 20) rfl (Jvm.hb hby d4_7) rfl (XT.ii_ge_t (by decide)) (by decide) (by decide) k₀) ?_
  show Gm p e below T4 m 20 #[rv r0, iv p1, iv (4 : Int32), iv (4 : Int32)] [] _
  exact own_retV X4 hx hlk Bd.returns (Jvm.hb hby d4_20) e4 ⟨rfl, N4, K4, (Af.congr A4 (fun i hi => by
      rcases (by omega : i = 0 ∨ i = 1 ∨ i = 2 ∨ i = 3) with rfl | rfl | rfl | rfl <;> rfl))⟩ (by decide) (by decide)
theorem own_pn_rm1_4 : plainName "com/example/throughfare/throughfare/simulation/Walkers" = true := by first | (simp [plainName, overriddenIn]; done) | decide +kernel
theorem own_ef_rm1_4 (m : MethodId) (r0 : Addr) : entryFrame m #[(.ref r0), (.int (4 : Int32))] 2 = mkF m 0 #[.val (.ref r0), .val (.int (4 : Int32))] [] := by first | (simp [entryFrame, mkF, argsToLocals, Value.category]; done) | rfl
def Q1_4 (Z : State) (r0 : Addr) (h0 : Heap) (n0 : Nat) (v : Option Value) (h : Heap) (L : List Loc) : Prop := ∃ c_floor c_startCell c_cell c_heading c_leaving c_exit : Addr, v = none ∧ Fr n0 L ∧ Keep h0 h [r0] ∧ Exa Z h r0 "com/example/throughfare/throughfare/simulation/Walkers" ∧ h0.size ≤ c_floor ∧ Fld Z h r0 "com/example/throughfare/throughfare/simulation/Walkers" "floor" "[I" (.ref c_floor) ∧ Af Z h c_floor .int 4 (fun _ => defaultValue .int) ∧ h0.size ≤ c_startCell ∧ Fld Z h r0 "com/example/throughfare/throughfare/simulation/Walkers" "startCell" "[I" (.ref c_startCell) ∧ Af Z h c_startCell .int 4 (fun _ => defaultValue .int) ∧ h0.size ≤ c_cell ∧ Fld Z h r0 "com/example/throughfare/throughfare/simulation/Walkers" "cell" "[I" (.ref c_cell) ∧ Af Z h c_cell .int 4 (fun _ => defaultValue .int) ∧ h0.size ≤ c_heading ∧ Fld Z h r0 "com/example/throughfare/throughfare/simulation/Walkers" "heading" "[I" (.ref c_heading) ∧ Af Z h c_heading .int 4 (fun _ => defaultValue .int) ∧ h0.size ≤ c_leaving ∧ Fld Z h r0 "com/example/throughfare/throughfare/simulation/Walkers" "leaving" "[I" (.ref c_leaving) ∧ Af Z h c_leaving .int 4 (fun _ => (.int (-1 : Int32))) ∧ h0.size ≤ c_exit ∧ Fld Z h r0 "com/example/throughfare/throughfare/simulation/Walkers" "exit" "[I" (.ref c_exit) ∧ Af Z h c_exit .int 4 (fun _ => (.int (-1 : Int32))) ∧ c_floor ≠ c_startCell ∧ c_floor ≠ c_cell ∧ c_startCell ≠ c_cell ∧ c_floor ≠ c_heading ∧ c_startCell ≠ c_heading ∧ c_cell ≠ c_heading ∧ c_floor ≠ c_leaving ∧ c_startCell ≠ c_leaving ∧ c_cell ≠ c_leaving ∧ c_heading ≠ c_leaving ∧ c_floor ≠ c_exit ∧ c_startCell ≠ c_exit ∧ c_cell ≠ c_exit ∧ c_heading ≠ c_exit ∧ c_leaving ≠ c_exit
set_option maxRecDepth 65536 in
set_option maxHeartbeats 40000000 in
theorem rm1_4 (l : Launch) (Z : State) (a0 : Array Value) (hw : ∀ d ∈ tables_1, d.before a0 Z = true) (ws : List Jvm.Cond) (r0 : Addr) (h0 : Heap) (n0 : Nat) (Z0 : n0 ≤ h0.size) (E_r0 : Exa Z h0 r0 "com/example/throughfare/throughfare/simulation/Walkers") (F_floor : Fld Z h0 r0 "com/example/throughfare/throughfare/simulation/Walkers" "floor" "[I" .null) (F_startCell : Fld Z h0 r0 "com/example/throughfare/throughfare/simulation/Walkers" "startCell" "[I" .null) (F_cell : Fld Z h0 r0 "com/example/throughfare/throughfare/simulation/Walkers" "cell" "[I" .null) (F_speedMps : Fld Z h0 r0 "com/example/throughfare/throughfare/simulation/Walkers" "speedMps" "[D" .null) (F_reactionS : Fld Z h0 r0 "com/example/throughfare/throughfare/simulation/Walkers" "reactionS" "[D" .null) (F_heading : Fld Z h0 r0 "com/example/throughfare/throughfare/simulation/Walkers" "heading" "[I" .null) (F_heldUpS : Fld Z h0 r0 "com/example/throughfare/throughfare/simulation/Walkers" "heldUpS" "[D" .null) (F_exitTimeS : Fld Z h0 r0 "com/example/throughfare/throughfare/simulation/Walkers" "exitTimeS" "[D" .null) (F_leaving : Fld Z h0 r0 "com/example/throughfare/throughfare/simulation/Walkers" "leaving" "[I" .null) (F_exit : Fld Z h0 r0 "com/example/throughfare/throughfare/simulation/Walkers" "exit" "[I" .null) (F_distanceM : Fld Z h0 r0 "com/example/throughfare/throughfare/simulation/Walkers" "distanceM" "[D" .null) (g_r0 : n0 ≤ r0) :
    MetFree l (⟨"com/example/throughfare/throughfare/simulation/Walkers", "<init>", "(I)V"⟩ : MethodName) (head1 (Jvm.Cond.code (⟨"com/example/throughfare/throughfare/simulation/Walkers", "<init>", "(I)V"⟩ : MethodName) prog_63_method_1_code 2 none :: ws) ({ frames := 1, cells := 11, slots := 44, locals := 20 } : Room)) (fun a U => a = #[(.ref r0), (.int (4 : Int32))] ∧ Z.Warmed39 U.vm ∧ U.heap = h0) (fun _ _ _ _ _ => True) (fun _ U o U' => ∃ v L, o = .returned v ∧ Q1_4 Z r0 h0 n0 v U'.heap L ∧ FrameEnd U o U' L ({ frames := 1, cells := 11, slots := 44, locals := 20 } : Room).cells ({ frames := 1, cells := 11, slots := 44, locals := 20 } : Room).slots) := by
  refine MetFree.of_bodySF (plainFor_of_name own_pn_rm1_4) hisR ?_
  intro p e s m args below meth cO s₁ Bd hml0 hP hK
  obtain ⟨rfl, hZ, hh⟩ := hP
  have hx := Bd.exec
  have hby := Bd.bytes
  have hml : cO.maxLocals = 2 := hml0
  have hown : s.vm.findClass "com/example/throughfare/throughfare/simulation/Walkers" = some m.cls := findClass_of_methodNamed Bd.named
  have hnm := (name_of_methodNamed Bd.named Bd.method).1
  have hlk : meth.locks = false := BodyLoose.notSynchronized Bd
  have X0 : Stand p l e ({ frames := 1, cells := 11, slots := 44, locals := 20 } : Room) s m #[(.ref r0), (.int (4 : Int32))] below meth cO s₁ [] 0 0 := Stand.of_body Bd
  have e0 : s₁.heap = h0 := by rw [← hh, Bd.state]; rfl
  have N0 := Fr.nil n0
  refine own_in (own_ef_rm1_4 m r0) ?_
  show Gm p e below s₁ m 0 #[rv r0, iv (4 : Int32)] [] _
  refine own_go (fun t₀ k₀ => XS.aloadN X0.here hx rfl (Jvm.hb hby d1_0) rfl rfl k₀) ?_
  show Gm p e below s₁ m 1 #[rv r0, iv (4 : Int32)] [(.ref r0)] _
  obtain ⟨T1, X1, e1, st1⟩ := initO X0 hx hZ hown (hw _ (List.mem_of_getElem? (i := 7) rfl)) (hw _ (List.mem_of_getElem? (i := 8) rfl)) (hw _ (List.mem_of_getElem? (i := 9) rfl)) e0 (g := (mkF m 1 #[rv r0, iv (4 : Int32)] [(.ref r0)])) rfl (by rw [hml]; rfl) rfl (Jvm.hb hby d1_1) (by decide) (W := 0) (by show 2 * 0 + _ ≤ _; exact Nat.le_of_eq rfl) (by decide)
  refine own_go st1 ?_
  show Gm p e below T1 m 4 #[rv r0, iv (4 : Int32)] [] _
  refine own_go (fun t₀ k₀ => XS.aloadN X1.here hx rfl (Jvm.hb hby d1_4) rfl rfl k₀) ?_
  show Gm p e below T1 m 5 #[rv r0, iv (4 : Int32)] [(.ref r0)] _
  refine own_go (fun t₀ k₀ => XS.iloadN X1.here hx rfl (Jvm.hb hby d1_5) rfl k₀) ?_
  show Gm p e below T1 m 6 #[rv r0, iv (4 : Int32)] [(.int (4 : Int32)), (.ref r0)] _
  obtain ⟨T2, h2, k2, X2, e2, E2, A2, st2⟩ := newP X1 hx hZ (hw _ (List.mem_of_getElem? (i := 10) rfl)) e1 (g := (mkF m 6 #[rv r0, iv (4 : Int32)] [(.int (4 : Int32)), (.ref r0)])) rfl (Jvm.hb hby d1_6) rfl (by decide) (cap := 4) (by decide) (by decide) (by decide) (by decide)
  obtain ⟨b2, g2⟩ : ∃ z, z = h0.size := ⟨_, rfl⟩
  rw [← g2] at A2 st2
  have g_b2 : n0 ≤ b2 := Nat.le_trans Z0 (Nat.le_of_eq g2.symm)
  have ne_r0_b2 : r0 ≠ b2 := Nat.ne_of_lt (Nat.lt_of_lt_of_le E_r0.lt (Nat.le_of_eq g2.symm))
  have sz_b2 : h0.size ≤ b2 := Nat.le_trans (Keep.refl h0 [r0]).1 (Nat.le_of_eq g2.symm)
  have K2 : Keep h0 h2 [r0] := Keep.ext (Keep.refl h0 [r0]) E2
  have Z2 : n0 ≤ h2.size := Nat.le_trans Z0 E2.1
  have V2 : Af Z h2 b2 .int 4 (fun _ => defaultValue .int) := Af.new A2 (by decide) rfl rfl
  refine own_go st2 ?_
  show Gm p e below T2 m 8 #[rv r0, iv (4 : Int32)] [(.ref b2), (.ref r0)] _
  have f3 := (E_r0.ext E2)
  have f4 := (F_floor.ext E2)
  obtain ⟨T5, h5, X5, e5, W5, st5⟩ := putF X2 hx hZ hown (host := "") (Or.inl (hw _ (List.mem_of_getElem? (i := 11) rfl))) Via.refl e2 f4 f3 (Or.inr ⟨(hw _ (List.mem_of_getElem? (i := 12) rfl)), rfl, hnm⟩) (hw _ (List.mem_of_getElem? (i := 2) rfl)) (ty := (.array .int)) (by decide) rfl rfl (g := (mkF m 8 #[rv r0, iv (4 : Int32)] [(.ref b2), (.ref r0)])) rfl rfl (Jvm.hb hby d1_8)
  have Fw5 := Fld.same W5 f4
  have N5 := Fr.snoc X5 N0 g_r0
  have Z5 : n0 ≤ h5.size := W5.size ▸ Z2
  have K5 : Keep h0 h5 [r0] := Keep.wr K2 W5 (Or.inl (List.mem_of_getElem? (i := 0) rfl))
  refine own_go st5 ?_
  show Gm p e below T5 m 11 #[rv r0, iv (4 : Int32)] [] _
  refine own_go (fun t₀ k₀ => XS.aloadN X5.here hx rfl (Jvm.hb hby d1_11) rfl rfl k₀) ?_
  show Gm p e below T5 m 12 #[rv r0, iv (4 : Int32)] [(.ref r0)] _
  refine own_go (fun t₀ k₀ => XS.iloadN X5.here hx rfl (Jvm.hb hby d1_12) rfl k₀) ?_
  show Gm p e below T5 m 13 #[rv r0, iv (4 : Int32)] [(.int (4 : Int32)), (.ref r0)] _
  obtain ⟨T6, h6, k6, X6, e6, E6, A6, st6⟩ := newP X5 hx hZ (hw _ (List.mem_of_getElem? (i := 10) rfl)) e5 (g := (mkF m 13 #[rv r0, iv (4 : Int32)] [(.int (4 : Int32)), (.ref r0)])) rfl (Jvm.hb hby d1_13) rfl (by decide) (cap := 4) (by decide) (by decide) (by decide) (by decide)
  obtain ⟨b6, g6⟩ : ∃ z, z = h5.size := ⟨_, rfl⟩
  rw [← g6] at A6 st6
  have g_b6 : n0 ≤ b6 := Nat.le_trans Z5 (Nat.le_of_eq g6.symm)
  have f7 := (f3.wr W5)
  have ne_r0_b6 : r0 ≠ b6 := Nat.ne_of_lt (Nat.lt_of_lt_of_le f7.lt (Nat.le_of_eq g6.symm))
  have f8 := (V2.other W5 (Ne.symm ne_r0_b2))
  have ne_b2_b6 : b2 ≠ b6 := Nat.ne_of_lt (Nat.lt_of_lt_of_le f8.lt (Nat.le_of_eq g6.symm))
  have sz_b6 : h0.size ≤ b6 := Nat.le_trans K5.1 (Nat.le_of_eq g6.symm)
  have K6 : Keep h0 h6 [r0] := Keep.ext K5 E6
  have Z6 : n0 ≤ h6.size := Nat.le_trans Z5 E6.1
  have V6 : Af Z h6 b6 .int 4 (fun _ => defaultValue .int) := Af.new A6 (by decide) rfl rfl
  refine own_go st6 ?_
  show Gm p e below T6 m 15 #[rv r0, iv (4 : Int32)] [(.ref b6), (.ref r0)] _
  have f9 := (f7.ext E6)
  have f10 := ((Fld.other W5 (F_startCell.ext E2) (Or.inr (slot_ne (Or.inr (hw _ (List.mem_of_getElem? (i := 14) rfl))) (Or.inr (hw _ (List.mem_of_getElem? (i := 12) rfl))) (by decide) (t := (.array .int)) (t' := (.array .int)) (by decide) (by decide)))).ext E6)
  obtain ⟨T11, h11, X11, e11, W11, st11⟩ := putF X6 hx hZ hown (host := "") (Or.inl (hw _ (List.mem_of_getElem? (i := 13) rfl))) Via.refl e6 f10 f9 (Or.inr ⟨(hw _ (List.mem_of_getElem? (i := 14) rfl)), rfl, hnm⟩) (hw _ (List.mem_of_getElem? (i := 2) rfl)) (ty := (.array .int)) (by decide) rfl rfl (g := (mkF m 15 #[rv r0, iv (4 : Int32)] [(.ref b6), (.ref r0)])) rfl rfl (Jvm.hb hby d1_15)
  have Fw11 := Fld.same W11 f10
  have N11 := Fr.snoc X11 N5 g_r0
  have Z11 : n0 ≤ h11.size := W11.size ▸ Z6
  have K11 : Keep h0 h11 [r0] := Keep.wr K6 W11 (Or.inl (List.mem_of_getElem? (i := 0) rfl))
  refine own_go st11 ?_
  show Gm p e below T11 m 18 #[rv r0, iv (4 : Int32)] [] _
  refine own_go (fun t₀ k₀ => XS.aloadN X11.here hx rfl (Jvm.hb hby d1_18) rfl rfl k₀) ?_
  show Gm p e below T11 m 19 #[rv r0, iv (4 : Int32)] [(.ref r0)] _
  refine own_go (fun t₀ k₀ => XS.iloadN X11.here hx rfl (Jvm.hb hby d1_19) rfl k₀) ?_
  show Gm p e below T11 m 20 #[rv r0, iv (4 : Int32)] [(.int (4 : Int32)), (.ref r0)] _
  obtain ⟨T12, h12, k12, X12, e12, E12, A12, st12⟩ := newP X11 hx hZ (hw _ (List.mem_of_getElem? (i := 10) rfl)) e11 (g := (mkF m 20 #[rv r0, iv (4 : Int32)] [(.int (4 : Int32)), (.ref r0)])) rfl (Jvm.hb hby d1_20) rfl (by decide) (cap := 4) (by decide) (by decide) (by decide) (by decide)
  obtain ⟨b12, g12⟩ : ∃ z, z = h11.size := ⟨_, rfl⟩
  rw [← g12] at A12 st12
  have g_b12 : n0 ≤ b12 := Nat.le_trans Z11 (Nat.le_of_eq g12.symm)
  have f13 := (f9.wr W11)
  have ne_r0_b12 : r0 ≠ b12 := Nat.ne_of_lt (Nat.lt_of_lt_of_le f13.lt (Nat.le_of_eq g12.symm))
  have f14 := ((f8.ext E6).other W11 (Ne.symm ne_r0_b2))
  have ne_b2_b12 : b2 ≠ b12 := Nat.ne_of_lt (Nat.lt_of_lt_of_le f14.lt (Nat.le_of_eq g12.symm))
  have f15 := (V6.other W11 (Ne.symm ne_r0_b6))
  have ne_b6_b12 : b6 ≠ b12 := Nat.ne_of_lt (Nat.lt_of_lt_of_le f15.lt (Nat.le_of_eq g12.symm))
  have sz_b12 : h0.size ≤ b12 := Nat.le_trans K11.1 (Nat.le_of_eq g12.symm)
  have K12 : Keep h0 h12 [r0] := Keep.ext K11 E12
  have Z12 : n0 ≤ h12.size := Nat.le_trans Z11 E12.1
  have V12 : Af Z h12 b12 .int 4 (fun _ => defaultValue .int) := Af.new A12 (by decide) rfl rfl
  refine own_go st12 ?_
  show Gm p e below T12 m 22 #[rv r0, iv (4 : Int32)] [(.ref b12), (.ref r0)] _
  have f16 := (f13.ext E12)
  have f17 := ((Fld.other W11 ((Fld.other W5 (F_cell.ext E2) (Or.inr (slot_ne (Or.inr (hw _ (List.mem_of_getElem? (i := 16) rfl))) (Or.inr (hw _ (List.mem_of_getElem? (i := 12) rfl))) (by decide) (t := (.array .int)) (t' := (.array .int)) (by decide) (by decide)))).ext E6) (Or.inr (slot_ne (Or.inr (hw _ (List.mem_of_getElem? (i := 16) rfl))) (Or.inr (hw _ (List.mem_of_getElem? (i := 14) rfl))) (by decide) (t := (.array .int)) (t' := (.array .int)) (by decide) (by decide)))).ext E12)
  obtain ⟨T18, h18, X18, e18, W18, st18⟩ := putF X12 hx hZ hown (host := "") (Or.inl (hw _ (List.mem_of_getElem? (i := 15) rfl))) Via.refl e12 f17 f16 (Or.inr ⟨(hw _ (List.mem_of_getElem? (i := 16) rfl)), rfl, hnm⟩) (hw _ (List.mem_of_getElem? (i := 2) rfl)) (ty := (.array .int)) (by decide) rfl rfl (g := (mkF m 22 #[rv r0, iv (4 : Int32)] [(.ref b12), (.ref r0)])) rfl rfl (Jvm.hb hby d1_22)
  have Fw18 := Fld.same W18 f17
  have N18 := Fr.snoc X18 N11 g_r0
  have Z18 : n0 ≤ h18.size := W18.size ▸ Z12
  have K18 : Keep h0 h18 [r0] := Keep.wr K12 W18 (Or.inl (List.mem_of_getElem? (i := 0) rfl))
  refine own_go st18 ?_
  show Gm p e below T18 m 25 #[rv r0, iv (4 : Int32)] [] _
  refine own_go (fun t₀ k₀ => XS.aloadN X18.here hx rfl (Jvm.hb hby d1_25) rfl rfl k₀) ?_
  show Gm p e below T18 m 26 #[rv r0, iv (4 : Int32)] [(.ref r0)] _
  refine own_go (fun t₀ k₀ => XS.iloadN X18.here hx rfl (Jvm.hb hby d1_26) rfl k₀) ?_
  show Gm p e below T18 m 27 #[rv r0, iv (4 : Int32)] [(.int (4 : Int32)), (.ref r0)] _
  obtain ⟨T19, h19, k19, X19, e19, E19, A19, st19⟩ := newP X18 hx hZ (hw _ (List.mem_of_getElem? (i := 17) rfl)) e18 (g := (mkF m 27 #[rv r0, iv (4 : Int32)] [(.int (4 : Int32)), (.ref r0)])) rfl (Jvm.hb hby d1_27) rfl (by decide) (cap := 4) (by decide) (by decide) (by decide) (by decide)
  obtain ⟨b19, g19⟩ : ∃ z, z = h18.size := ⟨_, rfl⟩
  rw [← g19] at A19 st19
  have g_b19 : n0 ≤ b19 := Nat.le_trans Z18 (Nat.le_of_eq g19.symm)
  have f20 := (f16.wr W18)
  have ne_r0_b19 : r0 ≠ b19 := Nat.ne_of_lt (Nat.lt_of_lt_of_le f20.lt (Nat.le_of_eq g19.symm))
  have f21 := ((f14.ext E12).other W18 (Ne.symm ne_r0_b2))
  have ne_b2_b19 : b2 ≠ b19 := Nat.ne_of_lt (Nat.lt_of_lt_of_le f21.lt (Nat.le_of_eq g19.symm))
  have f22 := ((f15.ext E12).other W18 (Ne.symm ne_r0_b6))
  have ne_b6_b19 : b6 ≠ b19 := Nat.ne_of_lt (Nat.lt_of_lt_of_le f22.lt (Nat.le_of_eq g19.symm))
  have f23 := (V12.other W18 (Ne.symm ne_r0_b12))
  have ne_b12_b19 : b12 ≠ b19 := Nat.ne_of_lt (Nat.lt_of_lt_of_le f23.lt (Nat.le_of_eq g19.symm))
  have sz_b19 : h0.size ≤ b19 := Nat.le_trans K18.1 (Nat.le_of_eq g19.symm)
  have K19 : Keep h0 h19 [r0] := Keep.ext K18 E19
  have Z19 : n0 ≤ h19.size := Nat.le_trans Z18 E19.1
  have V19 : Af Z h19 b19 .double 4 (fun _ => defaultValue .double) := Af.new A19 (by decide) rfl rfl
  refine own_go st19 ?_
  show Gm p e below T19 m 29 #[rv r0, iv (4 : Int32)] [(.ref b19), (.ref r0)] _
  have f24 := (f20.ext E19)
  have f25 := ((Fld.other W18 ((Fld.other W11 ((Fld.other W5 (F_speedMps.ext E2) (Or.inr (slot_ne (Or.inr (hw _ (List.mem_of_getElem? (i := 19) rfl))) (Or.inr (hw _ (List.mem_of_getElem? (i := 12) rfl))) (by decide) (t := (.array .double)) (t' := (.array .int)) (by decide) (by decide)))).ext E6) (Or.inr (slot_ne (Or.inr (hw _ (List.mem_of_getElem? (i := 19) rfl))) (Or.inr (hw _ (List.mem_of_getElem? (i := 14) rfl))) (by decide) (t := (.array .double)) (t' := (.array .int)) (by decide) (by decide)))).ext E12) (Or.inr (slot_ne (Or.inr (hw _ (List.mem_of_getElem? (i := 19) rfl))) (Or.inr (hw _ (List.mem_of_getElem? (i := 16) rfl))) (by decide) (t := (.array .double)) (t' := (.array .int)) (by decide) (by decide)))).ext E19)
  obtain ⟨T26, h26, X26, e26, W26, st26⟩ := putF X19 hx hZ hown (host := "") (Or.inl (hw _ (List.mem_of_getElem? (i := 18) rfl))) Via.refl e19 f25 f24 (Or.inr ⟨(hw _ (List.mem_of_getElem? (i := 19) rfl)), rfl, hnm⟩) (hw _ (List.mem_of_getElem? (i := 2) rfl)) (ty := (.array .double)) (by decide) rfl rfl (g := (mkF m 29 #[rv r0, iv (4 : Int32)] [(.ref b19), (.ref r0)])) rfl rfl (Jvm.hb hby d1_29)
  have Fw26 := Fld.same W26 f25
  have N26 := Fr.snoc X26 N18 g_r0
  have Z26 : n0 ≤ h26.size := W26.size ▸ Z19
  have K26 : Keep h0 h26 [r0] := Keep.wr K19 W26 (Or.inl (List.mem_of_getElem? (i := 0) rfl))
  refine own_go st26 ?_
  show Gm p e below T26 m 32 #[rv r0, iv (4 : Int32)] [] _
  refine own_go (fun t₀ k₀ => XS.aloadN X26.here hx rfl (Jvm.hb hby d1_32) rfl rfl k₀) ?_
  show Gm p e below T26 m 33 #[rv r0, iv (4 : Int32)] [(.ref r0)] _
  refine own_go (fun t₀ k₀ => XS.iloadN X26.here hx rfl (Jvm.hb hby d1_33) rfl k₀) ?_
  show Gm p e below T26 m 34 #[rv r0, iv (4 : Int32)] [(.int (4 : Int32)), (.ref r0)] _
  obtain ⟨T27, h27, k27, X27, e27, E27, A27, st27⟩ := newP X26 hx hZ (hw _ (List.mem_of_getElem? (i := 17) rfl)) e26 (g := (mkF m 34 #[rv r0, iv (4 : Int32)] [(.int (4 : Int32)), (.ref r0)])) rfl (Jvm.hb hby d1_34) rfl (by decide) (cap := 4) (by decide) (by decide) (by decide) (by decide)
  obtain ⟨b27, g27⟩ : ∃ z, z = h26.size := ⟨_, rfl⟩
  rw [← g27] at A27 st27
  have g_b27 : n0 ≤ b27 := Nat.le_trans Z26 (Nat.le_of_eq g27.symm)
  have f28 := (f24.wr W26)
  have ne_r0_b27 : r0 ≠ b27 := Nat.ne_of_lt (Nat.lt_of_lt_of_le f28.lt (Nat.le_of_eq g27.symm))
  have f29 := ((f21.ext E19).other W26 (Ne.symm ne_r0_b2))
  have ne_b2_b27 : b2 ≠ b27 := Nat.ne_of_lt (Nat.lt_of_lt_of_le f29.lt (Nat.le_of_eq g27.symm))
  have f30 := ((f22.ext E19).other W26 (Ne.symm ne_r0_b6))
  have ne_b6_b27 : b6 ≠ b27 := Nat.ne_of_lt (Nat.lt_of_lt_of_le f30.lt (Nat.le_of_eq g27.symm))
  have f31 := ((f23.ext E19).other W26 (Ne.symm ne_r0_b12))
  have ne_b12_b27 : b12 ≠ b27 := Nat.ne_of_lt (Nat.lt_of_lt_of_le f31.lt (Nat.le_of_eq g27.symm))
  have sz_b27 : h0.size ≤ b27 := Nat.le_trans K26.1 (Nat.le_of_eq g27.symm)
  have K27 : Keep h0 h27 [r0] := Keep.ext K26 E27
  have Z27 : n0 ≤ h27.size := Nat.le_trans Z26 E27.1
  have V27 : Af Z h27 b27 .double 4 (fun _ => defaultValue .double) := Af.new A27 (by decide) rfl rfl
  refine own_go st27 ?_
  show Gm p e below T27 m 36 #[rv r0, iv (4 : Int32)] [(.ref b27), (.ref r0)] _
  have f32 := (f28.ext E27)
  have f33 := ((Fld.other W26 ((Fld.other W18 ((Fld.other W11 ((Fld.other W5 (F_reactionS.ext E2) (Or.inr (slot_ne (Or.inr (hw _ (List.mem_of_getElem? (i := 21) rfl))) (Or.inr (hw _ (List.mem_of_getElem? (i := 12) rfl))) (by decide) (t := (.array .double)) (t' := (.array .int)) (by decide) (by decide)))).ext E6) (Or.inr (slot_ne (Or.inr (hw _ (List.mem_of_getElem? (i := 21) rfl))) (Or.inr (hw _ (List.mem_of_getElem? (i := 14) rfl))) (by decide) (t := (.array .double)) (t' := (.array .int)) (by decide) (by decide)))).ext E12) (Or.inr (slot_ne (Or.inr (hw _ (List.mem_of_getElem? (i := 21) rfl))) (Or.inr (hw _ (List.mem_of_getElem? (i := 16) rfl))) (by decide) (t := (.array .double)) (t' := (.array .int)) (by decide) (by decide)))).ext E19) (Or.inr (slot_ne (Or.inr (hw _ (List.mem_of_getElem? (i := 21) rfl))) (Or.inr (hw _ (List.mem_of_getElem? (i := 19) rfl))) (by decide) (t := (.array .double)) (t' := (.array .double)) (by decide) (by decide)))).ext E27)
  obtain ⟨T34, h34, X34, e34, W34, st34⟩ := putF X27 hx hZ hown (host := "") (Or.inl (hw _ (List.mem_of_getElem? (i := 20) rfl))) Via.refl e27 f33 f32 (Or.inr ⟨(hw _ (List.mem_of_getElem? (i := 21) rfl)), rfl, hnm⟩) (hw _ (List.mem_of_getElem? (i := 2) rfl)) (ty := (.array .double)) (by decide) rfl rfl (g := (mkF m 36 #[rv r0, iv (4 : Int32)] [(.ref b27), (.ref r0)])) rfl rfl (Jvm.hb hby d1_36)
  have Fw34 := Fld.same W34 f33
  have N34 := Fr.snoc X34 N26 g_r0
  have Z34 : n0 ≤ h34.size := W34.size ▸ Z27
  have K34 : Keep h0 h34 [r0] := Keep.wr K27 W34 (Or.inl (List.mem_of_getElem? (i := 0) rfl))
  refine own_go st34 ?_
  show Gm p e below T34 m 39 #[rv r0, iv (4 : Int32)] [] _
  refine own_go (fun t₀ k₀ => XS.aloadN X34.here hx rfl (Jvm.hb hby d1_39) rfl rfl k₀) ?_
  show Gm p e below T34 m 40 #[rv r0, iv (4 : Int32)] [(.ref r0)] _
  refine own_go (fun t₀ k₀ => XS.iloadN X34.here hx rfl (Jvm.hb hby d1_40) rfl k₀) ?_
  show Gm p e below T34 m 41 #[rv r0, iv (4 : Int32)] [(.int (4 : Int32)), (.ref r0)] _
  obtain ⟨T35, h35, k35, X35, e35, E35, A35, st35⟩ := newP X34 hx hZ (hw _ (List.mem_of_getElem? (i := 10) rfl)) e34 (g := (mkF m 41 #[rv r0, iv (4 : Int32)] [(.int (4 : Int32)), (.ref r0)])) rfl (Jvm.hb hby d1_41) rfl (by decide) (cap := 4) (by decide) (by decide) (by decide) (by decide)
  obtain ⟨b35, g35⟩ : ∃ z, z = h34.size := ⟨_, rfl⟩
  rw [← g35] at A35 st35
  have g_b35 : n0 ≤ b35 := Nat.le_trans Z34 (Nat.le_of_eq g35.symm)
  have f36 := (f32.wr W34)
  have ne_r0_b35 : r0 ≠ b35 := Nat.ne_of_lt (Nat.lt_of_lt_of_le f36.lt (Nat.le_of_eq g35.symm))
  have f37 := ((f29.ext E27).other W34 (Ne.symm ne_r0_b2))
  have ne_b2_b35 : b2 ≠ b35 := Nat.ne_of_lt (Nat.lt_of_lt_of_le f37.lt (Nat.le_of_eq g35.symm))
  have f38 := ((f30.ext E27).other W34 (Ne.symm ne_r0_b6))
  have ne_b6_b35 : b6 ≠ b35 := Nat.ne_of_lt (Nat.lt_of_lt_of_le f38.lt (Nat.le_of_eq g35.symm))
  have f39 := ((f31.ext E27).other W34 (Ne.symm ne_r0_b12))
  have ne_b12_b35 : b12 ≠ b35 := Nat.ne_of_lt (Nat.lt_of_lt_of_le f39.lt (Nat.le_of_eq g35.symm))
  have sz_b35 : h0.size ≤ b35 := Nat.le_trans K34.1 (Nat.le_of_eq g35.symm)
  have K35 : Keep h0 h35 [r0] := Keep.ext K34 E35
  have Z35 : n0 ≤ h35.size := Nat.le_trans Z34 E35.1
  have V35 : Af Z h35 b35 .int 4 (fun _ => defaultValue .int) := Af.new A35 (by decide) rfl rfl
  refine own_go st35 ?_
  show Gm p e below T35 m 43 #[rv r0, iv (4 : Int32)] [(.ref b35), (.ref r0)] _
  have f40 := (f36.ext E35)
  have f41 := ((Fld.other W34 ((Fld.other W26 ((Fld.other W18 ((Fld.other W11 ((Fld.other W5 (F_heading.ext E2) (Or.inr (slot_ne (Or.inr (hw _ (List.mem_of_getElem? (i := 23) rfl))) (Or.inr (hw _ (List.mem_of_getElem? (i := 12) rfl))) (by decide) (t := (.array .int)) (t' := (.array .int)) (by decide) (by decide)))).ext E6) (Or.inr (slot_ne (Or.inr (hw _ (List.mem_of_getElem? (i := 23) rfl))) (Or.inr (hw _ (List.mem_of_getElem? (i := 14) rfl))) (by decide) (t := (.array .int)) (t' := (.array .int)) (by decide) (by decide)))).ext E12) (Or.inr (slot_ne (Or.inr (hw _ (List.mem_of_getElem? (i := 23) rfl))) (Or.inr (hw _ (List.mem_of_getElem? (i := 16) rfl))) (by decide) (t := (.array .int)) (t' := (.array .int)) (by decide) (by decide)))).ext E19) (Or.inr (slot_ne (Or.inr (hw _ (List.mem_of_getElem? (i := 23) rfl))) (Or.inr (hw _ (List.mem_of_getElem? (i := 19) rfl))) (by decide) (t := (.array .int)) (t' := (.array .double)) (by decide) (by decide)))).ext E27) (Or.inr (slot_ne (Or.inr (hw _ (List.mem_of_getElem? (i := 23) rfl))) (Or.inr (hw _ (List.mem_of_getElem? (i := 21) rfl))) (by decide) (t := (.array .int)) (t' := (.array .double)) (by decide) (by decide)))).ext E35)
  obtain ⟨T42, h42, X42, e42, W42, st42⟩ := putF X35 hx hZ hown (host := "") (Or.inl (hw _ (List.mem_of_getElem? (i := 22) rfl))) Via.refl e35 f41 f40 (Or.inr ⟨(hw _ (List.mem_of_getElem? (i := 23) rfl)), rfl, hnm⟩) (hw _ (List.mem_of_getElem? (i := 2) rfl)) (ty := (.array .int)) (by decide) rfl rfl (g := (mkF m 43 #[rv r0, iv (4 : Int32)] [(.ref b35), (.ref r0)])) rfl rfl (Jvm.hb hby d1_43)
  have Fw42 := Fld.same W42 f41
  have N42 := Fr.snoc X42 N34 g_r0
  have Z42 : n0 ≤ h42.size := W42.size ▸ Z35
  have K42 : Keep h0 h42 [r0] := Keep.wr K35 W42 (Or.inl (List.mem_of_getElem? (i := 0) rfl))
  refine own_go st42 ?_
  show Gm p e below T42 m 46 #[rv r0, iv (4 : Int32)] [] _
  refine own_go (fun t₀ k₀ => XS.aloadN X42.here hx rfl (Jvm.hb hby d1_46) rfl rfl k₀) ?_
  show Gm p e below T42 m 47 #[rv r0, iv (4 : Int32)] [(.ref r0)] _
  refine own_go (fun t₀ k₀ => XS.iloadN X42.here hx rfl (Jvm.hb hby d1_47) rfl k₀) ?_
  show Gm p e below T42 m 48 #[rv r0, iv (4 : Int32)] [(.int (4 : Int32)), (.ref r0)] _
  obtain ⟨T43, h43, k43, X43, e43, E43, A43, st43⟩ := newP X42 hx hZ (hw _ (List.mem_of_getElem? (i := 17) rfl)) e42 (g := (mkF m 48 #[rv r0, iv (4 : Int32)] [(.int (4 : Int32)), (.ref r0)])) rfl (Jvm.hb hby d1_48) rfl (by decide) (cap := 4) (by decide) (by decide) (by decide) (by decide)
  obtain ⟨b43, g43⟩ : ∃ z, z = h42.size := ⟨_, rfl⟩
  rw [← g43] at A43 st43
  have g_b43 : n0 ≤ b43 := Nat.le_trans Z42 (Nat.le_of_eq g43.symm)
  have f44 := (f40.wr W42)
  have ne_r0_b43 : r0 ≠ b43 := Nat.ne_of_lt (Nat.lt_of_lt_of_le f44.lt (Nat.le_of_eq g43.symm))
  have f45 := ((f37.ext E35).other W42 (Ne.symm ne_r0_b2))
  have ne_b2_b43 : b2 ≠ b43 := Nat.ne_of_lt (Nat.lt_of_lt_of_le f45.lt (Nat.le_of_eq g43.symm))
  have f46 := ((f38.ext E35).other W42 (Ne.symm ne_r0_b6))
  have ne_b6_b43 : b6 ≠ b43 := Nat.ne_of_lt (Nat.lt_of_lt_of_le f46.lt (Nat.le_of_eq g43.symm))
  have f47 := ((f39.ext E35).other W42 (Ne.symm ne_r0_b12))
  have ne_b12_b43 : b12 ≠ b43 := Nat.ne_of_lt (Nat.lt_of_lt_of_le f47.lt (Nat.le_of_eq g43.symm))
  have f48 := (V35.other W42 (Ne.symm ne_r0_b35))
  have ne_b35_b43 : b35 ≠ b43 := Nat.ne_of_lt (Nat.lt_of_lt_of_le f48.lt (Nat.le_of_eq g43.symm))
  have sz_b43 : h0.size ≤ b43 := Nat.le_trans K42.1 (Nat.le_of_eq g43.symm)
  have K43 : Keep h0 h43 [r0] := Keep.ext K42 E43
  have Z43 : n0 ≤ h43.size := Nat.le_trans Z42 E43.1
  have V43 : Af Z h43 b43 .double 4 (fun _ => defaultValue .double) := Af.new A43 (by decide) rfl rfl
  refine own_go st43 ?_
  show Gm p e below T43 m 50 #[rv r0, iv (4 : Int32)] [(.ref b43), (.ref r0)] _
  have f49 := (f44.ext E43)
  have f50 := ((Fld.other W42 ((Fld.other W34 ((Fld.other W26 ((Fld.other W18 ((Fld.other W11 ((Fld.other W5 (F_heldUpS.ext E2) (Or.inr (slot_ne (Or.inr (hw _ (List.mem_of_getElem? (i := 25) rfl))) (Or.inr (hw _ (List.mem_of_getElem? (i := 12) rfl))) (by decide) (t := (.array .double)) (t' := (.array .int)) (by decide) (by decide)))).ext E6) (Or.inr (slot_ne (Or.inr (hw _ (List.mem_of_getElem? (i := 25) rfl))) (Or.inr (hw _ (List.mem_of_getElem? (i := 14) rfl))) (by decide) (t := (.array .double)) (t' := (.array .int)) (by decide) (by decide)))).ext E12) (Or.inr (slot_ne (Or.inr (hw _ (List.mem_of_getElem? (i := 25) rfl))) (Or.inr (hw _ (List.mem_of_getElem? (i := 16) rfl))) (by decide) (t := (.array .double)) (t' := (.array .int)) (by decide) (by decide)))).ext E19) (Or.inr (slot_ne (Or.inr (hw _ (List.mem_of_getElem? (i := 25) rfl))) (Or.inr (hw _ (List.mem_of_getElem? (i := 19) rfl))) (by decide) (t := (.array .double)) (t' := (.array .double)) (by decide) (by decide)))).ext E27) (Or.inr (slot_ne (Or.inr (hw _ (List.mem_of_getElem? (i := 25) rfl))) (Or.inr (hw _ (List.mem_of_getElem? (i := 21) rfl))) (by decide) (t := (.array .double)) (t' := (.array .double)) (by decide) (by decide)))).ext E35) (Or.inr (slot_ne (Or.inr (hw _ (List.mem_of_getElem? (i := 25) rfl))) (Or.inr (hw _ (List.mem_of_getElem? (i := 23) rfl))) (by decide) (t := (.array .double)) (t' := (.array .int)) (by decide) (by decide)))).ext E43)
  obtain ⟨T51, h51, X51, e51, W51, st51⟩ := putF X43 hx hZ hown (host := "") (Or.inl (hw _ (List.mem_of_getElem? (i := 24) rfl))) Via.refl e43 f50 f49 (Or.inr ⟨(hw _ (List.mem_of_getElem? (i := 25) rfl)), rfl, hnm⟩) (hw _ (List.mem_of_getElem? (i := 2) rfl)) (ty := (.array .double)) (by decide) rfl rfl (g := (mkF m 50 #[rv r0, iv (4 : Int32)] [(.ref b43), (.ref r0)])) rfl rfl (Jvm.hb hby d1_50)
  have Fw51 := Fld.same W51 f50
  have N51 := Fr.snoc X51 N42 g_r0
  have Z51 : n0 ≤ h51.size := W51.size ▸ Z43
  have K51 : Keep h0 h51 [r0] := Keep.wr K43 W51 (Or.inl (List.mem_of_getElem? (i := 0) rfl))
  refine own_go st51 ?_
  show Gm p e below T51 m 53 #[rv r0, iv (4 : Int32)] [] _
  refine own_go (fun t₀ k₀ => XS.aloadN X51.here hx rfl (Jvm.hb hby d1_53) rfl rfl k₀) ?_
  show Gm p e below T51 m 54 #[rv r0, iv (4 : Int32)] [(.ref r0)] _
  obtain ⟨T52, X52, e52, st52⟩ := getF X51 hx hZ hown (host := "") (Or.inl (hw _ (List.mem_of_getElem? (i := 24) rfl))) Via.refl e51 Fw51 (g := (mkF m 54 #[rv r0, iv (4 : Int32)] [(.ref r0)])) rfl rfl (Jvm.hb hby d1_54)
  refine own_go st52 ?_
  show Gm p e below T52 m 57 #[rv r0, iv (4 : Int32)] [(.ref b43)] _
  refine own_go (fun t₀ k₀ => X52.ldc2DoubleC hx hown (mvT hZ (hw _ (List.mem_of_getElem? (i := 26) rfl))) (g := (mkF m 57 #[rv r0, iv (4 : Int32)] [(.ref b43)])) rfl (Jvm.hb hby d1_57) _ k₀) ?_
  show Gm p e below T52 m 60 #[rv r0, iv (4 : Int32)] [(.double (18442240474082181120 : UInt64)), (.ref b43)] _
  have f53 := (V43.other W51 (Ne.symm ne_r0_b43))
  obtain ⟨_, _, ⟨T54, L54, k54, n54⟩, -, X54, ⟨Lc54, hQ54, l54, y54, z54⟩, st54⟩ := Jvm.LawKit.callS X52 hx (y := (⟨"java/util/Arrays", "fill", "([DD)V"⟩ : MethodName)) hown (mvT hZ (hw _ (List.mem_of_getElem? (i := 27) rfl))) (mvT hZ (hw _ (List.mem_of_getElem? (i := 28) rfl))) (mvT hZ (hw _ (List.mem_of_getElem? (i := 29) rfl))) (mvT hZ (hw _ (List.mem_of_getElem? (i := 30) rfl))) (by decide) (backOf (W := 0) (rm3_4 l Z a0 hw [] b43 (18442240474082181120 : UInt64) (fun _ => defaultValue .double) h51 n0 Z51 f53 g_b43) hZ (hw _ (List.mem_of_getElem? (i := 30) rfl)) (hw _ (List.mem_of_getElem? (i := 29) rfl)) (by decide) (by decide)) (g := (mkF m 60 #[rv r0, iv (4 : Int32)] [(.double (18442240474082181120 : UInt64)), (.ref b43)])) rfl (by rw [hml]; rfl) (argsL := [(.ref b43), (.double (18442240474082181120 : UInt64))]) (rest := []) (lenOf own_pd0 rfl) rfl (by show 2 * 0 + _ ≤ _; exact Nat.le_of_eq rfl) (Jvm.hb hby d1_60) (fun _ _ => ⟨rfl, e52, (by decide : 7 + 0 ≤ _), (by decide : 28 + 0 ≤ _)⟩)
  dsimp only [Pt.U, Pt.locs, Pt.cells, Pt.slots] at X54 l54 y54 z54 st54 hQ54
  subst l54 y54 z54
  obtain ⟨rfl, Nq54, Kc54, fd54, Ac54⟩ := hQ54
  have N54 := Fr.app N51 Nq54
  refine own_go st54 ?_
  have Z54 : n0 ≤ T54.heap.size := Nat.le_trans Z51 Kc54.1
  have K54 : Keep h0 T54.heap [r0] := Keep.trans K51 Kc54 (allS (Or.inr sz_b43) all0)
  show Gm p e below T54 m 63 #[rv r0, iv (4 : Int32)] [] _
  refine own_go (fun t₀ k₀ => XS.aloadN X54.here hx rfl (Jvm.hb hby d1_63) rfl rfl k₀) ?_
  show Gm p e below T54 m 64 #[rv r0, iv (4 : Int32)] [(.ref r0)] _
  refine own_go (fun t₀ k₀ => XS.iloadN X54.here hx rfl (Jvm.hb hby d1_64) rfl k₀) ?_
  show Gm p e below T54 m 65 #[rv r0, iv (4 : Int32)] [(.int (4 : Int32)), (.ref r0)] _
  obtain ⟨T55, h55, k55, X55, e55, E55, A55, st55⟩ := newP X54 hx hZ (hw _ (List.mem_of_getElem? (i := 17) rfl)) rfl (g := (mkF m 65 #[rv r0, iv (4 : Int32)] [(.int (4 : Int32)), (.ref r0)])) rfl (Jvm.hb hby d1_65) rfl (by decide) (cap := 4) (by decide) (by decide) (by decide) (by decide)
  obtain ⟨b55, g55⟩ : ∃ z, z = T54.heap.size := ⟨_, rfl⟩
  rw [← g55] at A55 st55
  have g_b55 : n0 ≤ b55 := Nat.le_trans Z54 (Nat.le_of_eq g55.symm)
  have f56 := ((f49.wr W51).keep Kc54)
  have ne_r0_b55 : r0 ≠ b55 := Nat.ne_of_lt (Nat.lt_of_lt_of_le f56.lt (Nat.le_of_eq g55.symm))
  have f57 := (((f45.ext E43).other W51 (Ne.symm ne_r0_b2)).keep Kc54 (ninS ne_b2_b43 nin0))
  have ne_b2_b55 : b2 ≠ b55 := Nat.ne_of_lt (Nat.lt_of_lt_of_le f57.lt (Nat.le_of_eq g55.symm))
  have f58 := (((f46.ext E43).other W51 (Ne.symm ne_r0_b6)).keep Kc54 (ninS ne_b6_b43 nin0))
  have ne_b6_b55 : b6 ≠ b55 := Nat.ne_of_lt (Nat.lt_of_lt_of_le f58.lt (Nat.le_of_eq g55.symm))
  have f59 := (((f47.ext E43).other W51 (Ne.symm ne_r0_b12)).keep Kc54 (ninS ne_b12_b43 nin0))
  have ne_b12_b55 : b12 ≠ b55 := Nat.ne_of_lt (Nat.lt_of_lt_of_le f59.lt (Nat.le_of_eq g55.symm))
  have f60 := (((f48.ext E43).other W51 (Ne.symm ne_r0_b35)).keep Kc54 (ninS ne_b35_b43 nin0))
  have ne_b35_b55 : b35 ≠ b55 := Nat.ne_of_lt (Nat.lt_of_lt_of_le f60.lt (Nat.le_of_eq g55.symm))
  have sz_b55 : h0.size ≤ b55 := Nat.le_trans K54.1 (Nat.le_of_eq g55.symm)
  have K55 : Keep h0 h55 [r0] := Keep.ext K54 E55
  have Z55 : n0 ≤ h55.size := Nat.le_trans Z54 E55.1
  have V55 : Af Z h55 b55 .double 4 (fun _ => defaultValue .double) := Af.new A55 (by decide) rfl rfl
  refine own_go st55 ?_
  show Gm p e below T55 m 67 #[rv r0, iv (4 : Int32)] [(.ref b55), (.ref r0)] _
  have f61 := (f56.ext E55)
  have f62 := (((Fld.other W51 ((Fld.other W42 ((Fld.other W34 ((Fld.other W26 ((Fld.other W18 ((Fld.other W11 ((Fld.other W5 (F_exitTimeS.ext E2) (Or.inr (slot_ne (Or.inr (hw _ (List.mem_of_getElem? (i := 32) rfl))) (Or.inr (hw _ (List.mem_of_getElem? (i := 12) rfl))) (by decide) (t := (.array .double)) (t' := (.array .int)) (by decide) (by decide)))).ext E6) (Or.inr (slot_ne (Or.inr (hw _ (List.mem_of_getElem? (i := 32) rfl))) (Or.inr (hw _ (List.mem_of_getElem? (i := 14) rfl))) (by decide) (t := (.array .double)) (t' := (.array .int)) (by decide) (by decide)))).ext E12) (Or.inr (slot_ne (Or.inr (hw _ (List.mem_of_getElem? (i := 32) rfl))) (Or.inr (hw _ (List.mem_of_getElem? (i := 16) rfl))) (by decide) (t := (.array .double)) (t' := (.array .int)) (by decide) (by decide)))).ext E19) (Or.inr (slot_ne (Or.inr (hw _ (List.mem_of_getElem? (i := 32) rfl))) (Or.inr (hw _ (List.mem_of_getElem? (i := 19) rfl))) (by decide) (t := (.array .double)) (t' := (.array .double)) (by decide) (by decide)))).ext E27) (Or.inr (slot_ne (Or.inr (hw _ (List.mem_of_getElem? (i := 32) rfl))) (Or.inr (hw _ (List.mem_of_getElem? (i := 21) rfl))) (by decide) (t := (.array .double)) (t' := (.array .double)) (by decide) (by decide)))).ext E35) (Or.inr (slot_ne (Or.inr (hw _ (List.mem_of_getElem? (i := 32) rfl))) (Or.inr (hw _ (List.mem_of_getElem? (i := 23) rfl))) (by decide) (t := (.array .double)) (t' := (.array .int)) (by decide) (by decide)))).ext E43) (Or.inr (slot_ne (Or.inr (hw _ (List.mem_of_getElem? (i := 32) rfl))) (Or.inr (hw _ (List.mem_of_getElem? (i := 25) rfl))) (by decide) (t := (.array .double)) (t' := (.array .double)) (by decide) (by decide)))).keep Kc54 (ninS ne_r0_b43 nin0)).ext E55)
  obtain ⟨T63, h63, X63, e63, W63, st63⟩ := putF X55 hx hZ hown (host := "") (Or.inl (hw _ (List.mem_of_getElem? (i := 31) rfl))) Via.refl e55 f62 f61 (Or.inr ⟨(hw _ (List.mem_of_getElem? (i := 32) rfl)), rfl, hnm⟩) (hw _ (List.mem_of_getElem? (i := 2) rfl)) (ty := (.array .double)) (by decide) rfl rfl (g := (mkF m 67 #[rv r0, iv (4 : Int32)] [(.ref b55), (.ref r0)])) rfl rfl (Jvm.hb hby d1_67)
  have Fw63 := Fld.same W63 f62
  have N63 := Fr.snoc X63 N54 g_r0
  have Z63 : n0 ≤ h63.size := W63.size ▸ Z55
  have K63 : Keep h0 h63 [r0] := Keep.wr K55 W63 (Or.inl (List.mem_of_getElem? (i := 0) rfl))
  refine own_go st63 ?_
  show Gm p e below T63 m 70 #[rv r0, iv (4 : Int32)] [] _
  refine own_go (fun t₀ k₀ => XS.aloadN X63.here hx rfl (Jvm.hb hby d1_70) rfl rfl k₀) ?_
  show Gm p e below T63 m 71 #[rv r0, iv (4 : Int32)] [(.ref r0)] _
  obtain ⟨T64, X64, e64, st64⟩ := getF X63 hx hZ hown (host := "") (Or.inl (hw _ (List.mem_of_getElem? (i := 31) rfl))) Via.refl e63 Fw63 (g := (mkF m 71 #[rv r0, iv (4 : Int32)] [(.ref r0)])) rfl rfl (Jvm.hb hby d1_71)
  refine own_go st64 ?_
  show Gm p e below T64 m 74 #[rv r0, iv (4 : Int32)] [(.ref b55)] _
  refine own_go (fun t₀ k₀ => X64.ldc2DoubleC hx hown (mvT hZ (hw _ (List.mem_of_getElem? (i := 33) rfl))) (g := (mkF m 74 #[rv r0, iv (4 : Int32)] [(.ref b55)])) rfl (Jvm.hb hby d1_74) _ k₀) ?_
  show Gm p e below T64 m 77 #[rv r0, iv (4 : Int32)] [(.double (9218868437227405312 : UInt64)), (.ref b55)] _
  have f65 := (V55.other W63 (Ne.symm ne_r0_b55))
  obtain ⟨_, _, ⟨T66, L66, k66, n66⟩, -, X66, ⟨Lc66, hQ66, l66, y66, z66⟩, st66⟩ := Jvm.LawKit.callS X64 hx (y := (⟨"java/util/Arrays", "fill", "([DD)V"⟩ : MethodName)) hown (mvT hZ (hw _ (List.mem_of_getElem? (i := 27) rfl))) (mvT hZ (hw _ (List.mem_of_getElem? (i := 28) rfl))) (mvT hZ (hw _ (List.mem_of_getElem? (i := 29) rfl))) (mvT hZ (hw _ (List.mem_of_getElem? (i := 30) rfl))) (by decide) (backOf (W := 0) (rm3_4 l Z a0 hw [] b55 (9218868437227405312 : UInt64) (fun _ => defaultValue .double) h63 n0 Z63 f65 g_b55) hZ (hw _ (List.mem_of_getElem? (i := 30) rfl)) (hw _ (List.mem_of_getElem? (i := 29) rfl)) (by decide) (by decide)) (g := (mkF m 77 #[rv r0, iv (4 : Int32)] [(.double (9218868437227405312 : UInt64)), (.ref b55)])) rfl (by rw [hml]; rfl) (argsL := [(.ref b55), (.double (9218868437227405312 : UInt64))]) (rest := []) (lenOf own_pd0 rfl) rfl (by show 2 * 0 + _ ≤ _; exact Nat.le_of_eq rfl) (Jvm.hb hby d1_77) (fun _ _ => ⟨rfl, e64, (by decide : 8 + 0 ≤ _), (by decide : 32 + 0 ≤ _)⟩)
  dsimp only [Pt.U, Pt.locs, Pt.cells, Pt.slots] at X66 l66 y66 z66 st66 hQ66
  subst l66 y66 z66
  obtain ⟨rfl, Nq66, Kc66, fd66, Ac66⟩ := hQ66
  have N66 := Fr.app N63 Nq66
  refine own_go st66 ?_
  have Z66 : n0 ≤ T66.heap.size := Nat.le_trans Z63 Kc66.1
  have K66 : Keep h0 T66.heap [r0] := Keep.trans K63 Kc66 (allS (Or.inr sz_b55) all0)
  show Gm p e below T66 m 80 #[rv r0, iv (4 : Int32)] [] _
  refine own_go (fun t₀ k₀ => XS.aloadN X66.here hx rfl (Jvm.hb hby d1_80) rfl rfl k₀) ?_
  show Gm p e below T66 m 81 #[rv r0, iv (4 : Int32)] [(.ref r0)] _
  refine own_go (fun t₀ k₀ => XS.iloadN X66.here hx rfl (Jvm.hb hby d1_81) rfl k₀) ?_
  show Gm p e below T66 m 82 #[rv r0, iv (4 : Int32)] [(.int (4 : Int32)), (.ref r0)] _
  obtain ⟨T67, h67, k67, X67, e67, E67, A67, st67⟩ := newP X66 hx hZ (hw _ (List.mem_of_getElem? (i := 10) rfl)) rfl (g := (mkF m 82 #[rv r0, iv (4 : Int32)] [(.int (4 : Int32)), (.ref r0)])) rfl (Jvm.hb hby d1_82) rfl (by decide) (cap := 4) (by decide) (by decide) (by decide) (by decide)
  obtain ⟨b67, g67⟩ : ∃ z, z = T66.heap.size := ⟨_, rfl⟩
  rw [← g67] at A67 st67
  have g_b67 : n0 ≤ b67 := Nat.le_trans Z66 (Nat.le_of_eq g67.symm)
  have f68 := ((f61.wr W63).keep Kc66)
  have ne_r0_b67 : r0 ≠ b67 := Nat.ne_of_lt (Nat.lt_of_lt_of_le f68.lt (Nat.le_of_eq g67.symm))
  have f69 := (((f57.ext E55).other W63 (Ne.symm ne_r0_b2)).keep Kc66 (ninS ne_b2_b55 nin0))
  have ne_b2_b67 : b2 ≠ b67 := Nat.ne_of_lt (Nat.lt_of_lt_of_le f69.lt (Nat.le_of_eq g67.symm))
  have f70 := (((f58.ext E55).other W63 (Ne.symm ne_r0_b6)).keep Kc66 (ninS ne_b6_b55 nin0))
  have ne_b6_b67 : b6 ≠ b67 := Nat.ne_of_lt (Nat.lt_of_lt_of_le f70.lt (Nat.le_of_eq g67.symm))
  have f71 := (((f59.ext E55).other W63 (Ne.symm ne_r0_b12)).keep Kc66 (ninS ne_b12_b55 nin0))
  have ne_b12_b67 : b12 ≠ b67 := Nat.ne_of_lt (Nat.lt_of_lt_of_le f71.lt (Nat.le_of_eq g67.symm))
  have f72 := (((f60.ext E55).other W63 (Ne.symm ne_r0_b35)).keep Kc66 (ninS ne_b35_b55 nin0))
  have ne_b35_b67 : b35 ≠ b67 := Nat.ne_of_lt (Nat.lt_of_lt_of_le f72.lt (Nat.le_of_eq g67.symm))
  have sz_b67 : h0.size ≤ b67 := Nat.le_trans K66.1 (Nat.le_of_eq g67.symm)
  have K67 : Keep h0 h67 [r0] := Keep.ext K66 E67
  have Z67 : n0 ≤ h67.size := Nat.le_trans Z66 E67.1
  have V67 : Af Z h67 b67 .int 4 (fun _ => defaultValue .int) := Af.new A67 (by decide) rfl rfl
  refine own_go st67 ?_
  show Gm p e below T67 m 84 #[rv r0, iv (4 : Int32)] [(.ref b67), (.ref r0)] _
  have f73 := (f68.ext E67)
  have f74 := (((Fld.other W63 (((Fld.other W51 ((Fld.other W42 ((Fld.other W34 ((Fld.other W26 ((Fld.other W18 ((Fld.other W11 ((Fld.other W5 (F_leaving.ext E2) (Or.inr (slot_ne (Or.inr (hw _ (List.mem_of_getElem? (i := 35) rfl))) (Or.inr (hw _ (List.mem_of_getElem? (i := 12) rfl))) (by decide) (t := (.array .int)) (t' := (.array .int)) (by decide) (by decide)))).ext E6) (Or.inr (slot_ne (Or.inr (hw _ (List.mem_of_getElem? (i := 35) rfl))) (Or.inr (hw _ (List.mem_of_getElem? (i := 14) rfl))) (by decide) (t := (.array .int)) (t' := (.array .int)) (by decide) (by decide)))).ext E12) (Or.inr (slot_ne (Or.inr (hw _ (List.mem_of_getElem? (i := 35) rfl))) (Or.inr (hw _ (List.mem_of_getElem? (i := 16) rfl))) (by decide) (t := (.array .int)) (t' := (.array .int)) (by decide) (by decide)))).ext E19) (Or.inr (slot_ne (Or.inr (hw _ (List.mem_of_getElem? (i := 35) rfl))) (Or.inr (hw _ (List.mem_of_getElem? (i := 19) rfl))) (by decide) (t := (.array .int)) (t' := (.array .double)) (by decide) (by decide)))).ext E27) (Or.inr (slot_ne (Or.inr (hw _ (List.mem_of_getElem? (i := 35) rfl))) (Or.inr (hw _ (List.mem_of_getElem? (i := 21) rfl))) (by decide) (t := (.array .int)) (t' := (.array .double)) (by decide) (by decide)))).ext E35) (Or.inr (slot_ne (Or.inr (hw _ (List.mem_of_getElem? (i := 35) rfl))) (Or.inr (hw _ (List.mem_of_getElem? (i := 23) rfl))) (by decide) (t := (.array .int)) (t' := (.array .int)) (by decide) (by decide)))).ext E43) (Or.inr (slot_ne (Or.inr (hw _ (List.mem_of_getElem? (i := 35) rfl))) (Or.inr (hw _ (List.mem_of_getElem? (i := 25) rfl))) (by decide) (t := (.array .int)) (t' := (.array .double)) (by decide) (by decide)))).keep Kc54 (ninS ne_r0_b43 nin0)).ext E55) (Or.inr (slot_ne (Or.inr (hw _ (List.mem_of_getElem? (i := 35) rfl))) (Or.inr (hw _ (List.mem_of_getElem? (i := 32) rfl))) (by decide) (t := (.array .int)) (t' := (.array .double)) (by decide) (by decide)))).keep Kc66 (ninS ne_r0_b55 nin0)).ext E67)
  obtain ⟨T75, h75, X75, e75, W75, st75⟩ := putF X67 hx hZ hown (host := "") (Or.inl (hw _ (List.mem_of_getElem? (i := 34) rfl))) Via.refl e67 f74 f73 (Or.inr ⟨(hw _ (List.mem_of_getElem? (i := 35) rfl)), rfl, hnm⟩) (hw _ (List.mem_of_getElem? (i := 2) rfl)) (ty := (.array .int)) (by decide) rfl rfl (g := (mkF m 84 #[rv r0, iv (4 : Int32)] [(.ref b67), (.ref r0)])) rfl rfl (Jvm.hb hby d1_84)
  have Fw75 := Fld.same W75 f74
  have N75 := Fr.snoc X75 N66 g_r0
  have Z75 : n0 ≤ h75.size := W75.size ▸ Z67
  have K75 : Keep h0 h75 [r0] := Keep.wr K67 W75 (Or.inl (List.mem_of_getElem? (i := 0) rfl))
  refine own_go st75 ?_
  show Gm p e below T75 m 87 #[rv r0, iv (4 : Int32)] [] _
  refine own_go (fun t₀ k₀ => XS.aloadN X75.here hx rfl (Jvm.hb hby d1_87) rfl rfl k₀) ?_
  show Gm p e below T75 m 88 #[rv r0, iv (4 : Int32)] [(.ref r0)] _
  obtain ⟨T76, X76, e76, st76⟩ := getF X75 hx hZ hown (host := "") (Or.inl (hw _ (List.mem_of_getElem? (i := 34) rfl))) Via.refl e75 Fw75 (g := (mkF m 88 #[rv r0, iv (4 : Int32)] [(.ref r0)])) rfl rfl (Jvm.hb hby d1_88)
  refine own_go st76 ?_
  show Gm p e below T76 m 91 #[rv r0, iv (4 : Int32)] [(.ref b67)] _
  refine own_go (fun t₀ k₀ => XS.iconst X76.here hx rfl (Jvm.hb hby d1_91) k₀) ?_
  show Gm p e below T76 m 92 #[rv r0, iv (4 : Int32)] [(.int (-1 : Int32)), (.ref b67)] _
  have f77 := (V67.other W75 (Ne.symm ne_r0_b67))
  obtain ⟨_, _, ⟨T78, L78, k78, n78⟩, -, X78, ⟨Lc78, hQ78, l78, y78, z78⟩, st78⟩ := Jvm.LawKit.callS X76 hx (y := (⟨"java/util/Arrays", "fill", "([II)V"⟩ : MethodName)) hown (mvT hZ (hw _ (List.mem_of_getElem? (i := 36) rfl))) (mvT hZ (hw _ (List.mem_of_getElem? (i := 37) rfl))) (mvT hZ (hw _ (List.mem_of_getElem? (i := 29) rfl))) (mvT hZ (hw _ (List.mem_of_getElem? (i := 38) rfl))) (by decide) (backOf (W := 0) (rm4_4 l Z a0 hw [] b67 (-1 : Int32) (fun _ => defaultValue .int) h75 n0 Z75 f77 g_b67) hZ (hw _ (List.mem_of_getElem? (i := 38) rfl)) (hw _ (List.mem_of_getElem? (i := 29) rfl)) (by decide) (by decide)) (g := (mkF m 92 #[rv r0, iv (4 : Int32)] [(.int (-1 : Int32)), (.ref b67)])) rfl (by rw [hml]; rfl) (argsL := [(.ref b67), (.int (-1 : Int32))]) (rest := []) (lenOf own_pd1 rfl) rfl (by show 2 * 0 + _ ≤ _; exact Nat.le_of_eq rfl) (Jvm.hb hby d1_92) (fun _ _ => ⟨rfl, e76, (by decide : 9 + 0 ≤ _), (by decide : 36 + 0 ≤ _)⟩)
  dsimp only [Pt.U, Pt.locs, Pt.cells, Pt.slots] at X78 l78 y78 z78 st78 hQ78
  subst l78 y78 z78
  obtain ⟨rfl, Nq78, Kc78, Ac78⟩ := hQ78
  have N78 := Fr.app N75 Nq78
  refine own_go st78 ?_
  have Z78 : n0 ≤ T78.heap.size := Nat.le_trans Z75 Kc78.1
  have K78 : Keep h0 T78.heap [r0] := Keep.trans K75 Kc78 (allS (Or.inr sz_b67) all0)
  show Gm p e below T78 m 95 #[rv r0, iv (4 : Int32)] [] _
  refine own_go (fun t₀ k₀ => XS.aloadN X78.here hx rfl (Jvm.hb hby d1_95) rfl rfl k₀) ?_
  show Gm p e below T78 m 96 #[rv r0, iv (4 : Int32)] [(.ref r0)] _
  refine own_go (fun t₀ k₀ => XS.iloadN X78.here hx rfl (Jvm.hb hby d1_96) rfl k₀) ?_
  show Gm p e below T78 m 97 #[rv r0, iv (4 : Int32)] [(.int (4 : Int32)), (.ref r0)] _
  obtain ⟨T79, h79, k79, X79, e79, E79, A79, st79⟩ := newP X78 hx hZ (hw _ (List.mem_of_getElem? (i := 10) rfl)) rfl (g := (mkF m 97 #[rv r0, iv (4 : Int32)] [(.int (4 : Int32)), (.ref r0)])) rfl (Jvm.hb hby d1_97) rfl (by decide) (cap := 4) (by decide) (by decide) (by decide) (by decide)
  obtain ⟨b79, g79⟩ : ∃ z, z = T78.heap.size := ⟨_, rfl⟩
  rw [← g79] at A79 st79
  have g_b79 : n0 ≤ b79 := Nat.le_trans Z78 (Nat.le_of_eq g79.symm)
  have f80 := ((f73.wr W75).keep Kc78)
  have ne_r0_b79 : r0 ≠ b79 := Nat.ne_of_lt (Nat.lt_of_lt_of_le f80.lt (Nat.le_of_eq g79.symm))
  have f81 := (((f69.ext E67).other W75 (Ne.symm ne_r0_b2)).keep Kc78 (ninS ne_b2_b67 nin0))
  have ne_b2_b79 : b2 ≠ b79 := Nat.ne_of_lt (Nat.lt_of_lt_of_le f81.lt (Nat.le_of_eq g79.symm))
  have f82 := (((f70.ext E67).other W75 (Ne.symm ne_r0_b6)).keep Kc78 (ninS ne_b6_b67 nin0))
  have ne_b6_b79 : b6 ≠ b79 := Nat.ne_of_lt (Nat.lt_of_lt_of_le f82.lt (Nat.le_of_eq g79.symm))
  have f83 := (((f71.ext E67).other W75 (Ne.symm ne_r0_b12)).keep Kc78 (ninS ne_b12_b67 nin0))
  have ne_b12_b79 : b12 ≠ b79 := Nat.ne_of_lt (Nat.lt_of_lt_of_le f83.lt (Nat.le_of_eq g79.symm))
  have f84 := (((f72.ext E67).other W75 (Ne.symm ne_r0_b35)).keep Kc78 (ninS ne_b35_b67 nin0))
  have ne_b35_b79 : b35 ≠ b79 := Nat.ne_of_lt (Nat.lt_of_lt_of_le f84.lt (Nat.le_of_eq g79.symm))
  have ne_b67_b79 : b67 ≠ b79 := Nat.ne_of_lt (Nat.lt_of_lt_of_le Ac78.lt (Nat.le_of_eq g79.symm))
  have sz_b79 : h0.size ≤ b79 := Nat.le_trans K78.1 (Nat.le_of_eq g79.symm)
  have K79 : Keep h0 h79 [r0] := Keep.ext K78 E79
  have Z79 : n0 ≤ h79.size := Nat.le_trans Z78 E79.1
  have V79 : Af Z h79 b79 .int 4 (fun _ => defaultValue .int) := Af.new A79 (by decide) rfl rfl
  refine own_go st79 ?_
  show Gm p e below T79 m 99 #[rv r0, iv (4 : Int32)] [(.ref b79), (.ref r0)] _
  have f85 := (f80.ext E79)
  have f86 := (((Fld.other W75 (((Fld.other W63 (((Fld.other W51 ((Fld.other W42 ((Fld.other W34 ((Fld.other W26 ((Fld.other W18 ((Fld.other W11 ((Fld.other W5 (F_exit.ext E2) (Or.inr (slot_ne (Or.inr (hw _ (List.mem_of_getElem? (i := 40) rfl))) (Or.inr (hw _ (List.mem_of_getElem? (i := 12) rfl))) (by decide) (t := (.array .int)) (t' := (.array .int)) (by decide) (by decide)))).ext E6) (Or.inr (slot_ne (Or.inr (hw _ (List.mem_of_getElem? (i := 40) rfl))) (Or.inr (hw _ (List.mem_of_getElem? (i := 14) rfl))) (by decide) (t := (.array .int)) (t' := (.array .int)) (by decide) (by decide)))).ext E12) (Or.inr (slot_ne (Or.inr (hw _ (List.mem_of_getElem? (i := 40) rfl))) (Or.inr (hw _ (List.mem_of_getElem? (i := 16) rfl))) (by decide) (t := (.array .int)) (t' := (.array .int)) (by decide) (by decide)))).ext E19) (Or.inr (slot_ne (Or.inr (hw _ (List.mem_of_getElem? (i := 40) rfl))) (Or.inr (hw _ (List.mem_of_getElem? (i := 19) rfl))) (by decide) (t := (.array .int)) (t' := (.array .double)) (by decide) (by decide)))).ext E27) (Or.inr (slot_ne (Or.inr (hw _ (List.mem_of_getElem? (i := 40) rfl))) (Or.inr (hw _ (List.mem_of_getElem? (i := 21) rfl))) (by decide) (t := (.array .int)) (t' := (.array .double)) (by decide) (by decide)))).ext E35) (Or.inr (slot_ne (Or.inr (hw _ (List.mem_of_getElem? (i := 40) rfl))) (Or.inr (hw _ (List.mem_of_getElem? (i := 23) rfl))) (by decide) (t := (.array .int)) (t' := (.array .int)) (by decide) (by decide)))).ext E43) (Or.inr (slot_ne (Or.inr (hw _ (List.mem_of_getElem? (i := 40) rfl))) (Or.inr (hw _ (List.mem_of_getElem? (i := 25) rfl))) (by decide) (t := (.array .int)) (t' := (.array .double)) (by decide) (by decide)))).keep Kc54 (ninS ne_r0_b43 nin0)).ext E55) (Or.inr (slot_ne (Or.inr (hw _ (List.mem_of_getElem? (i := 40) rfl))) (Or.inr (hw _ (List.mem_of_getElem? (i := 32) rfl))) (by decide) (t := (.array .int)) (t' := (.array .double)) (by decide) (by decide)))).keep Kc66 (ninS ne_r0_b55 nin0)).ext E67) (Or.inr (slot_ne (Or.inr (hw _ (List.mem_of_getElem? (i := 40) rfl))) (Or.inr (hw _ (List.mem_of_getElem? (i := 35) rfl))) (by decide) (t := (.array .int)) (t' := (.array .int)) (by decide) (by decide)))).keep Kc78 (ninS ne_r0_b67 nin0)).ext E79)
  obtain ⟨T87, h87, X87, e87, W87, st87⟩ := putF X79 hx hZ hown (host := "") (Or.inl (hw _ (List.mem_of_getElem? (i := 39) rfl))) Via.refl e79 f86 f85 (Or.inr ⟨(hw _ (List.mem_of_getElem? (i := 40) rfl)), rfl, hnm⟩) (hw _ (List.mem_of_getElem? (i := 2) rfl)) (ty := (.array .int)) (by decide) rfl rfl (g := (mkF m 99 #[rv r0, iv (4 : Int32)] [(.ref b79), (.ref r0)])) rfl rfl (Jvm.hb hby d1_99)
  have Fw87 := Fld.same W87 f86
  have N87 := Fr.snoc X87 N78 g_r0
  have Z87 : n0 ≤ h87.size := W87.size ▸ Z79
  have K87 : Keep h0 h87 [r0] := Keep.wr K79 W87 (Or.inl (List.mem_of_getElem? (i := 0) rfl))
  refine own_go st87 ?_
  show Gm p e below T87 m 102 #[rv r0, iv (4 : Int32)] [] _
  refine own_go (fun t₀ k₀ => XS.aloadN X87.here hx rfl (Jvm.hb hby d1_102) rfl rfl k₀) ?_
  show Gm p e below T87 m 103 #[rv r0, iv (4 : Int32)] [(.ref r0)] _
  obtain ⟨T88, X88, e88, st88⟩ := getF X87 hx hZ hown (host := "") (Or.inl (hw _ (List.mem_of_getElem? (i := 39) rfl))) Via.refl e87 Fw87 (g := (mkF m 103 #[rv r0, iv (4 : Int32)] [(.ref r0)])) rfl rfl (Jvm.hb hby d1_103)
  refine own_go st88 ?_
  show Gm p e below T88 m 106 #[rv r0, iv (4 : Int32)] [(.ref b79)] _
  refine own_go (fun t₀ k₀ => XS.iconst X88.here hx rfl (Jvm.hb hby d1_106) k₀) ?_
  show Gm p e below T88 m 107 #[rv r0, iv (4 : Int32)] [(.int (-1 : Int32)), (.ref b79)] _
  have f89 := (V79.other W87 (Ne.symm ne_r0_b79))
  obtain ⟨_, _, ⟨T90, L90, k90, n90⟩, -, X90, ⟨Lc90, hQ90, l90, y90, z90⟩, st90⟩ := Jvm.LawKit.callS X88 hx (y := (⟨"java/util/Arrays", "fill", "([II)V"⟩ : MethodName)) hown (mvT hZ (hw _ (List.mem_of_getElem? (i := 36) rfl))) (mvT hZ (hw _ (List.mem_of_getElem? (i := 37) rfl))) (mvT hZ (hw _ (List.mem_of_getElem? (i := 29) rfl))) (mvT hZ (hw _ (List.mem_of_getElem? (i := 38) rfl))) (by decide) (backOf (W := 0) (rm4_4 l Z a0 hw [] b79 (-1 : Int32) (fun _ => defaultValue .int) h87 n0 Z87 f89 g_b79) hZ (hw _ (List.mem_of_getElem? (i := 38) rfl)) (hw _ (List.mem_of_getElem? (i := 29) rfl)) (by decide) (by decide)) (g := (mkF m 107 #[rv r0, iv (4 : Int32)] [(.int (-1 : Int32)), (.ref b79)])) rfl (by rw [hml]; rfl) (argsL := [(.ref b79), (.int (-1 : Int32))]) (rest := []) (lenOf own_pd1 rfl) rfl (by show 2 * 0 + _ ≤ _; exact Nat.le_of_eq rfl) (Jvm.hb hby d1_107) (fun _ _ => ⟨rfl, e88, (by decide : 10 + 0 ≤ _), (by decide : 40 + 0 ≤ _)⟩)
  dsimp only [Pt.U, Pt.locs, Pt.cells, Pt.slots] at X90 l90 y90 z90 st90 hQ90
  subst l90 y90 z90
  obtain ⟨rfl, Nq90, Kc90, Ac90⟩ := hQ90
  have N90 := Fr.app N87 Nq90
  refine own_go st90 ?_
  have Z90 : n0 ≤ T90.heap.size := Nat.le_trans Z87 Kc90.1
  have K90 : Keep h0 T90.heap [r0] := Keep.trans K87 Kc90 (allS (Or.inr sz_b79) all0)
  show Gm p e below T90 m 110 #[rv r0, iv (4 : Int32)] [] _
  refine own_go (fun t₀ k₀ => XS.aloadN X90.here hx rfl (Jvm.hb hby d1_110) rfl rfl k₀) ?_
  show Gm p e below T90 m 111 #[rv r0, iv (4 : Int32)] [(.ref r0)] _
  refine own_go (fun t₀ k₀ => XS.iloadN X90.here hx rfl (Jvm.hb hby d1_111) rfl k₀) ?_
  show Gm p e below T90 m 112 #[rv r0, iv (4 : Int32)] [(.int (4 : Int32)), (.ref r0)] _
  obtain ⟨T91, h91, k91, X91, e91, E91, A91, st91⟩ := newP X90 hx hZ (hw _ (List.mem_of_getElem? (i := 17) rfl)) rfl (g := (mkF m 112 #[rv r0, iv (4 : Int32)] [(.int (4 : Int32)), (.ref r0)])) rfl (Jvm.hb hby d1_112) rfl (by decide) (cap := 4) (by decide) (by decide) (by decide) (by decide)
  obtain ⟨b91, g91⟩ : ∃ z, z = T90.heap.size := ⟨_, rfl⟩
  rw [← g91] at A91 st91
  have g_b91 : n0 ≤ b91 := Nat.le_trans Z90 (Nat.le_of_eq g91.symm)
  have f92 := ((f85.wr W87).keep Kc90)
  have ne_r0_b91 : r0 ≠ b91 := Nat.ne_of_lt (Nat.lt_of_lt_of_le f92.lt (Nat.le_of_eq g91.symm))
  have f93 := (((f81.ext E79).other W87 (Ne.symm ne_r0_b2)).keep Kc90 (ninS ne_b2_b79 nin0))
  have ne_b2_b91 : b2 ≠ b91 := Nat.ne_of_lt (Nat.lt_of_lt_of_le f93.lt (Nat.le_of_eq g91.symm))
  have f94 := (((f82.ext E79).other W87 (Ne.symm ne_r0_b6)).keep Kc90 (ninS ne_b6_b79 nin0))
  have ne_b6_b91 : b6 ≠ b91 := Nat.ne_of_lt (Nat.lt_of_lt_of_le f94.lt (Nat.le_of_eq g91.symm))
  have f95 := (((f83.ext E79).other W87 (Ne.symm ne_r0_b12)).keep Kc90 (ninS ne_b12_b79 nin0))
  have ne_b12_b91 : b12 ≠ b91 := Nat.ne_of_lt (Nat.lt_of_lt_of_le f95.lt (Nat.le_of_eq g91.symm))
  have f96 := (((f84.ext E79).other W87 (Ne.symm ne_r0_b35)).keep Kc90 (ninS ne_b35_b79 nin0))
  have ne_b35_b91 : b35 ≠ b91 := Nat.ne_of_lt (Nat.lt_of_lt_of_le f96.lt (Nat.le_of_eq g91.symm))
  have f97 := (((Ac78.ext E79).other W87 (Ne.symm ne_r0_b67)).keep Kc90 (ninS ne_b67_b79 nin0))
  have ne_b67_b91 : b67 ≠ b91 := Nat.ne_of_lt (Nat.lt_of_lt_of_le f97.lt (Nat.le_of_eq g91.symm))
  have ne_b79_b91 : b79 ≠ b91 := Nat.ne_of_lt (Nat.lt_of_lt_of_le Ac90.lt (Nat.le_of_eq g91.symm))
  have sz_b91 : h0.size ≤ b91 := Nat.le_trans K90.1 (Nat.le_of_eq g91.symm)
  have K91 : Keep h0 h91 [r0] := Keep.ext K90 E91
  have Z91 : n0 ≤ h91.size := Nat.le_trans Z90 E91.1
  have V91 : Af Z h91 b91 .double 4 (fun _ => defaultValue .double) := Af.new A91 (by decide) rfl rfl
  refine own_go st91 ?_
  show Gm p e below T91 m 114 #[rv r0, iv (4 : Int32)] [(.ref b91), (.ref r0)] _
  have f98 := (f92.ext E91)
  have f99 := (((Fld.other W87 (((Fld.other W75 (((Fld.other W63 (((Fld.other W51 ((Fld.other W42 ((Fld.other W34 ((Fld.other W26 ((Fld.other W18 ((Fld.other W11 ((Fld.other W5 (F_distanceM.ext E2) (Or.inr (slot_ne (Or.inr (hw _ (List.mem_of_getElem? (i := 42) rfl))) (Or.inr (hw _ (List.mem_of_getElem? (i := 12) rfl))) (by decide) (t := (.array .double)) (t' := (.array .int)) (by decide) (by decide)))).ext E6) (Or.inr (slot_ne (Or.inr (hw _ (List.mem_of_getElem? (i := 42) rfl))) (Or.inr (hw _ (List.mem_of_getElem? (i := 14) rfl))) (by decide) (t := (.array .double)) (t' := (.array .int)) (by decide) (by decide)))).ext E12) (Or.inr (slot_ne (Or.inr (hw _ (List.mem_of_getElem? (i := 42) rfl))) (Or.inr (hw _ (List.mem_of_getElem? (i := 16) rfl))) (by decide) (t := (.array .double)) (t' := (.array .int)) (by decide) (by decide)))).ext E19) (Or.inr (slot_ne (Or.inr (hw _ (List.mem_of_getElem? (i := 42) rfl))) (Or.inr (hw _ (List.mem_of_getElem? (i := 19) rfl))) (by decide) (t := (.array .double)) (t' := (.array .double)) (by decide) (by decide)))).ext E27) (Or.inr (slot_ne (Or.inr (hw _ (List.mem_of_getElem? (i := 42) rfl))) (Or.inr (hw _ (List.mem_of_getElem? (i := 21) rfl))) (by decide) (t := (.array .double)) (t' := (.array .double)) (by decide) (by decide)))).ext E35) (Or.inr (slot_ne (Or.inr (hw _ (List.mem_of_getElem? (i := 42) rfl))) (Or.inr (hw _ (List.mem_of_getElem? (i := 23) rfl))) (by decide) (t := (.array .double)) (t' := (.array .int)) (by decide) (by decide)))).ext E43) (Or.inr (slot_ne (Or.inr (hw _ (List.mem_of_getElem? (i := 42) rfl))) (Or.inr (hw _ (List.mem_of_getElem? (i := 25) rfl))) (by decide) (t := (.array .double)) (t' := (.array .double)) (by decide) (by decide)))).keep Kc54 (ninS ne_r0_b43 nin0)).ext E55) (Or.inr (slot_ne (Or.inr (hw _ (List.mem_of_getElem? (i := 42) rfl))) (Or.inr (hw _ (List.mem_of_getElem? (i := 32) rfl))) (by decide) (t := (.array .double)) (t' := (.array .double)) (by decide) (by decide)))).keep Kc66 (ninS ne_r0_b55 nin0)).ext E67) (Or.inr (slot_ne (Or.inr (hw _ (List.mem_of_getElem? (i := 42) rfl))) (Or.inr (hw _ (List.mem_of_getElem? (i := 35) rfl))) (by decide) (t := (.array .double)) (t' := (.array .int)) (by decide) (by decide)))).keep Kc78 (ninS ne_r0_b67 nin0)).ext E79) (Or.inr (slot_ne (Or.inr (hw _ (List.mem_of_getElem? (i := 42) rfl))) (Or.inr (hw _ (List.mem_of_getElem? (i := 40) rfl))) (by decide) (t := (.array .double)) (t' := (.array .int)) (by decide) (by decide)))).keep Kc90 (ninS ne_r0_b79 nin0)).ext E91)
  obtain ⟨T100, h100, X100, e100, W100, st100⟩ := putF X91 hx hZ hown (host := "") (Or.inl (hw _ (List.mem_of_getElem? (i := 41) rfl))) Via.refl e91 f99 f98 (Or.inr ⟨(hw _ (List.mem_of_getElem? (i := 42) rfl)), rfl, hnm⟩) (hw _ (List.mem_of_getElem? (i := 2) rfl)) (ty := (.array .double)) (by decide) rfl rfl (g := (mkF m 114 #[rv r0, iv (4 : Int32)] [(.ref b91), (.ref r0)])) rfl rfl (Jvm.hb hby d1_114)
  have Fw100 := Fld.same W100 f99
  have N100 := Fr.snoc X100 N90 g_r0
  have Z100 : n0 ≤ h100.size := W100.size ▸ Z91
  have K100 : Keep h0 h100 [r0] := Keep.wr K91 W100 (Or.inl (List.mem_of_getElem? (i := 0) rfl))
  refine own_go st100 ?_
  show Gm p e below T100 m 117 #[rv r0, iv (4 : Int32)] [] _
  have f101 := (f98.wr W100)
  have f102 := (Fld.other W100 (((Fld.other W87 (((Fld.other W75 (((Fld.other W63 (((Fld.other W51 ((Fld.other W42 ((Fld.other W34 ((Fld.other W26 ((Fld.other W18 ((Fld.other W11 (Fw5.ext E6) (Or.inr (slot_ne (Or.inr (hw _ (List.mem_of_getElem? (i := 12) rfl))) (Or.inr (hw _ (List.mem_of_getElem? (i := 14) rfl))) (by decide) (t := (.array .int)) (t' := (.array .int)) (by decide) (by decide)))).ext E12) (Or.inr (slot_ne (Or.inr (hw _ (List.mem_of_getElem? (i := 12) rfl))) (Or.inr (hw _ (List.mem_of_getElem? (i := 16) rfl))) (by decide) (t := (.array .int)) (t' := (.array .int)) (by decide) (by decide)))).ext E19) (Or.inr (slot_ne (Or.inr (hw _ (List.mem_of_getElem? (i := 12) rfl))) (Or.inr (hw _ (List.mem_of_getElem? (i := 19) rfl))) (by decide) (t := (.array .int)) (t' := (.array .double)) (by decide) (by decide)))).ext E27) (Or.inr (slot_ne (Or.inr (hw _ (List.mem_of_getElem? (i := 12) rfl))) (Or.inr (hw _ (List.mem_of_getElem? (i := 21) rfl))) (by decide) (t := (.array .int)) (t' := (.array .double)) (by decide) (by decide)))).ext E35) (Or.inr (slot_ne (Or.inr (hw _ (List.mem_of_getElem? (i := 12) rfl))) (Or.inr (hw _ (List.mem_of_getElem? (i := 23) rfl))) (by decide) (t := (.array .int)) (t' := (.array .int)) (by decide) (by decide)))).ext E43) (Or.inr (slot_ne (Or.inr (hw _ (List.mem_of_getElem? (i := 12) rfl))) (Or.inr (hw _ (List.mem_of_getElem? (i := 25) rfl))) (by decide) (t := (.array .int)) (t' := (.array .double)) (by decide) (by decide)))).keep Kc54 (ninS ne_r0_b43 nin0)).ext E55) (Or.inr (slot_ne (Or.inr (hw _ (List.mem_of_getElem? (i := 12) rfl))) (Or.inr (hw _ (List.mem_of_getElem? (i := 32) rfl))) (by decide) (t := (.array .int)) (t' := (.array .double)) (by decide) (by decide)))).keep Kc66 (ninS ne_r0_b55 nin0)).ext E67) (Or.inr (slot_ne (Or.inr (hw _ (List.mem_of_getElem? (i := 12) rfl))) (Or.inr (hw _ (List.mem_of_getElem? (i := 35) rfl))) (by decide) (t := (.array .int)) (t' := (.array .int)) (by decide) (by decide)))).keep Kc78 (ninS ne_r0_b67 nin0)).ext E79) (Or.inr (slot_ne (Or.inr (hw _ (List.mem_of_getElem? (i := 12) rfl))) (Or.inr (hw _ (List.mem_of_getElem? (i := 40) rfl))) (by decide) (t := (.array .int)) (t' := (.array .int)) (by decide) (by decide)))).keep Kc90 (ninS ne_r0_b79 nin0)).ext E91) (Or.inr (slot_ne (Or.inr (hw _ (List.mem_of_getElem? (i := 12) rfl))) (Or.inr (hw _ (List.mem_of_getElem? (i := 42) rfl))) (by decide) (t := (.array .int)) (t' := (.array .double)) (by decide) (by decide))))
  have f103 := ((f93.ext E91).other W100 (Ne.symm ne_r0_b2))
  have f104 := (Fld.other W100 (((Fld.other W87 (((Fld.other W75 (((Fld.other W63 (((Fld.other W51 ((Fld.other W42 ((Fld.other W34 ((Fld.other W26 ((Fld.other W18 (Fw11.ext E12) (Or.inr (slot_ne (Or.inr (hw _ (List.mem_of_getElem? (i := 14) rfl))) (Or.inr (hw _ (List.mem_of_getElem? (i := 16) rfl))) (by decide) (t := (.array .int)) (t' := (.array .int)) (by decide) (by decide)))).ext E19) (Or.inr (slot_ne (Or.inr (hw _ (List.mem_of_getElem? (i := 14) rfl))) (Or.inr (hw _ (List.mem_of_getElem? (i := 19) rfl))) (by decide) (t := (.array .int)) (t' := (.array .double)) (by decide) (by decide)))).ext E27) (Or.inr (slot_ne (Or.inr (hw _ (List.mem_of_getElem? (i := 14) rfl))) (Or.inr (hw _ (List.mem_of_getElem? (i := 21) rfl))) (by decide) (t := (.array .int)) (t' := (.array .double)) (by decide) (by decide)))).ext E35) (Or.inr (slot_ne (Or.inr (hw _ (List.mem_of_getElem? (i := 14) rfl))) (Or.inr (hw _ (List.mem_of_getElem? (i := 23) rfl))) (by decide) (t := (.array .int)) (t' := (.array .int)) (by decide) (by decide)))).ext E43) (Or.inr (slot_ne (Or.inr (hw _ (List.mem_of_getElem? (i := 14) rfl))) (Or.inr (hw _ (List.mem_of_getElem? (i := 25) rfl))) (by decide) (t := (.array .int)) (t' := (.array .double)) (by decide) (by decide)))).keep Kc54 (ninS ne_r0_b43 nin0)).ext E55) (Or.inr (slot_ne (Or.inr (hw _ (List.mem_of_getElem? (i := 14) rfl))) (Or.inr (hw _ (List.mem_of_getElem? (i := 32) rfl))) (by decide) (t := (.array .int)) (t' := (.array .double)) (by decide) (by decide)))).keep Kc66 (ninS ne_r0_b55 nin0)).ext E67) (Or.inr (slot_ne (Or.inr (hw _ (List.mem_of_getElem? (i := 14) rfl))) (Or.inr (hw _ (List.mem_of_getElem? (i := 35) rfl))) (by decide) (t := (.array .int)) (t' := (.array .int)) (by decide) (by decide)))).keep Kc78 (ninS ne_r0_b67 nin0)).ext E79) (Or.inr (slot_ne (Or.inr (hw _ (List.mem_of_getElem? (i := 14) rfl))) (Or.inr (hw _ (List.mem_of_getElem? (i := 40) rfl))) (by decide) (t := (.array .int)) (t' := (.array .int)) (by decide) (by decide)))).keep Kc90 (ninS ne_r0_b79 nin0)).ext E91) (Or.inr (slot_ne (Or.inr (hw _ (List.mem_of_getElem? (i := 14) rfl))) (Or.inr (hw _ (List.mem_of_getElem? (i := 42) rfl))) (by decide) (t := (.array .int)) (t' := (.array .double)) (by decide) (by decide))))
  have f105 := ((f94.ext E91).other W100 (Ne.symm ne_r0_b6))
  have f106 := (Fld.other W100 (((Fld.other W87 (((Fld.other W75 (((Fld.other W63 (((Fld.other W51 ((Fld.other W42 ((Fld.other W34 ((Fld.other W26 (Fw18.ext E19) (Or.inr (slot_ne (Or.inr (hw _ (List.mem_of_getElem? (i := 16) rfl))) (Or.inr (hw _ (List.mem_of_getElem? (i := 19) rfl))) (by decide) (t := (.array .int)) (t' := (.array .double)) (by decide) (by decide)))).ext E27) (Or.inr (slot_ne (Or.inr (hw _ (List.mem_of_getElem? (i := 16) rfl))) (Or.inr (hw _ (List.mem_of_getElem? (i := 21) rfl))) (by decide) (t := (.array .int)) (t' := (.array .double)) (by decide) (by decide)))).ext E35) (Or.inr (slot_ne (Or.inr (hw _ (List.mem_of_getElem? (i := 16) rfl))) (Or.inr (hw _ (List.mem_of_getElem? (i := 23) rfl))) (by decide) (t := (.array .int)) (t' := (.array .int)) (by decide) (by decide)))).ext E43) (Or.inr (slot_ne (Or.inr (hw _ (List.mem_of_getElem? (i := 16) rfl))) (Or.inr (hw _ (List.mem_of_getElem? (i := 25) rfl))) (by decide) (t := (.array .int)) (t' := (.array .double)) (by decide) (by decide)))).keep Kc54 (ninS ne_r0_b43 nin0)).ext E55) (Or.inr (slot_ne (Or.inr (hw _ (List.mem_of_getElem? (i := 16) rfl))) (Or.inr (hw _ (List.mem_of_getElem? (i := 32) rfl))) (by decide) (t := (.array .int)) (t' := (.array .double)) (by decide) (by decide)))).keep Kc66 (ninS ne_r0_b55 nin0)).ext E67) (Or.inr (slot_ne (Or.inr (hw _ (List.mem_of_getElem? (i := 16) rfl))) (Or.inr (hw _ (List.mem_of_getElem? (i := 35) rfl))) (by decide) (t := (.array .int)) (t' := (.array .int)) (by decide) (by decide)))).keep Kc78 (ninS ne_r0_b67 nin0)).ext E79) (Or.inr (slot_ne (Or.inr (hw _ (List.mem_of_getElem? (i := 16) rfl))) (Or.inr (hw _ (List.mem_of_getElem? (i := 40) rfl))) (by decide) (t := (.array .int)) (t' := (.array .int)) (by decide) (by decide)))).keep Kc90 (ninS ne_r0_b79 nin0)).ext E91) (Or.inr (slot_ne (Or.inr (hw _ (List.mem_of_getElem? (i := 16) rfl))) (Or.inr (hw _ (List.mem_of_getElem? (i := 42) rfl))) (by decide) (t := (.array .int)) (t' := (.array .double)) (by decide) (by decide))))
  have f107 := ((f95.ext E91).other W100 (Ne.symm ne_r0_b12))
  have f108 := (Fld.other W100 (((Fld.other W87 (((Fld.other W75 (((Fld.other W63 (((Fld.other W51 (Fw42.ext E43) (Or.inr (slot_ne (Or.inr (hw _ (List.mem_of_getElem? (i := 23) rfl))) (Or.inr (hw _ (List.mem_of_getElem? (i := 25) rfl))) (by decide) (t := (.array .int)) (t' := (.array .double)) (by decide) (by decide)))).keep Kc54 (ninS ne_r0_b43 nin0)).ext E55) (Or.inr (slot_ne (Or.inr (hw _ (List.mem_of_getElem? (i := 23) rfl))) (Or.inr (hw _ (List.mem_of_getElem? (i := 32) rfl))) (by decide) (t := (.array .int)) (t' := (.array .double)) (by decide) (by decide)))).keep Kc66 (ninS ne_r0_b55 nin0)).ext E67) (Or.inr (slot_ne (Or.inr (hw _ (List.mem_of_getElem? (i := 23) rfl))) (Or.inr (hw _ (List.mem_of_getElem? (i := 35) rfl))) (by decide) (t := (.array .int)) (t' := (.array .int)) (by decide) (by decide)))).keep Kc78 (ninS ne_r0_b67 nin0)).ext E79) (Or.inr (slot_ne (Or.inr (hw _ (List.mem_of_getElem? (i := 23) rfl))) (Or.inr (hw _ (List.mem_of_getElem? (i := 40) rfl))) (by decide) (t := (.array .int)) (t' := (.array .int)) (by decide) (by decide)))).keep Kc90 (ninS ne_r0_b79 nin0)).ext E91) (Or.inr (slot_ne (Or.inr (hw _ (List.mem_of_getElem? (i := 23) rfl))) (Or.inr (hw _ (List.mem_of_getElem? (i := 42) rfl))) (by decide) (t := (.array .int)) (t' := (.array .double)) (by decide) (by decide))))
  have f109 := ((f96.ext E91).other W100 (Ne.symm ne_r0_b35))
  have f110 := (Fld.other W100 (((Fld.other W87 ((Fw75.keep Kc78 (ninS ne_r0_b67 nin0)).ext E79) (Or.inr (slot_ne (Or.inr (hw _ (List.mem_of_getElem? (i := 35) rfl))) (Or.inr (hw _ (List.mem_of_getElem? (i := 40) rfl))) (by decide) (t := (.array .int)) (t' := (.array .int)) (by decide) (by decide)))).keep Kc90 (ninS ne_r0_b79 nin0)).ext E91) (Or.inr (slot_ne (Or.inr (hw _ (List.mem_of_getElem? (i := 35) rfl))) (Or.inr (hw _ (List.mem_of_getElem? (i := 42) rfl))) (by decide) (t := (.array .int)) (t' := (.array .double)) (by decide) (by decide))))
  have f111 := ((f97.ext E91).other W100 (Ne.symm ne_r0_b67))
  have f112 := (Fld.other W100 ((Fw87.keep Kc90 (ninS ne_r0_b79 nin0)).ext E91) (Or.inr (slot_ne (Or.inr (hw _ (List.mem_of_getElem? (i := 40) rfl))) (Or.inr (hw _ (List.mem_of_getElem? (i := 42) rfl))) (by decide) (t := (.array .int)) (t' := (.array .double)) (by decide) (by decide))))
  have f113 := ((Ac90.ext E91).other W100 (Ne.symm ne_r0_b79))
  exact own_retV X100 hx hlk Bd.returns (Jvm.hb hby d1_117) e100 ⟨b2, b6, b12, b35, b67, b79, rfl, N100, K100, f101, sz_b2, f102, f103, sz_b6, f104, f105, sz_b12, f106, f107, sz_b35, f108, f109, sz_b67, f110, f111, sz_b79, f112, f113, ne_b2_b6, ne_b2_b12, ne_b6_b12, ne_b2_b35, ne_b6_b35, ne_b12_b35, ne_b2_b67, ne_b6_b67, ne_b12_b67, ne_b35_b67, ne_b2_b79, ne_b6_b79, ne_b12_b79, ne_b35_b79, ne_b67_b79⟩ (by decide) (by decide)
theorem d5_0 : decode prog_63_method_5_code 0 = .ok (.aload_n 0, 1) := by decide +kernel
theorem d5_1 : decode prog_63_method_5_code 1 = .ok (.getfield 7, 3) := by decide +kernel
theorem d5_4 : decode prog_63_method_5_code 4 = .ok (.iload_n 1, 1) := by decide +kernel
theorem d5_5 : decode prog_63_method_5_code 5 = .ok (.iload_n 2, 1) := by decide +kernel
theorem d5_6 : decode prog_63_method_5_code 6 = .ok (.iastore, 1) := by decide +kernel
theorem d5_7 : decode prog_63_method_5_code 7 = .ok (.aload_n 0, 1) := by decide +kernel
theorem d5_8 : decode prog_63_method_5_code 8 = .ok (.getfield 13, 3) := by decide +kernel
theorem d5_11 : decode prog_63_method_5_code 11 = .ok (.iload_n 1, 1) := by decide +kernel
theorem d5_12 : decode prog_63_method_5_code 12 = .ok (.iload_n 3, 1) := by decide +kernel
theorem d5_13 : decode prog_63_method_5_code 13 = .ok (.iastore, 1) := by decide +kernel
theorem d5_14 : decode prog_63_method_5_code 14 = .ok (.aload_n 0, 1) := by decide +kernel
theorem d5_15 : decode prog_63_method_5_code 15 = .ok (.getfield 16, 3) := by decide +kernel
theorem d5_18 : decode prog_63_method_5_code 18 = .ok (.iload_n 1, 1) := by decide +kernel
theorem d5_19 : decode prog_63_method_5_code 19 = .ok (.iload_n 3, 1) := by decide +kernel
theorem d5_20 : decode prog_63_method_5_code 20 = .ok (.iastore, 1) := by decide +kernel
theorem d5_21 : decode prog_63_method_5_code 21 = .ok (.return_, 1) := by decide +kernel
theorem own_pn_rm5 : plainName "com/example/throughfare/throughfare/simulation/Walkers" = true := by first | (simp [plainName, overriddenIn]; done) | decide +kernel
theorem own_ef_rm5 (m : MethodId) (r0 : Addr) (p1 : Int32) (p2 : Int32) (p3 : Int32) : entryFrame m #[(.ref r0), (.int p1), (.int p2), (.int p3)] 4 = mkF m 0 #[.val (.ref r0), .val (.int p1), .val (.int p2), .val (.int p3)] [] := by first | (simp [entryFrame, mkF, argsToLocals, Value.category]; done) | rfl
def Q5 (Z : State) (r0 : Addr) (p1 : Int32) (p2 : Int32) (p3 : Int32) (c_floor : Addr) (c_startCell : Addr) (c_cell : Addr) (n : Nat) (g_floor : Nat → Int32) (g_startCell : Nat → Int32) (g_cell : Nat → Int32) (h0 : Heap) (n0 : Nat) (v : Option Value) (h : Heap) (L : List Loc) : Prop := v = none ∧ Fr n0 L ∧ Keep h0 h [c_floor, c_startCell, c_cell] ∧ Af Z h c_floor .int n (fun i => .int (if i = p1.toNatClampNeg then p2 else g_floor i)) ∧ Af Z h c_startCell .int n (fun i => .int (if i = p1.toNatClampNeg then p3 else g_startCell i)) ∧ Af Z h c_cell .int n (fun i => .int (if i = p1.toNatClampNeg then p3 else g_cell i))
set_option maxRecDepth 65536 in
set_option maxHeartbeats 40000000 in
theorem rm5 (l : Launch) (Z : State) (a0 : Array Value) (hw : ∀ d ∈ tables_1, d.before a0 Z = true) (ws : List Jvm.Cond) (r0 : Addr) (p1 : Int32) (p2 : Int32) (p3 : Int32) (c_floor : Addr) (c_startCell : Addr) (c_cell : Addr) (n : Nat) (g_floor : Nat → Int32) (g_startCell : Nat → Int32) (g_cell : Nat → Int32) (h0 : Heap) (n0 : Nat) (Z0 : n0 ≤ h0.size) (F_floor : Fld Z h0 r0 "com/example/throughfare/throughfare/simulation/Walkers" "floor" "[I" (.ref c_floor)) (F_startCell : Fld Z h0 r0 "com/example/throughfare/throughfare/simulation/Walkers" "startCell" "[I" (.ref c_startCell)) (F_cell : Fld Z h0 r0 "com/example/throughfare/throughfare/simulation/Walkers" "cell" "[I" (.ref c_cell)) (A_floor : Af Z h0 c_floor .int n (fun i => .int (g_floor i))) (A_startCell : Af Z h0 c_startCell .int n (fun i => .int (g_startCell i))) (A_cell : Af Z h0 c_cell .int n (fun i => .int (g_cell i))) (ne_r_floor : r0 ≠ c_floor) (ne_r_startCell : r0 ≠ c_startCell) (ne_r_cell : r0 ≠ c_cell) (ne_floor_startCell : c_floor ≠ c_startCell) (ne_floor_cell : c_floor ≠ c_cell) (ne_startCell_cell : c_startCell ≠ c_cell) (g_c_floor : n0 ≤ c_floor) (g_c_startCell : n0 ≤ c_startCell) (g_c_cell : n0 ≤ c_cell) (hj : ¬ p1 < 0) (hk : p1.toNatClampNeg < n) :
    MetFree l (⟨"com/example/throughfare/throughfare/simulation/Walkers", "start", "(III)V"⟩ : MethodName) (head1 (Jvm.Cond.code (⟨"com/example/throughfare/throughfare/simulation/Walkers", "start", "(III)V"⟩ : MethodName) prog_63_method_5_code 4 none :: ws) ({ frames := 0, cells := 0, slots := 0, locals := 0 } : Room)) (fun a U => a = #[(.ref r0), (.int p1), (.int p2), (.int p3)] ∧ Z.Warmed39 U.vm ∧ U.heap = h0) (fun _ _ _ _ _ => True) (fun _ U o U' => ∃ v L, o = .returned v ∧ Q5 Z r0 p1 p2 p3 c_floor c_startCell c_cell n g_floor g_startCell g_cell h0 n0 v U'.heap L ∧ FrameEnd U o U' L ({ frames := 0, cells := 0, slots := 0, locals := 0 } : Room).cells ({ frames := 0, cells := 0, slots := 0, locals := 0 } : Room).slots) := by
  refine MetFree.of_bodySF (plainFor_of_name own_pn_rm5) hisR ?_
  intro p e s m args below meth cO s₁ Bd hml0 hP hK
  obtain ⟨rfl, hZ, hh⟩ := hP
  have hx := Bd.exec
  have hby := Bd.bytes
  have hml : cO.maxLocals = 4 := hml0
  have hown : s.vm.findClass "com/example/throughfare/throughfare/simulation/Walkers" = some m.cls := findClass_of_methodNamed Bd.named
  have hnm := (name_of_methodNamed Bd.named Bd.method).1
  have hlk : meth.locks = false := BodyLoose.notSynchronized Bd
  have X0 : Stand p l e ({ frames := 0, cells := 0, slots := 0, locals := 0 } : Room) s m #[(.ref r0), (.int p1), (.int p2), (.int p3)] below meth cO s₁ [] 0 0 := Stand.of_body Bd
  have e0 : s₁.heap = h0 := by rw [← hh, Bd.state]; rfl
  have N0 := Fr.nil n0
  refine own_in (own_ef_rm5 m r0 p1 p2 p3) ?_
  show Gm p e below s₁ m 0 #[rv r0, iv p1, iv p2, iv p3] [] _
  refine own_go (fun t₀ k₀ => XS.aloadN X0.here hx rfl (Jvm.hb hby d5_0) rfl rfl k₀) ?_
  show Gm p e below s₁ m 1 #[rv r0, iv p1, iv p2, iv p3] [(.ref r0)] _
  obtain ⟨T1, X1, e1, st1⟩ := getF X0 hx hZ hown (host := "") (Or.inl (hw _ (List.mem_of_getElem? (i := 11) rfl))) Via.refl e0 F_floor (g := (mkF m 1 #[rv r0, iv p1, iv p2, iv p3] [(.ref r0)])) rfl rfl (Jvm.hb hby d5_1)
  refine own_go st1 ?_
  show Gm p e below T1 m 4 #[rv r0, iv p1, iv p2, iv p3] [(.ref c_floor)] _
  refine own_go (fun t₀ k₀ => XS.iloadN X1.here hx rfl (Jvm.hb hby d5_4) rfl k₀) ?_
  show Gm p e below T1 m 5 #[rv r0, iv p1, iv p2, iv p3] [(.int p1), (.ref c_floor)] _
  refine own_go (fun t₀ k₀ => XS.iloadN X1.here hx rfl (Jvm.hb hby d5_5) rfl k₀) ?_
  show Gm p e below T1 m 6 #[rv r0, iv p1, iv p2, iv p3] [(.int p2), (.int p1), (.ref c_floor)] _
  obtain ⟨T2, h2, X2, e2, W2, A2, st2⟩ := own_stI X1 hx hZ e1 A_floor (j := p1) (k := p1.toNatClampNeg) hj rfl hk (g := (mkF m 6 #[rv r0, iv p1, iv p2, iv p3] [(.int p2), (.int p1), (.ref c_floor)])) rfl rfl (Jvm.hb hby d5_6)
  have N2 := Fr.snoc X2 N0 g_c_floor
  have Z2 : n0 ≤ h2.size := W2.size ▸ Z0
  have K2 : Keep h0 h2 [c_floor, c_startCell, c_cell] := Keep.wr (Keep.refl h0 [c_floor, c_startCell, c_cell]) W2 (Or.inl (List.mem_of_getElem? (i := 0) rfl))
  refine own_go st2 ?_
  show Gm p e below T2 m 7 #[rv r0, iv p1, iv p2, iv p3] [] _
  refine own_go (fun t₀ k₀ => XS.aloadN X2.here hx rfl (Jvm.hb hby d5_7) rfl rfl k₀) ?_
  show Gm p e below T2 m 8 #[rv r0, iv p1, iv p2, iv p3] [(.ref r0)] _
  have f3 := (Fld.other W2 F_startCell (Or.inl ne_r_floor))
  obtain ⟨T4, X4, e4, st4⟩ := getF X2 hx hZ hown (host := "") (Or.inl (hw _ (List.mem_of_getElem? (i := 13) rfl))) Via.refl e2 f3 (g := (mkF m 8 #[rv r0, iv p1, iv p2, iv p3] [(.ref r0)])) rfl rfl (Jvm.hb hby d5_8)
  refine own_go st4 ?_
  show Gm p e below T4 m 11 #[rv r0, iv p1, iv p2, iv p3] [(.ref c_startCell)] _
  refine own_go (fun t₀ k₀ => XS.iloadN X4.here hx rfl (Jvm.hb hby d5_11) rfl k₀) ?_
  show Gm p e below T4 m 12 #[rv r0, iv p1, iv p2, iv p3] [(.int p1), (.ref c_startCell)] _
  refine own_go (fun t₀ k₀ => XS.iloadN X4.here hx rfl (Jvm.hb hby d5_12) rfl k₀) ?_
  show Gm p e below T4 m 13 #[rv r0, iv p1, iv p2, iv p3] [(.int p3), (.int p1), (.ref c_startCell)] _
  have f5 := (A_startCell.other W2 (Ne.symm ne_floor_startCell))
  obtain ⟨T6, h6, X6, e6, W6, A6, st6⟩ := own_stI X4 hx hZ e4 f5 (j := p1) (k := p1.toNatClampNeg) hj rfl hk (g := (mkF m 13 #[rv r0, iv p1, iv p2, iv p3] [(.int p3), (.int p1), (.ref c_startCell)])) rfl rfl (Jvm.hb hby d5_13)
  have N6 := Fr.snoc X6 N2 g_c_startCell
  have Z6 : n0 ≤ h6.size := W6.size ▸ Z2
  have K6 : Keep h0 h6 [c_floor, c_startCell, c_cell] := Keep.wr K2 W6 (Or.inl (List.mem_of_getElem? (i := 1) rfl))
  refine own_go st6 ?_
  show Gm p e below T6 m 14 #[rv r0, iv p1, iv p2, iv p3] [] _
  refine own_go (fun t₀ k₀ => XS.aloadN X6.here hx rfl (Jvm.hb hby d5_14) rfl rfl k₀) ?_
  show Gm p e below T6 m 15 #[rv r0, iv p1, iv p2, iv p3] [(.ref r0)] _
  have f7 := (Fld.other W6 (Fld.other W2 F_cell (Or.inl ne_r_floor)) (Or.inl ne_r_startCell))
  obtain ⟨T8, X8, e8, st8⟩ := getF X6 hx hZ hown (host := "") (Or.inl (hw _ (List.mem_of_getElem? (i := 15) rfl))) Via.refl e6 f7 (g := (mkF m 15 #[rv r0, iv p1, iv p2, iv p3] [(.ref r0)])) rfl rfl (Jvm.hb hby d5_15)
  refine own_go st8 ?_
  show Gm p e below T8 m 18 #[rv r0, iv p1, iv p2, iv p3] [(.ref c_cell)] _
  refine own_go (fun t₀ k₀ => XS.iloadN X8.here hx rfl (Jvm.hb hby d5_18) rfl k₀) ?_
  show Gm p e below T8 m 19 #[rv r0, iv p1, iv p2, iv p3] [(.int p1), (.ref c_cell)] _
  refine own_go (fun t₀ k₀ => XS.iloadN X8.here hx rfl (Jvm.hb hby d5_19) rfl k₀) ?_
  show Gm p e below T8 m 20 #[rv r0, iv p1, iv p2, iv p3] [(.int p3), (.int p1), (.ref c_cell)] _
  have f9 := ((A_cell.other W2 (Ne.symm ne_floor_cell)).other W6 (Ne.symm ne_startCell_cell))
  obtain ⟨T10, h10, X10, e10, W10, A10, st10⟩ := own_stI X8 hx hZ e8 f9 (j := p1) (k := p1.toNatClampNeg) hj rfl hk (g := (mkF m 20 #[rv r0, iv p1, iv p2, iv p3] [(.int p3), (.int p1), (.ref c_cell)])) rfl rfl (Jvm.hb hby d5_20)
  have N10 := Fr.snoc X10 N6 g_c_cell
  have Z10 : n0 ≤ h10.size := W10.size ▸ Z6
  have K10 : Keep h0 h10 [c_floor, c_startCell, c_cell] := Keep.wr K6 W10 (Or.inl (List.mem_of_getElem? (i := 2) rfl))
  refine own_go st10 ?_
  show Gm p e below T10 m 21 #[rv r0, iv p1, iv p2, iv p3] [] _
  have f11 := ((A2.other W6 ne_floor_startCell).other W10 ne_floor_cell)
  have f12 := (A6.other W10 ne_startCell_cell)
  exact own_retV X10 hx hlk Bd.returns (Jvm.hb hby d5_21) e10 ⟨rfl, N10, K10, (Af.congr f11 (fun i hi => by split <;> rfl)), (Af.congr f12 (fun i hi => by split <;> rfl)), (Af.congr A10 (fun i hi => by split <;> rfl))⟩ (by decide) (by decide)
theorem d6_0 : decode method_3_code 0 = .ok (.iload_n 1, 1) := by decide +kernel
theorem d6_1 : decode method_3_code 1 = .ok (.iload_n 2, 1) := by decide +kernel
theorem d6_2 : decode method_3_code 2 = .ok (.if_icmp .lt 5, 3) := by decide +kernel
theorem d6_5 : decode method_3_code 5 = .ok (.iconst 1, 1) := by decide +kernel
theorem d6_6 : decode method_3_code 6 = .ok (.ireturn, 1) := by decide +kernel
theorem d6_7 : decode method_3_code 7 = .ok (.iconst 0, 1) := by decide +kernel
theorem d6_8 : decode method_3_code 8 = .ok (.istore 9, 2) := by decide +kernel
theorem d6_10 : decode method_3_code 10 = .ok (.iconst 0, 1) := by decide +kernel
theorem d6_11 : decode method_3_code 11 = .ok (.istore 10, 2) := by decide +kernel
theorem d6_13 : decode method_3_code 13 = .ok (.iload_n 1, 1) := by decide +kernel
theorem d6_14 : decode method_3_code 14 = .ok (.iload 6, 2) := by decide +kernel
theorem d6_16 : decode method_3_code 16 = .ok (.if_icmp .ne 14, 3) := by decide +kernel
theorem d6_19 : decode method_3_code 19 = .ok (.iload 7, 2) := by decide +kernel
theorem d6_21 : decode method_3_code 21 = .ok (.istore 9, 2) := by decide +kernel
theorem d6_23 : decode method_3_code 23 = .ok (.iload 8, 2) := by decide +kernel
theorem d6_25 : decode method_3_code 25 = .ok (.istore 10, 2) := by decide +kernel
theorem d6_27 : decode method_3_code 27 = .ok (.goto 16, 3) := by decide +kernel
theorem d6_30 : decode method_3_code 30 = .ok (.iload_n 1, 1) := by decide +kernel
theorem d6_31 : decode method_3_code 31 = .ok (.iload_n 3, 1) := by decide +kernel
theorem d6_32 : decode method_3_code 32 = .ok (.if_icmp .ne 11, 3) := by decide +kernel
theorem d6_35 : decode method_3_code 35 = .ok (.iload 4, 2) := by decide +kernel
theorem d6_37 : decode method_3_code 37 = .ok (.istore 9, 2) := by decide +kernel
theorem d6_39 : decode method_3_code 39 = .ok (.iload 5, 2) := by decide +kernel
theorem d6_41 : decode method_3_code 41 = .ok (.istore 10, 2) := by decide +kernel
theorem d6_43 : decode method_3_code 43 = .ok (.aload_n 0, 1) := by decide +kernel
theorem d6_44 : decode method_3_code 44 = .ok (.getfield 31, 3) := by decide +kernel
theorem d6_47 : decode method_3_code 47 = .ok (.iload_n 1, 1) := by decide +kernel
theorem d6_48 : decode method_3_code 48 = .ok (.iaload, 1) := by decide +kernel
theorem d6_49 : decode method_3_code 49 = .ok (.iload 9, 2) := by decide +kernel
theorem d6_51 : decode method_3_code 51 = .ok (.if_icmp .ne 58, 3) := by decide +kernel
theorem d6_54 : decode method_3_code 54 = .ok (.aload_n 0, 1) := by decide +kernel
theorem d6_55 : decode method_3_code 55 = .ok (.getfield 35, 3) := by decide +kernel
theorem d6_58 : decode method_3_code 58 = .ok (.iload_n 1, 1) := by decide +kernel
theorem d6_59 : decode method_3_code 59 = .ok (.iaload, 1) := by decide +kernel
theorem d6_60 : decode method_3_code 60 = .ok (.iload 10, 2) := by decide +kernel
theorem d6_62 : decode method_3_code 62 = .ok (.if_icmp .ne 47, 3) := by decide +kernel
theorem d6_65 : decode method_3_code 65 = .ok (.aload_n 0, 1) := by decide +kernel
theorem d6_66 : decode method_3_code 66 = .ok (.getfield 38, 3) := by decide +kernel
theorem d6_69 : decode method_3_code 69 = .ok (.iload_n 1, 1) := by decide +kernel
theorem d6_70 : decode method_3_code 70 = .ok (.iaload, 1) := by decide +kernel
theorem d6_71 : decode method_3_code 71 = .ok (.iload 10, 2) := by decide +kernel
theorem d6_73 : decode method_3_code 73 = .ok (.if_icmp .ne 36, 3) := by decide +kernel
theorem d6_76 : decode method_3_code 76 = .ok (.aload_n 0, 1) := by decide +kernel
theorem d6_77 : decode method_3_code 77 = .ok (.getfield 41, 3) := by decide +kernel
theorem d6_80 : decode method_3_code 80 = .ok (.iload_n 1, 1) := by decide +kernel
theorem d6_81 : decode method_3_code 81 = .ok (.iaload, 1) := by decide +kernel
theorem d6_82 : decode method_3_code 82 = .ok (.ifCond .ne 27, 3) := by decide +kernel
theorem d6_85 : decode method_3_code 85 = .ok (.aload_n 0, 1) := by decide +kernel
theorem d6_86 : decode method_3_code 86 = .ok (.getfield 44, 3) := by decide +kernel
theorem d6_89 : decode method_3_code 89 = .ok (.iload_n 1, 1) := by decide +kernel
theorem d6_90 : decode method_3_code 90 = .ok (.iaload, 1) := by decide +kernel
theorem d6_91 : decode method_3_code 91 = .ok (.iconst (-1), 1) := by decide +kernel
theorem d6_92 : decode method_3_code 92 = .ok (.if_icmp .ne 17, 3) := by decide +kernel
theorem d6_95 : decode method_3_code 95 = .ok (.aload_n 0, 1) := by decide +kernel
theorem d6_96 : decode method_3_code 96 = .ok (.getfield 47, 3) := by decide +kernel
theorem d6_99 : decode method_3_code 99 = .ok (.iload_n 1, 1) := by decide +kernel
theorem d6_100 : decode method_3_code 100 = .ok (.iaload, 1) := by decide +kernel
theorem d6_101 : decode method_3_code 101 = .ok (.iconst (-1), 1) := by decide +kernel
theorem d6_102 : decode method_3_code 102 = .ok (.if_icmp .ne 7, 3) := by decide +kernel
theorem d6_105 : decode method_3_code 105 = .ok (.iconst 1, 1) := by decide +kernel
theorem d6_106 : decode method_3_code 106 = .ok (.goto 4, 3) := by decide +kernel
theorem d6_110 : decode method_3_code 110 = .ok (.ireturn, 1) := by decide +kernel
theorem own_pn_rm6 : plainName "com/example/throughfare/throughfare/simulation/WalkersStartPinLaw" = true := by first | (simp [plainName, overriddenIn]; done) | decide +kernel
theorem own_ef_rm6 (m : MethodId) (r0 : Addr) (p1 : Int32) (p2 : Int32) (p3 : Int32) (p4 : Int32) (p5 : Int32) (p6 : Int32) (p7 : Int32) (p8 : Int32) : entryFrame m #[(.ref r0), (.int p1), (.int p2), (.int p3), (.int p4), (.int p5), (.int p6), (.int p7), (.int p8)] 11 = mkF m 0 #[.val (.ref r0), .val (.int p1), .val (.int p2), .val (.int p3), .val (.int p4), .val (.int p5), .val (.int p6), .val (.int p7), .val (.int p8), .unset, .unset] [] := by first | (simp [entryFrame, mkF, argsToLocals, Value.category]; done) | rfl
def Q6 (Z : State) (r0 : Addr) (p1 : Int32) (p2 : Int32) (p3 : Int32) (p4 : Int32) (p5 : Int32) (p6 : Int32) (p7 : Int32) (p8 : Int32) (c_floor : Addr) (c_startCell : Addr) (c_cell : Addr) (c_heading : Addr) (c_leaving : Addr) (c_exit : Addr) (n : Nat) (g_floor : Nat → Int32) (g_startCell : Nat → Int32) (g_cell : Nat → Int32) (g_heading : Nat → Int32) (g_leaving : Nat → Int32) (g_exit : Nat → Int32) (h0 : Heap) (n0 : Nat) (v : Option Value) (h : Heap) (L : List Loc) : Prop := v = some (.int 1) ∧ Fr n0 L ∧ h = h0
set_option maxRecDepth 65536 in
set_option maxHeartbeats 40000000 in
theorem rm6 (l : Launch) (Z : State) (a0 : Array Value) (hw : ∀ d ∈ tables_1, d.before a0 Z = true) (ws : List Jvm.Cond) (r0 : Addr) (p1 : Int32) (p2 : Int32) (p3 : Int32) (p4 : Int32) (p5 : Int32) (p6 : Int32) (p7 : Int32) (p8 : Int32) (c_floor : Addr) (c_startCell : Addr) (c_cell : Addr) (c_heading : Addr) (c_leaving : Addr) (c_exit : Addr) (n : Nat) (g_floor : Nat → Int32) (g_startCell : Nat → Int32) (g_cell : Nat → Int32) (g_heading : Nat → Int32) (g_leaving : Nat → Int32) (g_exit : Nat → Int32) (h0 : Heap) (n0 : Nat) (Z0 : n0 ≤ h0.size) (F_floor : Fld Z h0 r0 "com/example/throughfare/throughfare/simulation/Walkers" "floor" "[I" (.ref c_floor)) (F_startCell : Fld Z h0 r0 "com/example/throughfare/throughfare/simulation/Walkers" "startCell" "[I" (.ref c_startCell)) (F_cell : Fld Z h0 r0 "com/example/throughfare/throughfare/simulation/Walkers" "cell" "[I" (.ref c_cell)) (F_heading : Fld Z h0 r0 "com/example/throughfare/throughfare/simulation/Walkers" "heading" "[I" (.ref c_heading)) (F_leaving : Fld Z h0 r0 "com/example/throughfare/throughfare/simulation/Walkers" "leaving" "[I" (.ref c_leaving)) (F_exit : Fld Z h0 r0 "com/example/throughfare/throughfare/simulation/Walkers" "exit" "[I" (.ref c_exit)) (A_floor : Af Z h0 c_floor .int n (fun i => .int (g_floor i))) (A_startCell : Af Z h0 c_startCell .int n (fun i => .int (g_startCell i))) (A_cell : Af Z h0 c_cell .int n (fun i => .int (g_cell i))) (A_heading : Af Z h0 c_heading .int n (fun i => .int (g_heading i))) (A_leaving : Af Z h0 c_leaving .int n (fun i => .int (g_leaving i))) (A_exit : Af Z h0 c_exit .int n (fun i => .int (g_exit i))) (hj : ¬ p1 < 0) (hk : p1 < p2 → p1.toNatClampNeg < n) (h_floor : g_floor p1.toNatClampNeg = (if p1 = p6 then p7 else (if p1 = p3 then p4 else 0))) (h_startCell : g_startCell p1.toNatClampNeg = (if p1 = p6 then p8 else (if p1 = p3 then p5 else 0))) (h_cell : g_cell p1.toNatClampNeg = (if p1 = p6 then p8 else (if p1 = p3 then p5 else 0))) (h_heading : g_heading p1.toNatClampNeg = 0) (h_leaving : g_leaving p1.toNatClampNeg = -1) (h_exit : g_exit p1.toNatClampNeg = -1) :
    MetFree l (⟨"com/example/throughfare/throughfare/simulation/WalkersStartPinLaw", "slot", "(Lcom/example/throughfare/throughfare/simulation/Walkers;IIIIIIII)Z"⟩ : MethodName) (head1 (Jvm.Cond.code (⟨"com/example/throughfare/throughfare/simulation/WalkersStartPinLaw", "slot", "(Lcom/example/throughfare/throughfare/simulation/Walkers;IIIIIIII)Z"⟩ : MethodName) method_3_code 11 (some .boolean) :: ws) ({ frames := 0, cells := 0, slots := 0, locals := 0 } : Room)) (fun a U => a = #[(.ref r0), (.int p1), (.int p2), (.int p3), (.int p4), (.int p5), (.int p6), (.int p7), (.int p8)] ∧ Z.Warmed39 U.vm ∧ U.heap = h0) (fun _ _ _ _ _ => True) (fun _ U o U' => ∃ v L, o = .returned v ∧ Q6 Z r0 p1 p2 p3 p4 p5 p6 p7 p8 c_floor c_startCell c_cell c_heading c_leaving c_exit n g_floor g_startCell g_cell g_heading g_leaving g_exit h0 n0 v U'.heap L ∧ FrameEnd U o U' L ({ frames := 0, cells := 0, slots := 0, locals := 0 } : Room).cells ({ frames := 0, cells := 0, slots := 0, locals := 0 } : Room).slots) := by
  refine MetFree.of_bodySF (plainFor_of_name own_pn_rm6) hisR ?_
  intro p e s m args below meth cO s₁ Bd hml0 hP hK
  obtain ⟨rfl, hZ, hh⟩ := hP
  have hx := Bd.exec
  have hby := Bd.bytes
  have hml : cO.maxLocals = 11 := hml0
  have hown : s.vm.findClass "com/example/throughfare/throughfare/simulation/WalkersStartPinLaw" = some m.cls := findClass_of_methodNamed Bd.named
  have hnm := (name_of_methodNamed Bd.named Bd.method).1
  have hlk : meth.locks = false := BodyLoose.notSynchronized Bd
  have X0 : Stand p l e ({ frames := 0, cells := 0, slots := 0, locals := 0 } : Room) s m #[(.ref r0), (.int p1), (.int p2), (.int p3), (.int p4), (.int p5), (.int p6), (.int p7), (.int p8)] below meth cO s₁ [] 0 0 := Stand.of_body Bd
  have e0 : s₁.heap = h0 := by rw [← hh, Bd.state]; rfl
  have N0 := Fr.nil n0
  refine own_in (own_ef_rm6 m r0 p1 p2 p3 p4 p5 p6 p7 p8) ?_
  show Gm p e below s₁ m 0 #[rv r0, iv p1, iv p2, iv p3, iv p4, iv p5, iv p6, iv p7, iv p8, .unset, .unset] [] _
  refine own_go (fun t₀ k₀ => XS.iloadN X0.here hx rfl (Jvm.hb hby d6_0) rfl k₀) ?_
  show Gm p e below s₁ m 1 #[rv r0, iv p1, iv p2, iv p3, iv p4, iv p5, iv p6, iv p7, iv p8, .unset, .unset] [(.int p1)] _
  refine own_go (fun t₀ k₀ => XS.iloadN X0.here hx rfl (Jvm.hb hby d6_1) rfl k₀) ?_
  show Gm p e below s₁ m 2 #[rv r0, iv p1, iv p2, iv p3, iv p4, iv p5, iv p6, iv p7, iv p8, .unset, .unset] [(.int p2), (.int p1)] _
  by_cases c1 : p1 < p2
  · have hfork := trivial
    refine own_go (fun t₀ k₀ => XS.icmpYes X0.here hx rfl (pc0 := 2) (pc' := 7) rfl (Jvm.hb hby d6_2) rfl (XT.ii_lt_t c1) (by decide) (by decide) k₀) ?_
    show Gm p e below s₁ m 7 #[rv r0, iv p1, iv p2, iv p3, iv p4, iv p5, iv p6, iv p7, iv p8, .unset, .unset] [] _
    refine own_go (fun t₀ k₀ => XS.iconst X0.here hx rfl (Jvm.hb hby d6_7) k₀) ?_
    show Gm p e below s₁ m 8 #[rv r0, iv p1, iv p2, iv p3, iv p4, iv p5, iv p6, iv p7, iv p8, .unset, .unset] [(.int (0 : Int32))] _
    refine own_go (fun t₀ k₀ => XS.istore X0.here hx rfl (Jvm.hb hby d6_8) rfl (l' := #[rv r0, iv p1, iv p2, iv p3, iv p4, iv p5, iv p6, iv p7, iv p8, iv (0 : Int32), .unset]) rfl k₀) ?_
    show Gm p e below s₁ m 10 #[rv r0, iv p1, iv p2, iv p3, iv p4, iv p5, iv p6, iv p7, iv p8, iv (0 : Int32), .unset] [] _
    refine own_go (fun t₀ k₀ => XS.iconst X0.here hx rfl (Jvm.hb hby d6_10) k₀) ?_
    show Gm p e below s₁ m 11 #[rv r0, iv p1, iv p2, iv p3, iv p4, iv p5, iv p6, iv p7, iv p8, iv (0 : Int32), .unset] [(.int (0 : Int32))] _
    refine own_go (fun t₀ k₀ => XS.istore X0.here hx rfl (Jvm.hb hby d6_11) rfl (l' := #[rv r0, iv p1, iv p2, iv p3, iv p4, iv p5, iv p6, iv p7, iv p8, iv (0 : Int32), iv (0 : Int32)]) rfl k₀) ?_
    show Gm p e below s₁ m 13 #[rv r0, iv p1, iv p2, iv p3, iv p4, iv p5, iv p6, iv p7, iv p8, iv (0 : Int32), iv (0 : Int32)] [] _
    refine own_go (fun t₀ k₀ => XS.iloadN X0.here hx rfl (Jvm.hb hby d6_13) rfl k₀) ?_
    show Gm p e below s₁ m 14 #[rv r0, iv p1, iv p2, iv p3, iv p4, iv p5, iv p6, iv p7, iv p8, iv (0 : Int32), iv (0 : Int32)] [(.int p1)] _
    refine own_go (fun t₀ k₀ => XS.iload X0.here hx rfl (Jvm.hb hby d6_14) rfl k₀) ?_
    show Gm p e below s₁ m 16 #[rv r0, iv p1, iv p2, iv p3, iv p4, iv p5, iv p6, iv p7, iv p8, iv (0 : Int32), iv (0 : Int32)] [(.int p6), (.int p1)] _
    by_cases c2 : p1 = p6
    · have hfork := trivial
      refine own_go (fun t₀ k₀ => XS.icmpNo X0.here hx rfl (Jvm.hb hby d6_16) rfl (XT.ii_ne_f c2) k₀) ?_
      show Gm p e below s₁ m 19 #[rv r0, iv p1, iv p2, iv p3, iv p4, iv p5, iv p6, iv p7, iv p8, iv (0 : Int32), iv (0 : Int32)] [] _
      refine own_go (fun t₀ k₀ => XS.iload X0.here hx rfl (Jvm.hb hby d6_19) rfl k₀) ?_
      show Gm p e below s₁ m 21 #[rv r0, iv p1, iv p2, iv p3, iv p4, iv p5, iv p6, iv p7, iv p8, iv (0 : Int32), iv (0 : Int32)] [(.int p7)] _
      refine own_go (fun t₀ k₀ => XS.istore X0.here hx rfl (Jvm.hb hby d6_21) rfl (l' := #[rv r0, iv p1, iv p2, iv p3, iv p4, iv p5, iv p6, iv p7, iv p8, iv p7, iv (0 : Int32)]) rfl k₀) ?_
      show Gm p e below s₁ m 23 #[rv r0, iv p1, iv p2, iv p3, iv p4, iv p5, iv p6, iv p7, iv p8, iv p7, iv (0 : Int32)] [] _
      refine own_go (fun t₀ k₀ => XS.iload X0.here hx rfl (Jvm.hb hby d6_23) rfl k₀) ?_
      show Gm p e below s₁ m 25 #[rv r0, iv p1, iv p2, iv p3, iv p4, iv p5, iv p6, iv p7, iv p8, iv p7, iv (0 : Int32)] [(.int p8)] _
      refine own_go (fun t₀ k₀ => XS.istore X0.here hx rfl (Jvm.hb hby d6_25) rfl (l' := #[rv r0, iv p1, iv p2, iv p3, iv p4, iv p5, iv p6, iv p7, iv p8, iv p7, iv p8]) rfl k₀) ?_
      show Gm p e below s₁ m 27 #[rv r0, iv p1, iv p2, iv p3, iv p4, iv p5, iv p6, iv p7, iv p8, iv p7, iv p8] [] _
      refine own_go (fun t₀ k₀ => XS.goto X0.here hx rfl (pc0 := 27) (pc' := 43) rfl (Jvm.hb hby d6_27) (by decide) (by decide) k₀) ?_
      show Gm p e below s₁ m 43 #[rv r0, iv p1, iv p2, iv p3, iv p4, iv p5, iv p6, iv p7, iv p8, iv p7, iv p8] [] _
      refine own_go (fun t₀ k₀ => XS.aloadN X0.here hx rfl (Jvm.hb hby d6_43) rfl rfl k₀) ?_
      show Gm p e below s₁ m 44 #[rv r0, iv p1, iv p2, iv p3, iv p4, iv p5, iv p6, iv p7, iv p8, iv p7, iv p8] [(.ref r0)] _
      obtain ⟨T3, X3, e3, st3⟩ := getF X0 hx hZ hown (host := "") (Or.inl (hw _ (List.mem_of_getElem? (i := 52) rfl))) Via.refl e0 F_floor (g := (mkF m 44 #[rv r0, iv p1, iv p2, iv p3, iv p4, iv p5, iv p6, iv p7, iv p8, iv p7, iv p8] [(.ref r0)])) rfl rfl (Jvm.hb hby d6_44)
      refine own_go st3 ?_
      show Gm p e below T3 m 47 #[rv r0, iv p1, iv p2, iv p3, iv p4, iv p5, iv p6, iv p7, iv p8, iv p7, iv p8] [(.ref c_floor)] _
      refine own_go (fun t₀ k₀ => XS.iloadN X3.here hx rfl (Jvm.hb hby d6_47) rfl k₀) ?_
      show Gm p e below T3 m 48 #[rv r0, iv p1, iv p2, iv p3, iv p4, iv p5, iv p6, iv p7, iv p8, iv p7, iv p8] [(.int p1), (.ref c_floor)] _
      refine own_go (fun t₀ k₀ => own_ldI X3 hx hZ e3 A_floor (j := p1) (k := p1.toNatClampNeg) hj rfl (hk c1) (w := (.int (g_floor p1.toNatClampNeg))) rfl (g := (mkF m 48 #[rv r0, iv p1, iv p2, iv p3, iv p4, iv p5, iv p6, iv p7, iv p8, iv p7, iv p8] [(.int p1), (.ref c_floor)])) rfl rfl (Jvm.hb hby d6_48) k₀) ?_
      show Gm p e below T3 m 49 #[rv r0, iv p1, iv p2, iv p3, iv p4, iv p5, iv p6, iv p7, iv p8, iv p7, iv p8] [(.int (g_floor p1.toNatClampNeg))] _
      refine own_go (fun t₀ k₀ => XS.iload X3.here hx rfl (Jvm.hb hby d6_49) rfl k₀) ?_
      show Gm p e below T3 m 51 #[rv r0, iv p1, iv p2, iv p3, iv p4, iv p5, iv p6, iv p7, iv p8, iv p7, iv p8] [(.int p7), (.int (g_floor p1.toNatClampNeg))] _
      refine own_go (fun t₀ k₀ => XS.icmpNo X3.here hx rfl (Jvm.hb hby d6_51) rfl (XT.ii_ne_f (by rw [h_floor, if_pos c2])) k₀) ?_
      show Gm p e below T3 m 54 #[rv r0, iv p1, iv p2, iv p3, iv p4, iv p5, iv p6, iv p7, iv p8, iv p7, iv p8] [] _
      refine own_go (fun t₀ k₀ => XS.aloadN X3.here hx rfl (Jvm.hb hby d6_54) rfl rfl k₀) ?_
      show Gm p e below T3 m 55 #[rv r0, iv p1, iv p2, iv p3, iv p4, iv p5, iv p6, iv p7, iv p8, iv p7, iv p8] [(.ref r0)] _
      obtain ⟨T4, X4, e4, st4⟩ := getF X3 hx hZ hown (host := "") (Or.inl (hw _ (List.mem_of_getElem? (i := 53) rfl))) Via.refl e3 F_startCell (g := (mkF m 55 #[rv r0, iv p1, iv p2, iv p3, iv p4, iv p5, iv p6, iv p7, iv p8, iv p7, iv p8] [(.ref r0)])) rfl rfl (Jvm.hb hby d6_55)
      refine own_go st4 ?_
      show Gm p e below T4 m 58 #[rv r0, iv p1, iv p2, iv p3, iv p4, iv p5, iv p6, iv p7, iv p8, iv p7, iv p8] [(.ref c_startCell)] _
      refine own_go (fun t₀ k₀ => XS.iloadN X4.here hx rfl (Jvm.hb hby d6_58) rfl k₀) ?_
      show Gm p e below T4 m 59 #[rv r0, iv p1, iv p2, iv p3, iv p4, iv p5, iv p6, iv p7, iv p8, iv p7, iv p8] [(.int p1), (.ref c_startCell)] _
      refine own_go (fun t₀ k₀ => own_ldI X4 hx hZ e4 A_startCell (j := p1) (k := p1.toNatClampNeg) hj rfl (hk c1) (w := (.int (g_startCell p1.toNatClampNeg))) rfl (g := (mkF m 59 #[rv r0, iv p1, iv p2, iv p3, iv p4, iv p5, iv p6, iv p7, iv p8, iv p7, iv p8] [(.int p1), (.ref c_startCell)])) rfl rfl (Jvm.hb hby d6_59) k₀) ?_
      show Gm p e below T4 m 60 #[rv r0, iv p1, iv p2, iv p3, iv p4, iv p5, iv p6, iv p7, iv p8, iv p7, iv p8] [(.int (g_startCell p1.toNatClampNeg))] _
      refine own_go (fun t₀ k₀ => XS.iload X4.here hx rfl (Jvm.hb hby d6_60) rfl k₀) ?_
      show Gm p e below T4 m 62 #[rv r0, iv p1, iv p2, iv p3, iv p4, iv p5, iv p6, iv p7, iv p8, iv p7, iv p8] [(.int p8), (.int (g_startCell p1.toNatClampNeg))] _
      refine own_go (fun t₀ k₀ => XS.icmpNo X4.here hx rfl (Jvm.hb hby d6_62) rfl (XT.ii_ne_f (by rw [h_startCell, if_pos c2])) k₀) ?_
      show Gm p e below T4 m 65 #[rv r0, iv p1, iv p2, iv p3, iv p4, iv p5, iv p6, iv p7, iv p8, iv p7, iv p8] [] _
      refine own_go (fun t₀ k₀ => XS.aloadN X4.here hx rfl (Jvm.hb hby d6_65) rfl rfl k₀) ?_
      show Gm p e below T4 m 66 #[rv r0, iv p1, iv p2, iv p3, iv p4, iv p5, iv p6, iv p7, iv p8, iv p7, iv p8] [(.ref r0)] _
      obtain ⟨T5, X5, e5, st5⟩ := getF X4 hx hZ hown (host := "") (Or.inl (hw _ (List.mem_of_getElem? (i := 54) rfl))) Via.refl e4 F_cell (g := (mkF m 66 #[rv r0, iv p1, iv p2, iv p3, iv p4, iv p5, iv p6, iv p7, iv p8, iv p7, iv p8] [(.ref r0)])) rfl rfl (Jvm.hb hby d6_66)
      refine own_go st5 ?_
      show Gm p e below T5 m 69 #[rv r0, iv p1, iv p2, iv p3, iv p4, iv p5, iv p6, iv p7, iv p8, iv p7, iv p8] [(.ref c_cell)] _
      refine own_go (fun t₀ k₀ => XS.iloadN X5.here hx rfl (Jvm.hb hby d6_69) rfl k₀) ?_
      show Gm p e below T5 m 70 #[rv r0, iv p1, iv p2, iv p3, iv p4, iv p5, iv p6, iv p7, iv p8, iv p7, iv p8] [(.int p1), (.ref c_cell)] _
      refine own_go (fun t₀ k₀ => own_ldI X5 hx hZ e5 A_cell (j := p1) (k := p1.toNatClampNeg) hj rfl (hk c1) (w := (.int (g_cell p1.toNatClampNeg))) rfl (g := (mkF m 70 #[rv r0, iv p1, iv p2, iv p3, iv p4, iv p5, iv p6, iv p7, iv p8, iv p7, iv p8] [(.int p1), (.ref c_cell)])) rfl rfl (Jvm.hb hby d6_70) k₀) ?_
      show Gm p e below T5 m 71 #[rv r0, iv p1, iv p2, iv p3, iv p4, iv p5, iv p6, iv p7, iv p8, iv p7, iv p8] [(.int (g_cell p1.toNatClampNeg))] _
      refine own_go (fun t₀ k₀ => XS.iload X5.here hx rfl (Jvm.hb hby d6_71) rfl k₀) ?_
      show Gm p e below T5 m 73 #[rv r0, iv p1, iv p2, iv p3, iv p4, iv p5, iv p6, iv p7, iv p8, iv p7, iv p8] [(.int p8), (.int (g_cell p1.toNatClampNeg))] _
      refine own_go (fun t₀ k₀ => XS.icmpNo X5.here hx rfl (Jvm.hb hby d6_73) rfl (XT.ii_ne_f (by rw [h_cell, if_pos c2])) k₀) ?_
      show Gm p e below T5 m 76 #[rv r0, iv p1, iv p2, iv p3, iv p4, iv p5, iv p6, iv p7, iv p8, iv p7, iv p8] [] _
      refine own_go (fun t₀ k₀ => XS.aloadN X5.here hx rfl (Jvm.hb hby d6_76) rfl rfl k₀) ?_
      show Gm p e below T5 m 77 #[rv r0, iv p1, iv p2, iv p3, iv p4, iv p5, iv p6, iv p7, iv p8, iv p7, iv p8] [(.ref r0)] _
      obtain ⟨T6, X6, e6, st6⟩ := getF X5 hx hZ hown (host := "") (Or.inl (hw _ (List.mem_of_getElem? (i := 55) rfl))) Via.refl e5 F_heading (g := (mkF m 77 #[rv r0, iv p1, iv p2, iv p3, iv p4, iv p5, iv p6, iv p7, iv p8, iv p7, iv p8] [(.ref r0)])) rfl rfl (Jvm.hb hby d6_77)
      refine own_go st6 ?_
      show Gm p e below T6 m 80 #[rv r0, iv p1, iv p2, iv p3, iv p4, iv p5, iv p6, iv p7, iv p8, iv p7, iv p8] [(.ref c_heading)] _
      refine own_go (fun t₀ k₀ => XS.iloadN X6.here hx rfl (Jvm.hb hby d6_80) rfl k₀) ?_
      show Gm p e below T6 m 81 #[rv r0, iv p1, iv p2, iv p3, iv p4, iv p5, iv p6, iv p7, iv p8, iv p7, iv p8] [(.int p1), (.ref c_heading)] _
      refine own_go (fun t₀ k₀ => own_ldI X6 hx hZ e6 A_heading (j := p1) (k := p1.toNatClampNeg) hj rfl (hk c1) (w := (.int (g_heading p1.toNatClampNeg))) rfl (g := (mkF m 81 #[rv r0, iv p1, iv p2, iv p3, iv p4, iv p5, iv p6, iv p7, iv p8, iv p7, iv p8] [(.int p1), (.ref c_heading)])) rfl rfl (Jvm.hb hby d6_81) k₀) ?_
      show Gm p e below T6 m 82 #[rv r0, iv p1, iv p2, iv p3, iv p4, iv p5, iv p6, iv p7, iv p8, iv p7, iv p8] [(.int (g_heading p1.toNatClampNeg))] _
      refine own_go (fun t₀ k₀ => XS.ifNo X6.here hx rfl (Jvm.hb hby d6_82) rfl (XT.i0_ne_f h_heading) k₀) ?_
      show Gm p e below T6 m 85 #[rv r0, iv p1, iv p2, iv p3, iv p4, iv p5, iv p6, iv p7, iv p8, iv p7, iv p8] [] _
      refine own_go (fun t₀ k₀ => XS.aloadN X6.here hx rfl (Jvm.hb hby d6_85) rfl rfl k₀) ?_
      show Gm p e below T6 m 86 #[rv r0, iv p1, iv p2, iv p3, iv p4, iv p5, iv p6, iv p7, iv p8, iv p7, iv p8] [(.ref r0)] _
      obtain ⟨T7, X7, e7, st7⟩ := getF X6 hx hZ hown (host := "") (Or.inl (hw _ (List.mem_of_getElem? (i := 56) rfl))) Via.refl e6 F_leaving (g := (mkF m 86 #[rv r0, iv p1, iv p2, iv p3, iv p4, iv p5, iv p6, iv p7, iv p8, iv p7, iv p8] [(.ref r0)])) rfl rfl (Jvm.hb hby d6_86)
      refine own_go st7 ?_
      show Gm p e below T7 m 89 #[rv r0, iv p1, iv p2, iv p3, iv p4, iv p5, iv p6, iv p7, iv p8, iv p7, iv p8] [(.ref c_leaving)] _
      refine own_go (fun t₀ k₀ => XS.iloadN X7.here hx rfl (Jvm.hb hby d6_89) rfl k₀) ?_
      show Gm p e below T7 m 90 #[rv r0, iv p1, iv p2, iv p3, iv p4, iv p5, iv p6, iv p7, iv p8, iv p7, iv p8] [(.int p1), (.ref c_leaving)] _
      refine own_go (fun t₀ k₀ => own_ldI X7 hx hZ e7 A_leaving (j := p1) (k := p1.toNatClampNeg) hj rfl (hk c1) (w := (.int (g_leaving p1.toNatClampNeg))) rfl (g := (mkF m 90 #[rv r0, iv p1, iv p2, iv p3, iv p4, iv p5, iv p6, iv p7, iv p8, iv p7, iv p8] [(.int p1), (.ref c_leaving)])) rfl rfl (Jvm.hb hby d6_90) k₀) ?_
      show Gm p e below T7 m 91 #[rv r0, iv p1, iv p2, iv p3, iv p4, iv p5, iv p6, iv p7, iv p8, iv p7, iv p8] [(.int (g_leaving p1.toNatClampNeg))] _
      refine own_go (fun t₀ k₀ => XS.iconst X7.here hx rfl (Jvm.hb hby d6_91) k₀) ?_
      show Gm p e below T7 m 92 #[rv r0, iv p1, iv p2, iv p3, iv p4, iv p5, iv p6, iv p7, iv p8, iv p7, iv p8] [(.int (-1 : Int32)), (.int (g_leaving p1.toNatClampNeg))] _
      refine own_go (fun t₀ k₀ => XS.icmpNo X7.here hx rfl (Jvm.hb hby d6_92) rfl (XT.ii_ne_f h_leaving) k₀) ?_
      show Gm p e below T7 m 95 #[rv r0, iv p1, iv p2, iv p3, iv p4, iv p5, iv p6, iv p7, iv p8, iv p7, iv p8] [] _
      refine own_go (fun t₀ k₀ => XS.aloadN X7.here hx rfl (Jvm.hb hby d6_95) rfl rfl k₀) ?_
      show Gm p e below T7 m 96 #[rv r0, iv p1, iv p2, iv p3, iv p4, iv p5, iv p6, iv p7, iv p8, iv p7, iv p8] [(.ref r0)] _
      obtain ⟨T8, X8, e8, st8⟩ := getF X7 hx hZ hown (host := "") (Or.inl (hw _ (List.mem_of_getElem? (i := 57) rfl))) Via.refl e7 F_exit (g := (mkF m 96 #[rv r0, iv p1, iv p2, iv p3, iv p4, iv p5, iv p6, iv p7, iv p8, iv p7, iv p8] [(.ref r0)])) rfl rfl (Jvm.hb hby d6_96)
      refine own_go st8 ?_
      show Gm p e below T8 m 99 #[rv r0, iv p1, iv p2, iv p3, iv p4, iv p5, iv p6, iv p7, iv p8, iv p7, iv p8] [(.ref c_exit)] _
      refine own_go (fun t₀ k₀ => XS.iloadN X8.here hx rfl (Jvm.hb hby d6_99) rfl k₀) ?_
      show Gm p e below T8 m 100 #[rv r0, iv p1, iv p2, iv p3, iv p4, iv p5, iv p6, iv p7, iv p8, iv p7, iv p8] [(.int p1), (.ref c_exit)] _
      refine own_go (fun t₀ k₀ => own_ldI X8 hx hZ e8 A_exit (j := p1) (k := p1.toNatClampNeg) hj rfl (hk c1) (w := (.int (g_exit p1.toNatClampNeg))) rfl (g := (mkF m 100 #[rv r0, iv p1, iv p2, iv p3, iv p4, iv p5, iv p6, iv p7, iv p8, iv p7, iv p8] [(.int p1), (.ref c_exit)])) rfl rfl (Jvm.hb hby d6_100) k₀) ?_
      show Gm p e below T8 m 101 #[rv r0, iv p1, iv p2, iv p3, iv p4, iv p5, iv p6, iv p7, iv p8, iv p7, iv p8] [(.int (g_exit p1.toNatClampNeg))] _
      refine own_go (fun t₀ k₀ => XS.iconst X8.here hx rfl (Jvm.hb hby d6_101) k₀) ?_
      show Gm p e below T8 m 102 #[rv r0, iv p1, iv p2, iv p3, iv p4, iv p5, iv p6, iv p7, iv p8, iv p7, iv p8] [(.int (-1 : Int32)), (.int (g_exit p1.toNatClampNeg))] _
      refine own_go (fun t₀ k₀ => XS.icmpNo X8.here hx rfl (Jvm.hb hby d6_102) rfl (XT.ii_ne_f h_exit) k₀) ?_
      show Gm p e below T8 m 105 #[rv r0, iv p1, iv p2, iv p3, iv p4, iv p5, iv p6, iv p7, iv p8, iv p7, iv p8] [] _
      refine own_go (fun t₀ k₀ => XS.iconst X8.here hx rfl (Jvm.hb hby d6_105) k₀) ?_
      show Gm p e below T8 m 106 #[rv r0, iv p1, iv p2, iv p3, iv p4, iv p5, iv p6, iv p7, iv p8, iv p7, iv p8] [(.int (1 : Int32))] _
      refine own_go (fun t₀ k₀ => XS.goto X8.here hx rfl (pc0 := 106) (pc' := 110) rfl (Jvm.hb hby d6_106) (by decide) (by decide) k₀) ?_
      show Gm p e below T8 m 110 #[rv r0, iv p1, iv p2, iv p3, iv p4, iv p5, iv p6, iv p7, iv p8, iv p7, iv p8] [(.int (1 : Int32))] _
      exact own_retI X8 hx hlk (t := .boolean) Bd.returns rfl (by simp) (Jvm.hb hby d6_110) e8 ⟨rfl, N0, rfl⟩ (by decide) (by decide)
    · have hfork := trivial
      refine own_go (fun t₀ k₀ => XS.icmpYes X0.here hx rfl (pc0 := 16) (pc' := 30) rfl (Jvm.hb hby d6_16) rfl (XT.ii_ne_t c2) (by decide) (by decide) k₀) ?_
      show Gm p e below s₁ m 30 #[rv r0, iv p1, iv p2, iv p3, iv p4, iv p5, iv p6, iv p7, iv p8, iv (0 : Int32), iv (0 : Int32)] [] _
      refine own_go (fun t₀ k₀ => XS.iloadN X0.here hx rfl (Jvm.hb hby d6_30) rfl k₀) ?_
      show Gm p e below s₁ m 31 #[rv r0, iv p1, iv p2, iv p3, iv p4, iv p5, iv p6, iv p7, iv p8, iv (0 : Int32), iv (0 : Int32)] [(.int p1)] _
      refine own_go (fun t₀ k₀ => XS.iloadN X0.here hx rfl (Jvm.hb hby d6_31) rfl k₀) ?_
      show Gm p e below s₁ m 32 #[rv r0, iv p1, iv p2, iv p3, iv p4, iv p5, iv p6, iv p7, iv p8, iv (0 : Int32), iv (0 : Int32)] [(.int p3), (.int p1)] _
      by_cases c9 : p1 = p3
      · have hfork := trivial
        refine own_go (fun t₀ k₀ => XS.icmpNo X0.here hx rfl (Jvm.hb hby d6_32) rfl (XT.ii_ne_f c9) k₀) ?_
        show Gm p e below s₁ m 35 #[rv r0, iv p1, iv p2, iv p3, iv p4, iv p5, iv p6, iv p7, iv p8, iv (0 : Int32), iv (0 : Int32)] [] _
        refine own_go (fun t₀ k₀ => XS.iload X0.here hx rfl (Jvm.hb hby d6_35) rfl k₀) ?_
        show Gm p e below s₁ m 37 #[rv r0, iv p1, iv p2, iv p3, iv p4, iv p5, iv p6, iv p7, iv p8, iv (0 : Int32), iv (0 : Int32)] [(.int p4)] _
        refine own_go (fun t₀ k₀ => XS.istore X0.here hx rfl (Jvm.hb hby d6_37) rfl (l' := #[rv r0, iv p1, iv p2, iv p3, iv p4, iv p5, iv p6, iv p7, iv p8, iv p4, iv (0 : Int32)]) rfl k₀) ?_
        show Gm p e below s₁ m 39 #[rv r0, iv p1, iv p2, iv p3, iv p4, iv p5, iv p6, iv p7, iv p8, iv p4, iv (0 : Int32)] [] _
        refine own_go (fun t₀ k₀ => XS.iload X0.here hx rfl (Jvm.hb hby d6_39) rfl k₀) ?_
        show Gm p e below s₁ m 41 #[rv r0, iv p1, iv p2, iv p3, iv p4, iv p5, iv p6, iv p7, iv p8, iv p4, iv (0 : Int32)] [(.int p5)] _
        refine own_go (fun t₀ k₀ => XS.istore X0.here hx rfl (Jvm.hb hby d6_41) rfl (l' := #[rv r0, iv p1, iv p2, iv p3, iv p4, iv p5, iv p6, iv p7, iv p8, iv p4, iv p5]) rfl k₀) ?_
        show Gm p e below s₁ m 43 #[rv r0, iv p1, iv p2, iv p3, iv p4, iv p5, iv p6, iv p7, iv p8, iv p4, iv p5] [] _
        refine own_go (fun t₀ k₀ => XS.aloadN X0.here hx rfl (Jvm.hb hby d6_43) rfl rfl k₀) ?_
        show Gm p e below s₁ m 44 #[rv r0, iv p1, iv p2, iv p3, iv p4, iv p5, iv p6, iv p7, iv p8, iv p4, iv p5] [(.ref r0)] _
        obtain ⟨T10, X10, e10, st10⟩ := getF X0 hx hZ hown (host := "") (Or.inl (hw _ (List.mem_of_getElem? (i := 52) rfl))) Via.refl e0 F_floor (g := (mkF m 44 #[rv r0, iv p1, iv p2, iv p3, iv p4, iv p5, iv p6, iv p7, iv p8, iv p4, iv p5] [(.ref r0)])) rfl rfl (Jvm.hb hby d6_44)
        refine own_go st10 ?_
        show Gm p e below T10 m 47 #[rv r0, iv p1, iv p2, iv p3, iv p4, iv p5, iv p6, iv p7, iv p8, iv p4, iv p5] [(.ref c_floor)] _
        refine own_go (fun t₀ k₀ => XS.iloadN X10.here hx rfl (Jvm.hb hby d6_47) rfl k₀) ?_
        show Gm p e below T10 m 48 #[rv r0, iv p1, iv p2, iv p3, iv p4, iv p5, iv p6, iv p7, iv p8, iv p4, iv p5] [(.int p1), (.ref c_floor)] _
        refine own_go (fun t₀ k₀ => own_ldI X10 hx hZ e10 A_floor (j := p1) (k := p1.toNatClampNeg) hj rfl (hk c1) (w := (.int (g_floor p1.toNatClampNeg))) rfl (g := (mkF m 48 #[rv r0, iv p1, iv p2, iv p3, iv p4, iv p5, iv p6, iv p7, iv p8, iv p4, iv p5] [(.int p1), (.ref c_floor)])) rfl rfl (Jvm.hb hby d6_48) k₀) ?_
        show Gm p e below T10 m 49 #[rv r0, iv p1, iv p2, iv p3, iv p4, iv p5, iv p6, iv p7, iv p8, iv p4, iv p5] [(.int (g_floor p1.toNatClampNeg))] _
        refine own_go (fun t₀ k₀ => XS.iload X10.here hx rfl (Jvm.hb hby d6_49) rfl k₀) ?_
        show Gm p e below T10 m 51 #[rv r0, iv p1, iv p2, iv p3, iv p4, iv p5, iv p6, iv p7, iv p8, iv p4, iv p5] [(.int p4), (.int (g_floor p1.toNatClampNeg))] _
        refine own_go (fun t₀ k₀ => XS.icmpNo X10.here hx rfl (Jvm.hb hby d6_51) rfl (XT.ii_ne_f (by rw [h_floor, if_neg c2, if_pos c9])) k₀) ?_
        show Gm p e below T10 m 54 #[rv r0, iv p1, iv p2, iv p3, iv p4, iv p5, iv p6, iv p7, iv p8, iv p4, iv p5] [] _
        refine own_go (fun t₀ k₀ => XS.aloadN X10.here hx rfl (Jvm.hb hby d6_54) rfl rfl k₀) ?_
        show Gm p e below T10 m 55 #[rv r0, iv p1, iv p2, iv p3, iv p4, iv p5, iv p6, iv p7, iv p8, iv p4, iv p5] [(.ref r0)] _
        obtain ⟨T11, X11, e11, st11⟩ := getF X10 hx hZ hown (host := "") (Or.inl (hw _ (List.mem_of_getElem? (i := 53) rfl))) Via.refl e10 F_startCell (g := (mkF m 55 #[rv r0, iv p1, iv p2, iv p3, iv p4, iv p5, iv p6, iv p7, iv p8, iv p4, iv p5] [(.ref r0)])) rfl rfl (Jvm.hb hby d6_55)
        refine own_go st11 ?_
        show Gm p e below T11 m 58 #[rv r0, iv p1, iv p2, iv p3, iv p4, iv p5, iv p6, iv p7, iv p8, iv p4, iv p5] [(.ref c_startCell)] _
        refine own_go (fun t₀ k₀ => XS.iloadN X11.here hx rfl (Jvm.hb hby d6_58) rfl k₀) ?_
        show Gm p e below T11 m 59 #[rv r0, iv p1, iv p2, iv p3, iv p4, iv p5, iv p6, iv p7, iv p8, iv p4, iv p5] [(.int p1), (.ref c_startCell)] _
        refine own_go (fun t₀ k₀ => own_ldI X11 hx hZ e11 A_startCell (j := p1) (k := p1.toNatClampNeg) hj rfl (hk c1) (w := (.int (g_startCell p1.toNatClampNeg))) rfl (g := (mkF m 59 #[rv r0, iv p1, iv p2, iv p3, iv p4, iv p5, iv p6, iv p7, iv p8, iv p4, iv p5] [(.int p1), (.ref c_startCell)])) rfl rfl (Jvm.hb hby d6_59) k₀) ?_
        show Gm p e below T11 m 60 #[rv r0, iv p1, iv p2, iv p3, iv p4, iv p5, iv p6, iv p7, iv p8, iv p4, iv p5] [(.int (g_startCell p1.toNatClampNeg))] _
        refine own_go (fun t₀ k₀ => XS.iload X11.here hx rfl (Jvm.hb hby d6_60) rfl k₀) ?_
        show Gm p e below T11 m 62 #[rv r0, iv p1, iv p2, iv p3, iv p4, iv p5, iv p6, iv p7, iv p8, iv p4, iv p5] [(.int p5), (.int (g_startCell p1.toNatClampNeg))] _
        refine own_go (fun t₀ k₀ => XS.icmpNo X11.here hx rfl (Jvm.hb hby d6_62) rfl (XT.ii_ne_f (by rw [h_startCell, if_neg c2, if_pos c9])) k₀) ?_
        show Gm p e below T11 m 65 #[rv r0, iv p1, iv p2, iv p3, iv p4, iv p5, iv p6, iv p7, iv p8, iv p4, iv p5] [] _
        refine own_go (fun t₀ k₀ => XS.aloadN X11.here hx rfl (Jvm.hb hby d6_65) rfl rfl k₀) ?_
        show Gm p e below T11 m 66 #[rv r0, iv p1, iv p2, iv p3, iv p4, iv p5, iv p6, iv p7, iv p8, iv p4, iv p5] [(.ref r0)] _
        obtain ⟨T12, X12, e12, st12⟩ := getF X11 hx hZ hown (host := "") (Or.inl (hw _ (List.mem_of_getElem? (i := 54) rfl))) Via.refl e11 F_cell (g := (mkF m 66 #[rv r0, iv p1, iv p2, iv p3, iv p4, iv p5, iv p6, iv p7, iv p8, iv p4, iv p5] [(.ref r0)])) rfl rfl (Jvm.hb hby d6_66)
        refine own_go st12 ?_
        show Gm p e below T12 m 69 #[rv r0, iv p1, iv p2, iv p3, iv p4, iv p5, iv p6, iv p7, iv p8, iv p4, iv p5] [(.ref c_cell)] _
        refine own_go (fun t₀ k₀ => XS.iloadN X12.here hx rfl (Jvm.hb hby d6_69) rfl k₀) ?_
        show Gm p e below T12 m 70 #[rv r0, iv p1, iv p2, iv p3, iv p4, iv p5, iv p6, iv p7, iv p8, iv p4, iv p5] [(.int p1), (.ref c_cell)] _
        refine own_go (fun t₀ k₀ => own_ldI X12 hx hZ e12 A_cell (j := p1) (k := p1.toNatClampNeg) hj rfl (hk c1) (w := (.int (g_cell p1.toNatClampNeg))) rfl (g := (mkF m 70 #[rv r0, iv p1, iv p2, iv p3, iv p4, iv p5, iv p6, iv p7, iv p8, iv p4, iv p5] [(.int p1), (.ref c_cell)])) rfl rfl (Jvm.hb hby d6_70) k₀) ?_
        show Gm p e below T12 m 71 #[rv r0, iv p1, iv p2, iv p3, iv p4, iv p5, iv p6, iv p7, iv p8, iv p4, iv p5] [(.int (g_cell p1.toNatClampNeg))] _
        refine own_go (fun t₀ k₀ => XS.iload X12.here hx rfl (Jvm.hb hby d6_71) rfl k₀) ?_
        show Gm p e below T12 m 73 #[rv r0, iv p1, iv p2, iv p3, iv p4, iv p5, iv p6, iv p7, iv p8, iv p4, iv p5] [(.int p5), (.int (g_cell p1.toNatClampNeg))] _
        refine own_go (fun t₀ k₀ => XS.icmpNo X12.here hx rfl (Jvm.hb hby d6_73) rfl (XT.ii_ne_f (by rw [h_cell, if_neg c2, if_pos c9])) k₀) ?_
        show Gm p e below T12 m 76 #[rv r0, iv p1, iv p2, iv p3, iv p4, iv p5, iv p6, iv p7, iv p8, iv p4, iv p5] [] _
        refine own_go (fun t₀ k₀ => XS.aloadN X12.here hx rfl (Jvm.hb hby d6_76) rfl rfl k₀) ?_
        show Gm p e below T12 m 77 #[rv r0, iv p1, iv p2, iv p3, iv p4, iv p5, iv p6, iv p7, iv p8, iv p4, iv p5] [(.ref r0)] _
        obtain ⟨T13, X13, e13, st13⟩ := getF X12 hx hZ hown (host := "") (Or.inl (hw _ (List.mem_of_getElem? (i := 55) rfl))) Via.refl e12 F_heading (g := (mkF m 77 #[rv r0, iv p1, iv p2, iv p3, iv p4, iv p5, iv p6, iv p7, iv p8, iv p4, iv p5] [(.ref r0)])) rfl rfl (Jvm.hb hby d6_77)
        refine own_go st13 ?_
        show Gm p e below T13 m 80 #[rv r0, iv p1, iv p2, iv p3, iv p4, iv p5, iv p6, iv p7, iv p8, iv p4, iv p5] [(.ref c_heading)] _
        refine own_go (fun t₀ k₀ => XS.iloadN X13.here hx rfl (Jvm.hb hby d6_80) rfl k₀) ?_
        show Gm p e below T13 m 81 #[rv r0, iv p1, iv p2, iv p3, iv p4, iv p5, iv p6, iv p7, iv p8, iv p4, iv p5] [(.int p1), (.ref c_heading)] _
        refine own_go (fun t₀ k₀ => own_ldI X13 hx hZ e13 A_heading (j := p1) (k := p1.toNatClampNeg) hj rfl (hk c1) (w := (.int (g_heading p1.toNatClampNeg))) rfl (g := (mkF m 81 #[rv r0, iv p1, iv p2, iv p3, iv p4, iv p5, iv p6, iv p7, iv p8, iv p4, iv p5] [(.int p1), (.ref c_heading)])) rfl rfl (Jvm.hb hby d6_81) k₀) ?_
        show Gm p e below T13 m 82 #[rv r0, iv p1, iv p2, iv p3, iv p4, iv p5, iv p6, iv p7, iv p8, iv p4, iv p5] [(.int (g_heading p1.toNatClampNeg))] _
        refine own_go (fun t₀ k₀ => XS.ifNo X13.here hx rfl (Jvm.hb hby d6_82) rfl (XT.i0_ne_f h_heading) k₀) ?_
        show Gm p e below T13 m 85 #[rv r0, iv p1, iv p2, iv p3, iv p4, iv p5, iv p6, iv p7, iv p8, iv p4, iv p5] [] _
        refine own_go (fun t₀ k₀ => XS.aloadN X13.here hx rfl (Jvm.hb hby d6_85) rfl rfl k₀) ?_
        show Gm p e below T13 m 86 #[rv r0, iv p1, iv p2, iv p3, iv p4, iv p5, iv p6, iv p7, iv p8, iv p4, iv p5] [(.ref r0)] _
        obtain ⟨T14, X14, e14, st14⟩ := getF X13 hx hZ hown (host := "") (Or.inl (hw _ (List.mem_of_getElem? (i := 56) rfl))) Via.refl e13 F_leaving (g := (mkF m 86 #[rv r0, iv p1, iv p2, iv p3, iv p4, iv p5, iv p6, iv p7, iv p8, iv p4, iv p5] [(.ref r0)])) rfl rfl (Jvm.hb hby d6_86)
        refine own_go st14 ?_
        show Gm p e below T14 m 89 #[rv r0, iv p1, iv p2, iv p3, iv p4, iv p5, iv p6, iv p7, iv p8, iv p4, iv p5] [(.ref c_leaving)] _
        refine own_go (fun t₀ k₀ => XS.iloadN X14.here hx rfl (Jvm.hb hby d6_89) rfl k₀) ?_
        show Gm p e below T14 m 90 #[rv r0, iv p1, iv p2, iv p3, iv p4, iv p5, iv p6, iv p7, iv p8, iv p4, iv p5] [(.int p1), (.ref c_leaving)] _
        refine own_go (fun t₀ k₀ => own_ldI X14 hx hZ e14 A_leaving (j := p1) (k := p1.toNatClampNeg) hj rfl (hk c1) (w := (.int (g_leaving p1.toNatClampNeg))) rfl (g := (mkF m 90 #[rv r0, iv p1, iv p2, iv p3, iv p4, iv p5, iv p6, iv p7, iv p8, iv p4, iv p5] [(.int p1), (.ref c_leaving)])) rfl rfl (Jvm.hb hby d6_90) k₀) ?_
        show Gm p e below T14 m 91 #[rv r0, iv p1, iv p2, iv p3, iv p4, iv p5, iv p6, iv p7, iv p8, iv p4, iv p5] [(.int (g_leaving p1.toNatClampNeg))] _
        refine own_go (fun t₀ k₀ => XS.iconst X14.here hx rfl (Jvm.hb hby d6_91) k₀) ?_
        show Gm p e below T14 m 92 #[rv r0, iv p1, iv p2, iv p3, iv p4, iv p5, iv p6, iv p7, iv p8, iv p4, iv p5] [(.int (-1 : Int32)), (.int (g_leaving p1.toNatClampNeg))] _
        refine own_go (fun t₀ k₀ => XS.icmpNo X14.here hx rfl (Jvm.hb hby d6_92) rfl (XT.ii_ne_f h_leaving) k₀) ?_
        show Gm p e below T14 m 95 #[rv r0, iv p1, iv p2, iv p3, iv p4, iv p5, iv p6, iv p7, iv p8, iv p4, iv p5] [] _
        refine own_go (fun t₀ k₀ => XS.aloadN X14.here hx rfl (Jvm.hb hby d6_95) rfl rfl k₀) ?_
        show Gm p e below T14 m 96 #[rv r0, iv p1, iv p2, iv p3, iv p4, iv p5, iv p6, iv p7, iv p8, iv p4, iv p5] [(.ref r0)] _
        obtain ⟨T15, X15, e15, st15⟩ := getF X14 hx hZ hown (host := "") (Or.inl (hw _ (List.mem_of_getElem? (i := 57) rfl))) Via.refl e14 F_exit (g := (mkF m 96 #[rv r0, iv p1, iv p2, iv p3, iv p4, iv p5, iv p6, iv p7, iv p8, iv p4, iv p5] [(.ref r0)])) rfl rfl (Jvm.hb hby d6_96)
        refine own_go st15 ?_
        show Gm p e below T15 m 99 #[rv r0, iv p1, iv p2, iv p3, iv p4, iv p5, iv p6, iv p7, iv p8, iv p4, iv p5] [(.ref c_exit)] _
        refine own_go (fun t₀ k₀ => XS.iloadN X15.here hx rfl (Jvm.hb hby d6_99) rfl k₀) ?_
        show Gm p e below T15 m 100 #[rv r0, iv p1, iv p2, iv p3, iv p4, iv p5, iv p6, iv p7, iv p8, iv p4, iv p5] [(.int p1), (.ref c_exit)] _
        refine own_go (fun t₀ k₀ => own_ldI X15 hx hZ e15 A_exit (j := p1) (k := p1.toNatClampNeg) hj rfl (hk c1) (w := (.int (g_exit p1.toNatClampNeg))) rfl (g := (mkF m 100 #[rv r0, iv p1, iv p2, iv p3, iv p4, iv p5, iv p6, iv p7, iv p8, iv p4, iv p5] [(.int p1), (.ref c_exit)])) rfl rfl (Jvm.hb hby d6_100) k₀) ?_
        show Gm p e below T15 m 101 #[rv r0, iv p1, iv p2, iv p3, iv p4, iv p5, iv p6, iv p7, iv p8, iv p4, iv p5] [(.int (g_exit p1.toNatClampNeg))] _
        refine own_go (fun t₀ k₀ => XS.iconst X15.here hx rfl (Jvm.hb hby d6_101) k₀) ?_
        show Gm p e below T15 m 102 #[rv r0, iv p1, iv p2, iv p3, iv p4, iv p5, iv p6, iv p7, iv p8, iv p4, iv p5] [(.int (-1 : Int32)), (.int (g_exit p1.toNatClampNeg))] _
        refine own_go (fun t₀ k₀ => XS.icmpNo X15.here hx rfl (Jvm.hb hby d6_102) rfl (XT.ii_ne_f h_exit) k₀) ?_
        show Gm p e below T15 m 105 #[rv r0, iv p1, iv p2, iv p3, iv p4, iv p5, iv p6, iv p7, iv p8, iv p4, iv p5] [] _
        refine own_go (fun t₀ k₀ => XS.iconst X15.here hx rfl (Jvm.hb hby d6_105) k₀) ?_
        show Gm p e below T15 m 106 #[rv r0, iv p1, iv p2, iv p3, iv p4, iv p5, iv p6, iv p7, iv p8, iv p4, iv p5] [(.int (1 : Int32))] _
        refine own_go (fun t₀ k₀ => XS.goto X15.here hx rfl (pc0 := 106) (pc' := 110) rfl (Jvm.hb hby d6_106) (by decide) (by decide) k₀) ?_
        show Gm p e below T15 m 110 #[rv r0, iv p1, iv p2, iv p3, iv p4, iv p5, iv p6, iv p7, iv p8, iv p4, iv p5] [(.int (1 : Int32))] _
        exact own_retI X15 hx hlk (t := .boolean) Bd.returns rfl (by simp) (Jvm.hb hby d6_110) e15 ⟨rfl, N0, rfl⟩ (by decide) (by decide)
      · have hfork := trivial
        refine own_go (fun t₀ k₀ => XS.icmpYes X0.here hx rfl (pc0 := 32) (pc' := 43) rfl (Jvm.hb hby d6_32) rfl (XT.ii_ne_t c9) (by decide) (by decide) k₀) ?_
        show Gm p e below s₁ m 43 #[rv r0, iv p1, iv p2, iv p3, iv p4, iv p5, iv p6, iv p7, iv p8, iv (0 : Int32), iv (0 : Int32)] [] _
        refine own_go (fun t₀ k₀ => XS.aloadN X0.here hx rfl (Jvm.hb hby d6_43) rfl rfl k₀) ?_
        show Gm p e below s₁ m 44 #[rv r0, iv p1, iv p2, iv p3, iv p4, iv p5, iv p6, iv p7, iv p8, iv (0 : Int32), iv (0 : Int32)] [(.ref r0)] _
        obtain ⟨T16, X16, e16, st16⟩ := getF X0 hx hZ hown (host := "") (Or.inl (hw _ (List.mem_of_getElem? (i := 52) rfl))) Via.refl e0 F_floor (g := (mkF m 44 #[rv r0, iv p1, iv p2, iv p3, iv p4, iv p5, iv p6, iv p7, iv p8, iv (0 : Int32), iv (0 : Int32)] [(.ref r0)])) rfl rfl (Jvm.hb hby d6_44)
        refine own_go st16 ?_
        show Gm p e below T16 m 47 #[rv r0, iv p1, iv p2, iv p3, iv p4, iv p5, iv p6, iv p7, iv p8, iv (0 : Int32), iv (0 : Int32)] [(.ref c_floor)] _
        refine own_go (fun t₀ k₀ => XS.iloadN X16.here hx rfl (Jvm.hb hby d6_47) rfl k₀) ?_
        show Gm p e below T16 m 48 #[rv r0, iv p1, iv p2, iv p3, iv p4, iv p5, iv p6, iv p7, iv p8, iv (0 : Int32), iv (0 : Int32)] [(.int p1), (.ref c_floor)] _
        refine own_go (fun t₀ k₀ => own_ldI X16 hx hZ e16 A_floor (j := p1) (k := p1.toNatClampNeg) hj rfl (hk c1) (w := (.int (g_floor p1.toNatClampNeg))) rfl (g := (mkF m 48 #[rv r0, iv p1, iv p2, iv p3, iv p4, iv p5, iv p6, iv p7, iv p8, iv (0 : Int32), iv (0 : Int32)] [(.int p1), (.ref c_floor)])) rfl rfl (Jvm.hb hby d6_48) k₀) ?_
        show Gm p e below T16 m 49 #[rv r0, iv p1, iv p2, iv p3, iv p4, iv p5, iv p6, iv p7, iv p8, iv (0 : Int32), iv (0 : Int32)] [(.int (g_floor p1.toNatClampNeg))] _
        refine own_go (fun t₀ k₀ => XS.iload X16.here hx rfl (Jvm.hb hby d6_49) rfl k₀) ?_
        show Gm p e below T16 m 51 #[rv r0, iv p1, iv p2, iv p3, iv p4, iv p5, iv p6, iv p7, iv p8, iv (0 : Int32), iv (0 : Int32)] [(.int (0 : Int32)), (.int (g_floor p1.toNatClampNeg))] _
        refine own_go (fun t₀ k₀ => XS.icmpNo X16.here hx rfl (Jvm.hb hby d6_51) rfl (XT.ii_ne_f (by rw [h_floor, if_neg c2, if_neg c9])) k₀) ?_
        show Gm p e below T16 m 54 #[rv r0, iv p1, iv p2, iv p3, iv p4, iv p5, iv p6, iv p7, iv p8, iv (0 : Int32), iv (0 : Int32)] [] _
        refine own_go (fun t₀ k₀ => XS.aloadN X16.here hx rfl (Jvm.hb hby d6_54) rfl rfl k₀) ?_
        show Gm p e below T16 m 55 #[rv r0, iv p1, iv p2, iv p3, iv p4, iv p5, iv p6, iv p7, iv p8, iv (0 : Int32), iv (0 : Int32)] [(.ref r0)] _
        obtain ⟨T17, X17, e17, st17⟩ := getF X16 hx hZ hown (host := "") (Or.inl (hw _ (List.mem_of_getElem? (i := 53) rfl))) Via.refl e16 F_startCell (g := (mkF m 55 #[rv r0, iv p1, iv p2, iv p3, iv p4, iv p5, iv p6, iv p7, iv p8, iv (0 : Int32), iv (0 : Int32)] [(.ref r0)])) rfl rfl (Jvm.hb hby d6_55)
        refine own_go st17 ?_
        show Gm p e below T17 m 58 #[rv r0, iv p1, iv p2, iv p3, iv p4, iv p5, iv p6, iv p7, iv p8, iv (0 : Int32), iv (0 : Int32)] [(.ref c_startCell)] _
        refine own_go (fun t₀ k₀ => XS.iloadN X17.here hx rfl (Jvm.hb hby d6_58) rfl k₀) ?_
        show Gm p e below T17 m 59 #[rv r0, iv p1, iv p2, iv p3, iv p4, iv p5, iv p6, iv p7, iv p8, iv (0 : Int32), iv (0 : Int32)] [(.int p1), (.ref c_startCell)] _
        refine own_go (fun t₀ k₀ => own_ldI X17 hx hZ e17 A_startCell (j := p1) (k := p1.toNatClampNeg) hj rfl (hk c1) (w := (.int (g_startCell p1.toNatClampNeg))) rfl (g := (mkF m 59 #[rv r0, iv p1, iv p2, iv p3, iv p4, iv p5, iv p6, iv p7, iv p8, iv (0 : Int32), iv (0 : Int32)] [(.int p1), (.ref c_startCell)])) rfl rfl (Jvm.hb hby d6_59) k₀) ?_
        show Gm p e below T17 m 60 #[rv r0, iv p1, iv p2, iv p3, iv p4, iv p5, iv p6, iv p7, iv p8, iv (0 : Int32), iv (0 : Int32)] [(.int (g_startCell p1.toNatClampNeg))] _
        refine own_go (fun t₀ k₀ => XS.iload X17.here hx rfl (Jvm.hb hby d6_60) rfl k₀) ?_
        show Gm p e below T17 m 62 #[rv r0, iv p1, iv p2, iv p3, iv p4, iv p5, iv p6, iv p7, iv p8, iv (0 : Int32), iv (0 : Int32)] [(.int (0 : Int32)), (.int (g_startCell p1.toNatClampNeg))] _
        refine own_go (fun t₀ k₀ => XS.icmpNo X17.here hx rfl (Jvm.hb hby d6_62) rfl (XT.ii_ne_f (by rw [h_startCell, if_neg c2, if_neg c9])) k₀) ?_
        show Gm p e below T17 m 65 #[rv r0, iv p1, iv p2, iv p3, iv p4, iv p5, iv p6, iv p7, iv p8, iv (0 : Int32), iv (0 : Int32)] [] _
        refine own_go (fun t₀ k₀ => XS.aloadN X17.here hx rfl (Jvm.hb hby d6_65) rfl rfl k₀) ?_
        show Gm p e below T17 m 66 #[rv r0, iv p1, iv p2, iv p3, iv p4, iv p5, iv p6, iv p7, iv p8, iv (0 : Int32), iv (0 : Int32)] [(.ref r0)] _
        obtain ⟨T18, X18, e18, st18⟩ := getF X17 hx hZ hown (host := "") (Or.inl (hw _ (List.mem_of_getElem? (i := 54) rfl))) Via.refl e17 F_cell (g := (mkF m 66 #[rv r0, iv p1, iv p2, iv p3, iv p4, iv p5, iv p6, iv p7, iv p8, iv (0 : Int32), iv (0 : Int32)] [(.ref r0)])) rfl rfl (Jvm.hb hby d6_66)
        refine own_go st18 ?_
        show Gm p e below T18 m 69 #[rv r0, iv p1, iv p2, iv p3, iv p4, iv p5, iv p6, iv p7, iv p8, iv (0 : Int32), iv (0 : Int32)] [(.ref c_cell)] _
        refine own_go (fun t₀ k₀ => XS.iloadN X18.here hx rfl (Jvm.hb hby d6_69) rfl k₀) ?_
        show Gm p e below T18 m 70 #[rv r0, iv p1, iv p2, iv p3, iv p4, iv p5, iv p6, iv p7, iv p8, iv (0 : Int32), iv (0 : Int32)] [(.int p1), (.ref c_cell)] _
        refine own_go (fun t₀ k₀ => own_ldI X18 hx hZ e18 A_cell (j := p1) (k := p1.toNatClampNeg) hj rfl (hk c1) (w := (.int (g_cell p1.toNatClampNeg))) rfl (g := (mkF m 70 #[rv r0, iv p1, iv p2, iv p3, iv p4, iv p5, iv p6, iv p7, iv p8, iv (0 : Int32), iv (0 : Int32)] [(.int p1), (.ref c_cell)])) rfl rfl (Jvm.hb hby d6_70) k₀) ?_
        show Gm p e below T18 m 71 #[rv r0, iv p1, iv p2, iv p3, iv p4, iv p5, iv p6, iv p7, iv p8, iv (0 : Int32), iv (0 : Int32)] [(.int (g_cell p1.toNatClampNeg))] _
        refine own_go (fun t₀ k₀ => XS.iload X18.here hx rfl (Jvm.hb hby d6_71) rfl k₀) ?_
        show Gm p e below T18 m 73 #[rv r0, iv p1, iv p2, iv p3, iv p4, iv p5, iv p6, iv p7, iv p8, iv (0 : Int32), iv (0 : Int32)] [(.int (0 : Int32)), (.int (g_cell p1.toNatClampNeg))] _
        refine own_go (fun t₀ k₀ => XS.icmpNo X18.here hx rfl (Jvm.hb hby d6_73) rfl (XT.ii_ne_f (by rw [h_cell, if_neg c2, if_neg c9])) k₀) ?_
        show Gm p e below T18 m 76 #[rv r0, iv p1, iv p2, iv p3, iv p4, iv p5, iv p6, iv p7, iv p8, iv (0 : Int32), iv (0 : Int32)] [] _
        refine own_go (fun t₀ k₀ => XS.aloadN X18.here hx rfl (Jvm.hb hby d6_76) rfl rfl k₀) ?_
        show Gm p e below T18 m 77 #[rv r0, iv p1, iv p2, iv p3, iv p4, iv p5, iv p6, iv p7, iv p8, iv (0 : Int32), iv (0 : Int32)] [(.ref r0)] _
        obtain ⟨T19, X19, e19, st19⟩ := getF X18 hx hZ hown (host := "") (Or.inl (hw _ (List.mem_of_getElem? (i := 55) rfl))) Via.refl e18 F_heading (g := (mkF m 77 #[rv r0, iv p1, iv p2, iv p3, iv p4, iv p5, iv p6, iv p7, iv p8, iv (0 : Int32), iv (0 : Int32)] [(.ref r0)])) rfl rfl (Jvm.hb hby d6_77)
        refine own_go st19 ?_
        show Gm p e below T19 m 80 #[rv r0, iv p1, iv p2, iv p3, iv p4, iv p5, iv p6, iv p7, iv p8, iv (0 : Int32), iv (0 : Int32)] [(.ref c_heading)] _
        refine own_go (fun t₀ k₀ => XS.iloadN X19.here hx rfl (Jvm.hb hby d6_80) rfl k₀) ?_
        show Gm p e below T19 m 81 #[rv r0, iv p1, iv p2, iv p3, iv p4, iv p5, iv p6, iv p7, iv p8, iv (0 : Int32), iv (0 : Int32)] [(.int p1), (.ref c_heading)] _
        refine own_go (fun t₀ k₀ => own_ldI X19 hx hZ e19 A_heading (j := p1) (k := p1.toNatClampNeg) hj rfl (hk c1) (w := (.int (g_heading p1.toNatClampNeg))) rfl (g := (mkF m 81 #[rv r0, iv p1, iv p2, iv p3, iv p4, iv p5, iv p6, iv p7, iv p8, iv (0 : Int32), iv (0 : Int32)] [(.int p1), (.ref c_heading)])) rfl rfl (Jvm.hb hby d6_81) k₀) ?_
        show Gm p e below T19 m 82 #[rv r0, iv p1, iv p2, iv p3, iv p4, iv p5, iv p6, iv p7, iv p8, iv (0 : Int32), iv (0 : Int32)] [(.int (g_heading p1.toNatClampNeg))] _
        refine own_go (fun t₀ k₀ => XS.ifNo X19.here hx rfl (Jvm.hb hby d6_82) rfl (XT.i0_ne_f h_heading) k₀) ?_
        show Gm p e below T19 m 85 #[rv r0, iv p1, iv p2, iv p3, iv p4, iv p5, iv p6, iv p7, iv p8, iv (0 : Int32), iv (0 : Int32)] [] _
        refine own_go (fun t₀ k₀ => XS.aloadN X19.here hx rfl (Jvm.hb hby d6_85) rfl rfl k₀) ?_
        show Gm p e below T19 m 86 #[rv r0, iv p1, iv p2, iv p3, iv p4, iv p5, iv p6, iv p7, iv p8, iv (0 : Int32), iv (0 : Int32)] [(.ref r0)] _
        obtain ⟨T20, X20, e20, st20⟩ := getF X19 hx hZ hown (host := "") (Or.inl (hw _ (List.mem_of_getElem? (i := 56) rfl))) Via.refl e19 F_leaving (g := (mkF m 86 #[rv r0, iv p1, iv p2, iv p3, iv p4, iv p5, iv p6, iv p7, iv p8, iv (0 : Int32), iv (0 : Int32)] [(.ref r0)])) rfl rfl (Jvm.hb hby d6_86)
        refine own_go st20 ?_
        show Gm p e below T20 m 89 #[rv r0, iv p1, iv p2, iv p3, iv p4, iv p5, iv p6, iv p7, iv p8, iv (0 : Int32), iv (0 : Int32)] [(.ref c_leaving)] _
        refine own_go (fun t₀ k₀ => XS.iloadN X20.here hx rfl (Jvm.hb hby d6_89) rfl k₀) ?_
        show Gm p e below T20 m 90 #[rv r0, iv p1, iv p2, iv p3, iv p4, iv p5, iv p6, iv p7, iv p8, iv (0 : Int32), iv (0 : Int32)] [(.int p1), (.ref c_leaving)] _
        refine own_go (fun t₀ k₀ => own_ldI X20 hx hZ e20 A_leaving (j := p1) (k := p1.toNatClampNeg) hj rfl (hk c1) (w := (.int (g_leaving p1.toNatClampNeg))) rfl (g := (mkF m 90 #[rv r0, iv p1, iv p2, iv p3, iv p4, iv p5, iv p6, iv p7, iv p8, iv (0 : Int32), iv (0 : Int32)] [(.int p1), (.ref c_leaving)])) rfl rfl (Jvm.hb hby d6_90) k₀) ?_
        show Gm p e below T20 m 91 #[rv r0, iv p1, iv p2, iv p3, iv p4, iv p5, iv p6, iv p7, iv p8, iv (0 : Int32), iv (0 : Int32)] [(.int (g_leaving p1.toNatClampNeg))] _
        refine own_go (fun t₀ k₀ => XS.iconst X20.here hx rfl (Jvm.hb hby d6_91) k₀) ?_
        show Gm p e below T20 m 92 #[rv r0, iv p1, iv p2, iv p3, iv p4, iv p5, iv p6, iv p7, iv p8, iv (0 : Int32), iv (0 : Int32)] [(.int (-1 : Int32)), (.int (g_leaving p1.toNatClampNeg))] _
        refine own_go (fun t₀ k₀ => XS.icmpNo X20.here hx rfl (Jvm.hb hby d6_92) rfl (XT.ii_ne_f h_leaving) k₀) ?_
        show Gm p e below T20 m 95 #[rv r0, iv p1, iv p2, iv p3, iv p4, iv p5, iv p6, iv p7, iv p8, iv (0 : Int32), iv (0 : Int32)] [] _
        refine own_go (fun t₀ k₀ => XS.aloadN X20.here hx rfl (Jvm.hb hby d6_95) rfl rfl k₀) ?_
        show Gm p e below T20 m 96 #[rv r0, iv p1, iv p2, iv p3, iv p4, iv p5, iv p6, iv p7, iv p8, iv (0 : Int32), iv (0 : Int32)] [(.ref r0)] _
        obtain ⟨T21, X21, e21, st21⟩ := getF X20 hx hZ hown (host := "") (Or.inl (hw _ (List.mem_of_getElem? (i := 57) rfl))) Via.refl e20 F_exit (g := (mkF m 96 #[rv r0, iv p1, iv p2, iv p3, iv p4, iv p5, iv p6, iv p7, iv p8, iv (0 : Int32), iv (0 : Int32)] [(.ref r0)])) rfl rfl (Jvm.hb hby d6_96)
        refine own_go st21 ?_
        show Gm p e below T21 m 99 #[rv r0, iv p1, iv p2, iv p3, iv p4, iv p5, iv p6, iv p7, iv p8, iv (0 : Int32), iv (0 : Int32)] [(.ref c_exit)] _
        refine own_go (fun t₀ k₀ => XS.iloadN X21.here hx rfl (Jvm.hb hby d6_99) rfl k₀) ?_
        show Gm p e below T21 m 100 #[rv r0, iv p1, iv p2, iv p3, iv p4, iv p5, iv p6, iv p7, iv p8, iv (0 : Int32), iv (0 : Int32)] [(.int p1), (.ref c_exit)] _
        refine own_go (fun t₀ k₀ => own_ldI X21 hx hZ e21 A_exit (j := p1) (k := p1.toNatClampNeg) hj rfl (hk c1) (w := (.int (g_exit p1.toNatClampNeg))) rfl (g := (mkF m 100 #[rv r0, iv p1, iv p2, iv p3, iv p4, iv p5, iv p6, iv p7, iv p8, iv (0 : Int32), iv (0 : Int32)] [(.int p1), (.ref c_exit)])) rfl rfl (Jvm.hb hby d6_100) k₀) ?_
        show Gm p e below T21 m 101 #[rv r0, iv p1, iv p2, iv p3, iv p4, iv p5, iv p6, iv p7, iv p8, iv (0 : Int32), iv (0 : Int32)] [(.int (g_exit p1.toNatClampNeg))] _
        refine own_go (fun t₀ k₀ => XS.iconst X21.here hx rfl (Jvm.hb hby d6_101) k₀) ?_
        show Gm p e below T21 m 102 #[rv r0, iv p1, iv p2, iv p3, iv p4, iv p5, iv p6, iv p7, iv p8, iv (0 : Int32), iv (0 : Int32)] [(.int (-1 : Int32)), (.int (g_exit p1.toNatClampNeg))] _
        refine own_go (fun t₀ k₀ => XS.icmpNo X21.here hx rfl (Jvm.hb hby d6_102) rfl (XT.ii_ne_f h_exit) k₀) ?_
        show Gm p e below T21 m 105 #[rv r0, iv p1, iv p2, iv p3, iv p4, iv p5, iv p6, iv p7, iv p8, iv (0 : Int32), iv (0 : Int32)] [] _
        refine own_go (fun t₀ k₀ => XS.iconst X21.here hx rfl (Jvm.hb hby d6_105) k₀) ?_
        show Gm p e below T21 m 106 #[rv r0, iv p1, iv p2, iv p3, iv p4, iv p5, iv p6, iv p7, iv p8, iv (0 : Int32), iv (0 : Int32)] [(.int (1 : Int32))] _
        refine own_go (fun t₀ k₀ => XS.goto X21.here hx rfl (pc0 := 106) (pc' := 110) rfl (Jvm.hb hby d6_106) (by decide) (by decide) k₀) ?_
        show Gm p e below T21 m 110 #[rv r0, iv p1, iv p2, iv p3, iv p4, iv p5, iv p6, iv p7, iv p8, iv (0 : Int32), iv (0 : Int32)] [(.int (1 : Int32))] _
        exact own_retI X21 hx hlk (t := .boolean) Bd.returns rfl (by simp) (Jvm.hb hby d6_110) e21 ⟨rfl, N0, rfl⟩ (by decide) (by decide)
  · have hfork := trivial
    refine own_go (fun t₀ k₀ => XS.icmpNo X0.here hx rfl (Jvm.hb hby d6_2) rfl (XT.ii_lt_f c1) k₀) ?_
    show Gm p e below s₁ m 5 #[rv r0, iv p1, iv p2, iv p3, iv p4, iv p5, iv p6, iv p7, iv p8, .unset, .unset] [] _
    refine own_go (fun t₀ k₀ => XS.iconst X0.here hx rfl (Jvm.hb hby d6_5) k₀) ?_
    show Gm p e below s₁ m 6 #[rv r0, iv p1, iv p2, iv p3, iv p4, iv p5, iv p6, iv p7, iv p8, .unset, .unset] [(.int (1 : Int32))] _
    exact own_retI X0 hx hlk (t := .boolean) Bd.returns rfl (by simp) (Jvm.hb hby d6_6) e0 ⟨rfl, N0, rfl⟩ (by decide) (by decide)
theorem d7_0 : decode prog_63_method_2_code 0 = .ok (.aload_n 0, 1) := by decide +kernel
theorem d7_1 : decode prog_63_method_2_code 1 = .ok (.getfield 16, 3) := by decide +kernel
theorem d7_4 : decode prog_63_method_2_code 4 = .ok (.arraylength, 1) := by decide +kernel
theorem d7_5 : decode prog_63_method_2_code 5 = .ok (.ireturn, 1) := by decide +kernel
theorem own_pn_rm7 : plainName "com/example/throughfare/throughfare/simulation/Walkers" = true := by first | (simp [plainName, overriddenIn]; done) | decide +kernel
theorem own_ef_rm7 (m : MethodId) (r0 : Addr) : entryFrame m #[(.ref r0)] 1 = mkF m 0 #[.val (.ref r0)] [] := by first | (simp [entryFrame, mkF, argsToLocals, Value.category]; done) | rfl
def Q7 (Z : State) (r0 : Addr) (c1 : Addr) (n : Nat) (f : Nat → Value) (h0 : Heap) (n0 : Nat) (v : Option Value) (h : Heap) (L : List Loc) : Prop := v = some (.int n.toInt32) ∧ Fr n0 L ∧ h = h0
set_option maxRecDepth 65536 in
set_option maxHeartbeats 40000000 in
theorem rm7 (l : Launch) (Z : State) (a0 : Array Value) (hw : ∀ d ∈ tables_1, d.before a0 Z = true) (ws : List Jvm.Cond) (r0 : Addr) (c1 : Addr) (n : Nat) (f : Nat → Value) (h0 : Heap) (n0 : Nat) (Z0 : n0 ≤ h0.size) (F_c : Fld Z h0 r0 "com/example/throughfare/throughfare/simulation/Walkers" "cell" "[I" (.ref c1)) (A : Af Z h0 c1 .int n f) :
    MetFree l (⟨"com/example/throughfare/throughfare/simulation/Walkers", "count", "()I"⟩ : MethodName) (head1 (Jvm.Cond.code (⟨"com/example/throughfare/throughfare/simulation/Walkers", "count", "()I"⟩ : MethodName) prog_63_method_2_code 1 (some .int) :: ws) ({ frames := 0, cells := 0, slots := 0, locals := 0 } : Room)) (fun a U => a = #[(.ref r0)] ∧ Z.Warmed39 U.vm ∧ U.heap = h0) (fun _ _ _ _ _ => True) (fun _ U o U' => ∃ v L, o = .returned v ∧ Q7 Z r0 c1 n f h0 n0 v U'.heap L ∧ FrameEnd U o U' L ({ frames := 0, cells := 0, slots := 0, locals := 0 } : Room).cells ({ frames := 0, cells := 0, slots := 0, locals := 0 } : Room).slots) := by
  refine MetFree.of_bodySF (plainFor_of_name own_pn_rm7) hisR ?_
  intro p e s m args below meth cO s₁ Bd hml0 hP hK
  obtain ⟨rfl, hZ, hh⟩ := hP
  have hx := Bd.exec
  have hby := Bd.bytes
  have hml : cO.maxLocals = 1 := hml0
  have hown : s.vm.findClass "com/example/throughfare/throughfare/simulation/Walkers" = some m.cls := findClass_of_methodNamed Bd.named
  have hnm := (name_of_methodNamed Bd.named Bd.method).1
  have hlk : meth.locks = false := BodyLoose.notSynchronized Bd
  have X0 : Stand p l e ({ frames := 0, cells := 0, slots := 0, locals := 0 } : Room) s m #[(.ref r0)] below meth cO s₁ [] 0 0 := Stand.of_body Bd
  have e0 : s₁.heap = h0 := by rw [← hh, Bd.state]; rfl
  have N0 := Fr.nil n0
  refine own_in (own_ef_rm7 m r0) ?_
  show Gm p e below s₁ m 0 #[rv r0] [] _
  refine own_go (fun t₀ k₀ => XS.aloadN X0.here hx rfl (Jvm.hb hby d7_0) rfl rfl k₀) ?_
  show Gm p e below s₁ m 1 #[rv r0] [(.ref r0)] _
  obtain ⟨T1, X1, e1, st1⟩ := getF X0 hx hZ hown (host := "") (Or.inl (hw _ (List.mem_of_getElem? (i := 15) rfl))) Via.refl e0 F_c (g := (mkF m 1 #[rv r0] [(.ref r0)])) rfl rfl (Jvm.hb hby d7_1)
  refine own_go st1 ?_
  show Gm p e below T1 m 4 #[rv r0] [(.ref c1)] _
  refine own_go (fun t₀ k₀ => own_len X1 hx hZ e1 A (z := n.toInt32) rfl (g := (mkF m 4 #[rv r0] [(.ref c1)])) rfl rfl (Jvm.hb hby d7_4) k₀) ?_
  show Gm p e below T1 m 5 #[rv r0] [(.int n.toInt32)] _
  exact own_retI X1 hx hlk (t := .int) Bd.returns rfl (by simp) (Jvm.hb hby d7_5) e1 ⟨rfl, N0, rfl⟩ (by decide) (by decide)
theorem d8_0 : decode prog_63_method_3_code 0 = .ok (.aload_n 0, 1) := by decide +kernel
theorem d8_1 : decode prog_63_method_3_code 1 = .ok (.getfield 53, 3) := by decide +kernel
theorem d8_4 : decode prog_63_method_3_code 4 = .ok (.astore_n 1, 1) := by decide +kernel
theorem d8_5 : decode prog_63_method_3_code 5 = .ok (.aload_n 1, 1) := by decide +kernel
theorem d8_6 : decode prog_63_method_3_code 6 = .ok (.arraylength, 1) := by decide +kernel
theorem d8_7 : decode prog_63_method_3_code 7 = .ok (.istore_n 2, 1) := by decide +kernel
theorem d8_8 : decode prog_63_method_3_code 8 = .ok (.iconst 0, 1) := by decide +kernel
theorem d8_9 : decode prog_63_method_3_code 9 = .ok (.istore_n 3, 1) := by decide +kernel
theorem d8_10 : decode prog_63_method_3_code 10 = .ok (.iload_n 3, 1) := by decide +kernel
theorem d8_11 : decode prog_63_method_3_code 11 = .ok (.iload_n 2, 1) := by decide +kernel
theorem d8_12 : decode prog_63_method_3_code 12 = .ok (.if_icmp .ge 21, 3) := by decide +kernel
theorem d8_15 : decode prog_63_method_3_code 15 = .ok (.aload_n 1, 1) := by decide +kernel
theorem d8_16 : decode prog_63_method_3_code 16 = .ok (.iload_n 3, 1) := by decide +kernel
theorem d8_17 : decode prog_63_method_3_code 17 = .ok (.iaload, 1) := by decide +kernel
theorem d8_18 : decode prog_63_method_3_code 18 = .ok (.istore 4, 2) := by decide +kernel
theorem d8_20 : decode prog_63_method_3_code 20 = .ok (.iload 4, 2) := by decide +kernel
theorem d8_22 : decode prog_63_method_3_code 22 = .ok (.ifCond .ge 5, 3) := by decide +kernel
theorem d8_25 : decode prog_63_method_3_code 25 = .ok (.iconst 1, 1) := by decide +kernel
theorem d8_26 : decode prog_63_method_3_code 26 = .ok (.ireturn, 1) := by decide +kernel
theorem own_pn_rm8 : plainName "com/example/throughfare/throughfare/simulation/Walkers" = true := by first | (simp [plainName, overriddenIn]; done) | decide +kernel
theorem own_ef_rm8 (m : MethodId) (r0 : Addr) : entryFrame m #[(.ref r0)] 5 = mkF m 0 #[.val (.ref r0), .unset, .unset, .unset, .unset] [] := by first | (simp [entryFrame, mkF, argsToLocals, Value.category]; done) | rfl
def Q8 (Z : State) (r0 : Addr) (c1 : Addr) (n : Nat) (f : Nat → Value) (h0 : Heap) (n0 : Nat) (v : Option Value) (h : Heap) (L : List Loc) : Prop := v = some (.int 1) ∧ Fr n0 L ∧ h = h0
set_option maxRecDepth 65536 in
set_option maxHeartbeats 40000000 in
theorem rm8 (l : Launch) (Z : State) (a0 : Array Value) (hw : ∀ d ∈ tables_1, d.before a0 Z = true) (ws : List Jvm.Cond) (r0 : Addr) (c1 : Addr) (n : Nat) (f : Nat → Value) (h0 : Heap) (n0 : Nat) (Z0 : n0 ≤ h0.size) (F_c : Fld Z h0 r0 "com/example/throughfare/throughfare/simulation/Walkers" "exit" "[I" (.ref c1)) (A : Af Z h0 c1 .int n f) (hn : (0 : Int32) < n.toInt32) (hk : 0 < n) (hf : f 0 = .int (-1)) :
    MetFree l (⟨"com/example/throughfare/throughfare/simulation/Walkers", "anyoneInside", "()Z"⟩ : MethodName) (head1 (Jvm.Cond.code (⟨"com/example/throughfare/throughfare/simulation/Walkers", "anyoneInside", "()Z"⟩ : MethodName) prog_63_method_3_code 5 (some .boolean) :: ws) ({ frames := 0, cells := 0, slots := 0, locals := 0 } : Room)) (fun a U => a = #[(.ref r0)] ∧ Z.Warmed39 U.vm ∧ U.heap = h0) (fun _ _ _ _ _ => True) (fun _ U o U' => ∃ v L, o = .returned v ∧ Q8 Z r0 c1 n f h0 n0 v U'.heap L ∧ FrameEnd U o U' L ({ frames := 0, cells := 0, slots := 0, locals := 0 } : Room).cells ({ frames := 0, cells := 0, slots := 0, locals := 0 } : Room).slots) := by
  refine MetFree.of_bodySF (plainFor_of_name own_pn_rm8) hisR ?_
  intro p e s m args below meth cO s₁ Bd hml0 hP hK
  obtain ⟨rfl, hZ, hh⟩ := hP
  have hx := Bd.exec
  have hby := Bd.bytes
  have hml : cO.maxLocals = 5 := hml0
  have hown : s.vm.findClass "com/example/throughfare/throughfare/simulation/Walkers" = some m.cls := findClass_of_methodNamed Bd.named
  have hnm := (name_of_methodNamed Bd.named Bd.method).1
  have hlk : meth.locks = false := BodyLoose.notSynchronized Bd
  have X0 : Stand p l e ({ frames := 0, cells := 0, slots := 0, locals := 0 } : Room) s m #[(.ref r0)] below meth cO s₁ [] 0 0 := Stand.of_body Bd
  have e0 : s₁.heap = h0 := by rw [← hh, Bd.state]; rfl
  have N0 := Fr.nil n0
  refine own_in (own_ef_rm8 m r0) ?_
  show Gm p e below s₁ m 0 #[rv r0, .unset, .unset, .unset, .unset] [] _
  refine own_go (fun t₀ k₀ => XS.aloadN X0.here hx rfl (Jvm.hb hby d8_0) rfl rfl k₀) ?_
  show Gm p e below s₁ m 1 #[rv r0, .unset, .unset, .unset, .unset] [(.ref r0)] _
  obtain ⟨T1, X1, e1, st1⟩ := getF X0 hx hZ hown (host := "") (Or.inl (hw _ (List.mem_of_getElem? (i := 39) rfl))) Via.refl e0 F_c (g := (mkF m 1 #[rv r0, .unset, .unset, .unset, .unset] [(.ref r0)])) rfl rfl (Jvm.hb hby d8_1)
  refine own_go st1 ?_
  show Gm p e below T1 m 4 #[rv r0, .unset, .unset, .unset, .unset] [(.ref c1)] _
  refine own_go (fun t₀ k₀ => XS.astoreN X1.here hx rfl (Jvm.hb hby d8_4) rfl rfl (l' := #[rv r0, rv c1, .unset, .unset, .unset]) rfl k₀) ?_
  show Gm p e below T1 m 5 #[rv r0, rv c1, .unset, .unset, .unset] [] _
  refine own_go (fun t₀ k₀ => XS.aloadN X1.here hx rfl (Jvm.hb hby d8_5) rfl rfl k₀) ?_
  show Gm p e below T1 m 6 #[rv r0, rv c1, .unset, .unset, .unset] [(.ref c1)] _
  refine own_go (fun t₀ k₀ => own_len X1 hx hZ e1 A (z := n.toInt32) rfl (g := (mkF m 6 #[rv r0, rv c1, .unset, .unset, .unset] [(.ref c1)])) rfl rfl (Jvm.hb hby d8_6) k₀) ?_
  show Gm p e below T1 m 7 #[rv r0, rv c1, .unset, .unset, .unset] [(.int n.toInt32)] _
  refine own_go (fun t₀ k₀ => XS.istoreN X1.here hx rfl (Jvm.hb hby d8_7) rfl (l' := #[rv r0, rv c1, iv n.toInt32, .unset, .unset]) rfl k₀) ?_
  show Gm p e below T1 m 8 #[rv r0, rv c1, iv n.toInt32, .unset, .unset] [] _
  refine own_go (fun t₀ k₀ => XS.iconst X1.here hx rfl (Jvm.hb hby d8_8) k₀) ?_
  show Gm p e below T1 m 9 #[rv r0, rv c1, iv n.toInt32, .unset, .unset] [(.int (0 : Int32))] _
  refine own_go (fun t₀ k₀ => XS.istoreN X1.here hx rfl (Jvm.hb hby d8_9) rfl (l' := #[rv r0, rv c1, iv n.toInt32, iv (0 : Int32), .unset]) rfl k₀) ?_
  show Gm p e below T1 m 10 #[rv r0, rv c1, iv n.toInt32, iv (0 : Int32), .unset] [] _
  refine own_go (fun t₀ k₀ => XS.iloadN X1.here hx rfl (Jvm.hb hby d8_10) rfl k₀) ?_
  show Gm p e below T1 m 11 #[rv r0, rv c1, iv n.toInt32, iv (0 : Int32), .unset] [(.int (0 : Int32))] _
  refine own_go (fun t₀ k₀ => XS.iloadN X1.here hx rfl (Jvm.hb hby d8_11) rfl k₀) ?_
  show Gm p e below T1 m 12 #[rv r0, rv c1, iv n.toInt32, iv (0 : Int32), .unset] [(.int n.toInt32), (.int (0 : Int32))] _
  refine own_go (fun t₀ k₀ => XS.icmpNo X1.here hx rfl (Jvm.hb hby d8_12) rfl (XT.ii_ge_f hn) k₀) ?_
  show Gm p e below T1 m 15 #[rv r0, rv c1, iv n.toInt32, iv (0 : Int32), .unset] [] _
  refine own_go (fun t₀ k₀ => XS.aloadN X1.here hx rfl (Jvm.hb hby d8_15) rfl rfl k₀) ?_
  show Gm p e below T1 m 16 #[rv r0, rv c1, iv n.toInt32, iv (0 : Int32), .unset] [(.ref c1)] _
  refine own_go (fun t₀ k₀ => XS.iloadN X1.here hx rfl (Jvm.hb hby d8_16) rfl k₀) ?_
  show Gm p e below T1 m 17 #[rv r0, rv c1, iv n.toInt32, iv (0 : Int32), .unset] [(.int (0 : Int32)), (.ref c1)] _
  refine own_go (fun t₀ k₀ => own_ldI X1 hx hZ e1 A (j := (0 : Int32)) (k := 0) (by decide) rfl hk (w := (.int (-1 : Int32))) hf (g := (mkF m 17 #[rv r0, rv c1, iv n.toInt32, iv (0 : Int32), .unset] [(.int (0 : Int32)), (.ref c1)])) rfl rfl (Jvm.hb hby d8_17) k₀) ?_
  show Gm p e below T1 m 18 #[rv r0, rv c1, iv n.toInt32, iv (0 : Int32), .unset] [(.int (-1 : Int32))] _
  refine own_go (fun t₀ k₀ => XS.istore X1.here hx rfl (Jvm.hb hby d8_18) rfl (l' := #[rv r0, rv c1, iv n.toInt32, iv (0 : Int32), iv (-1 : Int32)]) rfl k₀) ?_
  show Gm p e below T1 m 20 #[rv r0, rv c1, iv n.toInt32, iv (0 : Int32), iv (-1 : Int32)] [] _
  refine own_go (fun t₀ k₀ => XS.iload X1.here hx rfl (Jvm.hb hby d8_20) rfl k₀) ?_
  show Gm p e below T1 m 22 #[rv r0, rv c1, iv n.toInt32, iv (0 : Int32), iv (-1 : Int32)] [(.int (-1 : Int32))] _
  refine own_go (fun t₀ k₀ => XS.ifNo X1.here hx rfl (Jvm.hb hby d8_22) rfl (XT.i0_ge_f (by decide)) k₀) ?_
  show Gm p e below T1 m 25 #[rv r0, rv c1, iv n.toInt32, iv (0 : Int32), iv (-1 : Int32)] [] _
  refine own_go (fun t₀ k₀ => XS.iconst X1.here hx rfl (Jvm.hb hby d8_25) k₀) ?_
  show Gm p e below T1 m 26 #[rv r0, rv c1, iv n.toInt32, iv (0 : Int32), iv (-1 : Int32)] [(.int (1 : Int32))] _
  exact own_retI X1 hx hlk (t := .boolean) Bd.returns rfl (by simp) (Jvm.hb hby d8_26) e1 ⟨rfl, N0, rfl⟩ (by decide) (by decide)
theorem own_k4 (x : Int32) : (x &&& (3 : Int32)) = (0 : Int32) ∨ (x &&& (3 : Int32)) = (1 : Int32) ∨ (x &&& (3 : Int32)) = (2 : Int32) ∨ (x &&& (3 : Int32)) = (3 : Int32) := by
  have h := c_mask x 3 2 (by decide) (by decide)
  have h1 := Int.emod_nonneg x.toInt (by decide : ((2 ^ 2 : Nat) : Int) ≠ 0)
  have h2 := Int.emod_lt_of_pos x.toInt (by decide : (0 : Int) < ((2 ^ 2 : Nat) : Int))
  rw [← h] at h1 h2
  have h3 : (x &&& (3 : Int32)).toInt < 4 := h2
  rcases (by omega : (x &&& (3 : Int32)).toInt = 0 ∨ (x &&& (3 : Int32)).toInt = 1 ∨ (x &&& (3 : Int32)).toInt = 2 ∨ (x &&& (3 : Int32)).toInt = 3) with q | q | q | q
  · exact Or.inl (Int32.toInt_inj.mp q)
  · exact Or.inr (Or.inl (Int32.toInt_inj.mp q))
  · exact Or.inr (Or.inr (Or.inl (Int32.toInt_inj.mp q)))
  · exact Or.inr (Or.inr (Or.inr (Int32.toInt_inj.mp q)))
theorem own_rem {z : Int32} {n : Nat} (x y : Int32) (hy : y.toInt = (n : Int)) (hn : 0 < n) (hz : z = (x &&& (2147483647 : Int32)) % y) : ¬ z < 0 ∧ z.toNatClampNeg < n := by
  have h1 := c_mask x 2147483647 31 (by decide) (by decide)
  have h2 := (c_irem (x &&& 2147483647) y n hy).1 (by rw [h1]; exact Int.emod_nonneg _ (by decide))
  have h3 := Int.emod_nonneg (x &&& 2147483647).toInt (by omega : (n : Int) ≠ 0)
  have h4 := Int.emod_lt_of_pos (x &&& 2147483647).toInt (by omega : (0 : Int) < (n : Int))
  rw [← h2, ← hz] at h3 h4
  constructor
  · rw [Int32.lt_iff_toInt_lt]; show ¬ z.toInt < 0; omega
  · show z.toInt.toNat < n; omega
theorem own_ix {i a : Int32} (hi : ¬ i < 0) (ha : ¬ a < 0) : i.toNatClampNeg = a.toNatClampNeg ↔ i = a := by
  rw [Int32.lt_iff_toInt_lt] at hi ha
  have h1 : ¬ i.toInt < 0 := hi
  have h2 : ¬ a.toInt < 0 := ha
  constructor
  · intro q
    have q' : i.toInt.toNat = a.toInt.toNat := q
    exact Int32.toInt_inj.mp (by omega)
  · intro q; rw [q]
theorem own_s1 {i a x : Int32} (hi : ¬ i < 0) (ha : ¬ a < 0) (hm : ¬ i = (-1 : Int32)) : (if i.toNatClampNeg = a.toNatClampNeg then x else (fun _ => (0 : Int32)) i.toNatClampNeg) = (if i = (-1 : Int32) then (0 : Int32) else (if i = a then x else 0)) := by
  rw [if_neg hm]
  by_cases q : i = a
  · rw [if_pos q, if_pos ((own_ix hi ha).mpr q)]
  · rw [if_neg q, if_neg (fun u => q ((own_ix hi ha).mp u))]
theorem own_s2 {i a b x y : Int32} (hi : ¬ i < 0) (ha : ¬ a < 0) (hb : ¬ b < 0) : (if i.toNatClampNeg = b.toNatClampNeg then y else (if i.toNatClampNeg = a.toNatClampNeg then x else (fun _ => (0 : Int32)) i.toNatClampNeg)) = (if i = b then y else (if i = a then x else 0)) := by
  by_cases q : i = b
  · rw [if_pos q, if_pos ((own_ix hi hb).mpr q)]
  · rw [if_neg q, if_neg (fun u => q ((own_ix hi hb).mp u))]
    by_cases q : i = a
    · rw [if_pos q, if_pos ((own_ix hi ha).mpr q)]
    · rw [if_neg q, if_neg (fun u => q ((own_ix hi ha).mp u))]
theorem own_pd2 : parseMethodDescriptor "(I)V" = some ⟨[.int], none⟩ := by decide +kernel
theorem own_pd3 : parseMethodDescriptor "(III)V" = some ⟨[.int, .int, .int], none⟩ := by decide +kernel
theorem own_pd4 : parseMethodDescriptor "(Lcom/example/throughfare/throughfare/simulation/Walkers;IIIIIIII)Z" = some ⟨[(.object "com/example/throughfare/throughfare/simulation/Walkers"), .int, .int, .int, .int, .int, .int, .int, .int], some .boolean⟩ := by decide +kernel
theorem own_pd5 : parseMethodDescriptor "()I" = some ⟨[], some .int⟩ := by decide +kernel
theorem own_pd6 : parseMethodDescriptor "()Z" = some ⟨[], some .boolean⟩ := by decide +kernel
theorem own_pn_rm0 : plainName "com/example/throughfare/throughfare/simulation/WalkersStartPinLaw" = true := by first | (simp [plainName, overriddenIn]; done) | decide +kernel
theorem own_ef_rm0 (m : MethodId) (p0 : Int32) (p1 : Int32) (p2 : Int32) (p3 : Int32) (p4 : Int32) (p5 : Int32) : entryFrame m #[(.int p0), (.int p1), (.int p2), (.int p3), (.int p4), (.int p5)] maxLocals = mkF m 0 #[.val (.int p0), .val (.int p1), .val (.int p2), .val (.int p3), .val (.int p4), .val (.int p5), .unset, .unset, .unset, .unset, .unset, .unset] [] := by first | (simp [entryFrame, mkF, argsToLocals, Value.category, maxLocals]; done) | rfl
def Q0 (Z : State) (p0 : Int32) (p1 : Int32) (p2 : Int32) (p3 : Int32) (p4 : Int32) (p5 : Int32) (h0 : Heap) (n0 : Nat) (v : Option Value) (h : Heap) (L : List Loc) : Prop := v = some (.int 1) ∧ Fr n0 L
set_option maxRecDepth 65536 in
set_option maxHeartbeats 40000000 in
theorem rm0 (l : Launch) (Z : State) (a0 : Array Value) (hw : ∀ d ∈ tables_1, d.before a0 Z = true) (ws : List Jvm.Cond) (p0 : Int32) (p1 : Int32) (p2 : Int32) (p3 : Int32) (p4 : Int32) (p5 : Int32) (h0 : Heap) (n0 : Nat) (Z0 : n0 ≤ h0.size) :
    MetFree l x (head1 (Jvm.Cond.code x code maxLocals ret :: ws) room_1) (fun a U => a = #[(.int p0), (.int p1), (.int p2), (.int p3), (.int p4), (.int p5)] ∧ Z.Warmed39 U.vm ∧ U.heap = h0) (fun _ _ _ _ _ => True) (fun _ U o U' => ∃ v L, o = .returned v ∧ Q0 Z p0 p1 p2 p3 p4 p5 h0 n0 v U'.heap L ∧ FrameEnd U o U' L room_1.cells room_1.slots) := by
  refine MetFree.of_bodySF (plainFor_of_name own_pn_rm0) hisR ?_
  intro p e s m args below meth cO s₁ Bd hml0 hP hK
  obtain ⟨rfl, hZ, hh⟩ := hP
  have hx := Bd.exec
  have hby := Bd.bytes
  have hml : cO.maxLocals = 12 := hml0
  have hown : s.vm.findClass "com/example/throughfare/throughfare/simulation/WalkersStartPinLaw" = some m.cls := findClass_of_methodNamed Bd.named
  have hnm := (name_of_methodNamed Bd.named Bd.method).1
  have hlk : meth.locks = false := BodyLoose.notSynchronized Bd
  have X0 : Stand p l e room_1 s m #[(.int p0), (.int p1), (.int p2), (.int p3), (.int p4), (.int p5)] below meth cO s₁ [] 0 0 := Stand.of_body Bd
  have e0 : s₁.heap = h0 := by rw [← hh, Bd.state]; rfl
  have N0 := Fr.nil n0
  refine own_in (own_ef_rm0 m p0 p1 p2 p3 p4 p5) ?_
  show Gm p e below s₁ m 0 #[iv p0, iv p1, iv p2, iv p3, iv p4, iv p5, .unset, .unset, .unset, .unset, .unset, .unset] [] _
  refine own_go (fun t₀ k₀ => XS.iloadN X0.here hx rfl (Jvm.hb hby at_0) rfl k₀) ?_
  show Gm p e below s₁ m 1 #[iv p0, iv p1, iv p2, iv p3, iv p4, iv p5, .unset, .unset, .unset, .unset, .unset, .unset] [(.int p0)] _
  refine own_go (fun t₀ k₀ => XS.iconst X0.here hx rfl (Jvm.hb hby at_1) k₀) ?_
  show Gm p e below s₁ m 2 #[iv p0, iv p1, iv p2, iv p3, iv p4, iv p5, .unset, .unset, .unset, .unset, .unset, .unset] [(.int (3 : Int32)), (.int p0)] _
  refine own_go (fun t₀ k₀ => XS.iand X0.here hx rfl (Jvm.hb hby at_2) rfl k₀) ?_
  show Gm p e below s₁ m 3 #[iv p0, iv p1, iv p2, iv p3, iv p4, iv p5, .unset, .unset, .unset, .unset, .unset, .unset] [(.int (p0 &&& (3 : Int32)))] _
  rcases own_k4 p0 with hk | hk | hk | hk
  · rw [hk]
    show Gm p e below s₁ m 3 #[iv p0, iv p1, iv p2, iv p3, iv p4, iv p5, .unset, .unset, .unset, .unset, .unset, .unset] [(.int (0 : Int32))] _
    refine own_go (fun t₀ k₀ => XS.iconst X0.here hx rfl (Jvm.hb hby at_3) k₀) ?_
    show Gm p e below s₁ m 4 #[iv p0, iv p1, iv p2, iv p3, iv p4, iv p5, .unset, .unset, .unset, .unset, .unset, .unset] [(.int (1 : Int32)), (.int (0 : Int32))] _
    refine own_go (fun t₀ k₀ => XS.iadd X0.here hx rfl (Jvm.hb hby at_4) rfl k₀) ?_
    show Gm p e below s₁ m 5 #[iv p0, iv p1, iv p2, iv p3, iv p4, iv p5, .unset, .unset, .unset, .unset, .unset, .unset] [(.int (1 : Int32))] _
    refine own_go (fun t₀ k₀ => XS.istore X0.here hx rfl (Jvm.hb hby at_5) rfl (l' := #[iv p0, iv p1, iv p2, iv p3, iv p4, iv p5, iv (1 : Int32), .unset, .unset, .unset, .unset, .unset]) rfl k₀) ?_
    show Gm p e below s₁ m 7 #[iv p0, iv p1, iv p2, iv p3, iv p4, iv p5, iv (1 : Int32), .unset, .unset, .unset, .unset, .unset] [] _
    refine own_go (fun t₀ k₀ => XS.iloadN X0.here hx rfl (Jvm.hb hby at_7) rfl k₀) ?_
    show Gm p e below s₁ m 8 #[iv p0, iv p1, iv p2, iv p3, iv p4, iv p5, iv (1 : Int32), .unset, .unset, .unset, .unset, .unset] [(.int p1)] _
    refine own_go (fun t₀ k₀ => X0.ldcI hx hown (mvT hZ (hw _ (List.mem_of_getElem? (i := 0) rfl))) rfl (Jvm.hb hby at_8) k₀) ?_
    show Gm p e below s₁ m 10 #[iv p0, iv p1, iv p2, iv p3, iv p4, iv p5, iv (1 : Int32), .unset, .unset, .unset, .unset, .unset] [(.int (2147483647 : Int32)), (.int p1)] _
    refine own_go (fun t₀ k₀ => XS.iand X0.here hx rfl (Jvm.hb hby at_10) rfl k₀) ?_
    show Gm p e below s₁ m 11 #[iv p0, iv p1, iv p2, iv p3, iv p4, iv p5, iv (1 : Int32), .unset, .unset, .unset, .unset, .unset] [(.int (p1 &&& (2147483647 : Int32)))] _
    refine own_go (fun t₀ k₀ => XS.iload X0.here hx rfl (Jvm.hb hby at_11) rfl k₀) ?_
    show Gm p e below s₁ m 13 #[iv p0, iv p1, iv p2, iv p3, iv p4, iv p5, iv (1 : Int32), .unset, .unset, .unset, .unset, .unset] [(.int (1 : Int32)), (.int (p1 &&& (2147483647 : Int32)))] _
    refine own_go (fun t₀ k₀ => iremM X0 hx rfl (Jvm.hb hby at_13) rfl (by decide) k₀) ?_
    show Gm p e below s₁ m 14 #[iv p0, iv p1, iv p2, iv p3, iv p4, iv p5, iv (1 : Int32), .unset, .unset, .unset, .unset, .unset] [(.int ((p1 &&& (2147483647 : Int32)) % (1 : Int32)))] _
    refine own_go (fun t₀ k₀ => XS.istore X0.here hx rfl (Jvm.hb hby at_14) rfl (l' := #[iv p0, iv p1, iv p2, iv p3, iv p4, iv p5, iv (1 : Int32), iv ((p1 &&& (2147483647 : Int32)) % (1 : Int32)), .unset, .unset, .unset, .unset]) rfl k₀) ?_
    show Gm p e below s₁ m 16 #[iv p0, iv p1, iv p2, iv p3, iv p4, iv p5, iv (1 : Int32), iv ((p1 &&& (2147483647 : Int32)) % (1 : Int32)), .unset, .unset, .unset, .unset] [] _
    obtain ⟨ia, h_ia⟩ : ∃ z : Int32, z = ((p1 &&& (2147483647 : Int32)) % (1 : Int32)) := ⟨_, rfl⟩
    rw [← h_ia]
    have hr_ia := own_rem (n := 1) p1 (1 : Int32) (by decide) (by decide) h_ia
    show Gm p e below s₁ m 16 #[iv p0, iv p1, iv p2, iv p3, iv p4, iv p5, iv (1 : Int32), iv ia, .unset, .unset, .unset, .unset] [] _
    refine own_go (fun t₀ k₀ => XS.iload X0.here hx rfl (Jvm.hb hby at_16) rfl k₀) ?_
    show Gm p e below s₁ m 18 #[iv p0, iv p1, iv p2, iv p3, iv p4, iv p5, iv (1 : Int32), iv ia, .unset, .unset, .unset, .unset] [(.int p4)] _
    refine own_go (fun t₀ k₀ => X0.ldcI hx hown (mvT hZ (hw _ (List.mem_of_getElem? (i := 0) rfl))) rfl (Jvm.hb hby at_18) k₀) ?_
    show Gm p e below s₁ m 20 #[iv p0, iv p1, iv p2, iv p3, iv p4, iv p5, iv (1 : Int32), iv ia, .unset, .unset, .unset, .unset] [(.int (2147483647 : Int32)), (.int p4)] _
    refine own_go (fun t₀ k₀ => XS.iand X0.here hx rfl (Jvm.hb hby at_20) rfl k₀) ?_
    show Gm p e below s₁ m 21 #[iv p0, iv p1, iv p2, iv p3, iv p4, iv p5, iv (1 : Int32), iv ia, .unset, .unset, .unset, .unset] [(.int (p4 &&& (2147483647 : Int32)))] _
    refine own_go (fun t₀ k₀ => XS.iload X0.here hx rfl (Jvm.hb hby at_21) rfl k₀) ?_
    show Gm p e below s₁ m 23 #[iv p0, iv p1, iv p2, iv p3, iv p4, iv p5, iv (1 : Int32), iv ia, .unset, .unset, .unset, .unset] [(.int (1 : Int32)), (.int (p4 &&& (2147483647 : Int32)))] _
    refine own_go (fun t₀ k₀ => iremM X0 hx rfl (Jvm.hb hby at_23) rfl (by decide) k₀) ?_
    show Gm p e below s₁ m 24 #[iv p0, iv p1, iv p2, iv p3, iv p4, iv p5, iv (1 : Int32), iv ia, .unset, .unset, .unset, .unset] [(.int ((p4 &&& (2147483647 : Int32)) % (1 : Int32)))] _
    refine own_go (fun t₀ k₀ => XS.istore X0.here hx rfl (Jvm.hb hby at_24) rfl (l' := #[iv p0, iv p1, iv p2, iv p3, iv p4, iv p5, iv (1 : Int32), iv ia, iv ((p4 &&& (2147483647 : Int32)) % (1 : Int32)), .unset, .unset, .unset]) rfl k₀) ?_
    show Gm p e below s₁ m 26 #[iv p0, iv p1, iv p2, iv p3, iv p4, iv p5, iv (1 : Int32), iv ia, iv ((p4 &&& (2147483647 : Int32)) % (1 : Int32)), .unset, .unset, .unset] [] _
    obtain ⟨ib, h_ib⟩ : ∃ z : Int32, z = ((p4 &&& (2147483647 : Int32)) % (1 : Int32)) := ⟨_, rfl⟩
    rw [← h_ib]
    have hr_ib := own_rem (n := 1) p4 (1 : Int32) (by decide) (by decide) h_ib
    show Gm p e below s₁ m 26 #[iv p0, iv p1, iv p2, iv p3, iv p4, iv p5, iv (1 : Int32), iv ia, iv ib, .unset, .unset, .unset] [] _
    refine own_go (fun t₀ k₀ => XS.iloadN X0.here hx rfl (Jvm.hb hby at_26) rfl k₀) ?_
    show Gm p e below s₁ m 27 #[iv p0, iv p1, iv p2, iv p3, iv p4, iv p5, iv (1 : Int32), iv ia, iv ib, .unset, .unset, .unset] [(.int p3)] _
    refine own_go (fun t₀ k₀ => XS.iload X0.here hx rfl (Jvm.hb hby at_27) rfl k₀) ?_
    show Gm p e below s₁ m 29 #[iv p0, iv p1, iv p2, iv p3, iv p4, iv p5, iv (1 : Int32), iv ia, iv ib, .unset, .unset, .unset] [(.int p5), (.int p3)] _
    refine own_go (fun t₀ k₀ => XS.ixor X0.here hx rfl (Jvm.hb hby at_29) rfl k₀) ?_
    show Gm p e below s₁ m 30 #[iv p0, iv p1, iv p2, iv p3, iv p4, iv p5, iv (1 : Int32), iv ia, iv ib, .unset, .unset, .unset] [(.int (p3 ^^^ p5))] _
    refine own_go (fun t₀ k₀ => XS.istore X0.here hx rfl (Jvm.hb hby at_30) rfl (l' := #[iv p0, iv p1, iv p2, iv p3, iv p4, iv p5, iv (1 : Int32), iv ia, iv ib, iv (p3 ^^^ p5), .unset, .unset]) rfl k₀) ?_
    show Gm p e below s₁ m 32 #[iv p0, iv p1, iv p2, iv p3, iv p4, iv p5, iv (1 : Int32), iv ia, iv ib, iv (p3 ^^^ p5), .unset, .unset] [] _
    obtain ⟨tt, h_tt⟩ : ∃ z : Int32, z = (p3 ^^^ p5) := ⟨_, rfl⟩
    rw [← h_tt]
    show Gm p e below s₁ m 32 #[iv p0, iv p1, iv p2, iv p3, iv p4, iv p5, iv (1 : Int32), iv ia, iv ib, iv tt, .unset, .unset] [] _
    obtain ⟨T4, h4, X4, e4, E4, A4, D4, -, st4⟩ := newO X0 hx hZ hown (hw _ (List.mem_of_getElem? (i := 1) rfl)) (hw _ (List.mem_of_getElem? (i := 2) rfl)) (hw _ (List.mem_of_getElem? (i := 3) rfl)) e0 (g := (mkF m 32 #[iv p0, iv p1, iv p2, iv p3, iv p4, iv p5, iv (1 : Int32), iv ia, iv ib, iv tt, .unset, .unset] [])) rfl (Jvm.hb hby at_32) (by decide) (by decide)
    obtain ⟨b4, g4⟩ : ∃ z, z = h0.size := ⟨_, rfl⟩
    rw [← g4] at A4 D4 st4
    have g_b4 : n0 ≤ b4 := Nat.le_trans Z0 (Nat.le_of_eq g4.symm)
    have Z4 : n0 ≤ h4.size := Nat.le_trans Z0 E4.1
    have F_floor_b4 : Fld Z h4 b4 "com/example/throughfare/throughfare/simulation/Walkers" "floor" "[I" .null := D4 (Or.inr (hw _ (List.mem_of_getElem? (i := 12) rfl))) (ty := (.array .int)) (by decide)
    have F_startCell_b4 : Fld Z h4 b4 "com/example/throughfare/throughfare/simulation/Walkers" "startCell" "[I" .null := D4 (Or.inr (hw _ (List.mem_of_getElem? (i := 14) rfl))) (ty := (.array .int)) (by decide)
    have F_cell_b4 : Fld Z h4 b4 "com/example/throughfare/throughfare/simulation/Walkers" "cell" "[I" .null := D4 (Or.inr (hw _ (List.mem_of_getElem? (i := 16) rfl))) (ty := (.array .int)) (by decide)
    have F_speedMps_b4 : Fld Z h4 b4 "com/example/throughfare/throughfare/simulation/Walkers" "speedMps" "[D" .null := D4 (Or.inr (hw _ (List.mem_of_getElem? (i := 19) rfl))) (ty := (.array .double)) (by decide)
    have F_reactionS_b4 : Fld Z h4 b4 "com/example/throughfare/throughfare/simulation/Walkers" "reactionS" "[D" .null := D4 (Or.inr (hw _ (List.mem_of_getElem? (i := 21) rfl))) (ty := (.array .double)) (by decide)
    have F_heading_b4 : Fld Z h4 b4 "com/example/throughfare/throughfare/simulation/Walkers" "heading" "[I" .null := D4 (Or.inr (hw _ (List.mem_of_getElem? (i := 23) rfl))) (ty := (.array .int)) (by decide)
    have F_heldUpS_b4 : Fld Z h4 b4 "com/example/throughfare/throughfare/simulation/Walkers" "heldUpS" "[D" .null := D4 (Or.inr (hw _ (List.mem_of_getElem? (i := 25) rfl))) (ty := (.array .double)) (by decide)
    have F_exitTimeS_b4 : Fld Z h4 b4 "com/example/throughfare/throughfare/simulation/Walkers" "exitTimeS" "[D" .null := D4 (Or.inr (hw _ (List.mem_of_getElem? (i := 32) rfl))) (ty := (.array .double)) (by decide)
    have F_leaving_b4 : Fld Z h4 b4 "com/example/throughfare/throughfare/simulation/Walkers" "leaving" "[I" .null := D4 (Or.inr (hw _ (List.mem_of_getElem? (i := 35) rfl))) (ty := (.array .int)) (by decide)
    have F_exit_b4 : Fld Z h4 b4 "com/example/throughfare/throughfare/simulation/Walkers" "exit" "[I" .null := D4 (Or.inr (hw _ (List.mem_of_getElem? (i := 40) rfl))) (ty := (.array .int)) (by decide)
    have F_distanceM_b4 : Fld Z h4 b4 "com/example/throughfare/throughfare/simulation/Walkers" "distanceM" "[D" .null := D4 (Or.inr (hw _ (List.mem_of_getElem? (i := 42) rfl))) (ty := (.array .double)) (by decide)
    refine own_go st4 ?_
    show Gm p e below T4 m 35 #[iv p0, iv p1, iv p2, iv p3, iv p4, iv p5, iv (1 : Int32), iv ia, iv ib, iv tt, .unset, .unset] [(.ref b4)] _
    refine own_go (fun t₀ k₀ => XS.dup X4.here hx rfl (Jvm.hb hby at_35) rfl rfl k₀) ?_
    show Gm p e below T4 m 36 #[iv p0, iv p1, iv p2, iv p3, iv p4, iv p5, iv (1 : Int32), iv ia, iv ib, iv tt, .unset, .unset] [(.ref b4), (.ref b4)] _
    refine own_go (fun t₀ k₀ => XS.iload X4.here hx rfl (Jvm.hb hby at_36) rfl k₀) ?_
    show Gm p e below T4 m 38 #[iv p0, iv p1, iv p2, iv p3, iv p4, iv p5, iv (1 : Int32), iv ia, iv ib, iv tt, .unset, .unset] [(.int (1 : Int32)), (.ref b4), (.ref b4)] _
    obtain ⟨_, _, ⟨T5, L5, k5, n5⟩, -, X5, ⟨Lc5, hQ5, l5, y5, z5⟩, st5⟩ := X4.specialBack hx (y := (⟨"com/example/throughfare/throughfare/simulation/Walkers", "<init>", "(I)V"⟩ : MethodName)) rfl hown (mvT hZ (hw _ (List.mem_of_getElem? (i := 4) rfl))) (mvT hZ (hw _ (List.mem_of_getElem? (i := 5) rfl))) (mvT hZ (hw _ (List.mem_of_getElem? (i := 6) rfl))) (by decide) (backOf (W := 1) (rm1_1 l Z a0 hw [] b4 h4 n0 Z4 A4 F_floor_b4 F_startCell_b4 F_cell_b4 F_speedMps_b4 F_reactionS_b4 F_heading_b4 F_heldUpS_b4 F_exitTimeS_b4 F_leaving_b4 F_exit_b4 F_distanceM_b4 g_b4) hZ (hw _ (List.mem_of_getElem? (i := 6) rfl)) (hw _ (List.mem_of_getElem? (i := 3) rfl)) (by decide) (by decide)) (g := (mkF m 38 #[iv p0, iv p1, iv p2, iv p3, iv p4, iv p5, iv (1 : Int32), iv ia, iv ib, iv tt, .unset, .unset] [(.int (1 : Int32)), (.ref b4), (.ref b4)])) rfl (by rw [hml]; rfl) (Steps.refl _) (a := b4) (argsL := [(.int (1 : Int32))]) (rest := [(.ref b4)]) (lenOf own_pd2 rfl) rfl (by show 2 * 0 + _ ≤ _; exact Nat.le_of_eq rfl) (Jvm.hb hby at_38) (fun _ _ => ⟨rfl, e4, (by decide : 1 + 11 ≤ _), (by decide : 11 + 11 ≤ _)⟩)
    dsimp only [Pt.U, Pt.locs, Pt.cells, Pt.slots] at X5 l5 y5 z5 st5 hQ5
    subst l5 y5 z5
    obtain ⟨floor5, startCell5, cell5, heading5, leaving5, exit5, rfl, Nq5, Kc5, Ec5, hs_floor5, Fc_floor5, Ac_floor5, hs_startCell5, Fc_startCell5, Ac_startCell5, hs_cell5, Fc_cell5, Ac_cell5, hs_heading5, Fc_heading5, Ac_heading5, hs_leaving5, Fc_leaving5, Ac_leaving5, hs_exit5, Fc_exit5, Ac_exit5, nn_floor_startCell5, nn_floor_cell5, nn_startCell_cell5, nn_floor_heading5, nn_startCell_heading5, nn_cell_heading5, nn_floor_leaving5, nn_startCell_leaving5, nn_cell_leaving5, nn_heading_leaving5, nn_floor_exit5, nn_startCell_exit5, nn_cell_exit5, nn_heading_exit5, nn_leaving_exit5⟩ := hQ5
    have N5 := Fr.app N0 Nq5
    refine own_go (fun t k => st5.trans k) ?_
    have ne_b4_floor5 : b4 ≠ floor5 := Nat.ne_of_lt (Nat.lt_of_lt_of_le A4.lt hs_floor5)
    have g_floor5 : n0 ≤ floor5 := Nat.le_trans Z4 hs_floor5
    have ne_b4_startCell5 : b4 ≠ startCell5 := Nat.ne_of_lt (Nat.lt_of_lt_of_le A4.lt hs_startCell5)
    have g_startCell5 : n0 ≤ startCell5 := Nat.le_trans Z4 hs_startCell5
    have ne_b4_cell5 : b4 ≠ cell5 := Nat.ne_of_lt (Nat.lt_of_lt_of_le A4.lt hs_cell5)
    have g_cell5 : n0 ≤ cell5 := Nat.le_trans Z4 hs_cell5
    have ne_b4_heading5 : b4 ≠ heading5 := Nat.ne_of_lt (Nat.lt_of_lt_of_le A4.lt hs_heading5)
    have g_heading5 : n0 ≤ heading5 := Nat.le_trans Z4 hs_heading5
    have ne_b4_leaving5 : b4 ≠ leaving5 := Nat.ne_of_lt (Nat.lt_of_lt_of_le A4.lt hs_leaving5)
    have g_leaving5 : n0 ≤ leaving5 := Nat.le_trans Z4 hs_leaving5
    have ne_b4_exit5 : b4 ≠ exit5 := Nat.ne_of_lt (Nat.lt_of_lt_of_le A4.lt hs_exit5)
    have g_exit5 : n0 ≤ exit5 := Nat.le_trans Z4 hs_exit5
    have Z5 : n0 ≤ T5.heap.size := Nat.le_trans Z4 Kc5.1
    show Gm p e below T5 m 41 #[iv p0, iv p1, iv p2, iv p3, iv p4, iv p5, iv (1 : Int32), iv ia, iv ib, iv tt, .unset, .unset] [(.ref b4)] _
    refine own_go (fun t₀ k₀ => XS.astore X5.here hx rfl (Jvm.hb hby at_41) rfl rfl (l' := #[iv p0, iv p1, iv p2, iv p3, iv p4, iv p5, iv (1 : Int32), iv ia, iv ib, iv tt, rv b4, .unset]) rfl k₀) ?_
    show Gm p e below T5 m 43 #[iv p0, iv p1, iv p2, iv p3, iv p4, iv p5, iv (1 : Int32), iv ia, iv ib, iv tt, rv b4, .unset] [] _
    refine own_go (fun t₀ k₀ => XS.aload X5.here hx rfl (Jvm.hb hby at_43) rfl rfl k₀) ?_
    show Gm p e below T5 m 45 #[iv p0, iv p1, iv p2, iv p3, iv p4, iv p5, iv (1 : Int32), iv ia, iv ib, iv tt, rv b4, .unset] [(.ref b4)] _
    refine own_go (fun t₀ k₀ => XS.iload X5.here hx rfl (Jvm.hb hby at_45) rfl k₀) ?_
    show Gm p e below T5 m 47 #[iv p0, iv p1, iv p2, iv p3, iv p4, iv p5, iv (1 : Int32), iv ia, iv ib, iv tt, rv b4, .unset] [(.int ia), (.ref b4)] _
    refine own_go (fun t₀ k₀ => XS.iloadN X5.here hx rfl (Jvm.hb hby at_47) rfl k₀) ?_
    show Gm p e below T5 m 48 #[iv p0, iv p1, iv p2, iv p3, iv p4, iv p5, iv (1 : Int32), iv ia, iv ib, iv tt, rv b4, .unset] [(.int p2), (.int ia), (.ref b4)] _
    refine own_go (fun t₀ k₀ => XS.iloadN X5.here hx rfl (Jvm.hb hby at_48) rfl k₀) ?_
    show Gm p e below T5 m 49 #[iv p0, iv p1, iv p2, iv p3, iv p4, iv p5, iv (1 : Int32), iv ia, iv ib, iv tt, rv b4, .unset] [(.int p3), (.int p2), (.int ia), (.ref b4)] _
    obtain ⟨cq6, kq6, q6a, q6b, q6c⟩ := isOf hZ rfl Ec5
    obtain ⟨_, _, ⟨T6, L6, k6, n6⟩, -, X6, ⟨Lc6, hQ6, l6, y6, z6⟩, st6⟩ := X5.virtualBack hx (y := (⟨"com/example/throughfare/throughfare/simulation/Walkers", "start", "(III)V"⟩ : MethodName)) (z := (⟨"com/example/throughfare/throughfare/simulation/Walkers", "start", "(III)V"⟩ : MethodName)) hown (mvT hZ (hw _ (List.mem_of_getElem? (i := 43) rfl))) (mvT hZ (hw _ (List.mem_of_getElem? (i := 44) rfl))) (notFace_of_selects (args := #[]) (mvT hZ (hw _ (List.mem_of_getElem? (i := 46) rfl)))) (mvT hZ (hw _ (List.mem_of_getElem? (i := 46) rfl))) (mvT hZ (hw _ (List.mem_of_getElem? (i := 45) rfl))) (by decide) (backOf (W := 0) (rm5 l Z a0 hw [] b4 ia p2 p3 floor5 startCell5 cell5 1 (fun _ => (0 : Int32)) (fun _ => (0 : Int32)) (fun _ => (0 : Int32)) T5.heap n0 Z5 Fc_floor5 Fc_startCell5 Fc_cell5 Ac_floor5 Ac_startCell5 Ac_cell5 ne_b4_floor5 ne_b4_startCell5 ne_b4_cell5 nn_floor_startCell5 nn_floor_cell5 nn_startCell_cell5 g_floor5 g_startCell5 g_cell5 hr_ia.1 hr_ia.2) hZ (hw _ (List.mem_of_getElem? (i := 47) rfl)) (hw _ (List.mem_of_getElem? (i := 3) rfl)) (by decide) (by decide)) q6a q6c (g := (mkF m 49 #[iv p0, iv p1, iv p2, iv p3, iv p4, iv p5, iv (1 : Int32), iv ia, iv ib, iv tt, rv b4, .unset] [(.int p3), (.int p2), (.int ia), (.ref b4)])) rfl (by rw [hml]; rfl) (Steps.refl _) (argsL := [(.int ia), (.int p2), (.int p3)]) (rest := []) (lenOf own_pd3 rfl) rfl (by show 2 * 0 + _ ≤ _; exact Nat.le_of_eq rfl) (Jvm.hb hby at_49) (fun _ _ => ⟨rfl, rfl, (by decide : 12 + 0 ≤ _), (by decide : 22 + 0 ≤ _)⟩)
    dsimp only [Pt.U, Pt.locs, Pt.cells, Pt.slots] at X6 l6 y6 z6 st6 hQ6
    subst l6 y6 z6
    obtain ⟨rfl, Nq6, Kc6, Ac_floor6, Ac_startCell6, Ac_cell6⟩ := hQ6
    have N6 := Fr.app N5 Nq6
    refine own_go (fun t k => st6.trans k) ?_
    have Z6 : n0 ≤ T6.heap.size := Nat.le_trans Z5 Kc6.1
    show Gm p e below T6 m 52 #[iv p0, iv p1, iv p2, iv p3, iv p4, iv p5, iv (1 : Int32), iv ia, iv ib, iv tt, rv b4, .unset] [] _
    refine own_go (fun t₀ k₀ => XS.aload X6.here hx rfl (Jvm.hb hby at_52) rfl rfl k₀) ?_
    show Gm p e below T6 m 54 #[iv p0, iv p1, iv p2, iv p3, iv p4, iv p5, iv (1 : Int32), iv ia, iv ib, iv tt, rv b4, .unset] [(.ref b4)] _
    refine own_go (fun t₀ k₀ => XS.iconst X6.here hx rfl (Jvm.hb hby at_54) k₀) ?_
    show Gm p e below T6 m 55 #[iv p0, iv p1, iv p2, iv p3, iv p4, iv p5, iv (1 : Int32), iv ia, iv ib, iv tt, rv b4, .unset] [(.int (0 : Int32)), (.ref b4)] _
    refine own_go (fun t₀ k₀ => XS.iload X6.here hx rfl (Jvm.hb hby at_55) rfl k₀) ?_
    show Gm p e below T6 m 57 #[iv p0, iv p1, iv p2, iv p3, iv p4, iv p5, iv (1 : Int32), iv ia, iv ib, iv tt, rv b4, .unset] [(.int (1 : Int32)), (.int (0 : Int32)), (.ref b4)] _
    refine own_go (fun t₀ k₀ => XS.iload X6.here hx rfl (Jvm.hb hby at_57) rfl k₀) ?_
    show Gm p e below T6 m 59 #[iv p0, iv p1, iv p2, iv p3, iv p4, iv p5, iv (1 : Int32), iv ia, iv ib, iv tt, rv b4, .unset] [(.int ia), (.int (1 : Int32)), (.int (0 : Int32)), (.ref b4)] _
    refine own_go (fun t₀ k₀ => XS.iloadN X6.here hx rfl (Jvm.hb hby at_59) rfl k₀) ?_
    show Gm p e below T6 m 60 #[iv p0, iv p1, iv p2, iv p3, iv p4, iv p5, iv (1 : Int32), iv ia, iv ib, iv tt, rv b4, .unset] [(.int p2), (.int ia), (.int (1 : Int32)), (.int (0 : Int32)), (.ref b4)] _
    refine own_go (fun t₀ k₀ => XS.iloadN X6.here hx rfl (Jvm.hb hby at_60) rfl k₀) ?_
    show Gm p e below T6 m 61 #[iv p0, iv p1, iv p2, iv p3, iv p4, iv p5, iv (1 : Int32), iv ia, iv ib, iv tt, rv b4, .unset] [(.int p3), (.int p2), (.int ia), (.int (1 : Int32)), (.int (0 : Int32)), (.ref b4)] _
    refine own_go (fun t₀ k₀ => XS.iconst X6.here hx rfl (Jvm.hb hby at_61) k₀) ?_
    show Gm p e below T6 m 62 #[iv p0, iv p1, iv p2, iv p3, iv p4, iv p5, iv (1 : Int32), iv ia, iv ib, iv tt, rv b4, .unset] [(.int (-1 : Int32)), (.int p3), (.int p2), (.int ia), (.int (1 : Int32)), (.int (0 : Int32)), (.ref b4)] _
    refine own_go (fun t₀ k₀ => XS.iconst X6.here hx rfl (Jvm.hb hby at_62) k₀) ?_
    show Gm p e below T6 m 63 #[iv p0, iv p1, iv p2, iv p3, iv p4, iv p5, iv (1 : Int32), iv ia, iv ib, iv tt, rv b4, .unset] [(.int (0 : Int32)), (.int (-1 : Int32)), (.int p3), (.int p2), (.int ia), (.int (1 : Int32)), (.int (0 : Int32)), (.ref b4)] _
    refine own_go (fun t₀ k₀ => XS.iconst X6.here hx rfl (Jvm.hb hby at_63) k₀) ?_
    show Gm p e below T6 m 64 #[iv p0, iv p1, iv p2, iv p3, iv p4, iv p5, iv (1 : Int32), iv ia, iv ib, iv tt, rv b4, .unset] [(.int (0 : Int32)), (.int (0 : Int32)), (.int (-1 : Int32)), (.int p3), (.int p2), (.int ia), (.int (1 : Int32)), (.int (0 : Int32)), (.ref b4)] _
    have f7 := (Fc_floor5.keep Kc6 (ninS ne_b4_floor5 (ninS ne_b4_startCell5 (ninS ne_b4_cell5 nin0))))
    have f8 := (Fc_startCell5.keep Kc6 (ninS ne_b4_floor5 (ninS ne_b4_startCell5 (ninS ne_b4_cell5 nin0))))
    have f9 := (Fc_cell5.keep Kc6 (ninS ne_b4_floor5 (ninS ne_b4_startCell5 (ninS ne_b4_cell5 nin0))))
    have f10 := (Fc_heading5.keep Kc6 (ninS ne_b4_floor5 (ninS ne_b4_startCell5 (ninS ne_b4_cell5 nin0))))
    have f11 := (Fc_leaving5.keep Kc6 (ninS ne_b4_floor5 (ninS ne_b4_startCell5 (ninS ne_b4_cell5 nin0))))
    have f12 := (Fc_exit5.keep Kc6 (ninS ne_b4_floor5 (ninS ne_b4_startCell5 (ninS ne_b4_cell5 nin0))))
    have f13 := (Ac_heading5.keep Kc6 (ninS (Ne.symm nn_floor_heading5) (ninS (Ne.symm nn_startCell_heading5) (ninS (Ne.symm nn_cell_heading5) nin0))))
    have f14 := (Ac_leaving5.keep Kc6 (ninS (Ne.symm nn_floor_leaving5) (ninS (Ne.symm nn_startCell_leaving5) (ninS (Ne.symm nn_cell_leaving5) nin0))))
    have f15 := (Ac_exit5.keep Kc6 (ninS (Ne.symm nn_floor_exit5) (ninS (Ne.symm nn_startCell_exit5) (ninS (Ne.symm nn_cell_exit5) nin0))))
    obtain ⟨_, _, ⟨T16, L16, k16, n16⟩, -, X16, ⟨Lc16, hQ16, l16, y16, z16⟩, st16⟩ := Jvm.LawKit.callS X6 hx (y := (⟨"com/example/throughfare/throughfare/simulation/WalkersStartPinLaw", "slot", "(Lcom/example/throughfare/throughfare/simulation/Walkers;IIIIIIII)Z"⟩ : MethodName)) hown (mvT hZ (hw _ (List.mem_of_getElem? (i := 48) rfl))) (mvT hZ (hw _ (List.mem_of_getElem? (i := 49) rfl))) (mvT hZ (hw _ (List.mem_of_getElem? (i := 50) rfl))) (mvT hZ (hw _ (List.mem_of_getElem? (i := 51) rfl))) (by decide) (backOf (W := 0) (rm6 l Z a0 hw [] b4 (0 : Int32) (1 : Int32) ia p2 p3 (-1 : Int32) (0 : Int32) (0 : Int32) floor5 startCell5 cell5 heading5 leaving5 exit5 1 (fun i => if i = ia.toNatClampNeg then p2 else (fun _ => (0 : Int32)) i) (fun i => if i = ia.toNatClampNeg then p3 else (fun _ => (0 : Int32)) i) (fun i => if i = ia.toNatClampNeg then p3 else (fun _ => (0 : Int32)) i) (fun _ => (0 : Int32)) (fun _ => (-1 : Int32)) (fun _ => (-1 : Int32)) T6.heap n0 Z6 f7 f8 f9 f10 f11 f12 Ac_floor6 Ac_startCell6 Ac_cell6 f13 f14 f15 (by decide) (by decide) (own_s1 (by decide) hr_ia.1 (by decide)) (own_s1 (by decide) hr_ia.1 (by decide)) (own_s1 (by decide) hr_ia.1 (by decide)) rfl rfl rfl) hZ (hw _ (List.mem_of_getElem? (i := 51) rfl)) (hw _ (List.mem_of_getElem? (i := 50) rfl)) (by decide) (by decide)) (g := (mkF m 64 #[iv p0, iv p1, iv p2, iv p3, iv p4, iv p5, iv (1 : Int32), iv ia, iv ib, iv tt, rv b4, .unset] [(.int (0 : Int32)), (.int (0 : Int32)), (.int (-1 : Int32)), (.int p3), (.int p2), (.int ia), (.int (1 : Int32)), (.int (0 : Int32)), (.ref b4)])) rfl (by rw [hml]; rfl) (argsL := [(.ref b4), (.int (0 : Int32)), (.int (1 : Int32)), (.int ia), (.int p2), (.int p3), (.int (-1 : Int32)), (.int (0 : Int32)), (.int (0 : Int32))]) (rest := []) (lenOf own_pd4 rfl) rfl (by show 2 * 0 + _ ≤ _; exact Nat.le_of_eq rfl) (Jvm.hb hby at_64) (fun _ _ => ⟨rfl, rfl, (by decide : 12 + 0 ≤ _), (by decide : 22 + 0 ≤ _)⟩)
    dsimp only [Pt.U, Pt.locs, Pt.cells, Pt.slots] at X16 l16 y16 z16 st16 hQ16
    subst l16 y16 z16
    obtain ⟨rfl, Nq16, eq16⟩ := hQ16
    have N16 := Fr.app N6 Nq16
    have e16 : T16.heap = T6.heap := eq16
    refine own_go st16 ?_
    show Gm p e below T16 m 67 #[iv p0, iv p1, iv p2, iv p3, iv p4, iv p5, iv (1 : Int32), iv ia, iv ib, iv tt, rv b4, .unset] [(.int (1 : Int32))] _
    refine own_go (fun t₀ k₀ => XS.ifNo X16.here hx rfl (Jvm.hb hby at_67) rfl (XT.i0_eq_f (by decide)) k₀) ?_
    show Gm p e below T16 m 70 #[iv p0, iv p1, iv p2, iv p3, iv p4, iv p5, iv (1 : Int32), iv ia, iv ib, iv tt, rv b4, .unset] [] _
    refine own_go (fun t₀ k₀ => XS.aload X16.here hx rfl (Jvm.hb hby at_70) rfl rfl k₀) ?_
    show Gm p e below T16 m 72 #[iv p0, iv p1, iv p2, iv p3, iv p4, iv p5, iv (1 : Int32), iv ia, iv ib, iv tt, rv b4, .unset] [(.ref b4)] _
    refine own_go (fun t₀ k₀ => XS.iconst X16.here hx rfl (Jvm.hb hby at_72) k₀) ?_
    show Gm p e below T16 m 73 #[iv p0, iv p1, iv p2, iv p3, iv p4, iv p5, iv (1 : Int32), iv ia, iv ib, iv tt, rv b4, .unset] [(.int (1 : Int32)), (.ref b4)] _
    refine own_go (fun t₀ k₀ => XS.iload X16.here hx rfl (Jvm.hb hby at_73) rfl k₀) ?_
    show Gm p e below T16 m 75 #[iv p0, iv p1, iv p2, iv p3, iv p4, iv p5, iv (1 : Int32), iv ia, iv ib, iv tt, rv b4, .unset] [(.int (1 : Int32)), (.int (1 : Int32)), (.ref b4)] _
    refine own_go (fun t₀ k₀ => XS.iload X16.here hx rfl (Jvm.hb hby at_75) rfl k₀) ?_
    show Gm p e below T16 m 77 #[iv p0, iv p1, iv p2, iv p3, iv p4, iv p5, iv (1 : Int32), iv ia, iv ib, iv tt, rv b4, .unset] [(.int ia), (.int (1 : Int32)), (.int (1 : Int32)), (.ref b4)] _
    refine own_go (fun t₀ k₀ => XS.iloadN X16.here hx rfl (Jvm.hb hby at_77) rfl k₀) ?_
    show Gm p e below T16 m 78 #[iv p0, iv p1, iv p2, iv p3, iv p4, iv p5, iv (1 : Int32), iv ia, iv ib, iv tt, rv b4, .unset] [(.int p2), (.int ia), (.int (1 : Int32)), (.int (1 : Int32)), (.ref b4)] _
    refine own_go (fun t₀ k₀ => XS.iloadN X16.here hx rfl (Jvm.hb hby at_78) rfl k₀) ?_
    show Gm p e below T16 m 79 #[iv p0, iv p1, iv p2, iv p3, iv p4, iv p5, iv (1 : Int32), iv ia, iv ib, iv tt, rv b4, .unset] [(.int p3), (.int p2), (.int ia), (.int (1 : Int32)), (.int (1 : Int32)), (.ref b4)] _
    refine own_go (fun t₀ k₀ => XS.iconst X16.here hx rfl (Jvm.hb hby at_79) k₀) ?_
    show Gm p e below T16 m 80 #[iv p0, iv p1, iv p2, iv p3, iv p4, iv p5, iv (1 : Int32), iv ia, iv ib, iv tt, rv b4, .unset] [(.int (-1 : Int32)), (.int p3), (.int p2), (.int ia), (.int (1 : Int32)), (.int (1 : Int32)), (.ref b4)] _
    refine own_go (fun t₀ k₀ => XS.iconst X16.here hx rfl (Jvm.hb hby at_80) k₀) ?_
    show Gm p e below T16 m 81 #[iv p0, iv p1, iv p2, iv p3, iv p4, iv p5, iv (1 : Int32), iv ia, iv ib, iv tt, rv b4, .unset] [(.int (0 : Int32)), (.int (-1 : Int32)), (.int p3), (.int p2), (.int ia), (.int (1 : Int32)), (.int (1 : Int32)), (.ref b4)] _
    refine own_go (fun t₀ k₀ => XS.iconst X16.here hx rfl (Jvm.hb hby at_81) k₀) ?_
    show Gm p e below T16 m 82 #[iv p0, iv p1, iv p2, iv p3, iv p4, iv p5, iv (1 : Int32), iv ia, iv ib, iv tt, rv b4, .unset] [(.int (0 : Int32)), (.int (0 : Int32)), (.int (-1 : Int32)), (.int p3), (.int p2), (.int ia), (.int (1 : Int32)), (.int (1 : Int32)), (.ref b4)] _
    obtain ⟨_, _, ⟨T17, L17, k17, n17⟩, -, X17, ⟨Lc17, hQ17, l17, y17, z17⟩, st17⟩ := Jvm.LawKit.callS X16 hx (y := (⟨"com/example/throughfare/throughfare/simulation/WalkersStartPinLaw", "slot", "(Lcom/example/throughfare/throughfare/simulation/Walkers;IIIIIIII)Z"⟩ : MethodName)) hown (mvT hZ (hw _ (List.mem_of_getElem? (i := 48) rfl))) (mvT hZ (hw _ (List.mem_of_getElem? (i := 49) rfl))) (mvT hZ (hw _ (List.mem_of_getElem? (i := 50) rfl))) (mvT hZ (hw _ (List.mem_of_getElem? (i := 51) rfl))) (by decide) (backOf (W := 0) (rm6 l Z a0 hw [] b4 (1 : Int32) (1 : Int32) ia p2 p3 (-1 : Int32) (0 : Int32) (0 : Int32) floor5 startCell5 cell5 heading5 leaving5 exit5 1 (fun i => if i = ia.toNatClampNeg then p2 else (fun _ => (0 : Int32)) i) (fun i => if i = ia.toNatClampNeg then p3 else (fun _ => (0 : Int32)) i) (fun i => if i = ia.toNatClampNeg then p3 else (fun _ => (0 : Int32)) i) (fun _ => (0 : Int32)) (fun _ => (-1 : Int32)) (fun _ => (-1 : Int32)) T6.heap n0 Z6 f7 f8 f9 f10 f11 f12 Ac_floor6 Ac_startCell6 Ac_cell6 f13 f14 f15 (by decide) (by decide) (own_s1 (by decide) hr_ia.1 (by decide)) (own_s1 (by decide) hr_ia.1 (by decide)) (own_s1 (by decide) hr_ia.1 (by decide)) rfl rfl rfl) hZ (hw _ (List.mem_of_getElem? (i := 51) rfl)) (hw _ (List.mem_of_getElem? (i := 50) rfl)) (by decide) (by decide)) (g := (mkF m 82 #[iv p0, iv p1, iv p2, iv p3, iv p4, iv p5, iv (1 : Int32), iv ia, iv ib, iv tt, rv b4, .unset] [(.int (0 : Int32)), (.int (0 : Int32)), (.int (-1 : Int32)), (.int p3), (.int p2), (.int ia), (.int (1 : Int32)), (.int (1 : Int32)), (.ref b4)])) rfl (by rw [hml]; rfl) (argsL := [(.ref b4), (.int (1 : Int32)), (.int (1 : Int32)), (.int ia), (.int p2), (.int p3), (.int (-1 : Int32)), (.int (0 : Int32)), (.int (0 : Int32))]) (rest := []) (lenOf own_pd4 rfl) rfl (by show 2 * 0 + _ ≤ _; exact Nat.le_of_eq rfl) (Jvm.hb hby at_82) (fun _ _ => ⟨rfl, e16, (by decide : 12 + 0 ≤ _), (by decide : 22 + 0 ≤ _)⟩)
    dsimp only [Pt.U, Pt.locs, Pt.cells, Pt.slots] at X17 l17 y17 z17 st17 hQ17
    subst l17 y17 z17
    obtain ⟨rfl, Nq17, eq17⟩ := hQ17
    have N17 := Fr.app N16 Nq17
    have e17 : T17.heap = T6.heap := eq17
    refine own_go st17 ?_
    show Gm p e below T17 m 85 #[iv p0, iv p1, iv p2, iv p3, iv p4, iv p5, iv (1 : Int32), iv ia, iv ib, iv tt, rv b4, .unset] [(.int (1 : Int32))] _
    refine own_go (fun t₀ k₀ => XS.ifNo X17.here hx rfl (Jvm.hb hby at_85) rfl (XT.i0_eq_f (by decide)) k₀) ?_
    show Gm p e below T17 m 88 #[iv p0, iv p1, iv p2, iv p3, iv p4, iv p5, iv (1 : Int32), iv ia, iv ib, iv tt, rv b4, .unset] [] _
    refine own_go (fun t₀ k₀ => XS.aload X17.here hx rfl (Jvm.hb hby at_88) rfl rfl k₀) ?_
    show Gm p e below T17 m 90 #[iv p0, iv p1, iv p2, iv p3, iv p4, iv p5, iv (1 : Int32), iv ia, iv ib, iv tt, rv b4, .unset] [(.ref b4)] _
    refine own_go (fun t₀ k₀ => XS.iconst X17.here hx rfl (Jvm.hb hby at_90) k₀) ?_
    show Gm p e below T17 m 91 #[iv p0, iv p1, iv p2, iv p3, iv p4, iv p5, iv (1 : Int32), iv ia, iv ib, iv tt, rv b4, .unset] [(.int (2 : Int32)), (.ref b4)] _
    refine own_go (fun t₀ k₀ => XS.iload X17.here hx rfl (Jvm.hb hby at_91) rfl k₀) ?_
    show Gm p e below T17 m 93 #[iv p0, iv p1, iv p2, iv p3, iv p4, iv p5, iv (1 : Int32), iv ia, iv ib, iv tt, rv b4, .unset] [(.int (1 : Int32)), (.int (2 : Int32)), (.ref b4)] _
    refine own_go (fun t₀ k₀ => XS.iload X17.here hx rfl (Jvm.hb hby at_93) rfl k₀) ?_
    show Gm p e below T17 m 95 #[iv p0, iv p1, iv p2, iv p3, iv p4, iv p5, iv (1 : Int32), iv ia, iv ib, iv tt, rv b4, .unset] [(.int ia), (.int (1 : Int32)), (.int (2 : Int32)), (.ref b4)] _
    refine own_go (fun t₀ k₀ => XS.iloadN X17.here hx rfl (Jvm.hb hby at_95) rfl k₀) ?_
    show Gm p e below T17 m 96 #[iv p0, iv p1, iv p2, iv p3, iv p4, iv p5, iv (1 : Int32), iv ia, iv ib, iv tt, rv b4, .unset] [(.int p2), (.int ia), (.int (1 : Int32)), (.int (2 : Int32)), (.ref b4)] _
    refine own_go (fun t₀ k₀ => XS.iloadN X17.here hx rfl (Jvm.hb hby at_96) rfl k₀) ?_
    show Gm p e below T17 m 97 #[iv p0, iv p1, iv p2, iv p3, iv p4, iv p5, iv (1 : Int32), iv ia, iv ib, iv tt, rv b4, .unset] [(.int p3), (.int p2), (.int ia), (.int (1 : Int32)), (.int (2 : Int32)), (.ref b4)] _
    refine own_go (fun t₀ k₀ => XS.iconst X17.here hx rfl (Jvm.hb hby at_97) k₀) ?_
    show Gm p e below T17 m 98 #[iv p0, iv p1, iv p2, iv p3, iv p4, iv p5, iv (1 : Int32), iv ia, iv ib, iv tt, rv b4, .unset] [(.int (-1 : Int32)), (.int p3), (.int p2), (.int ia), (.int (1 : Int32)), (.int (2 : Int32)), (.ref b4)] _
    refine own_go (fun t₀ k₀ => XS.iconst X17.here hx rfl (Jvm.hb hby at_98) k₀) ?_
    show Gm p e below T17 m 99 #[iv p0, iv p1, iv p2, iv p3, iv p4, iv p5, iv (1 : Int32), iv ia, iv ib, iv tt, rv b4, .unset] [(.int (0 : Int32)), (.int (-1 : Int32)), (.int p3), (.int p2), (.int ia), (.int (1 : Int32)), (.int (2 : Int32)), (.ref b4)] _
    refine own_go (fun t₀ k₀ => XS.iconst X17.here hx rfl (Jvm.hb hby at_99) k₀) ?_
    show Gm p e below T17 m 100 #[iv p0, iv p1, iv p2, iv p3, iv p4, iv p5, iv (1 : Int32), iv ia, iv ib, iv tt, rv b4, .unset] [(.int (0 : Int32)), (.int (0 : Int32)), (.int (-1 : Int32)), (.int p3), (.int p2), (.int ia), (.int (1 : Int32)), (.int (2 : Int32)), (.ref b4)] _
    obtain ⟨_, _, ⟨T18, L18, k18, n18⟩, -, X18, ⟨Lc18, hQ18, l18, y18, z18⟩, st18⟩ := Jvm.LawKit.callS X17 hx (y := (⟨"com/example/throughfare/throughfare/simulation/WalkersStartPinLaw", "slot", "(Lcom/example/throughfare/throughfare/simulation/Walkers;IIIIIIII)Z"⟩ : MethodName)) hown (mvT hZ (hw _ (List.mem_of_getElem? (i := 48) rfl))) (mvT hZ (hw _ (List.mem_of_getElem? (i := 49) rfl))) (mvT hZ (hw _ (List.mem_of_getElem? (i := 50) rfl))) (mvT hZ (hw _ (List.mem_of_getElem? (i := 51) rfl))) (by decide) (backOf (W := 0) (rm6 l Z a0 hw [] b4 (2 : Int32) (1 : Int32) ia p2 p3 (-1 : Int32) (0 : Int32) (0 : Int32) floor5 startCell5 cell5 heading5 leaving5 exit5 1 (fun i => if i = ia.toNatClampNeg then p2 else (fun _ => (0 : Int32)) i) (fun i => if i = ia.toNatClampNeg then p3 else (fun _ => (0 : Int32)) i) (fun i => if i = ia.toNatClampNeg then p3 else (fun _ => (0 : Int32)) i) (fun _ => (0 : Int32)) (fun _ => (-1 : Int32)) (fun _ => (-1 : Int32)) T6.heap n0 Z6 f7 f8 f9 f10 f11 f12 Ac_floor6 Ac_startCell6 Ac_cell6 f13 f14 f15 (by decide) (by decide) (own_s1 (by decide) hr_ia.1 (by decide)) (own_s1 (by decide) hr_ia.1 (by decide)) (own_s1 (by decide) hr_ia.1 (by decide)) rfl rfl rfl) hZ (hw _ (List.mem_of_getElem? (i := 51) rfl)) (hw _ (List.mem_of_getElem? (i := 50) rfl)) (by decide) (by decide)) (g := (mkF m 100 #[iv p0, iv p1, iv p2, iv p3, iv p4, iv p5, iv (1 : Int32), iv ia, iv ib, iv tt, rv b4, .unset] [(.int (0 : Int32)), (.int (0 : Int32)), (.int (-1 : Int32)), (.int p3), (.int p2), (.int ia), (.int (1 : Int32)), (.int (2 : Int32)), (.ref b4)])) rfl (by rw [hml]; rfl) (argsL := [(.ref b4), (.int (2 : Int32)), (.int (1 : Int32)), (.int ia), (.int p2), (.int p3), (.int (-1 : Int32)), (.int (0 : Int32)), (.int (0 : Int32))]) (rest := []) (lenOf own_pd4 rfl) rfl (by show 2 * 0 + _ ≤ _; exact Nat.le_of_eq rfl) (Jvm.hb hby at_100) (fun _ _ => ⟨rfl, e17, (by decide : 12 + 0 ≤ _), (by decide : 22 + 0 ≤ _)⟩)
    dsimp only [Pt.U, Pt.locs, Pt.cells, Pt.slots] at X18 l18 y18 z18 st18 hQ18
    subst l18 y18 z18
    obtain ⟨rfl, Nq18, eq18⟩ := hQ18
    have N18 := Fr.app N17 Nq18
    have e18 : T18.heap = T6.heap := eq18
    refine own_go st18 ?_
    show Gm p e below T18 m 103 #[iv p0, iv p1, iv p2, iv p3, iv p4, iv p5, iv (1 : Int32), iv ia, iv ib, iv tt, rv b4, .unset] [(.int (1 : Int32))] _
    refine own_go (fun t₀ k₀ => XS.ifNo X18.here hx rfl (Jvm.hb hby at_103) rfl (XT.i0_eq_f (by decide)) k₀) ?_
    show Gm p e below T18 m 106 #[iv p0, iv p1, iv p2, iv p3, iv p4, iv p5, iv (1 : Int32), iv ia, iv ib, iv tt, rv b4, .unset] [] _
    refine own_go (fun t₀ k₀ => XS.aload X18.here hx rfl (Jvm.hb hby at_106) rfl rfl k₀) ?_
    show Gm p e below T18 m 108 #[iv p0, iv p1, iv p2, iv p3, iv p4, iv p5, iv (1 : Int32), iv ia, iv ib, iv tt, rv b4, .unset] [(.ref b4)] _
    refine own_go (fun t₀ k₀ => XS.iconst X18.here hx rfl (Jvm.hb hby at_108) k₀) ?_
    show Gm p e below T18 m 109 #[iv p0, iv p1, iv p2, iv p3, iv p4, iv p5, iv (1 : Int32), iv ia, iv ib, iv tt, rv b4, .unset] [(.int (3 : Int32)), (.ref b4)] _
    refine own_go (fun t₀ k₀ => XS.iload X18.here hx rfl (Jvm.hb hby at_109) rfl k₀) ?_
    show Gm p e below T18 m 111 #[iv p0, iv p1, iv p2, iv p3, iv p4, iv p5, iv (1 : Int32), iv ia, iv ib, iv tt, rv b4, .unset] [(.int (1 : Int32)), (.int (3 : Int32)), (.ref b4)] _
    refine own_go (fun t₀ k₀ => XS.iload X18.here hx rfl (Jvm.hb hby at_111) rfl k₀) ?_
    show Gm p e below T18 m 113 #[iv p0, iv p1, iv p2, iv p3, iv p4, iv p5, iv (1 : Int32), iv ia, iv ib, iv tt, rv b4, .unset] [(.int ia), (.int (1 : Int32)), (.int (3 : Int32)), (.ref b4)] _
    refine own_go (fun t₀ k₀ => XS.iloadN X18.here hx rfl (Jvm.hb hby at_113) rfl k₀) ?_
    show Gm p e below T18 m 114 #[iv p0, iv p1, iv p2, iv p3, iv p4, iv p5, iv (1 : Int32), iv ia, iv ib, iv tt, rv b4, .unset] [(.int p2), (.int ia), (.int (1 : Int32)), (.int (3 : Int32)), (.ref b4)] _
    refine own_go (fun t₀ k₀ => XS.iloadN X18.here hx rfl (Jvm.hb hby at_114) rfl k₀) ?_
    show Gm p e below T18 m 115 #[iv p0, iv p1, iv p2, iv p3, iv p4, iv p5, iv (1 : Int32), iv ia, iv ib, iv tt, rv b4, .unset] [(.int p3), (.int p2), (.int ia), (.int (1 : Int32)), (.int (3 : Int32)), (.ref b4)] _
    refine own_go (fun t₀ k₀ => XS.iconst X18.here hx rfl (Jvm.hb hby at_115) k₀) ?_
    show Gm p e below T18 m 116 #[iv p0, iv p1, iv p2, iv p3, iv p4, iv p5, iv (1 : Int32), iv ia, iv ib, iv tt, rv b4, .unset] [(.int (-1 : Int32)), (.int p3), (.int p2), (.int ia), (.int (1 : Int32)), (.int (3 : Int32)), (.ref b4)] _
    refine own_go (fun t₀ k₀ => XS.iconst X18.here hx rfl (Jvm.hb hby at_116) k₀) ?_
    show Gm p e below T18 m 117 #[iv p0, iv p1, iv p2, iv p3, iv p4, iv p5, iv (1 : Int32), iv ia, iv ib, iv tt, rv b4, .unset] [(.int (0 : Int32)), (.int (-1 : Int32)), (.int p3), (.int p2), (.int ia), (.int (1 : Int32)), (.int (3 : Int32)), (.ref b4)] _
    refine own_go (fun t₀ k₀ => XS.iconst X18.here hx rfl (Jvm.hb hby at_117) k₀) ?_
    show Gm p e below T18 m 118 #[iv p0, iv p1, iv p2, iv p3, iv p4, iv p5, iv (1 : Int32), iv ia, iv ib, iv tt, rv b4, .unset] [(.int (0 : Int32)), (.int (0 : Int32)), (.int (-1 : Int32)), (.int p3), (.int p2), (.int ia), (.int (1 : Int32)), (.int (3 : Int32)), (.ref b4)] _
    obtain ⟨_, _, ⟨T19, L19, k19, n19⟩, -, X19, ⟨Lc19, hQ19, l19, y19, z19⟩, st19⟩ := Jvm.LawKit.callS X18 hx (y := (⟨"com/example/throughfare/throughfare/simulation/WalkersStartPinLaw", "slot", "(Lcom/example/throughfare/throughfare/simulation/Walkers;IIIIIIII)Z"⟩ : MethodName)) hown (mvT hZ (hw _ (List.mem_of_getElem? (i := 48) rfl))) (mvT hZ (hw _ (List.mem_of_getElem? (i := 49) rfl))) (mvT hZ (hw _ (List.mem_of_getElem? (i := 50) rfl))) (mvT hZ (hw _ (List.mem_of_getElem? (i := 51) rfl))) (by decide) (backOf (W := 0) (rm6 l Z a0 hw [] b4 (3 : Int32) (1 : Int32) ia p2 p3 (-1 : Int32) (0 : Int32) (0 : Int32) floor5 startCell5 cell5 heading5 leaving5 exit5 1 (fun i => if i = ia.toNatClampNeg then p2 else (fun _ => (0 : Int32)) i) (fun i => if i = ia.toNatClampNeg then p3 else (fun _ => (0 : Int32)) i) (fun i => if i = ia.toNatClampNeg then p3 else (fun _ => (0 : Int32)) i) (fun _ => (0 : Int32)) (fun _ => (-1 : Int32)) (fun _ => (-1 : Int32)) T6.heap n0 Z6 f7 f8 f9 f10 f11 f12 Ac_floor6 Ac_startCell6 Ac_cell6 f13 f14 f15 (by decide) (by decide) (own_s1 (by decide) hr_ia.1 (by decide)) (own_s1 (by decide) hr_ia.1 (by decide)) (own_s1 (by decide) hr_ia.1 (by decide)) rfl rfl rfl) hZ (hw _ (List.mem_of_getElem? (i := 51) rfl)) (hw _ (List.mem_of_getElem? (i := 50) rfl)) (by decide) (by decide)) (g := (mkF m 118 #[iv p0, iv p1, iv p2, iv p3, iv p4, iv p5, iv (1 : Int32), iv ia, iv ib, iv tt, rv b4, .unset] [(.int (0 : Int32)), (.int (0 : Int32)), (.int (-1 : Int32)), (.int p3), (.int p2), (.int ia), (.int (1 : Int32)), (.int (3 : Int32)), (.ref b4)])) rfl (by rw [hml]; rfl) (argsL := [(.ref b4), (.int (3 : Int32)), (.int (1 : Int32)), (.int ia), (.int p2), (.int p3), (.int (-1 : Int32)), (.int (0 : Int32)), (.int (0 : Int32))]) (rest := []) (lenOf own_pd4 rfl) rfl (by show 2 * 0 + _ ≤ _; exact Nat.le_of_eq rfl) (Jvm.hb hby at_118) (fun _ _ => ⟨rfl, e18, (by decide : 12 + 0 ≤ _), (by decide : 22 + 0 ≤ _)⟩)
    dsimp only [Pt.U, Pt.locs, Pt.cells, Pt.slots] at X19 l19 y19 z19 st19 hQ19
    subst l19 y19 z19
    obtain ⟨rfl, Nq19, eq19⟩ := hQ19
    have N19 := Fr.app N18 Nq19
    have e19 : T19.heap = T6.heap := eq19
    refine own_go st19 ?_
    show Gm p e below T19 m 121 #[iv p0, iv p1, iv p2, iv p3, iv p4, iv p5, iv (1 : Int32), iv ia, iv ib, iv tt, rv b4, .unset] [(.int (1 : Int32))] _
    refine own_go (fun t₀ k₀ => XS.ifNo X19.here hx rfl (Jvm.hb hby at_121) rfl (XT.i0_eq_f (by decide)) k₀) ?_
    show Gm p e below T19 m 124 #[iv p0, iv p1, iv p2, iv p3, iv p4, iv p5, iv (1 : Int32), iv ia, iv ib, iv tt, rv b4, .unset] [] _
    refine own_go (fun t₀ k₀ => XS.iconst X19.here hx rfl (Jvm.hb hby at_124) k₀) ?_
    show Gm p e below T19 m 125 #[iv p0, iv p1, iv p2, iv p3, iv p4, iv p5, iv (1 : Int32), iv ia, iv ib, iv tt, rv b4, .unset] [(.int (1 : Int32))] _
    refine own_go (fun t₀ k₀ => XS.goto X19.here hx rfl (pc0 := 125) (pc' := 129) rfl (Jvm.hb hby at_125) (by decide) (by decide) k₀) ?_
    show Gm p e below T19 m 129 #[iv p0, iv p1, iv p2, iv p3, iv p4, iv p5, iv (1 : Int32), iv ia, iv ib, iv tt, rv b4, .unset] [(.int (1 : Int32))] _
    refine own_go (fun t₀ k₀ => XS.istore X19.here hx rfl (Jvm.hb hby at_129) rfl (l' := #[iv p0, iv p1, iv p2, iv p3, iv p4, iv p5, iv (1 : Int32), iv ia, iv ib, iv tt, rv b4, iv (1 : Int32)]) rfl k₀) ?_
    show Gm p e below T19 m 131 #[iv p0, iv p1, iv p2, iv p3, iv p4, iv p5, iv (1 : Int32), iv ia, iv ib, iv tt, rv b4, iv (1 : Int32)] [] _
    refine own_go (fun t₀ k₀ => XS.aload X19.here hx rfl (Jvm.hb hby at_131) rfl rfl k₀) ?_
    show Gm p e below T19 m 133 #[iv p0, iv p1, iv p2, iv p3, iv p4, iv p5, iv (1 : Int32), iv ia, iv ib, iv tt, rv b4, iv (1 : Int32)] [(.ref b4)] _
    refine own_go (fun t₀ k₀ => XS.iload X19.here hx rfl (Jvm.hb hby at_133) rfl k₀) ?_
    show Gm p e below T19 m 135 #[iv p0, iv p1, iv p2, iv p3, iv p4, iv p5, iv (1 : Int32), iv ia, iv ib, iv tt, rv b4, iv (1 : Int32)] [(.int ib), (.ref b4)] _
    refine own_go (fun t₀ k₀ => XS.iload X19.here hx rfl (Jvm.hb hby at_135) rfl k₀) ?_
    show Gm p e below T19 m 137 #[iv p0, iv p1, iv p2, iv p3, iv p4, iv p5, iv (1 : Int32), iv ia, iv ib, iv tt, rv b4, iv (1 : Int32)] [(.int p5), (.int ib), (.ref b4)] _
    refine own_go (fun t₀ k₀ => XS.iload X19.here hx rfl (Jvm.hb hby at_137) rfl k₀) ?_
    show Gm p e below T19 m 139 #[iv p0, iv p1, iv p2, iv p3, iv p4, iv p5, iv (1 : Int32), iv ia, iv ib, iv tt, rv b4, iv (1 : Int32)] [(.int tt), (.int p5), (.int ib), (.ref b4)] _
    have f21 := (Ec5.keep Kc6)
    obtain ⟨cq20, kq20, q20a, q20b, q20c⟩ := isOf hZ e19 f21
    obtain ⟨_, _, ⟨T20, L20, k20, n20⟩, -, X20, ⟨Lc20, hQ20, l20, y20, z20⟩, st20⟩ := X19.virtualBack hx (y := (⟨"com/example/throughfare/throughfare/simulation/Walkers", "start", "(III)V"⟩ : MethodName)) (z := (⟨"com/example/throughfare/throughfare/simulation/Walkers", "start", "(III)V"⟩ : MethodName)) hown (mvT hZ (hw _ (List.mem_of_getElem? (i := 43) rfl))) (mvT hZ (hw _ (List.mem_of_getElem? (i := 44) rfl))) (notFace_of_selects (args := #[]) (mvT hZ (hw _ (List.mem_of_getElem? (i := 46) rfl)))) (mvT hZ (hw _ (List.mem_of_getElem? (i := 46) rfl))) (mvT hZ (hw _ (List.mem_of_getElem? (i := 45) rfl))) (by decide) (backOf (W := 0) (rm5 l Z a0 hw [] b4 ib p5 tt floor5 startCell5 cell5 1 (fun i => if i = ia.toNatClampNeg then p2 else (fun _ => (0 : Int32)) i) (fun i => if i = ia.toNatClampNeg then p3 else (fun _ => (0 : Int32)) i) (fun i => if i = ia.toNatClampNeg then p3 else (fun _ => (0 : Int32)) i) T6.heap n0 Z6 f7 f8 f9 Ac_floor6 Ac_startCell6 Ac_cell6 ne_b4_floor5 ne_b4_startCell5 ne_b4_cell5 nn_floor_startCell5 nn_floor_cell5 nn_startCell_cell5 g_floor5 g_startCell5 g_cell5 hr_ib.1 hr_ib.2) hZ (hw _ (List.mem_of_getElem? (i := 47) rfl)) (hw _ (List.mem_of_getElem? (i := 3) rfl)) (by decide) (by decide)) q20a q20c (g := (mkF m 139 #[iv p0, iv p1, iv p2, iv p3, iv p4, iv p5, iv (1 : Int32), iv ia, iv ib, iv tt, rv b4, iv (1 : Int32)] [(.int tt), (.int p5), (.int ib), (.ref b4)])) rfl (by rw [hml]; rfl) (Steps.refl _) (argsL := [(.int ib), (.int p5), (.int tt)]) (rest := []) (lenOf own_pd3 rfl) rfl (by show 2 * 0 + _ ≤ _; exact Nat.le_of_eq rfl) (Jvm.hb hby at_139) (fun _ _ => ⟨rfl, e19, (by decide : 12 + 0 ≤ _), (by decide : 22 + 0 ≤ _)⟩)
    dsimp only [Pt.U, Pt.locs, Pt.cells, Pt.slots] at X20 l20 y20 z20 st20 hQ20
    subst l20 y20 z20
    obtain ⟨rfl, Nq20, Kc20, Ac_floor20, Ac_startCell20, Ac_cell20⟩ := hQ20
    have N20 := Fr.app N19 Nq20
    refine own_go (fun t k => st20.trans k) ?_
    have Z20 : n0 ≤ T20.heap.size := Nat.le_trans Z6 Kc20.1
    show Gm p e below T20 m 142 #[iv p0, iv p1, iv p2, iv p3, iv p4, iv p5, iv (1 : Int32), iv ia, iv ib, iv tt, rv b4, iv (1 : Int32)] [] _
    refine own_go (fun t₀ k₀ => XS.iload X20.here hx rfl (Jvm.hb hby at_142) rfl k₀) ?_
    show Gm p e below T20 m 144 #[iv p0, iv p1, iv p2, iv p3, iv p4, iv p5, iv (1 : Int32), iv ia, iv ib, iv tt, rv b4, iv (1 : Int32)] [(.int (1 : Int32))] _
    refine own_go (fun t₀ k₀ => XS.ifNo X20.here hx rfl (Jvm.hb hby at_144) rfl (XT.i0_eq_f (by decide)) k₀) ?_
    show Gm p e below T20 m 147 #[iv p0, iv p1, iv p2, iv p3, iv p4, iv p5, iv (1 : Int32), iv ia, iv ib, iv tt, rv b4, iv (1 : Int32)] [] _
    refine own_go (fun t₀ k₀ => XS.aload X20.here hx rfl (Jvm.hb hby at_147) rfl rfl k₀) ?_
    show Gm p e below T20 m 149 #[iv p0, iv p1, iv p2, iv p3, iv p4, iv p5, iv (1 : Int32), iv ia, iv ib, iv tt, rv b4, iv (1 : Int32)] [(.ref b4)] _
    refine own_go (fun t₀ k₀ => XS.iconst X20.here hx rfl (Jvm.hb hby at_149) k₀) ?_
    show Gm p e below T20 m 150 #[iv p0, iv p1, iv p2, iv p3, iv p4, iv p5, iv (1 : Int32), iv ia, iv ib, iv tt, rv b4, iv (1 : Int32)] [(.int (0 : Int32)), (.ref b4)] _
    refine own_go (fun t₀ k₀ => XS.iload X20.here hx rfl (Jvm.hb hby at_150) rfl k₀) ?_
    show Gm p e below T20 m 152 #[iv p0, iv p1, iv p2, iv p3, iv p4, iv p5, iv (1 : Int32), iv ia, iv ib, iv tt, rv b4, iv (1 : Int32)] [(.int (1 : Int32)), (.int (0 : Int32)), (.ref b4)] _
    refine own_go (fun t₀ k₀ => XS.iload X20.here hx rfl (Jvm.hb hby at_152) rfl k₀) ?_
    show Gm p e below T20 m 154 #[iv p0, iv p1, iv p2, iv p3, iv p4, iv p5, iv (1 : Int32), iv ia, iv ib, iv tt, rv b4, iv (1 : Int32)] [(.int ia), (.int (1 : Int32)), (.int (0 : Int32)), (.ref b4)] _
    refine own_go (fun t₀ k₀ => XS.iloadN X20.here hx rfl (Jvm.hb hby at_154) rfl k₀) ?_
    show Gm p e below T20 m 155 #[iv p0, iv p1, iv p2, iv p3, iv p4, iv p5, iv (1 : Int32), iv ia, iv ib, iv tt, rv b4, iv (1 : Int32)] [(.int p2), (.int ia), (.int (1 : Int32)), (.int (0 : Int32)), (.ref b4)] _
    refine own_go (fun t₀ k₀ => XS.iloadN X20.here hx rfl (Jvm.hb hby at_155) rfl k₀) ?_
    show Gm p e below T20 m 156 #[iv p0, iv p1, iv p2, iv p3, iv p4, iv p5, iv (1 : Int32), iv ia, iv ib, iv tt, rv b4, iv (1 : Int32)] [(.int p3), (.int p2), (.int ia), (.int (1 : Int32)), (.int (0 : Int32)), (.ref b4)] _
    refine own_go (fun t₀ k₀ => XS.iload X20.here hx rfl (Jvm.hb hby at_156) rfl k₀) ?_
    show Gm p e below T20 m 158 #[iv p0, iv p1, iv p2, iv p3, iv p4, iv p5, iv (1 : Int32), iv ia, iv ib, iv tt, rv b4, iv (1 : Int32)] [(.int ib), (.int p3), (.int p2), (.int ia), (.int (1 : Int32)), (.int (0 : Int32)), (.ref b4)] _
    refine own_go (fun t₀ k₀ => XS.iload X20.here hx rfl (Jvm.hb hby at_158) rfl k₀) ?_
    show Gm p e below T20 m 160 #[iv p0, iv p1, iv p2, iv p3, iv p4, iv p5, iv (1 : Int32), iv ia, iv ib, iv tt, rv b4, iv (1 : Int32)] [(.int p5), (.int ib), (.int p3), (.int p2), (.int ia), (.int (1 : Int32)), (.int (0 : Int32)), (.ref b4)] _
    refine own_go (fun t₀ k₀ => XS.iload X20.here hx rfl (Jvm.hb hby at_160) rfl k₀) ?_
    show Gm p e below T20 m 162 #[iv p0, iv p1, iv p2, iv p3, iv p4, iv p5, iv (1 : Int32), iv ia, iv ib, iv tt, rv b4, iv (1 : Int32)] [(.int tt), (.int p5), (.int ib), (.int p3), (.int p2), (.int ia), (.int (1 : Int32)), (.int (0 : Int32)), (.ref b4)] _
    have f22 := (f7.keep Kc20 (ninS ne_b4_floor5 (ninS ne_b4_startCell5 (ninS ne_b4_cell5 nin0))))
    have f23 := (f8.keep Kc20 (ninS ne_b4_floor5 (ninS ne_b4_startCell5 (ninS ne_b4_cell5 nin0))))
    have f24 := (f9.keep Kc20 (ninS ne_b4_floor5 (ninS ne_b4_startCell5 (ninS ne_b4_cell5 nin0))))
    have f25 := (f10.keep Kc20 (ninS ne_b4_floor5 (ninS ne_b4_startCell5 (ninS ne_b4_cell5 nin0))))
    have f26 := (f11.keep Kc20 (ninS ne_b4_floor5 (ninS ne_b4_startCell5 (ninS ne_b4_cell5 nin0))))
    have f27 := (f12.keep Kc20 (ninS ne_b4_floor5 (ninS ne_b4_startCell5 (ninS ne_b4_cell5 nin0))))
    have f28 := (f13.keep Kc20 (ninS (Ne.symm nn_floor_heading5) (ninS (Ne.symm nn_startCell_heading5) (ninS (Ne.symm nn_cell_heading5) nin0))))
    have f29 := (f14.keep Kc20 (ninS (Ne.symm nn_floor_leaving5) (ninS (Ne.symm nn_startCell_leaving5) (ninS (Ne.symm nn_cell_leaving5) nin0))))
    have f30 := (f15.keep Kc20 (ninS (Ne.symm nn_floor_exit5) (ninS (Ne.symm nn_startCell_exit5) (ninS (Ne.symm nn_cell_exit5) nin0))))
    obtain ⟨_, _, ⟨T31, L31, k31, n31⟩, -, X31, ⟨Lc31, hQ31, l31, y31, z31⟩, st31⟩ := Jvm.LawKit.callS X20 hx (y := (⟨"com/example/throughfare/throughfare/simulation/WalkersStartPinLaw", "slot", "(Lcom/example/throughfare/throughfare/simulation/Walkers;IIIIIIII)Z"⟩ : MethodName)) hown (mvT hZ (hw _ (List.mem_of_getElem? (i := 48) rfl))) (mvT hZ (hw _ (List.mem_of_getElem? (i := 49) rfl))) (mvT hZ (hw _ (List.mem_of_getElem? (i := 50) rfl))) (mvT hZ (hw _ (List.mem_of_getElem? (i := 51) rfl))) (by decide) (backOf (W := 0) (rm6 l Z a0 hw [] b4 (0 : Int32) (1 : Int32) ia p2 p3 ib p5 tt floor5 startCell5 cell5 heading5 leaving5 exit5 1 (fun i => if i = ib.toNatClampNeg then p5 else (fun i => if i = ia.toNatClampNeg then p2 else (fun _ => (0 : Int32)) i) i) (fun i => if i = ib.toNatClampNeg then tt else (fun i => if i = ia.toNatClampNeg then p3 else (fun _ => (0 : Int32)) i) i) (fun i => if i = ib.toNatClampNeg then tt else (fun i => if i = ia.toNatClampNeg then p3 else (fun _ => (0 : Int32)) i) i) (fun _ => (0 : Int32)) (fun _ => (-1 : Int32)) (fun _ => (-1 : Int32)) T20.heap n0 Z20 f22 f23 f24 f25 f26 f27 Ac_floor20 Ac_startCell20 Ac_cell20 f28 f29 f30 (by decide) (by decide) (own_s2 (by decide) hr_ia.1 hr_ib.1) (own_s2 (by decide) hr_ia.1 hr_ib.1) (own_s2 (by decide) hr_ia.1 hr_ib.1) rfl rfl rfl) hZ (hw _ (List.mem_of_getElem? (i := 51) rfl)) (hw _ (List.mem_of_getElem? (i := 50) rfl)) (by decide) (by decide)) (g := (mkF m 162 #[iv p0, iv p1, iv p2, iv p3, iv p4, iv p5, iv (1 : Int32), iv ia, iv ib, iv tt, rv b4, iv (1 : Int32)] [(.int tt), (.int p5), (.int ib), (.int p3), (.int p2), (.int ia), (.int (1 : Int32)), (.int (0 : Int32)), (.ref b4)])) rfl (by rw [hml]; rfl) (argsL := [(.ref b4), (.int (0 : Int32)), (.int (1 : Int32)), (.int ia), (.int p2), (.int p3), (.int ib), (.int p5), (.int tt)]) (rest := []) (lenOf own_pd4 rfl) rfl (by show 2 * 0 + _ ≤ _; exact Nat.le_of_eq rfl) (Jvm.hb hby at_162) (fun _ _ => ⟨rfl, rfl, (by decide : 12 + 0 ≤ _), (by decide : 22 + 0 ≤ _)⟩)
    dsimp only [Pt.U, Pt.locs, Pt.cells, Pt.slots] at X31 l31 y31 z31 st31 hQ31
    subst l31 y31 z31
    obtain ⟨rfl, Nq31, eq31⟩ := hQ31
    have N31 := Fr.app N20 Nq31
    have e31 : T31.heap = T20.heap := eq31
    refine own_go st31 ?_
    show Gm p e below T31 m 165 #[iv p0, iv p1, iv p2, iv p3, iv p4, iv p5, iv (1 : Int32), iv ia, iv ib, iv tt, rv b4, iv (1 : Int32)] [(.int (1 : Int32))] _
    refine own_go (fun t₀ k₀ => XS.ifNo X31.here hx rfl (Jvm.hb hby at_165) rfl (XT.i0_eq_f (by decide)) k₀) ?_
    show Gm p e below T31 m 168 #[iv p0, iv p1, iv p2, iv p3, iv p4, iv p5, iv (1 : Int32), iv ia, iv ib, iv tt, rv b4, iv (1 : Int32)] [] _
    refine own_go (fun t₀ k₀ => XS.aload X31.here hx rfl (Jvm.hb hby at_168) rfl rfl k₀) ?_
    show Gm p e below T31 m 170 #[iv p0, iv p1, iv p2, iv p3, iv p4, iv p5, iv (1 : Int32), iv ia, iv ib, iv tt, rv b4, iv (1 : Int32)] [(.ref b4)] _
    refine own_go (fun t₀ k₀ => XS.iconst X31.here hx rfl (Jvm.hb hby at_170) k₀) ?_
    show Gm p e below T31 m 171 #[iv p0, iv p1, iv p2, iv p3, iv p4, iv p5, iv (1 : Int32), iv ia, iv ib, iv tt, rv b4, iv (1 : Int32)] [(.int (1 : Int32)), (.ref b4)] _
    refine own_go (fun t₀ k₀ => XS.iload X31.here hx rfl (Jvm.hb hby at_171) rfl k₀) ?_
    show Gm p e below T31 m 173 #[iv p0, iv p1, iv p2, iv p3, iv p4, iv p5, iv (1 : Int32), iv ia, iv ib, iv tt, rv b4, iv (1 : Int32)] [(.int (1 : Int32)), (.int (1 : Int32)), (.ref b4)] _
    refine own_go (fun t₀ k₀ => XS.iload X31.here hx rfl (Jvm.hb hby at_173) rfl k₀) ?_
    show Gm p e below T31 m 175 #[iv p0, iv p1, iv p2, iv p3, iv p4, iv p5, iv (1 : Int32), iv ia, iv ib, iv tt, rv b4, iv (1 : Int32)] [(.int ia), (.int (1 : Int32)), (.int (1 : Int32)), (.ref b4)] _
    refine own_go (fun t₀ k₀ => XS.iloadN X31.here hx rfl (Jvm.hb hby at_175) rfl k₀) ?_
    show Gm p e below T31 m 176 #[iv p0, iv p1, iv p2, iv p3, iv p4, iv p5, iv (1 : Int32), iv ia, iv ib, iv tt, rv b4, iv (1 : Int32)] [(.int p2), (.int ia), (.int (1 : Int32)), (.int (1 : Int32)), (.ref b4)] _
    refine own_go (fun t₀ k₀ => XS.iloadN X31.here hx rfl (Jvm.hb hby at_176) rfl k₀) ?_
    show Gm p e below T31 m 177 #[iv p0, iv p1, iv p2, iv p3, iv p4, iv p5, iv (1 : Int32), iv ia, iv ib, iv tt, rv b4, iv (1 : Int32)] [(.int p3), (.int p2), (.int ia), (.int (1 : Int32)), (.int (1 : Int32)), (.ref b4)] _
    refine own_go (fun t₀ k₀ => XS.iload X31.here hx rfl (Jvm.hb hby at_177) rfl k₀) ?_
    show Gm p e below T31 m 179 #[iv p0, iv p1, iv p2, iv p3, iv p4, iv p5, iv (1 : Int32), iv ia, iv ib, iv tt, rv b4, iv (1 : Int32)] [(.int ib), (.int p3), (.int p2), (.int ia), (.int (1 : Int32)), (.int (1 : Int32)), (.ref b4)] _
    refine own_go (fun t₀ k₀ => XS.iload X31.here hx rfl (Jvm.hb hby at_179) rfl k₀) ?_
    show Gm p e below T31 m 181 #[iv p0, iv p1, iv p2, iv p3, iv p4, iv p5, iv (1 : Int32), iv ia, iv ib, iv tt, rv b4, iv (1 : Int32)] [(.int p5), (.int ib), (.int p3), (.int p2), (.int ia), (.int (1 : Int32)), (.int (1 : Int32)), (.ref b4)] _
    refine own_go (fun t₀ k₀ => XS.iload X31.here hx rfl (Jvm.hb hby at_181) rfl k₀) ?_
    show Gm p e below T31 m 183 #[iv p0, iv p1, iv p2, iv p3, iv p4, iv p5, iv (1 : Int32), iv ia, iv ib, iv tt, rv b4, iv (1 : Int32)] [(.int tt), (.int p5), (.int ib), (.int p3), (.int p2), (.int ia), (.int (1 : Int32)), (.int (1 : Int32)), (.ref b4)] _
    obtain ⟨_, _, ⟨T32, L32, k32, n32⟩, -, X32, ⟨Lc32, hQ32, l32, y32, z32⟩, st32⟩ := Jvm.LawKit.callS X31 hx (y := (⟨"com/example/throughfare/throughfare/simulation/WalkersStartPinLaw", "slot", "(Lcom/example/throughfare/throughfare/simulation/Walkers;IIIIIIII)Z"⟩ : MethodName)) hown (mvT hZ (hw _ (List.mem_of_getElem? (i := 48) rfl))) (mvT hZ (hw _ (List.mem_of_getElem? (i := 49) rfl))) (mvT hZ (hw _ (List.mem_of_getElem? (i := 50) rfl))) (mvT hZ (hw _ (List.mem_of_getElem? (i := 51) rfl))) (by decide) (backOf (W := 0) (rm6 l Z a0 hw [] b4 (1 : Int32) (1 : Int32) ia p2 p3 ib p5 tt floor5 startCell5 cell5 heading5 leaving5 exit5 1 (fun i => if i = ib.toNatClampNeg then p5 else (fun i => if i = ia.toNatClampNeg then p2 else (fun _ => (0 : Int32)) i) i) (fun i => if i = ib.toNatClampNeg then tt else (fun i => if i = ia.toNatClampNeg then p3 else (fun _ => (0 : Int32)) i) i) (fun i => if i = ib.toNatClampNeg then tt else (fun i => if i = ia.toNatClampNeg then p3 else (fun _ => (0 : Int32)) i) i) (fun _ => (0 : Int32)) (fun _ => (-1 : Int32)) (fun _ => (-1 : Int32)) T20.heap n0 Z20 f22 f23 f24 f25 f26 f27 Ac_floor20 Ac_startCell20 Ac_cell20 f28 f29 f30 (by decide) (by decide) (own_s2 (by decide) hr_ia.1 hr_ib.1) (own_s2 (by decide) hr_ia.1 hr_ib.1) (own_s2 (by decide) hr_ia.1 hr_ib.1) rfl rfl rfl) hZ (hw _ (List.mem_of_getElem? (i := 51) rfl)) (hw _ (List.mem_of_getElem? (i := 50) rfl)) (by decide) (by decide)) (g := (mkF m 183 #[iv p0, iv p1, iv p2, iv p3, iv p4, iv p5, iv (1 : Int32), iv ia, iv ib, iv tt, rv b4, iv (1 : Int32)] [(.int tt), (.int p5), (.int ib), (.int p3), (.int p2), (.int ia), (.int (1 : Int32)), (.int (1 : Int32)), (.ref b4)])) rfl (by rw [hml]; rfl) (argsL := [(.ref b4), (.int (1 : Int32)), (.int (1 : Int32)), (.int ia), (.int p2), (.int p3), (.int ib), (.int p5), (.int tt)]) (rest := []) (lenOf own_pd4 rfl) rfl (by show 2 * 0 + _ ≤ _; exact Nat.le_of_eq rfl) (Jvm.hb hby at_183) (fun _ _ => ⟨rfl, e31, (by decide : 12 + 0 ≤ _), (by decide : 22 + 0 ≤ _)⟩)
    dsimp only [Pt.U, Pt.locs, Pt.cells, Pt.slots] at X32 l32 y32 z32 st32 hQ32
    subst l32 y32 z32
    obtain ⟨rfl, Nq32, eq32⟩ := hQ32
    have N32 := Fr.app N31 Nq32
    have e32 : T32.heap = T20.heap := eq32
    refine own_go st32 ?_
    show Gm p e below T32 m 186 #[iv p0, iv p1, iv p2, iv p3, iv p4, iv p5, iv (1 : Int32), iv ia, iv ib, iv tt, rv b4, iv (1 : Int32)] [(.int (1 : Int32))] _
    refine own_go (fun t₀ k₀ => XS.ifNo X32.here hx rfl (Jvm.hb hby at_186) rfl (XT.i0_eq_f (by decide)) k₀) ?_
    show Gm p e below T32 m 189 #[iv p0, iv p1, iv p2, iv p3, iv p4, iv p5, iv (1 : Int32), iv ia, iv ib, iv tt, rv b4, iv (1 : Int32)] [] _
    refine own_go (fun t₀ k₀ => XS.aload X32.here hx rfl (Jvm.hb hby at_189) rfl rfl k₀) ?_
    show Gm p e below T32 m 191 #[iv p0, iv p1, iv p2, iv p3, iv p4, iv p5, iv (1 : Int32), iv ia, iv ib, iv tt, rv b4, iv (1 : Int32)] [(.ref b4)] _
    refine own_go (fun t₀ k₀ => XS.iconst X32.here hx rfl (Jvm.hb hby at_191) k₀) ?_
    show Gm p e below T32 m 192 #[iv p0, iv p1, iv p2, iv p3, iv p4, iv p5, iv (1 : Int32), iv ia, iv ib, iv tt, rv b4, iv (1 : Int32)] [(.int (2 : Int32)), (.ref b4)] _
    refine own_go (fun t₀ k₀ => XS.iload X32.here hx rfl (Jvm.hb hby at_192) rfl k₀) ?_
    show Gm p e below T32 m 194 #[iv p0, iv p1, iv p2, iv p3, iv p4, iv p5, iv (1 : Int32), iv ia, iv ib, iv tt, rv b4, iv (1 : Int32)] [(.int (1 : Int32)), (.int (2 : Int32)), (.ref b4)] _
    refine own_go (fun t₀ k₀ => XS.iload X32.here hx rfl (Jvm.hb hby at_194) rfl k₀) ?_
    show Gm p e below T32 m 196 #[iv p0, iv p1, iv p2, iv p3, iv p4, iv p5, iv (1 : Int32), iv ia, iv ib, iv tt, rv b4, iv (1 : Int32)] [(.int ia), (.int (1 : Int32)), (.int (2 : Int32)), (.ref b4)] _
    refine own_go (fun t₀ k₀ => XS.iloadN X32.here hx rfl (Jvm.hb hby at_196) rfl k₀) ?_
    show Gm p e below T32 m 197 #[iv p0, iv p1, iv p2, iv p3, iv p4, iv p5, iv (1 : Int32), iv ia, iv ib, iv tt, rv b4, iv (1 : Int32)] [(.int p2), (.int ia), (.int (1 : Int32)), (.int (2 : Int32)), (.ref b4)] _
    refine own_go (fun t₀ k₀ => XS.iloadN X32.here hx rfl (Jvm.hb hby at_197) rfl k₀) ?_
    show Gm p e below T32 m 198 #[iv p0, iv p1, iv p2, iv p3, iv p4, iv p5, iv (1 : Int32), iv ia, iv ib, iv tt, rv b4, iv (1 : Int32)] [(.int p3), (.int p2), (.int ia), (.int (1 : Int32)), (.int (2 : Int32)), (.ref b4)] _
    refine own_go (fun t₀ k₀ => XS.iload X32.here hx rfl (Jvm.hb hby at_198) rfl k₀) ?_
    show Gm p e below T32 m 200 #[iv p0, iv p1, iv p2, iv p3, iv p4, iv p5, iv (1 : Int32), iv ia, iv ib, iv tt, rv b4, iv (1 : Int32)] [(.int ib), (.int p3), (.int p2), (.int ia), (.int (1 : Int32)), (.int (2 : Int32)), (.ref b4)] _
    refine own_go (fun t₀ k₀ => XS.iload X32.here hx rfl (Jvm.hb hby at_200) rfl k₀) ?_
    show Gm p e below T32 m 202 #[iv p0, iv p1, iv p2, iv p3, iv p4, iv p5, iv (1 : Int32), iv ia, iv ib, iv tt, rv b4, iv (1 : Int32)] [(.int p5), (.int ib), (.int p3), (.int p2), (.int ia), (.int (1 : Int32)), (.int (2 : Int32)), (.ref b4)] _
    refine own_go (fun t₀ k₀ => XS.iload X32.here hx rfl (Jvm.hb hby at_202) rfl k₀) ?_
    show Gm p e below T32 m 204 #[iv p0, iv p1, iv p2, iv p3, iv p4, iv p5, iv (1 : Int32), iv ia, iv ib, iv tt, rv b4, iv (1 : Int32)] [(.int tt), (.int p5), (.int ib), (.int p3), (.int p2), (.int ia), (.int (1 : Int32)), (.int (2 : Int32)), (.ref b4)] _
    obtain ⟨_, _, ⟨T33, L33, k33, n33⟩, -, X33, ⟨Lc33, hQ33, l33, y33, z33⟩, st33⟩ := Jvm.LawKit.callS X32 hx (y := (⟨"com/example/throughfare/throughfare/simulation/WalkersStartPinLaw", "slot", "(Lcom/example/throughfare/throughfare/simulation/Walkers;IIIIIIII)Z"⟩ : MethodName)) hown (mvT hZ (hw _ (List.mem_of_getElem? (i := 48) rfl))) (mvT hZ (hw _ (List.mem_of_getElem? (i := 49) rfl))) (mvT hZ (hw _ (List.mem_of_getElem? (i := 50) rfl))) (mvT hZ (hw _ (List.mem_of_getElem? (i := 51) rfl))) (by decide) (backOf (W := 0) (rm6 l Z a0 hw [] b4 (2 : Int32) (1 : Int32) ia p2 p3 ib p5 tt floor5 startCell5 cell5 heading5 leaving5 exit5 1 (fun i => if i = ib.toNatClampNeg then p5 else (fun i => if i = ia.toNatClampNeg then p2 else (fun _ => (0 : Int32)) i) i) (fun i => if i = ib.toNatClampNeg then tt else (fun i => if i = ia.toNatClampNeg then p3 else (fun _ => (0 : Int32)) i) i) (fun i => if i = ib.toNatClampNeg then tt else (fun i => if i = ia.toNatClampNeg then p3 else (fun _ => (0 : Int32)) i) i) (fun _ => (0 : Int32)) (fun _ => (-1 : Int32)) (fun _ => (-1 : Int32)) T20.heap n0 Z20 f22 f23 f24 f25 f26 f27 Ac_floor20 Ac_startCell20 Ac_cell20 f28 f29 f30 (by decide) (by decide) (own_s2 (by decide) hr_ia.1 hr_ib.1) (own_s2 (by decide) hr_ia.1 hr_ib.1) (own_s2 (by decide) hr_ia.1 hr_ib.1) rfl rfl rfl) hZ (hw _ (List.mem_of_getElem? (i := 51) rfl)) (hw _ (List.mem_of_getElem? (i := 50) rfl)) (by decide) (by decide)) (g := (mkF m 204 #[iv p0, iv p1, iv p2, iv p3, iv p4, iv p5, iv (1 : Int32), iv ia, iv ib, iv tt, rv b4, iv (1 : Int32)] [(.int tt), (.int p5), (.int ib), (.int p3), (.int p2), (.int ia), (.int (1 : Int32)), (.int (2 : Int32)), (.ref b4)])) rfl (by rw [hml]; rfl) (argsL := [(.ref b4), (.int (2 : Int32)), (.int (1 : Int32)), (.int ia), (.int p2), (.int p3), (.int ib), (.int p5), (.int tt)]) (rest := []) (lenOf own_pd4 rfl) rfl (by show 2 * 0 + _ ≤ _; exact Nat.le_of_eq rfl) (Jvm.hb hby at_204) (fun _ _ => ⟨rfl, e32, (by decide : 12 + 0 ≤ _), (by decide : 22 + 0 ≤ _)⟩)
    dsimp only [Pt.U, Pt.locs, Pt.cells, Pt.slots] at X33 l33 y33 z33 st33 hQ33
    subst l33 y33 z33
    obtain ⟨rfl, Nq33, eq33⟩ := hQ33
    have N33 := Fr.app N32 Nq33
    have e33 : T33.heap = T20.heap := eq33
    refine own_go st33 ?_
    show Gm p e below T33 m 207 #[iv p0, iv p1, iv p2, iv p3, iv p4, iv p5, iv (1 : Int32), iv ia, iv ib, iv tt, rv b4, iv (1 : Int32)] [(.int (1 : Int32))] _
    refine own_go (fun t₀ k₀ => XS.ifNo X33.here hx rfl (Jvm.hb hby at_207) rfl (XT.i0_eq_f (by decide)) k₀) ?_
    show Gm p e below T33 m 210 #[iv p0, iv p1, iv p2, iv p3, iv p4, iv p5, iv (1 : Int32), iv ia, iv ib, iv tt, rv b4, iv (1 : Int32)] [] _
    refine own_go (fun t₀ k₀ => XS.aload X33.here hx rfl (Jvm.hb hby at_210) rfl rfl k₀) ?_
    show Gm p e below T33 m 212 #[iv p0, iv p1, iv p2, iv p3, iv p4, iv p5, iv (1 : Int32), iv ia, iv ib, iv tt, rv b4, iv (1 : Int32)] [(.ref b4)] _
    refine own_go (fun t₀ k₀ => XS.iconst X33.here hx rfl (Jvm.hb hby at_212) k₀) ?_
    show Gm p e below T33 m 213 #[iv p0, iv p1, iv p2, iv p3, iv p4, iv p5, iv (1 : Int32), iv ia, iv ib, iv tt, rv b4, iv (1 : Int32)] [(.int (3 : Int32)), (.ref b4)] _
    refine own_go (fun t₀ k₀ => XS.iload X33.here hx rfl (Jvm.hb hby at_213) rfl k₀) ?_
    show Gm p e below T33 m 215 #[iv p0, iv p1, iv p2, iv p3, iv p4, iv p5, iv (1 : Int32), iv ia, iv ib, iv tt, rv b4, iv (1 : Int32)] [(.int (1 : Int32)), (.int (3 : Int32)), (.ref b4)] _
    refine own_go (fun t₀ k₀ => XS.iload X33.here hx rfl (Jvm.hb hby at_215) rfl k₀) ?_
    show Gm p e below T33 m 217 #[iv p0, iv p1, iv p2, iv p3, iv p4, iv p5, iv (1 : Int32), iv ia, iv ib, iv tt, rv b4, iv (1 : Int32)] [(.int ia), (.int (1 : Int32)), (.int (3 : Int32)), (.ref b4)] _
    refine own_go (fun t₀ k₀ => XS.iloadN X33.here hx rfl (Jvm.hb hby at_217) rfl k₀) ?_
    show Gm p e below T33 m 218 #[iv p0, iv p1, iv p2, iv p3, iv p4, iv p5, iv (1 : Int32), iv ia, iv ib, iv tt, rv b4, iv (1 : Int32)] [(.int p2), (.int ia), (.int (1 : Int32)), (.int (3 : Int32)), (.ref b4)] _
    refine own_go (fun t₀ k₀ => XS.iloadN X33.here hx rfl (Jvm.hb hby at_218) rfl k₀) ?_
    show Gm p e below T33 m 219 #[iv p0, iv p1, iv p2, iv p3, iv p4, iv p5, iv (1 : Int32), iv ia, iv ib, iv tt, rv b4, iv (1 : Int32)] [(.int p3), (.int p2), (.int ia), (.int (1 : Int32)), (.int (3 : Int32)), (.ref b4)] _
    refine own_go (fun t₀ k₀ => XS.iload X33.here hx rfl (Jvm.hb hby at_219) rfl k₀) ?_
    show Gm p e below T33 m 221 #[iv p0, iv p1, iv p2, iv p3, iv p4, iv p5, iv (1 : Int32), iv ia, iv ib, iv tt, rv b4, iv (1 : Int32)] [(.int ib), (.int p3), (.int p2), (.int ia), (.int (1 : Int32)), (.int (3 : Int32)), (.ref b4)] _
    refine own_go (fun t₀ k₀ => XS.iload X33.here hx rfl (Jvm.hb hby at_221) rfl k₀) ?_
    show Gm p e below T33 m 223 #[iv p0, iv p1, iv p2, iv p3, iv p4, iv p5, iv (1 : Int32), iv ia, iv ib, iv tt, rv b4, iv (1 : Int32)] [(.int p5), (.int ib), (.int p3), (.int p2), (.int ia), (.int (1 : Int32)), (.int (3 : Int32)), (.ref b4)] _
    refine own_go (fun t₀ k₀ => XS.iload X33.here hx rfl (Jvm.hb hby at_223) rfl k₀) ?_
    show Gm p e below T33 m 225 #[iv p0, iv p1, iv p2, iv p3, iv p4, iv p5, iv (1 : Int32), iv ia, iv ib, iv tt, rv b4, iv (1 : Int32)] [(.int tt), (.int p5), (.int ib), (.int p3), (.int p2), (.int ia), (.int (1 : Int32)), (.int (3 : Int32)), (.ref b4)] _
    obtain ⟨_, _, ⟨T34, L34, k34, n34⟩, -, X34, ⟨Lc34, hQ34, l34, y34, z34⟩, st34⟩ := Jvm.LawKit.callS X33 hx (y := (⟨"com/example/throughfare/throughfare/simulation/WalkersStartPinLaw", "slot", "(Lcom/example/throughfare/throughfare/simulation/Walkers;IIIIIIII)Z"⟩ : MethodName)) hown (mvT hZ (hw _ (List.mem_of_getElem? (i := 48) rfl))) (mvT hZ (hw _ (List.mem_of_getElem? (i := 49) rfl))) (mvT hZ (hw _ (List.mem_of_getElem? (i := 50) rfl))) (mvT hZ (hw _ (List.mem_of_getElem? (i := 51) rfl))) (by decide) (backOf (W := 0) (rm6 l Z a0 hw [] b4 (3 : Int32) (1 : Int32) ia p2 p3 ib p5 tt floor5 startCell5 cell5 heading5 leaving5 exit5 1 (fun i => if i = ib.toNatClampNeg then p5 else (fun i => if i = ia.toNatClampNeg then p2 else (fun _ => (0 : Int32)) i) i) (fun i => if i = ib.toNatClampNeg then tt else (fun i => if i = ia.toNatClampNeg then p3 else (fun _ => (0 : Int32)) i) i) (fun i => if i = ib.toNatClampNeg then tt else (fun i => if i = ia.toNatClampNeg then p3 else (fun _ => (0 : Int32)) i) i) (fun _ => (0 : Int32)) (fun _ => (-1 : Int32)) (fun _ => (-1 : Int32)) T20.heap n0 Z20 f22 f23 f24 f25 f26 f27 Ac_floor20 Ac_startCell20 Ac_cell20 f28 f29 f30 (by decide) (by decide) (own_s2 (by decide) hr_ia.1 hr_ib.1) (own_s2 (by decide) hr_ia.1 hr_ib.1) (own_s2 (by decide) hr_ia.1 hr_ib.1) rfl rfl rfl) hZ (hw _ (List.mem_of_getElem? (i := 51) rfl)) (hw _ (List.mem_of_getElem? (i := 50) rfl)) (by decide) (by decide)) (g := (mkF m 225 #[iv p0, iv p1, iv p2, iv p3, iv p4, iv p5, iv (1 : Int32), iv ia, iv ib, iv tt, rv b4, iv (1 : Int32)] [(.int tt), (.int p5), (.int ib), (.int p3), (.int p2), (.int ia), (.int (1 : Int32)), (.int (3 : Int32)), (.ref b4)])) rfl (by rw [hml]; rfl) (argsL := [(.ref b4), (.int (3 : Int32)), (.int (1 : Int32)), (.int ia), (.int p2), (.int p3), (.int ib), (.int p5), (.int tt)]) (rest := []) (lenOf own_pd4 rfl) rfl (by show 2 * 0 + _ ≤ _; exact Nat.le_of_eq rfl) (Jvm.hb hby at_225) (fun _ _ => ⟨rfl, e33, (by decide : 12 + 0 ≤ _), (by decide : 22 + 0 ≤ _)⟩)
    dsimp only [Pt.U, Pt.locs, Pt.cells, Pt.slots] at X34 l34 y34 z34 st34 hQ34
    subst l34 y34 z34
    obtain ⟨rfl, Nq34, eq34⟩ := hQ34
    have N34 := Fr.app N33 Nq34
    have e34 : T34.heap = T20.heap := eq34
    refine own_go st34 ?_
    show Gm p e below T34 m 228 #[iv p0, iv p1, iv p2, iv p3, iv p4, iv p5, iv (1 : Int32), iv ia, iv ib, iv tt, rv b4, iv (1 : Int32)] [(.int (1 : Int32))] _
    refine own_go (fun t₀ k₀ => XS.ifNo X34.here hx rfl (Jvm.hb hby at_228) rfl (XT.i0_eq_f (by decide)) k₀) ?_
    show Gm p e below T34 m 231 #[iv p0, iv p1, iv p2, iv p3, iv p4, iv p5, iv (1 : Int32), iv ia, iv ib, iv tt, rv b4, iv (1 : Int32)] [] _
    refine own_go (fun t₀ k₀ => XS.iconst X34.here hx rfl (Jvm.hb hby at_231) k₀) ?_
    show Gm p e below T34 m 232 #[iv p0, iv p1, iv p2, iv p3, iv p4, iv p5, iv (1 : Int32), iv ia, iv ib, iv tt, rv b4, iv (1 : Int32)] [(.int (1 : Int32))] _
    refine own_go (fun t₀ k₀ => XS.goto X34.here hx rfl (pc0 := 232) (pc' := 236) rfl (Jvm.hb hby at_232) (by decide) (by decide) k₀) ?_
    show Gm p e below T34 m 236 #[iv p0, iv p1, iv p2, iv p3, iv p4, iv p5, iv (1 : Int32), iv ia, iv ib, iv tt, rv b4, iv (1 : Int32)] [(.int (1 : Int32))] _
    refine own_go (fun t₀ k₀ => XS.istore X34.here hx rfl (Jvm.hb hby at_236) rfl (l' := #[iv p0, iv p1, iv p2, iv p3, iv p4, iv p5, iv (1 : Int32), iv ia, iv ib, iv tt, rv b4, iv (1 : Int32)]) rfl k₀) ?_
    show Gm p e below T34 m 238 #[iv p0, iv p1, iv p2, iv p3, iv p4, iv p5, iv (1 : Int32), iv ia, iv ib, iv tt, rv b4, iv (1 : Int32)] [] _
    refine own_go (fun t₀ k₀ => XS.iload X34.here hx rfl (Jvm.hb hby at_238) rfl k₀) ?_
    show Gm p e below T34 m 240 #[iv p0, iv p1, iv p2, iv p3, iv p4, iv p5, iv (1 : Int32), iv ia, iv ib, iv tt, rv b4, iv (1 : Int32)] [(.int (1 : Int32))] _
    refine own_go (fun t₀ k₀ => XS.ifNo X34.here hx rfl (Jvm.hb hby at_240) rfl (XT.i0_eq_f (by decide)) k₀) ?_
    show Gm p e below T34 m 243 #[iv p0, iv p1, iv p2, iv p3, iv p4, iv p5, iv (1 : Int32), iv ia, iv ib, iv tt, rv b4, iv (1 : Int32)] [] _
    refine own_go (fun t₀ k₀ => XS.aload X34.here hx rfl (Jvm.hb hby at_243) rfl rfl k₀) ?_
    show Gm p e below T34 m 245 #[iv p0, iv p1, iv p2, iv p3, iv p4, iv p5, iv (1 : Int32), iv ia, iv ib, iv tt, rv b4, iv (1 : Int32)] [(.ref b4)] _
    have f36 := (f21.keep Kc20)
    obtain ⟨cq35, kq35, q35a, q35b, q35c⟩ := isOf hZ e34 f36
    obtain ⟨_, _, ⟨T35, L35, k35, n35⟩, -, X35, ⟨Lc35, hQ35, l35, y35, z35⟩, st35⟩ := X34.virtualBack hx (y := (⟨"com/example/throughfare/throughfare/simulation/Walkers", "count", "()I"⟩ : MethodName)) (z := (⟨"com/example/throughfare/throughfare/simulation/Walkers", "count", "()I"⟩ : MethodName)) hown (mvT hZ (hw _ (List.mem_of_getElem? (i := 58) rfl))) (mvT hZ (hw _ (List.mem_of_getElem? (i := 59) rfl))) (notFace_of_selects (args := #[]) (mvT hZ (hw _ (List.mem_of_getElem? (i := 61) rfl)))) (mvT hZ (hw _ (List.mem_of_getElem? (i := 61) rfl))) (mvT hZ (hw _ (List.mem_of_getElem? (i := 60) rfl))) (by decide) (backOf (W := 0) (rm7 l Z a0 hw [] b4 cell5 1 (fun i => .int (if i = ib.toNatClampNeg then tt else (fun i => if i = ia.toNatClampNeg then p3 else (fun _ => (0 : Int32)) i) i)) T20.heap n0 Z20 f24 Ac_cell20) hZ (hw _ (List.mem_of_getElem? (i := 62) rfl)) (hw _ (List.mem_of_getElem? (i := 3) rfl)) (by decide) (by decide)) q35a q35c (g := (mkF m 245 #[iv p0, iv p1, iv p2, iv p3, iv p4, iv p5, iv (1 : Int32), iv ia, iv ib, iv tt, rv b4, iv (1 : Int32)] [(.ref b4)])) rfl (by rw [hml]; rfl) (Steps.refl _) (argsL := []) (rest := []) (lenOf own_pd5 rfl) rfl (by show 2 * 0 + _ ≤ _; exact Nat.le_of_eq rfl) (Jvm.hb hby at_245) (fun _ _ => ⟨rfl, e34, (by decide : 12 + 0 ≤ _), (by decide : 22 + 0 ≤ _)⟩)
    dsimp only [Pt.U, Pt.locs, Pt.cells, Pt.slots] at X35 l35 y35 z35 st35 hQ35
    subst l35 y35 z35
    obtain ⟨rfl, Nq35, eq35⟩ := hQ35
    have N35 := Fr.app N34 Nq35
    have e35 : T35.heap = T20.heap := eq35
    refine own_go (fun t k => st35.trans k) ?_
    show Gm p e below T35 m 248 #[iv p0, iv p1, iv p2, iv p3, iv p4, iv p5, iv (1 : Int32), iv ia, iv ib, iv tt, rv b4, iv (1 : Int32)] [(.int (1 : Int32))] _
    refine own_go (fun t₀ k₀ => XS.iload X35.here hx rfl (Jvm.hb hby at_248) rfl k₀) ?_
    show Gm p e below T35 m 250 #[iv p0, iv p1, iv p2, iv p3, iv p4, iv p5, iv (1 : Int32), iv ia, iv ib, iv tt, rv b4, iv (1 : Int32)] [(.int (1 : Int32)), (.int (1 : Int32))] _
    refine own_go (fun t₀ k₀ => XS.icmpNo X35.here hx rfl (Jvm.hb hby at_250) rfl (XT.ii_ne_f (by decide)) k₀) ?_
    show Gm p e below T35 m 253 #[iv p0, iv p1, iv p2, iv p3, iv p4, iv p5, iv (1 : Int32), iv ia, iv ib, iv tt, rv b4, iv (1 : Int32)] [] _
    refine own_go (fun t₀ k₀ => XS.aload X35.here hx rfl (Jvm.hb hby at_253) rfl rfl k₀) ?_
    show Gm p e below T35 m 255 #[iv p0, iv p1, iv p2, iv p3, iv p4, iv p5, iv (1 : Int32), iv ia, iv ib, iv tt, rv b4, iv (1 : Int32)] [(.ref b4)] _
    obtain ⟨cq37, kq37, q37a, q37b, q37c⟩ := isOf hZ e35 f36
    obtain ⟨_, _, ⟨T37, L37, k37, n37⟩, -, X37, ⟨Lc37, hQ37, l37, y37, z37⟩, st37⟩ := X35.virtualBack hx (y := (⟨"com/example/throughfare/throughfare/simulation/Walkers", "anyoneInside", "()Z"⟩ : MethodName)) (z := (⟨"com/example/throughfare/throughfare/simulation/Walkers", "anyoneInside", "()Z"⟩ : MethodName)) hown (mvT hZ (hw _ (List.mem_of_getElem? (i := 63) rfl))) (mvT hZ (hw _ (List.mem_of_getElem? (i := 64) rfl))) (notFace_of_selects (args := #[]) (mvT hZ (hw _ (List.mem_of_getElem? (i := 66) rfl)))) (mvT hZ (hw _ (List.mem_of_getElem? (i := 66) rfl))) (mvT hZ (hw _ (List.mem_of_getElem? (i := 65) rfl))) (by decide) (backOf (W := 0) (rm8 l Z a0 hw [] b4 exit5 1 (fun i => .int ((fun _ => (-1 : Int32)) i)) T20.heap n0 Z20 f27 f30 (by decide) (by decide) rfl) hZ (hw _ (List.mem_of_getElem? (i := 67) rfl)) (hw _ (List.mem_of_getElem? (i := 3) rfl)) (by decide) (by decide)) q37a q37c (g := (mkF m 255 #[iv p0, iv p1, iv p2, iv p3, iv p4, iv p5, iv (1 : Int32), iv ia, iv ib, iv tt, rv b4, iv (1 : Int32)] [(.ref b4)])) rfl (by rw [hml]; rfl) (Steps.refl _) (argsL := []) (rest := []) (lenOf own_pd6 rfl) rfl (by show 2 * 0 + _ ≤ _; exact Nat.le_of_eq rfl) (Jvm.hb hby at_255) (fun _ _ => ⟨rfl, e35, (by decide : 12 + 0 ≤ _), (by decide : 22 + 0 ≤ _)⟩)
    dsimp only [Pt.U, Pt.locs, Pt.cells, Pt.slots] at X37 l37 y37 z37 st37 hQ37
    subst l37 y37 z37
    obtain ⟨rfl, Nq37, eq37⟩ := hQ37
    have N37 := Fr.app N35 Nq37
    have e37 : T37.heap = T20.heap := eq37
    refine own_go (fun t k => st37.trans k) ?_
    show Gm p e below T37 m 258 #[iv p0, iv p1, iv p2, iv p3, iv p4, iv p5, iv (1 : Int32), iv ia, iv ib, iv tt, rv b4, iv (1 : Int32)] [(.int (1 : Int32))] _
    refine own_go (fun t₀ k₀ => XS.ifNo X37.here hx rfl (Jvm.hb hby at_258) rfl (XT.i0_eq_f (by decide)) k₀) ?_
    show Gm p e below T37 m 261 #[iv p0, iv p1, iv p2, iv p3, iv p4, iv p5, iv (1 : Int32), iv ia, iv ib, iv tt, rv b4, iv (1 : Int32)] [] _
    refine own_go (fun t₀ k₀ => XS.iconst X37.here hx rfl (Jvm.hb hby at_261) k₀) ?_
    show Gm p e below T37 m 262 #[iv p0, iv p1, iv p2, iv p3, iv p4, iv p5, iv (1 : Int32), iv ia, iv ib, iv tt, rv b4, iv (1 : Int32)] [(.int (1 : Int32))] _
    refine own_go (fun t₀ k₀ => XS.goto X37.here hx rfl (pc0 := 262) (pc' := 266) rfl (Jvm.hb hby at_262) (by decide) (by decide) k₀) ?_
    show Gm p e below T37 m 266 #[iv p0, iv p1, iv p2, iv p3, iv p4, iv p5, iv (1 : Int32), iv ia, iv ib, iv tt, rv b4, iv (1 : Int32)] [(.int (1 : Int32))] _
    refine own_go (fun t₀ k₀ => XS.istore X37.here hx rfl (Jvm.hb hby at_266) rfl (l' := #[iv p0, iv p1, iv p2, iv p3, iv p4, iv p5, iv (1 : Int32), iv ia, iv ib, iv tt, rv b4, iv (1 : Int32)]) rfl k₀) ?_
    show Gm p e below T37 m 268 #[iv p0, iv p1, iv p2, iv p3, iv p4, iv p5, iv (1 : Int32), iv ia, iv ib, iv tt, rv b4, iv (1 : Int32)] [] _
    refine own_go (fun t₀ k₀ => XS.iload X37.here hx rfl (Jvm.hb hby at_268) rfl k₀) ?_
    show Gm p e below T37 m 270 #[iv p0, iv p1, iv p2, iv p3, iv p4, iv p5, iv (1 : Int32), iv ia, iv ib, iv tt, rv b4, iv (1 : Int32)] [(.int (1 : Int32))] _
    exact own_retI X37 hx hlk (t := .boolean) Bd.returns rfl (by simp) (Jvm.hb hby at_270) e37 ⟨rfl, N37⟩ (by decide) (by decide)
  · rw [hk]
    show Gm p e below s₁ m 3 #[iv p0, iv p1, iv p2, iv p3, iv p4, iv p5, .unset, .unset, .unset, .unset, .unset, .unset] [(.int (1 : Int32))] _
    refine own_go (fun t₀ k₀ => XS.iconst X0.here hx rfl (Jvm.hb hby at_3) k₀) ?_
    show Gm p e below s₁ m 4 #[iv p0, iv p1, iv p2, iv p3, iv p4, iv p5, .unset, .unset, .unset, .unset, .unset, .unset] [(.int (1 : Int32)), (.int (1 : Int32))] _
    refine own_go (fun t₀ k₀ => XS.iadd X0.here hx rfl (Jvm.hb hby at_4) rfl k₀) ?_
    show Gm p e below s₁ m 5 #[iv p0, iv p1, iv p2, iv p3, iv p4, iv p5, .unset, .unset, .unset, .unset, .unset, .unset] [(.int (2 : Int32))] _
    refine own_go (fun t₀ k₀ => XS.istore X0.here hx rfl (Jvm.hb hby at_5) rfl (l' := #[iv p0, iv p1, iv p2, iv p3, iv p4, iv p5, iv (2 : Int32), .unset, .unset, .unset, .unset, .unset]) rfl k₀) ?_
    show Gm p e below s₁ m 7 #[iv p0, iv p1, iv p2, iv p3, iv p4, iv p5, iv (2 : Int32), .unset, .unset, .unset, .unset, .unset] [] _
    refine own_go (fun t₀ k₀ => XS.iloadN X0.here hx rfl (Jvm.hb hby at_7) rfl k₀) ?_
    show Gm p e below s₁ m 8 #[iv p0, iv p1, iv p2, iv p3, iv p4, iv p5, iv (2 : Int32), .unset, .unset, .unset, .unset, .unset] [(.int p1)] _
    refine own_go (fun t₀ k₀ => X0.ldcI hx hown (mvT hZ (hw _ (List.mem_of_getElem? (i := 0) rfl))) rfl (Jvm.hb hby at_8) k₀) ?_
    show Gm p e below s₁ m 10 #[iv p0, iv p1, iv p2, iv p3, iv p4, iv p5, iv (2 : Int32), .unset, .unset, .unset, .unset, .unset] [(.int (2147483647 : Int32)), (.int p1)] _
    refine own_go (fun t₀ k₀ => XS.iand X0.here hx rfl (Jvm.hb hby at_10) rfl k₀) ?_
    show Gm p e below s₁ m 11 #[iv p0, iv p1, iv p2, iv p3, iv p4, iv p5, iv (2 : Int32), .unset, .unset, .unset, .unset, .unset] [(.int (p1 &&& (2147483647 : Int32)))] _
    refine own_go (fun t₀ k₀ => XS.iload X0.here hx rfl (Jvm.hb hby at_11) rfl k₀) ?_
    show Gm p e below s₁ m 13 #[iv p0, iv p1, iv p2, iv p3, iv p4, iv p5, iv (2 : Int32), .unset, .unset, .unset, .unset, .unset] [(.int (2 : Int32)), (.int (p1 &&& (2147483647 : Int32)))] _
    refine own_go (fun t₀ k₀ => iremM X0 hx rfl (Jvm.hb hby at_13) rfl (by decide) k₀) ?_
    show Gm p e below s₁ m 14 #[iv p0, iv p1, iv p2, iv p3, iv p4, iv p5, iv (2 : Int32), .unset, .unset, .unset, .unset, .unset] [(.int ((p1 &&& (2147483647 : Int32)) % (2 : Int32)))] _
    refine own_go (fun t₀ k₀ => XS.istore X0.here hx rfl (Jvm.hb hby at_14) rfl (l' := #[iv p0, iv p1, iv p2, iv p3, iv p4, iv p5, iv (2 : Int32), iv ((p1 &&& (2147483647 : Int32)) % (2 : Int32)), .unset, .unset, .unset, .unset]) rfl k₀) ?_
    show Gm p e below s₁ m 16 #[iv p0, iv p1, iv p2, iv p3, iv p4, iv p5, iv (2 : Int32), iv ((p1 &&& (2147483647 : Int32)) % (2 : Int32)), .unset, .unset, .unset, .unset] [] _
    obtain ⟨ia_37, h_ia_37⟩ : ∃ z : Int32, z = ((p1 &&& (2147483647 : Int32)) % (2 : Int32)) := ⟨_, rfl⟩
    rw [← h_ia_37]
    have hr_ia_37 := own_rem (n := 2) p1 (2 : Int32) (by decide) (by decide) h_ia_37
    show Gm p e below s₁ m 16 #[iv p0, iv p1, iv p2, iv p3, iv p4, iv p5, iv (2 : Int32), iv ia_37, .unset, .unset, .unset, .unset] [] _
    refine own_go (fun t₀ k₀ => XS.iload X0.here hx rfl (Jvm.hb hby at_16) rfl k₀) ?_
    show Gm p e below s₁ m 18 #[iv p0, iv p1, iv p2, iv p3, iv p4, iv p5, iv (2 : Int32), iv ia_37, .unset, .unset, .unset, .unset] [(.int p4)] _
    refine own_go (fun t₀ k₀ => X0.ldcI hx hown (mvT hZ (hw _ (List.mem_of_getElem? (i := 0) rfl))) rfl (Jvm.hb hby at_18) k₀) ?_
    show Gm p e below s₁ m 20 #[iv p0, iv p1, iv p2, iv p3, iv p4, iv p5, iv (2 : Int32), iv ia_37, .unset, .unset, .unset, .unset] [(.int (2147483647 : Int32)), (.int p4)] _
    refine own_go (fun t₀ k₀ => XS.iand X0.here hx rfl (Jvm.hb hby at_20) rfl k₀) ?_
    show Gm p e below s₁ m 21 #[iv p0, iv p1, iv p2, iv p3, iv p4, iv p5, iv (2 : Int32), iv ia_37, .unset, .unset, .unset, .unset] [(.int (p4 &&& (2147483647 : Int32)))] _
    refine own_go (fun t₀ k₀ => XS.iload X0.here hx rfl (Jvm.hb hby at_21) rfl k₀) ?_
    show Gm p e below s₁ m 23 #[iv p0, iv p1, iv p2, iv p3, iv p4, iv p5, iv (2 : Int32), iv ia_37, .unset, .unset, .unset, .unset] [(.int (2 : Int32)), (.int (p4 &&& (2147483647 : Int32)))] _
    refine own_go (fun t₀ k₀ => iremM X0 hx rfl (Jvm.hb hby at_23) rfl (by decide) k₀) ?_
    show Gm p e below s₁ m 24 #[iv p0, iv p1, iv p2, iv p3, iv p4, iv p5, iv (2 : Int32), iv ia_37, .unset, .unset, .unset, .unset] [(.int ((p4 &&& (2147483647 : Int32)) % (2 : Int32)))] _
    refine own_go (fun t₀ k₀ => XS.istore X0.here hx rfl (Jvm.hb hby at_24) rfl (l' := #[iv p0, iv p1, iv p2, iv p3, iv p4, iv p5, iv (2 : Int32), iv ia_37, iv ((p4 &&& (2147483647 : Int32)) % (2 : Int32)), .unset, .unset, .unset]) rfl k₀) ?_
    show Gm p e below s₁ m 26 #[iv p0, iv p1, iv p2, iv p3, iv p4, iv p5, iv (2 : Int32), iv ia_37, iv ((p4 &&& (2147483647 : Int32)) % (2 : Int32)), .unset, .unset, .unset] [] _
    obtain ⟨ib_38, h_ib_38⟩ : ∃ z : Int32, z = ((p4 &&& (2147483647 : Int32)) % (2 : Int32)) := ⟨_, rfl⟩
    rw [← h_ib_38]
    have hr_ib_38 := own_rem (n := 2) p4 (2 : Int32) (by decide) (by decide) h_ib_38
    show Gm p e below s₁ m 26 #[iv p0, iv p1, iv p2, iv p3, iv p4, iv p5, iv (2 : Int32), iv ia_37, iv ib_38, .unset, .unset, .unset] [] _
    refine own_go (fun t₀ k₀ => XS.iloadN X0.here hx rfl (Jvm.hb hby at_26) rfl k₀) ?_
    show Gm p e below s₁ m 27 #[iv p0, iv p1, iv p2, iv p3, iv p4, iv p5, iv (2 : Int32), iv ia_37, iv ib_38, .unset, .unset, .unset] [(.int p3)] _
    refine own_go (fun t₀ k₀ => XS.iload X0.here hx rfl (Jvm.hb hby at_27) rfl k₀) ?_
    show Gm p e below s₁ m 29 #[iv p0, iv p1, iv p2, iv p3, iv p4, iv p5, iv (2 : Int32), iv ia_37, iv ib_38, .unset, .unset, .unset] [(.int p5), (.int p3)] _
    refine own_go (fun t₀ k₀ => XS.ixor X0.here hx rfl (Jvm.hb hby at_29) rfl k₀) ?_
    show Gm p e below s₁ m 30 #[iv p0, iv p1, iv p2, iv p3, iv p4, iv p5, iv (2 : Int32), iv ia_37, iv ib_38, .unset, .unset, .unset] [(.int (p3 ^^^ p5))] _
    refine own_go (fun t₀ k₀ => XS.istore X0.here hx rfl (Jvm.hb hby at_30) rfl (l' := #[iv p0, iv p1, iv p2, iv p3, iv p4, iv p5, iv (2 : Int32), iv ia_37, iv ib_38, iv (p3 ^^^ p5), .unset, .unset]) rfl k₀) ?_
    show Gm p e below s₁ m 32 #[iv p0, iv p1, iv p2, iv p3, iv p4, iv p5, iv (2 : Int32), iv ia_37, iv ib_38, iv (p3 ^^^ p5), .unset, .unset] [] _
    obtain ⟨tt_39, h_tt_39⟩ : ∃ z : Int32, z = (p3 ^^^ p5) := ⟨_, rfl⟩
    rw [← h_tt_39]
    show Gm p e below s₁ m 32 #[iv p0, iv p1, iv p2, iv p3, iv p4, iv p5, iv (2 : Int32), iv ia_37, iv ib_38, iv tt_39, .unset, .unset] [] _
    obtain ⟨T41, h41, X41, e41, E41, A41, D41, -, st41⟩ := newO X0 hx hZ hown (hw _ (List.mem_of_getElem? (i := 1) rfl)) (hw _ (List.mem_of_getElem? (i := 2) rfl)) (hw _ (List.mem_of_getElem? (i := 3) rfl)) e0 (g := (mkF m 32 #[iv p0, iv p1, iv p2, iv p3, iv p4, iv p5, iv (2 : Int32), iv ia_37, iv ib_38, iv tt_39, .unset, .unset] [])) rfl (Jvm.hb hby at_32) (by decide) (by decide)
    obtain ⟨b41, g41⟩ : ∃ z, z = h0.size := ⟨_, rfl⟩
    rw [← g41] at A41 D41 st41
    have g_b41 : n0 ≤ b41 := Nat.le_trans Z0 (Nat.le_of_eq g41.symm)
    have Z41 : n0 ≤ h41.size := Nat.le_trans Z0 E41.1
    have F_floor_b41 : Fld Z h41 b41 "com/example/throughfare/throughfare/simulation/Walkers" "floor" "[I" .null := D41 (Or.inr (hw _ (List.mem_of_getElem? (i := 12) rfl))) (ty := (.array .int)) (by decide)
    have F_startCell_b41 : Fld Z h41 b41 "com/example/throughfare/throughfare/simulation/Walkers" "startCell" "[I" .null := D41 (Or.inr (hw _ (List.mem_of_getElem? (i := 14) rfl))) (ty := (.array .int)) (by decide)
    have F_cell_b41 : Fld Z h41 b41 "com/example/throughfare/throughfare/simulation/Walkers" "cell" "[I" .null := D41 (Or.inr (hw _ (List.mem_of_getElem? (i := 16) rfl))) (ty := (.array .int)) (by decide)
    have F_speedMps_b41 : Fld Z h41 b41 "com/example/throughfare/throughfare/simulation/Walkers" "speedMps" "[D" .null := D41 (Or.inr (hw _ (List.mem_of_getElem? (i := 19) rfl))) (ty := (.array .double)) (by decide)
    have F_reactionS_b41 : Fld Z h41 b41 "com/example/throughfare/throughfare/simulation/Walkers" "reactionS" "[D" .null := D41 (Or.inr (hw _ (List.mem_of_getElem? (i := 21) rfl))) (ty := (.array .double)) (by decide)
    have F_heading_b41 : Fld Z h41 b41 "com/example/throughfare/throughfare/simulation/Walkers" "heading" "[I" .null := D41 (Or.inr (hw _ (List.mem_of_getElem? (i := 23) rfl))) (ty := (.array .int)) (by decide)
    have F_heldUpS_b41 : Fld Z h41 b41 "com/example/throughfare/throughfare/simulation/Walkers" "heldUpS" "[D" .null := D41 (Or.inr (hw _ (List.mem_of_getElem? (i := 25) rfl))) (ty := (.array .double)) (by decide)
    have F_exitTimeS_b41 : Fld Z h41 b41 "com/example/throughfare/throughfare/simulation/Walkers" "exitTimeS" "[D" .null := D41 (Or.inr (hw _ (List.mem_of_getElem? (i := 32) rfl))) (ty := (.array .double)) (by decide)
    have F_leaving_b41 : Fld Z h41 b41 "com/example/throughfare/throughfare/simulation/Walkers" "leaving" "[I" .null := D41 (Or.inr (hw _ (List.mem_of_getElem? (i := 35) rfl))) (ty := (.array .int)) (by decide)
    have F_exit_b41 : Fld Z h41 b41 "com/example/throughfare/throughfare/simulation/Walkers" "exit" "[I" .null := D41 (Or.inr (hw _ (List.mem_of_getElem? (i := 40) rfl))) (ty := (.array .int)) (by decide)
    have F_distanceM_b41 : Fld Z h41 b41 "com/example/throughfare/throughfare/simulation/Walkers" "distanceM" "[D" .null := D41 (Or.inr (hw _ (List.mem_of_getElem? (i := 42) rfl))) (ty := (.array .double)) (by decide)
    refine own_go st41 ?_
    show Gm p e below T41 m 35 #[iv p0, iv p1, iv p2, iv p3, iv p4, iv p5, iv (2 : Int32), iv ia_37, iv ib_38, iv tt_39, .unset, .unset] [(.ref b41)] _
    refine own_go (fun t₀ k₀ => XS.dup X41.here hx rfl (Jvm.hb hby at_35) rfl rfl k₀) ?_
    show Gm p e below T41 m 36 #[iv p0, iv p1, iv p2, iv p3, iv p4, iv p5, iv (2 : Int32), iv ia_37, iv ib_38, iv tt_39, .unset, .unset] [(.ref b41), (.ref b41)] _
    refine own_go (fun t₀ k₀ => XS.iload X41.here hx rfl (Jvm.hb hby at_36) rfl k₀) ?_
    show Gm p e below T41 m 38 #[iv p0, iv p1, iv p2, iv p3, iv p4, iv p5, iv (2 : Int32), iv ia_37, iv ib_38, iv tt_39, .unset, .unset] [(.int (2 : Int32)), (.ref b41), (.ref b41)] _
    obtain ⟨_, _, ⟨T42, L42, k42, n42⟩, -, X42, ⟨Lc42, hQ42, l42, y42, z42⟩, st42⟩ := X41.specialBack hx (y := (⟨"com/example/throughfare/throughfare/simulation/Walkers", "<init>", "(I)V"⟩ : MethodName)) rfl hown (mvT hZ (hw _ (List.mem_of_getElem? (i := 4) rfl))) (mvT hZ (hw _ (List.mem_of_getElem? (i := 5) rfl))) (mvT hZ (hw _ (List.mem_of_getElem? (i := 6) rfl))) (by decide) (backOf (W := 1) (rm1_2 l Z a0 hw [] b41 h41 n0 Z41 A41 F_floor_b41 F_startCell_b41 F_cell_b41 F_speedMps_b41 F_reactionS_b41 F_heading_b41 F_heldUpS_b41 F_exitTimeS_b41 F_leaving_b41 F_exit_b41 F_distanceM_b41 g_b41) hZ (hw _ (List.mem_of_getElem? (i := 6) rfl)) (hw _ (List.mem_of_getElem? (i := 3) rfl)) (by decide) (by decide)) (g := (mkF m 38 #[iv p0, iv p1, iv p2, iv p3, iv p4, iv p5, iv (2 : Int32), iv ia_37, iv ib_38, iv tt_39, .unset, .unset] [(.int (2 : Int32)), (.ref b41), (.ref b41)])) rfl (by rw [hml]; rfl) (Steps.refl _) (a := b41) (argsL := [(.int (2 : Int32))]) (rest := [(.ref b41)]) (lenOf own_pd2 rfl) rfl (by show 2 * 0 + _ ≤ _; exact Nat.le_of_eq rfl) (Jvm.hb hby at_38) (fun _ _ => ⟨rfl, e41, (by decide : 1 + 11 ≤ _), (by decide : 11 + 22 ≤ _)⟩)
    dsimp only [Pt.U, Pt.locs, Pt.cells, Pt.slots] at X42 l42 y42 z42 st42 hQ42
    subst l42 y42 z42
    obtain ⟨floor42, startCell42, cell42, heading42, leaving42, exit42, rfl, Nq42, Kc42, Ec42, hs_floor42, Fc_floor42, Ac_floor42, hs_startCell42, Fc_startCell42, Ac_startCell42, hs_cell42, Fc_cell42, Ac_cell42, hs_heading42, Fc_heading42, Ac_heading42, hs_leaving42, Fc_leaving42, Ac_leaving42, hs_exit42, Fc_exit42, Ac_exit42, nn_floor_startCell42, nn_floor_cell42, nn_startCell_cell42, nn_floor_heading42, nn_startCell_heading42, nn_cell_heading42, nn_floor_leaving42, nn_startCell_leaving42, nn_cell_leaving42, nn_heading_leaving42, nn_floor_exit42, nn_startCell_exit42, nn_cell_exit42, nn_heading_exit42, nn_leaving_exit42⟩ := hQ42
    have N42 := Fr.app N0 Nq42
    refine own_go (fun t k => st42.trans k) ?_
    have ne_b41_floor42 : b41 ≠ floor42 := Nat.ne_of_lt (Nat.lt_of_lt_of_le A41.lt hs_floor42)
    have g_floor42 : n0 ≤ floor42 := Nat.le_trans Z41 hs_floor42
    have ne_b41_startCell42 : b41 ≠ startCell42 := Nat.ne_of_lt (Nat.lt_of_lt_of_le A41.lt hs_startCell42)
    have g_startCell42 : n0 ≤ startCell42 := Nat.le_trans Z41 hs_startCell42
    have ne_b41_cell42 : b41 ≠ cell42 := Nat.ne_of_lt (Nat.lt_of_lt_of_le A41.lt hs_cell42)
    have g_cell42 : n0 ≤ cell42 := Nat.le_trans Z41 hs_cell42
    have ne_b41_heading42 : b41 ≠ heading42 := Nat.ne_of_lt (Nat.lt_of_lt_of_le A41.lt hs_heading42)
    have g_heading42 : n0 ≤ heading42 := Nat.le_trans Z41 hs_heading42
    have ne_b41_leaving42 : b41 ≠ leaving42 := Nat.ne_of_lt (Nat.lt_of_lt_of_le A41.lt hs_leaving42)
    have g_leaving42 : n0 ≤ leaving42 := Nat.le_trans Z41 hs_leaving42
    have ne_b41_exit42 : b41 ≠ exit42 := Nat.ne_of_lt (Nat.lt_of_lt_of_le A41.lt hs_exit42)
    have g_exit42 : n0 ≤ exit42 := Nat.le_trans Z41 hs_exit42
    have Z42 : n0 ≤ T42.heap.size := Nat.le_trans Z41 Kc42.1
    show Gm p e below T42 m 41 #[iv p0, iv p1, iv p2, iv p3, iv p4, iv p5, iv (2 : Int32), iv ia_37, iv ib_38, iv tt_39, .unset, .unset] [(.ref b41)] _
    refine own_go (fun t₀ k₀ => XS.astore X42.here hx rfl (Jvm.hb hby at_41) rfl rfl (l' := #[iv p0, iv p1, iv p2, iv p3, iv p4, iv p5, iv (2 : Int32), iv ia_37, iv ib_38, iv tt_39, rv b41, .unset]) rfl k₀) ?_
    show Gm p e below T42 m 43 #[iv p0, iv p1, iv p2, iv p3, iv p4, iv p5, iv (2 : Int32), iv ia_37, iv ib_38, iv tt_39, rv b41, .unset] [] _
    refine own_go (fun t₀ k₀ => XS.aload X42.here hx rfl (Jvm.hb hby at_43) rfl rfl k₀) ?_
    show Gm p e below T42 m 45 #[iv p0, iv p1, iv p2, iv p3, iv p4, iv p5, iv (2 : Int32), iv ia_37, iv ib_38, iv tt_39, rv b41, .unset] [(.ref b41)] _
    refine own_go (fun t₀ k₀ => XS.iload X42.here hx rfl (Jvm.hb hby at_45) rfl k₀) ?_
    show Gm p e below T42 m 47 #[iv p0, iv p1, iv p2, iv p3, iv p4, iv p5, iv (2 : Int32), iv ia_37, iv ib_38, iv tt_39, rv b41, .unset] [(.int ia_37), (.ref b41)] _
    refine own_go (fun t₀ k₀ => XS.iloadN X42.here hx rfl (Jvm.hb hby at_47) rfl k₀) ?_
    show Gm p e below T42 m 48 #[iv p0, iv p1, iv p2, iv p3, iv p4, iv p5, iv (2 : Int32), iv ia_37, iv ib_38, iv tt_39, rv b41, .unset] [(.int p2), (.int ia_37), (.ref b41)] _
    refine own_go (fun t₀ k₀ => XS.iloadN X42.here hx rfl (Jvm.hb hby at_48) rfl k₀) ?_
    show Gm p e below T42 m 49 #[iv p0, iv p1, iv p2, iv p3, iv p4, iv p5, iv (2 : Int32), iv ia_37, iv ib_38, iv tt_39, rv b41, .unset] [(.int p3), (.int p2), (.int ia_37), (.ref b41)] _
    obtain ⟨cq43, kq43, q43a, q43b, q43c⟩ := isOf hZ rfl Ec42
    obtain ⟨_, _, ⟨T43, L43, k43, n43⟩, -, X43, ⟨Lc43, hQ43, l43, y43, z43⟩, st43⟩ := X42.virtualBack hx (y := (⟨"com/example/throughfare/throughfare/simulation/Walkers", "start", "(III)V"⟩ : MethodName)) (z := (⟨"com/example/throughfare/throughfare/simulation/Walkers", "start", "(III)V"⟩ : MethodName)) hown (mvT hZ (hw _ (List.mem_of_getElem? (i := 43) rfl))) (mvT hZ (hw _ (List.mem_of_getElem? (i := 44) rfl))) (notFace_of_selects (args := #[]) (mvT hZ (hw _ (List.mem_of_getElem? (i := 46) rfl)))) (mvT hZ (hw _ (List.mem_of_getElem? (i := 46) rfl))) (mvT hZ (hw _ (List.mem_of_getElem? (i := 45) rfl))) (by decide) (backOf (W := 0) (rm5 l Z a0 hw [] b41 ia_37 p2 p3 floor42 startCell42 cell42 2 (fun _ => (0 : Int32)) (fun _ => (0 : Int32)) (fun _ => (0 : Int32)) T42.heap n0 Z42 Fc_floor42 Fc_startCell42 Fc_cell42 Ac_floor42 Ac_startCell42 Ac_cell42 ne_b41_floor42 ne_b41_startCell42 ne_b41_cell42 nn_floor_startCell42 nn_floor_cell42 nn_startCell_cell42 g_floor42 g_startCell42 g_cell42 hr_ia_37.1 hr_ia_37.2) hZ (hw _ (List.mem_of_getElem? (i := 47) rfl)) (hw _ (List.mem_of_getElem? (i := 3) rfl)) (by decide) (by decide)) q43a q43c (g := (mkF m 49 #[iv p0, iv p1, iv p2, iv p3, iv p4, iv p5, iv (2 : Int32), iv ia_37, iv ib_38, iv tt_39, rv b41, .unset] [(.int p3), (.int p2), (.int ia_37), (.ref b41)])) rfl (by rw [hml]; rfl) (Steps.refl _) (argsL := [(.int ia_37), (.int p2), (.int p3)]) (rest := []) (lenOf own_pd3 rfl) rfl (by show 2 * 0 + _ ≤ _; exact Nat.le_of_eq rfl) (Jvm.hb hby at_49) (fun _ _ => ⟨rfl, rfl, (by decide : 12 + 0 ≤ _), (by decide : 33 + 0 ≤ _)⟩)
    dsimp only [Pt.U, Pt.locs, Pt.cells, Pt.slots] at X43 l43 y43 z43 st43 hQ43
    subst l43 y43 z43
    obtain ⟨rfl, Nq43, Kc43, Ac_floor43, Ac_startCell43, Ac_cell43⟩ := hQ43
    have N43 := Fr.app N42 Nq43
    refine own_go (fun t k => st43.trans k) ?_
    have Z43 : n0 ≤ T43.heap.size := Nat.le_trans Z42 Kc43.1
    show Gm p e below T43 m 52 #[iv p0, iv p1, iv p2, iv p3, iv p4, iv p5, iv (2 : Int32), iv ia_37, iv ib_38, iv tt_39, rv b41, .unset] [] _
    refine own_go (fun t₀ k₀ => XS.aload X43.here hx rfl (Jvm.hb hby at_52) rfl rfl k₀) ?_
    show Gm p e below T43 m 54 #[iv p0, iv p1, iv p2, iv p3, iv p4, iv p5, iv (2 : Int32), iv ia_37, iv ib_38, iv tt_39, rv b41, .unset] [(.ref b41)] _
    refine own_go (fun t₀ k₀ => XS.iconst X43.here hx rfl (Jvm.hb hby at_54) k₀) ?_
    show Gm p e below T43 m 55 #[iv p0, iv p1, iv p2, iv p3, iv p4, iv p5, iv (2 : Int32), iv ia_37, iv ib_38, iv tt_39, rv b41, .unset] [(.int (0 : Int32)), (.ref b41)] _
    refine own_go (fun t₀ k₀ => XS.iload X43.here hx rfl (Jvm.hb hby at_55) rfl k₀) ?_
    show Gm p e below T43 m 57 #[iv p0, iv p1, iv p2, iv p3, iv p4, iv p5, iv (2 : Int32), iv ia_37, iv ib_38, iv tt_39, rv b41, .unset] [(.int (2 : Int32)), (.int (0 : Int32)), (.ref b41)] _
    refine own_go (fun t₀ k₀ => XS.iload X43.here hx rfl (Jvm.hb hby at_57) rfl k₀) ?_
    show Gm p e below T43 m 59 #[iv p0, iv p1, iv p2, iv p3, iv p4, iv p5, iv (2 : Int32), iv ia_37, iv ib_38, iv tt_39, rv b41, .unset] [(.int ia_37), (.int (2 : Int32)), (.int (0 : Int32)), (.ref b41)] _
    refine own_go (fun t₀ k₀ => XS.iloadN X43.here hx rfl (Jvm.hb hby at_59) rfl k₀) ?_
    show Gm p e below T43 m 60 #[iv p0, iv p1, iv p2, iv p3, iv p4, iv p5, iv (2 : Int32), iv ia_37, iv ib_38, iv tt_39, rv b41, .unset] [(.int p2), (.int ia_37), (.int (2 : Int32)), (.int (0 : Int32)), (.ref b41)] _
    refine own_go (fun t₀ k₀ => XS.iloadN X43.here hx rfl (Jvm.hb hby at_60) rfl k₀) ?_
    show Gm p e below T43 m 61 #[iv p0, iv p1, iv p2, iv p3, iv p4, iv p5, iv (2 : Int32), iv ia_37, iv ib_38, iv tt_39, rv b41, .unset] [(.int p3), (.int p2), (.int ia_37), (.int (2 : Int32)), (.int (0 : Int32)), (.ref b41)] _
    refine own_go (fun t₀ k₀ => XS.iconst X43.here hx rfl (Jvm.hb hby at_61) k₀) ?_
    show Gm p e below T43 m 62 #[iv p0, iv p1, iv p2, iv p3, iv p4, iv p5, iv (2 : Int32), iv ia_37, iv ib_38, iv tt_39, rv b41, .unset] [(.int (-1 : Int32)), (.int p3), (.int p2), (.int ia_37), (.int (2 : Int32)), (.int (0 : Int32)), (.ref b41)] _
    refine own_go (fun t₀ k₀ => XS.iconst X43.here hx rfl (Jvm.hb hby at_62) k₀) ?_
    show Gm p e below T43 m 63 #[iv p0, iv p1, iv p2, iv p3, iv p4, iv p5, iv (2 : Int32), iv ia_37, iv ib_38, iv tt_39, rv b41, .unset] [(.int (0 : Int32)), (.int (-1 : Int32)), (.int p3), (.int p2), (.int ia_37), (.int (2 : Int32)), (.int (0 : Int32)), (.ref b41)] _
    refine own_go (fun t₀ k₀ => XS.iconst X43.here hx rfl (Jvm.hb hby at_63) k₀) ?_
    show Gm p e below T43 m 64 #[iv p0, iv p1, iv p2, iv p3, iv p4, iv p5, iv (2 : Int32), iv ia_37, iv ib_38, iv tt_39, rv b41, .unset] [(.int (0 : Int32)), (.int (0 : Int32)), (.int (-1 : Int32)), (.int p3), (.int p2), (.int ia_37), (.int (2 : Int32)), (.int (0 : Int32)), (.ref b41)] _
    have f44 := (Fc_floor42.keep Kc43 (ninS ne_b41_floor42 (ninS ne_b41_startCell42 (ninS ne_b41_cell42 nin0))))
    have f45 := (Fc_startCell42.keep Kc43 (ninS ne_b41_floor42 (ninS ne_b41_startCell42 (ninS ne_b41_cell42 nin0))))
    have f46 := (Fc_cell42.keep Kc43 (ninS ne_b41_floor42 (ninS ne_b41_startCell42 (ninS ne_b41_cell42 nin0))))
    have f47 := (Fc_heading42.keep Kc43 (ninS ne_b41_floor42 (ninS ne_b41_startCell42 (ninS ne_b41_cell42 nin0))))
    have f48 := (Fc_leaving42.keep Kc43 (ninS ne_b41_floor42 (ninS ne_b41_startCell42 (ninS ne_b41_cell42 nin0))))
    have f49 := (Fc_exit42.keep Kc43 (ninS ne_b41_floor42 (ninS ne_b41_startCell42 (ninS ne_b41_cell42 nin0))))
    have f50 := (Ac_heading42.keep Kc43 (ninS (Ne.symm nn_floor_heading42) (ninS (Ne.symm nn_startCell_heading42) (ninS (Ne.symm nn_cell_heading42) nin0))))
    have f51 := (Ac_leaving42.keep Kc43 (ninS (Ne.symm nn_floor_leaving42) (ninS (Ne.symm nn_startCell_leaving42) (ninS (Ne.symm nn_cell_leaving42) nin0))))
    have f52 := (Ac_exit42.keep Kc43 (ninS (Ne.symm nn_floor_exit42) (ninS (Ne.symm nn_startCell_exit42) (ninS (Ne.symm nn_cell_exit42) nin0))))
    obtain ⟨_, _, ⟨T53, L53, k53, n53⟩, -, X53, ⟨Lc53, hQ53, l53, y53, z53⟩, st53⟩ := Jvm.LawKit.callS X43 hx (y := (⟨"com/example/throughfare/throughfare/simulation/WalkersStartPinLaw", "slot", "(Lcom/example/throughfare/throughfare/simulation/Walkers;IIIIIIII)Z"⟩ : MethodName)) hown (mvT hZ (hw _ (List.mem_of_getElem? (i := 48) rfl))) (mvT hZ (hw _ (List.mem_of_getElem? (i := 49) rfl))) (mvT hZ (hw _ (List.mem_of_getElem? (i := 50) rfl))) (mvT hZ (hw _ (List.mem_of_getElem? (i := 51) rfl))) (by decide) (backOf (W := 0) (rm6 l Z a0 hw [] b41 (0 : Int32) (2 : Int32) ia_37 p2 p3 (-1 : Int32) (0 : Int32) (0 : Int32) floor42 startCell42 cell42 heading42 leaving42 exit42 2 (fun i => if i = ia_37.toNatClampNeg then p2 else (fun _ => (0 : Int32)) i) (fun i => if i = ia_37.toNatClampNeg then p3 else (fun _ => (0 : Int32)) i) (fun i => if i = ia_37.toNatClampNeg then p3 else (fun _ => (0 : Int32)) i) (fun _ => (0 : Int32)) (fun _ => (-1 : Int32)) (fun _ => (-1 : Int32)) T43.heap n0 Z43 f44 f45 f46 f47 f48 f49 Ac_floor43 Ac_startCell43 Ac_cell43 f50 f51 f52 (by decide) (by decide) (own_s1 (by decide) hr_ia_37.1 (by decide)) (own_s1 (by decide) hr_ia_37.1 (by decide)) (own_s1 (by decide) hr_ia_37.1 (by decide)) rfl rfl rfl) hZ (hw _ (List.mem_of_getElem? (i := 51) rfl)) (hw _ (List.mem_of_getElem? (i := 50) rfl)) (by decide) (by decide)) (g := (mkF m 64 #[iv p0, iv p1, iv p2, iv p3, iv p4, iv p5, iv (2 : Int32), iv ia_37, iv ib_38, iv tt_39, rv b41, .unset] [(.int (0 : Int32)), (.int (0 : Int32)), (.int (-1 : Int32)), (.int p3), (.int p2), (.int ia_37), (.int (2 : Int32)), (.int (0 : Int32)), (.ref b41)])) rfl (by rw [hml]; rfl) (argsL := [(.ref b41), (.int (0 : Int32)), (.int (2 : Int32)), (.int ia_37), (.int p2), (.int p3), (.int (-1 : Int32)), (.int (0 : Int32)), (.int (0 : Int32))]) (rest := []) (lenOf own_pd4 rfl) rfl (by show 2 * 0 + _ ≤ _; exact Nat.le_of_eq rfl) (Jvm.hb hby at_64) (fun _ _ => ⟨rfl, rfl, (by decide : 12 + 0 ≤ _), (by decide : 33 + 0 ≤ _)⟩)
    dsimp only [Pt.U, Pt.locs, Pt.cells, Pt.slots] at X53 l53 y53 z53 st53 hQ53
    subst l53 y53 z53
    obtain ⟨rfl, Nq53, eq53⟩ := hQ53
    have N53 := Fr.app N43 Nq53
    have e53 : T53.heap = T43.heap := eq53
    refine own_go st53 ?_
    show Gm p e below T53 m 67 #[iv p0, iv p1, iv p2, iv p3, iv p4, iv p5, iv (2 : Int32), iv ia_37, iv ib_38, iv tt_39, rv b41, .unset] [(.int (1 : Int32))] _
    refine own_go (fun t₀ k₀ => XS.ifNo X53.here hx rfl (Jvm.hb hby at_67) rfl (XT.i0_eq_f (by decide)) k₀) ?_
    show Gm p e below T53 m 70 #[iv p0, iv p1, iv p2, iv p3, iv p4, iv p5, iv (2 : Int32), iv ia_37, iv ib_38, iv tt_39, rv b41, .unset] [] _
    refine own_go (fun t₀ k₀ => XS.aload X53.here hx rfl (Jvm.hb hby at_70) rfl rfl k₀) ?_
    show Gm p e below T53 m 72 #[iv p0, iv p1, iv p2, iv p3, iv p4, iv p5, iv (2 : Int32), iv ia_37, iv ib_38, iv tt_39, rv b41, .unset] [(.ref b41)] _
    refine own_go (fun t₀ k₀ => XS.iconst X53.here hx rfl (Jvm.hb hby at_72) k₀) ?_
    show Gm p e below T53 m 73 #[iv p0, iv p1, iv p2, iv p3, iv p4, iv p5, iv (2 : Int32), iv ia_37, iv ib_38, iv tt_39, rv b41, .unset] [(.int (1 : Int32)), (.ref b41)] _
    refine own_go (fun t₀ k₀ => XS.iload X53.here hx rfl (Jvm.hb hby at_73) rfl k₀) ?_
    show Gm p e below T53 m 75 #[iv p0, iv p1, iv p2, iv p3, iv p4, iv p5, iv (2 : Int32), iv ia_37, iv ib_38, iv tt_39, rv b41, .unset] [(.int (2 : Int32)), (.int (1 : Int32)), (.ref b41)] _
    refine own_go (fun t₀ k₀ => XS.iload X53.here hx rfl (Jvm.hb hby at_75) rfl k₀) ?_
    show Gm p e below T53 m 77 #[iv p0, iv p1, iv p2, iv p3, iv p4, iv p5, iv (2 : Int32), iv ia_37, iv ib_38, iv tt_39, rv b41, .unset] [(.int ia_37), (.int (2 : Int32)), (.int (1 : Int32)), (.ref b41)] _
    refine own_go (fun t₀ k₀ => XS.iloadN X53.here hx rfl (Jvm.hb hby at_77) rfl k₀) ?_
    show Gm p e below T53 m 78 #[iv p0, iv p1, iv p2, iv p3, iv p4, iv p5, iv (2 : Int32), iv ia_37, iv ib_38, iv tt_39, rv b41, .unset] [(.int p2), (.int ia_37), (.int (2 : Int32)), (.int (1 : Int32)), (.ref b41)] _
    refine own_go (fun t₀ k₀ => XS.iloadN X53.here hx rfl (Jvm.hb hby at_78) rfl k₀) ?_
    show Gm p e below T53 m 79 #[iv p0, iv p1, iv p2, iv p3, iv p4, iv p5, iv (2 : Int32), iv ia_37, iv ib_38, iv tt_39, rv b41, .unset] [(.int p3), (.int p2), (.int ia_37), (.int (2 : Int32)), (.int (1 : Int32)), (.ref b41)] _
    refine own_go (fun t₀ k₀ => XS.iconst X53.here hx rfl (Jvm.hb hby at_79) k₀) ?_
    show Gm p e below T53 m 80 #[iv p0, iv p1, iv p2, iv p3, iv p4, iv p5, iv (2 : Int32), iv ia_37, iv ib_38, iv tt_39, rv b41, .unset] [(.int (-1 : Int32)), (.int p3), (.int p2), (.int ia_37), (.int (2 : Int32)), (.int (1 : Int32)), (.ref b41)] _
    refine own_go (fun t₀ k₀ => XS.iconst X53.here hx rfl (Jvm.hb hby at_80) k₀) ?_
    show Gm p e below T53 m 81 #[iv p0, iv p1, iv p2, iv p3, iv p4, iv p5, iv (2 : Int32), iv ia_37, iv ib_38, iv tt_39, rv b41, .unset] [(.int (0 : Int32)), (.int (-1 : Int32)), (.int p3), (.int p2), (.int ia_37), (.int (2 : Int32)), (.int (1 : Int32)), (.ref b41)] _
    refine own_go (fun t₀ k₀ => XS.iconst X53.here hx rfl (Jvm.hb hby at_81) k₀) ?_
    show Gm p e below T53 m 82 #[iv p0, iv p1, iv p2, iv p3, iv p4, iv p5, iv (2 : Int32), iv ia_37, iv ib_38, iv tt_39, rv b41, .unset] [(.int (0 : Int32)), (.int (0 : Int32)), (.int (-1 : Int32)), (.int p3), (.int p2), (.int ia_37), (.int (2 : Int32)), (.int (1 : Int32)), (.ref b41)] _
    obtain ⟨_, _, ⟨T54, L54, k54, n54⟩, -, X54, ⟨Lc54, hQ54, l54, y54, z54⟩, st54⟩ := Jvm.LawKit.callS X53 hx (y := (⟨"com/example/throughfare/throughfare/simulation/WalkersStartPinLaw", "slot", "(Lcom/example/throughfare/throughfare/simulation/Walkers;IIIIIIII)Z"⟩ : MethodName)) hown (mvT hZ (hw _ (List.mem_of_getElem? (i := 48) rfl))) (mvT hZ (hw _ (List.mem_of_getElem? (i := 49) rfl))) (mvT hZ (hw _ (List.mem_of_getElem? (i := 50) rfl))) (mvT hZ (hw _ (List.mem_of_getElem? (i := 51) rfl))) (by decide) (backOf (W := 0) (rm6 l Z a0 hw [] b41 (1 : Int32) (2 : Int32) ia_37 p2 p3 (-1 : Int32) (0 : Int32) (0 : Int32) floor42 startCell42 cell42 heading42 leaving42 exit42 2 (fun i => if i = ia_37.toNatClampNeg then p2 else (fun _ => (0 : Int32)) i) (fun i => if i = ia_37.toNatClampNeg then p3 else (fun _ => (0 : Int32)) i) (fun i => if i = ia_37.toNatClampNeg then p3 else (fun _ => (0 : Int32)) i) (fun _ => (0 : Int32)) (fun _ => (-1 : Int32)) (fun _ => (-1 : Int32)) T43.heap n0 Z43 f44 f45 f46 f47 f48 f49 Ac_floor43 Ac_startCell43 Ac_cell43 f50 f51 f52 (by decide) (by decide) (own_s1 (by decide) hr_ia_37.1 (by decide)) (own_s1 (by decide) hr_ia_37.1 (by decide)) (own_s1 (by decide) hr_ia_37.1 (by decide)) rfl rfl rfl) hZ (hw _ (List.mem_of_getElem? (i := 51) rfl)) (hw _ (List.mem_of_getElem? (i := 50) rfl)) (by decide) (by decide)) (g := (mkF m 82 #[iv p0, iv p1, iv p2, iv p3, iv p4, iv p5, iv (2 : Int32), iv ia_37, iv ib_38, iv tt_39, rv b41, .unset] [(.int (0 : Int32)), (.int (0 : Int32)), (.int (-1 : Int32)), (.int p3), (.int p2), (.int ia_37), (.int (2 : Int32)), (.int (1 : Int32)), (.ref b41)])) rfl (by rw [hml]; rfl) (argsL := [(.ref b41), (.int (1 : Int32)), (.int (2 : Int32)), (.int ia_37), (.int p2), (.int p3), (.int (-1 : Int32)), (.int (0 : Int32)), (.int (0 : Int32))]) (rest := []) (lenOf own_pd4 rfl) rfl (by show 2 * 0 + _ ≤ _; exact Nat.le_of_eq rfl) (Jvm.hb hby at_82) (fun _ _ => ⟨rfl, e53, (by decide : 12 + 0 ≤ _), (by decide : 33 + 0 ≤ _)⟩)
    dsimp only [Pt.U, Pt.locs, Pt.cells, Pt.slots] at X54 l54 y54 z54 st54 hQ54
    subst l54 y54 z54
    obtain ⟨rfl, Nq54, eq54⟩ := hQ54
    have N54 := Fr.app N53 Nq54
    have e54 : T54.heap = T43.heap := eq54
    refine own_go st54 ?_
    show Gm p e below T54 m 85 #[iv p0, iv p1, iv p2, iv p3, iv p4, iv p5, iv (2 : Int32), iv ia_37, iv ib_38, iv tt_39, rv b41, .unset] [(.int (1 : Int32))] _
    refine own_go (fun t₀ k₀ => XS.ifNo X54.here hx rfl (Jvm.hb hby at_85) rfl (XT.i0_eq_f (by decide)) k₀) ?_
    show Gm p e below T54 m 88 #[iv p0, iv p1, iv p2, iv p3, iv p4, iv p5, iv (2 : Int32), iv ia_37, iv ib_38, iv tt_39, rv b41, .unset] [] _
    refine own_go (fun t₀ k₀ => XS.aload X54.here hx rfl (Jvm.hb hby at_88) rfl rfl k₀) ?_
    show Gm p e below T54 m 90 #[iv p0, iv p1, iv p2, iv p3, iv p4, iv p5, iv (2 : Int32), iv ia_37, iv ib_38, iv tt_39, rv b41, .unset] [(.ref b41)] _
    refine own_go (fun t₀ k₀ => XS.iconst X54.here hx rfl (Jvm.hb hby at_90) k₀) ?_
    show Gm p e below T54 m 91 #[iv p0, iv p1, iv p2, iv p3, iv p4, iv p5, iv (2 : Int32), iv ia_37, iv ib_38, iv tt_39, rv b41, .unset] [(.int (2 : Int32)), (.ref b41)] _
    refine own_go (fun t₀ k₀ => XS.iload X54.here hx rfl (Jvm.hb hby at_91) rfl k₀) ?_
    show Gm p e below T54 m 93 #[iv p0, iv p1, iv p2, iv p3, iv p4, iv p5, iv (2 : Int32), iv ia_37, iv ib_38, iv tt_39, rv b41, .unset] [(.int (2 : Int32)), (.int (2 : Int32)), (.ref b41)] _
    refine own_go (fun t₀ k₀ => XS.iload X54.here hx rfl (Jvm.hb hby at_93) rfl k₀) ?_
    show Gm p e below T54 m 95 #[iv p0, iv p1, iv p2, iv p3, iv p4, iv p5, iv (2 : Int32), iv ia_37, iv ib_38, iv tt_39, rv b41, .unset] [(.int ia_37), (.int (2 : Int32)), (.int (2 : Int32)), (.ref b41)] _
    refine own_go (fun t₀ k₀ => XS.iloadN X54.here hx rfl (Jvm.hb hby at_95) rfl k₀) ?_
    show Gm p e below T54 m 96 #[iv p0, iv p1, iv p2, iv p3, iv p4, iv p5, iv (2 : Int32), iv ia_37, iv ib_38, iv tt_39, rv b41, .unset] [(.int p2), (.int ia_37), (.int (2 : Int32)), (.int (2 : Int32)), (.ref b41)] _
    refine own_go (fun t₀ k₀ => XS.iloadN X54.here hx rfl (Jvm.hb hby at_96) rfl k₀) ?_
    show Gm p e below T54 m 97 #[iv p0, iv p1, iv p2, iv p3, iv p4, iv p5, iv (2 : Int32), iv ia_37, iv ib_38, iv tt_39, rv b41, .unset] [(.int p3), (.int p2), (.int ia_37), (.int (2 : Int32)), (.int (2 : Int32)), (.ref b41)] _
    refine own_go (fun t₀ k₀ => XS.iconst X54.here hx rfl (Jvm.hb hby at_97) k₀) ?_
    show Gm p e below T54 m 98 #[iv p0, iv p1, iv p2, iv p3, iv p4, iv p5, iv (2 : Int32), iv ia_37, iv ib_38, iv tt_39, rv b41, .unset] [(.int (-1 : Int32)), (.int p3), (.int p2), (.int ia_37), (.int (2 : Int32)), (.int (2 : Int32)), (.ref b41)] _
    refine own_go (fun t₀ k₀ => XS.iconst X54.here hx rfl (Jvm.hb hby at_98) k₀) ?_
    show Gm p e below T54 m 99 #[iv p0, iv p1, iv p2, iv p3, iv p4, iv p5, iv (2 : Int32), iv ia_37, iv ib_38, iv tt_39, rv b41, .unset] [(.int (0 : Int32)), (.int (-1 : Int32)), (.int p3), (.int p2), (.int ia_37), (.int (2 : Int32)), (.int (2 : Int32)), (.ref b41)] _
    refine own_go (fun t₀ k₀ => XS.iconst X54.here hx rfl (Jvm.hb hby at_99) k₀) ?_
    show Gm p e below T54 m 100 #[iv p0, iv p1, iv p2, iv p3, iv p4, iv p5, iv (2 : Int32), iv ia_37, iv ib_38, iv tt_39, rv b41, .unset] [(.int (0 : Int32)), (.int (0 : Int32)), (.int (-1 : Int32)), (.int p3), (.int p2), (.int ia_37), (.int (2 : Int32)), (.int (2 : Int32)), (.ref b41)] _
    obtain ⟨_, _, ⟨T55, L55, k55, n55⟩, -, X55, ⟨Lc55, hQ55, l55, y55, z55⟩, st55⟩ := Jvm.LawKit.callS X54 hx (y := (⟨"com/example/throughfare/throughfare/simulation/WalkersStartPinLaw", "slot", "(Lcom/example/throughfare/throughfare/simulation/Walkers;IIIIIIII)Z"⟩ : MethodName)) hown (mvT hZ (hw _ (List.mem_of_getElem? (i := 48) rfl))) (mvT hZ (hw _ (List.mem_of_getElem? (i := 49) rfl))) (mvT hZ (hw _ (List.mem_of_getElem? (i := 50) rfl))) (mvT hZ (hw _ (List.mem_of_getElem? (i := 51) rfl))) (by decide) (backOf (W := 0) (rm6 l Z a0 hw [] b41 (2 : Int32) (2 : Int32) ia_37 p2 p3 (-1 : Int32) (0 : Int32) (0 : Int32) floor42 startCell42 cell42 heading42 leaving42 exit42 2 (fun i => if i = ia_37.toNatClampNeg then p2 else (fun _ => (0 : Int32)) i) (fun i => if i = ia_37.toNatClampNeg then p3 else (fun _ => (0 : Int32)) i) (fun i => if i = ia_37.toNatClampNeg then p3 else (fun _ => (0 : Int32)) i) (fun _ => (0 : Int32)) (fun _ => (-1 : Int32)) (fun _ => (-1 : Int32)) T43.heap n0 Z43 f44 f45 f46 f47 f48 f49 Ac_floor43 Ac_startCell43 Ac_cell43 f50 f51 f52 (by decide) (by decide) (own_s1 (by decide) hr_ia_37.1 (by decide)) (own_s1 (by decide) hr_ia_37.1 (by decide)) (own_s1 (by decide) hr_ia_37.1 (by decide)) rfl rfl rfl) hZ (hw _ (List.mem_of_getElem? (i := 51) rfl)) (hw _ (List.mem_of_getElem? (i := 50) rfl)) (by decide) (by decide)) (g := (mkF m 100 #[iv p0, iv p1, iv p2, iv p3, iv p4, iv p5, iv (2 : Int32), iv ia_37, iv ib_38, iv tt_39, rv b41, .unset] [(.int (0 : Int32)), (.int (0 : Int32)), (.int (-1 : Int32)), (.int p3), (.int p2), (.int ia_37), (.int (2 : Int32)), (.int (2 : Int32)), (.ref b41)])) rfl (by rw [hml]; rfl) (argsL := [(.ref b41), (.int (2 : Int32)), (.int (2 : Int32)), (.int ia_37), (.int p2), (.int p3), (.int (-1 : Int32)), (.int (0 : Int32)), (.int (0 : Int32))]) (rest := []) (lenOf own_pd4 rfl) rfl (by show 2 * 0 + _ ≤ _; exact Nat.le_of_eq rfl) (Jvm.hb hby at_100) (fun _ _ => ⟨rfl, e54, (by decide : 12 + 0 ≤ _), (by decide : 33 + 0 ≤ _)⟩)
    dsimp only [Pt.U, Pt.locs, Pt.cells, Pt.slots] at X55 l55 y55 z55 st55 hQ55
    subst l55 y55 z55
    obtain ⟨rfl, Nq55, eq55⟩ := hQ55
    have N55 := Fr.app N54 Nq55
    have e55 : T55.heap = T43.heap := eq55
    refine own_go st55 ?_
    show Gm p e below T55 m 103 #[iv p0, iv p1, iv p2, iv p3, iv p4, iv p5, iv (2 : Int32), iv ia_37, iv ib_38, iv tt_39, rv b41, .unset] [(.int (1 : Int32))] _
    refine own_go (fun t₀ k₀ => XS.ifNo X55.here hx rfl (Jvm.hb hby at_103) rfl (XT.i0_eq_f (by decide)) k₀) ?_
    show Gm p e below T55 m 106 #[iv p0, iv p1, iv p2, iv p3, iv p4, iv p5, iv (2 : Int32), iv ia_37, iv ib_38, iv tt_39, rv b41, .unset] [] _
    refine own_go (fun t₀ k₀ => XS.aload X55.here hx rfl (Jvm.hb hby at_106) rfl rfl k₀) ?_
    show Gm p e below T55 m 108 #[iv p0, iv p1, iv p2, iv p3, iv p4, iv p5, iv (2 : Int32), iv ia_37, iv ib_38, iv tt_39, rv b41, .unset] [(.ref b41)] _
    refine own_go (fun t₀ k₀ => XS.iconst X55.here hx rfl (Jvm.hb hby at_108) k₀) ?_
    show Gm p e below T55 m 109 #[iv p0, iv p1, iv p2, iv p3, iv p4, iv p5, iv (2 : Int32), iv ia_37, iv ib_38, iv tt_39, rv b41, .unset] [(.int (3 : Int32)), (.ref b41)] _
    refine own_go (fun t₀ k₀ => XS.iload X55.here hx rfl (Jvm.hb hby at_109) rfl k₀) ?_
    show Gm p e below T55 m 111 #[iv p0, iv p1, iv p2, iv p3, iv p4, iv p5, iv (2 : Int32), iv ia_37, iv ib_38, iv tt_39, rv b41, .unset] [(.int (2 : Int32)), (.int (3 : Int32)), (.ref b41)] _
    refine own_go (fun t₀ k₀ => XS.iload X55.here hx rfl (Jvm.hb hby at_111) rfl k₀) ?_
    show Gm p e below T55 m 113 #[iv p0, iv p1, iv p2, iv p3, iv p4, iv p5, iv (2 : Int32), iv ia_37, iv ib_38, iv tt_39, rv b41, .unset] [(.int ia_37), (.int (2 : Int32)), (.int (3 : Int32)), (.ref b41)] _
    refine own_go (fun t₀ k₀ => XS.iloadN X55.here hx rfl (Jvm.hb hby at_113) rfl k₀) ?_
    show Gm p e below T55 m 114 #[iv p0, iv p1, iv p2, iv p3, iv p4, iv p5, iv (2 : Int32), iv ia_37, iv ib_38, iv tt_39, rv b41, .unset] [(.int p2), (.int ia_37), (.int (2 : Int32)), (.int (3 : Int32)), (.ref b41)] _
    refine own_go (fun t₀ k₀ => XS.iloadN X55.here hx rfl (Jvm.hb hby at_114) rfl k₀) ?_
    show Gm p e below T55 m 115 #[iv p0, iv p1, iv p2, iv p3, iv p4, iv p5, iv (2 : Int32), iv ia_37, iv ib_38, iv tt_39, rv b41, .unset] [(.int p3), (.int p2), (.int ia_37), (.int (2 : Int32)), (.int (3 : Int32)), (.ref b41)] _
    refine own_go (fun t₀ k₀ => XS.iconst X55.here hx rfl (Jvm.hb hby at_115) k₀) ?_
    show Gm p e below T55 m 116 #[iv p0, iv p1, iv p2, iv p3, iv p4, iv p5, iv (2 : Int32), iv ia_37, iv ib_38, iv tt_39, rv b41, .unset] [(.int (-1 : Int32)), (.int p3), (.int p2), (.int ia_37), (.int (2 : Int32)), (.int (3 : Int32)), (.ref b41)] _
    refine own_go (fun t₀ k₀ => XS.iconst X55.here hx rfl (Jvm.hb hby at_116) k₀) ?_
    show Gm p e below T55 m 117 #[iv p0, iv p1, iv p2, iv p3, iv p4, iv p5, iv (2 : Int32), iv ia_37, iv ib_38, iv tt_39, rv b41, .unset] [(.int (0 : Int32)), (.int (-1 : Int32)), (.int p3), (.int p2), (.int ia_37), (.int (2 : Int32)), (.int (3 : Int32)), (.ref b41)] _
    refine own_go (fun t₀ k₀ => XS.iconst X55.here hx rfl (Jvm.hb hby at_117) k₀) ?_
    show Gm p e below T55 m 118 #[iv p0, iv p1, iv p2, iv p3, iv p4, iv p5, iv (2 : Int32), iv ia_37, iv ib_38, iv tt_39, rv b41, .unset] [(.int (0 : Int32)), (.int (0 : Int32)), (.int (-1 : Int32)), (.int p3), (.int p2), (.int ia_37), (.int (2 : Int32)), (.int (3 : Int32)), (.ref b41)] _
    obtain ⟨_, _, ⟨T56, L56, k56, n56⟩, -, X56, ⟨Lc56, hQ56, l56, y56, z56⟩, st56⟩ := Jvm.LawKit.callS X55 hx (y := (⟨"com/example/throughfare/throughfare/simulation/WalkersStartPinLaw", "slot", "(Lcom/example/throughfare/throughfare/simulation/Walkers;IIIIIIII)Z"⟩ : MethodName)) hown (mvT hZ (hw _ (List.mem_of_getElem? (i := 48) rfl))) (mvT hZ (hw _ (List.mem_of_getElem? (i := 49) rfl))) (mvT hZ (hw _ (List.mem_of_getElem? (i := 50) rfl))) (mvT hZ (hw _ (List.mem_of_getElem? (i := 51) rfl))) (by decide) (backOf (W := 0) (rm6 l Z a0 hw [] b41 (3 : Int32) (2 : Int32) ia_37 p2 p3 (-1 : Int32) (0 : Int32) (0 : Int32) floor42 startCell42 cell42 heading42 leaving42 exit42 2 (fun i => if i = ia_37.toNatClampNeg then p2 else (fun _ => (0 : Int32)) i) (fun i => if i = ia_37.toNatClampNeg then p3 else (fun _ => (0 : Int32)) i) (fun i => if i = ia_37.toNatClampNeg then p3 else (fun _ => (0 : Int32)) i) (fun _ => (0 : Int32)) (fun _ => (-1 : Int32)) (fun _ => (-1 : Int32)) T43.heap n0 Z43 f44 f45 f46 f47 f48 f49 Ac_floor43 Ac_startCell43 Ac_cell43 f50 f51 f52 (by decide) (by decide) (own_s1 (by decide) hr_ia_37.1 (by decide)) (own_s1 (by decide) hr_ia_37.1 (by decide)) (own_s1 (by decide) hr_ia_37.1 (by decide)) rfl rfl rfl) hZ (hw _ (List.mem_of_getElem? (i := 51) rfl)) (hw _ (List.mem_of_getElem? (i := 50) rfl)) (by decide) (by decide)) (g := (mkF m 118 #[iv p0, iv p1, iv p2, iv p3, iv p4, iv p5, iv (2 : Int32), iv ia_37, iv ib_38, iv tt_39, rv b41, .unset] [(.int (0 : Int32)), (.int (0 : Int32)), (.int (-1 : Int32)), (.int p3), (.int p2), (.int ia_37), (.int (2 : Int32)), (.int (3 : Int32)), (.ref b41)])) rfl (by rw [hml]; rfl) (argsL := [(.ref b41), (.int (3 : Int32)), (.int (2 : Int32)), (.int ia_37), (.int p2), (.int p3), (.int (-1 : Int32)), (.int (0 : Int32)), (.int (0 : Int32))]) (rest := []) (lenOf own_pd4 rfl) rfl (by show 2 * 0 + _ ≤ _; exact Nat.le_of_eq rfl) (Jvm.hb hby at_118) (fun _ _ => ⟨rfl, e55, (by decide : 12 + 0 ≤ _), (by decide : 33 + 0 ≤ _)⟩)
    dsimp only [Pt.U, Pt.locs, Pt.cells, Pt.slots] at X56 l56 y56 z56 st56 hQ56
    subst l56 y56 z56
    obtain ⟨rfl, Nq56, eq56⟩ := hQ56
    have N56 := Fr.app N55 Nq56
    have e56 : T56.heap = T43.heap := eq56
    refine own_go st56 ?_
    show Gm p e below T56 m 121 #[iv p0, iv p1, iv p2, iv p3, iv p4, iv p5, iv (2 : Int32), iv ia_37, iv ib_38, iv tt_39, rv b41, .unset] [(.int (1 : Int32))] _
    refine own_go (fun t₀ k₀ => XS.ifNo X56.here hx rfl (Jvm.hb hby at_121) rfl (XT.i0_eq_f (by decide)) k₀) ?_
    show Gm p e below T56 m 124 #[iv p0, iv p1, iv p2, iv p3, iv p4, iv p5, iv (2 : Int32), iv ia_37, iv ib_38, iv tt_39, rv b41, .unset] [] _
    refine own_go (fun t₀ k₀ => XS.iconst X56.here hx rfl (Jvm.hb hby at_124) k₀) ?_
    show Gm p e below T56 m 125 #[iv p0, iv p1, iv p2, iv p3, iv p4, iv p5, iv (2 : Int32), iv ia_37, iv ib_38, iv tt_39, rv b41, .unset] [(.int (1 : Int32))] _
    refine own_go (fun t₀ k₀ => XS.goto X56.here hx rfl (pc0 := 125) (pc' := 129) rfl (Jvm.hb hby at_125) (by decide) (by decide) k₀) ?_
    show Gm p e below T56 m 129 #[iv p0, iv p1, iv p2, iv p3, iv p4, iv p5, iv (2 : Int32), iv ia_37, iv ib_38, iv tt_39, rv b41, .unset] [(.int (1 : Int32))] _
    refine own_go (fun t₀ k₀ => XS.istore X56.here hx rfl (Jvm.hb hby at_129) rfl (l' := #[iv p0, iv p1, iv p2, iv p3, iv p4, iv p5, iv (2 : Int32), iv ia_37, iv ib_38, iv tt_39, rv b41, iv (1 : Int32)]) rfl k₀) ?_
    show Gm p e below T56 m 131 #[iv p0, iv p1, iv p2, iv p3, iv p4, iv p5, iv (2 : Int32), iv ia_37, iv ib_38, iv tt_39, rv b41, iv (1 : Int32)] [] _
    refine own_go (fun t₀ k₀ => XS.aload X56.here hx rfl (Jvm.hb hby at_131) rfl rfl k₀) ?_
    show Gm p e below T56 m 133 #[iv p0, iv p1, iv p2, iv p3, iv p4, iv p5, iv (2 : Int32), iv ia_37, iv ib_38, iv tt_39, rv b41, iv (1 : Int32)] [(.ref b41)] _
    refine own_go (fun t₀ k₀ => XS.iload X56.here hx rfl (Jvm.hb hby at_133) rfl k₀) ?_
    show Gm p e below T56 m 135 #[iv p0, iv p1, iv p2, iv p3, iv p4, iv p5, iv (2 : Int32), iv ia_37, iv ib_38, iv tt_39, rv b41, iv (1 : Int32)] [(.int ib_38), (.ref b41)] _
    refine own_go (fun t₀ k₀ => XS.iload X56.here hx rfl (Jvm.hb hby at_135) rfl k₀) ?_
    show Gm p e below T56 m 137 #[iv p0, iv p1, iv p2, iv p3, iv p4, iv p5, iv (2 : Int32), iv ia_37, iv ib_38, iv tt_39, rv b41, iv (1 : Int32)] [(.int p5), (.int ib_38), (.ref b41)] _
    refine own_go (fun t₀ k₀ => XS.iload X56.here hx rfl (Jvm.hb hby at_137) rfl k₀) ?_
    show Gm p e below T56 m 139 #[iv p0, iv p1, iv p2, iv p3, iv p4, iv p5, iv (2 : Int32), iv ia_37, iv ib_38, iv tt_39, rv b41, iv (1 : Int32)] [(.int tt_39), (.int p5), (.int ib_38), (.ref b41)] _
    have f58 := (Ec42.keep Kc43)
    obtain ⟨cq57, kq57, q57a, q57b, q57c⟩ := isOf hZ e56 f58
    obtain ⟨_, _, ⟨T57, L57, k57, n57⟩, -, X57, ⟨Lc57, hQ57, l57, y57, z57⟩, st57⟩ := X56.virtualBack hx (y := (⟨"com/example/throughfare/throughfare/simulation/Walkers", "start", "(III)V"⟩ : MethodName)) (z := (⟨"com/example/throughfare/throughfare/simulation/Walkers", "start", "(III)V"⟩ : MethodName)) hown (mvT hZ (hw _ (List.mem_of_getElem? (i := 43) rfl))) (mvT hZ (hw _ (List.mem_of_getElem? (i := 44) rfl))) (notFace_of_selects (args := #[]) (mvT hZ (hw _ (List.mem_of_getElem? (i := 46) rfl)))) (mvT hZ (hw _ (List.mem_of_getElem? (i := 46) rfl))) (mvT hZ (hw _ (List.mem_of_getElem? (i := 45) rfl))) (by decide) (backOf (W := 0) (rm5 l Z a0 hw [] b41 ib_38 p5 tt_39 floor42 startCell42 cell42 2 (fun i => if i = ia_37.toNatClampNeg then p2 else (fun _ => (0 : Int32)) i) (fun i => if i = ia_37.toNatClampNeg then p3 else (fun _ => (0 : Int32)) i) (fun i => if i = ia_37.toNatClampNeg then p3 else (fun _ => (0 : Int32)) i) T43.heap n0 Z43 f44 f45 f46 Ac_floor43 Ac_startCell43 Ac_cell43 ne_b41_floor42 ne_b41_startCell42 ne_b41_cell42 nn_floor_startCell42 nn_floor_cell42 nn_startCell_cell42 g_floor42 g_startCell42 g_cell42 hr_ib_38.1 hr_ib_38.2) hZ (hw _ (List.mem_of_getElem? (i := 47) rfl)) (hw _ (List.mem_of_getElem? (i := 3) rfl)) (by decide) (by decide)) q57a q57c (g := (mkF m 139 #[iv p0, iv p1, iv p2, iv p3, iv p4, iv p5, iv (2 : Int32), iv ia_37, iv ib_38, iv tt_39, rv b41, iv (1 : Int32)] [(.int tt_39), (.int p5), (.int ib_38), (.ref b41)])) rfl (by rw [hml]; rfl) (Steps.refl _) (argsL := [(.int ib_38), (.int p5), (.int tt_39)]) (rest := []) (lenOf own_pd3 rfl) rfl (by show 2 * 0 + _ ≤ _; exact Nat.le_of_eq rfl) (Jvm.hb hby at_139) (fun _ _ => ⟨rfl, e56, (by decide : 12 + 0 ≤ _), (by decide : 33 + 0 ≤ _)⟩)
    dsimp only [Pt.U, Pt.locs, Pt.cells, Pt.slots] at X57 l57 y57 z57 st57 hQ57
    subst l57 y57 z57
    obtain ⟨rfl, Nq57, Kc57, Ac_floor57, Ac_startCell57, Ac_cell57⟩ := hQ57
    have N57 := Fr.app N56 Nq57
    refine own_go (fun t k => st57.trans k) ?_
    have Z57 : n0 ≤ T57.heap.size := Nat.le_trans Z43 Kc57.1
    show Gm p e below T57 m 142 #[iv p0, iv p1, iv p2, iv p3, iv p4, iv p5, iv (2 : Int32), iv ia_37, iv ib_38, iv tt_39, rv b41, iv (1 : Int32)] [] _
    refine own_go (fun t₀ k₀ => XS.iload X57.here hx rfl (Jvm.hb hby at_142) rfl k₀) ?_
    show Gm p e below T57 m 144 #[iv p0, iv p1, iv p2, iv p3, iv p4, iv p5, iv (2 : Int32), iv ia_37, iv ib_38, iv tt_39, rv b41, iv (1 : Int32)] [(.int (1 : Int32))] _
    refine own_go (fun t₀ k₀ => XS.ifNo X57.here hx rfl (Jvm.hb hby at_144) rfl (XT.i0_eq_f (by decide)) k₀) ?_
    show Gm p e below T57 m 147 #[iv p0, iv p1, iv p2, iv p3, iv p4, iv p5, iv (2 : Int32), iv ia_37, iv ib_38, iv tt_39, rv b41, iv (1 : Int32)] [] _
    refine own_go (fun t₀ k₀ => XS.aload X57.here hx rfl (Jvm.hb hby at_147) rfl rfl k₀) ?_
    show Gm p e below T57 m 149 #[iv p0, iv p1, iv p2, iv p3, iv p4, iv p5, iv (2 : Int32), iv ia_37, iv ib_38, iv tt_39, rv b41, iv (1 : Int32)] [(.ref b41)] _
    refine own_go (fun t₀ k₀ => XS.iconst X57.here hx rfl (Jvm.hb hby at_149) k₀) ?_
    show Gm p e below T57 m 150 #[iv p0, iv p1, iv p2, iv p3, iv p4, iv p5, iv (2 : Int32), iv ia_37, iv ib_38, iv tt_39, rv b41, iv (1 : Int32)] [(.int (0 : Int32)), (.ref b41)] _
    refine own_go (fun t₀ k₀ => XS.iload X57.here hx rfl (Jvm.hb hby at_150) rfl k₀) ?_
    show Gm p e below T57 m 152 #[iv p0, iv p1, iv p2, iv p3, iv p4, iv p5, iv (2 : Int32), iv ia_37, iv ib_38, iv tt_39, rv b41, iv (1 : Int32)] [(.int (2 : Int32)), (.int (0 : Int32)), (.ref b41)] _
    refine own_go (fun t₀ k₀ => XS.iload X57.here hx rfl (Jvm.hb hby at_152) rfl k₀) ?_
    show Gm p e below T57 m 154 #[iv p0, iv p1, iv p2, iv p3, iv p4, iv p5, iv (2 : Int32), iv ia_37, iv ib_38, iv tt_39, rv b41, iv (1 : Int32)] [(.int ia_37), (.int (2 : Int32)), (.int (0 : Int32)), (.ref b41)] _
    refine own_go (fun t₀ k₀ => XS.iloadN X57.here hx rfl (Jvm.hb hby at_154) rfl k₀) ?_
    show Gm p e below T57 m 155 #[iv p0, iv p1, iv p2, iv p3, iv p4, iv p5, iv (2 : Int32), iv ia_37, iv ib_38, iv tt_39, rv b41, iv (1 : Int32)] [(.int p2), (.int ia_37), (.int (2 : Int32)), (.int (0 : Int32)), (.ref b41)] _
    refine own_go (fun t₀ k₀ => XS.iloadN X57.here hx rfl (Jvm.hb hby at_155) rfl k₀) ?_
    show Gm p e below T57 m 156 #[iv p0, iv p1, iv p2, iv p3, iv p4, iv p5, iv (2 : Int32), iv ia_37, iv ib_38, iv tt_39, rv b41, iv (1 : Int32)] [(.int p3), (.int p2), (.int ia_37), (.int (2 : Int32)), (.int (0 : Int32)), (.ref b41)] _
    refine own_go (fun t₀ k₀ => XS.iload X57.here hx rfl (Jvm.hb hby at_156) rfl k₀) ?_
    show Gm p e below T57 m 158 #[iv p0, iv p1, iv p2, iv p3, iv p4, iv p5, iv (2 : Int32), iv ia_37, iv ib_38, iv tt_39, rv b41, iv (1 : Int32)] [(.int ib_38), (.int p3), (.int p2), (.int ia_37), (.int (2 : Int32)), (.int (0 : Int32)), (.ref b41)] _
    refine own_go (fun t₀ k₀ => XS.iload X57.here hx rfl (Jvm.hb hby at_158) rfl k₀) ?_
    show Gm p e below T57 m 160 #[iv p0, iv p1, iv p2, iv p3, iv p4, iv p5, iv (2 : Int32), iv ia_37, iv ib_38, iv tt_39, rv b41, iv (1 : Int32)] [(.int p5), (.int ib_38), (.int p3), (.int p2), (.int ia_37), (.int (2 : Int32)), (.int (0 : Int32)), (.ref b41)] _
    refine own_go (fun t₀ k₀ => XS.iload X57.here hx rfl (Jvm.hb hby at_160) rfl k₀) ?_
    show Gm p e below T57 m 162 #[iv p0, iv p1, iv p2, iv p3, iv p4, iv p5, iv (2 : Int32), iv ia_37, iv ib_38, iv tt_39, rv b41, iv (1 : Int32)] [(.int tt_39), (.int p5), (.int ib_38), (.int p3), (.int p2), (.int ia_37), (.int (2 : Int32)), (.int (0 : Int32)), (.ref b41)] _
    have f59 := (f44.keep Kc57 (ninS ne_b41_floor42 (ninS ne_b41_startCell42 (ninS ne_b41_cell42 nin0))))
    have f60 := (f45.keep Kc57 (ninS ne_b41_floor42 (ninS ne_b41_startCell42 (ninS ne_b41_cell42 nin0))))
    have f61 := (f46.keep Kc57 (ninS ne_b41_floor42 (ninS ne_b41_startCell42 (ninS ne_b41_cell42 nin0))))
    have f62 := (f47.keep Kc57 (ninS ne_b41_floor42 (ninS ne_b41_startCell42 (ninS ne_b41_cell42 nin0))))
    have f63 := (f48.keep Kc57 (ninS ne_b41_floor42 (ninS ne_b41_startCell42 (ninS ne_b41_cell42 nin0))))
    have f64 := (f49.keep Kc57 (ninS ne_b41_floor42 (ninS ne_b41_startCell42 (ninS ne_b41_cell42 nin0))))
    have f65 := (f50.keep Kc57 (ninS (Ne.symm nn_floor_heading42) (ninS (Ne.symm nn_startCell_heading42) (ninS (Ne.symm nn_cell_heading42) nin0))))
    have f66 := (f51.keep Kc57 (ninS (Ne.symm nn_floor_leaving42) (ninS (Ne.symm nn_startCell_leaving42) (ninS (Ne.symm nn_cell_leaving42) nin0))))
    have f67 := (f52.keep Kc57 (ninS (Ne.symm nn_floor_exit42) (ninS (Ne.symm nn_startCell_exit42) (ninS (Ne.symm nn_cell_exit42) nin0))))
    obtain ⟨_, _, ⟨T68, L68, k68, n68⟩, -, X68, ⟨Lc68, hQ68, l68, y68, z68⟩, st68⟩ := Jvm.LawKit.callS X57 hx (y := (⟨"com/example/throughfare/throughfare/simulation/WalkersStartPinLaw", "slot", "(Lcom/example/throughfare/throughfare/simulation/Walkers;IIIIIIII)Z"⟩ : MethodName)) hown (mvT hZ (hw _ (List.mem_of_getElem? (i := 48) rfl))) (mvT hZ (hw _ (List.mem_of_getElem? (i := 49) rfl))) (mvT hZ (hw _ (List.mem_of_getElem? (i := 50) rfl))) (mvT hZ (hw _ (List.mem_of_getElem? (i := 51) rfl))) (by decide) (backOf (W := 0) (rm6 l Z a0 hw [] b41 (0 : Int32) (2 : Int32) ia_37 p2 p3 ib_38 p5 tt_39 floor42 startCell42 cell42 heading42 leaving42 exit42 2 (fun i => if i = ib_38.toNatClampNeg then p5 else (fun i => if i = ia_37.toNatClampNeg then p2 else (fun _ => (0 : Int32)) i) i) (fun i => if i = ib_38.toNatClampNeg then tt_39 else (fun i => if i = ia_37.toNatClampNeg then p3 else (fun _ => (0 : Int32)) i) i) (fun i => if i = ib_38.toNatClampNeg then tt_39 else (fun i => if i = ia_37.toNatClampNeg then p3 else (fun _ => (0 : Int32)) i) i) (fun _ => (0 : Int32)) (fun _ => (-1 : Int32)) (fun _ => (-1 : Int32)) T57.heap n0 Z57 f59 f60 f61 f62 f63 f64 Ac_floor57 Ac_startCell57 Ac_cell57 f65 f66 f67 (by decide) (by decide) (own_s2 (by decide) hr_ia_37.1 hr_ib_38.1) (own_s2 (by decide) hr_ia_37.1 hr_ib_38.1) (own_s2 (by decide) hr_ia_37.1 hr_ib_38.1) rfl rfl rfl) hZ (hw _ (List.mem_of_getElem? (i := 51) rfl)) (hw _ (List.mem_of_getElem? (i := 50) rfl)) (by decide) (by decide)) (g := (mkF m 162 #[iv p0, iv p1, iv p2, iv p3, iv p4, iv p5, iv (2 : Int32), iv ia_37, iv ib_38, iv tt_39, rv b41, iv (1 : Int32)] [(.int tt_39), (.int p5), (.int ib_38), (.int p3), (.int p2), (.int ia_37), (.int (2 : Int32)), (.int (0 : Int32)), (.ref b41)])) rfl (by rw [hml]; rfl) (argsL := [(.ref b41), (.int (0 : Int32)), (.int (2 : Int32)), (.int ia_37), (.int p2), (.int p3), (.int ib_38), (.int p5), (.int tt_39)]) (rest := []) (lenOf own_pd4 rfl) rfl (by show 2 * 0 + _ ≤ _; exact Nat.le_of_eq rfl) (Jvm.hb hby at_162) (fun _ _ => ⟨rfl, rfl, (by decide : 12 + 0 ≤ _), (by decide : 33 + 0 ≤ _)⟩)
    dsimp only [Pt.U, Pt.locs, Pt.cells, Pt.slots] at X68 l68 y68 z68 st68 hQ68
    subst l68 y68 z68
    obtain ⟨rfl, Nq68, eq68⟩ := hQ68
    have N68 := Fr.app N57 Nq68
    have e68 : T68.heap = T57.heap := eq68
    refine own_go st68 ?_
    show Gm p e below T68 m 165 #[iv p0, iv p1, iv p2, iv p3, iv p4, iv p5, iv (2 : Int32), iv ia_37, iv ib_38, iv tt_39, rv b41, iv (1 : Int32)] [(.int (1 : Int32))] _
    refine own_go (fun t₀ k₀ => XS.ifNo X68.here hx rfl (Jvm.hb hby at_165) rfl (XT.i0_eq_f (by decide)) k₀) ?_
    show Gm p e below T68 m 168 #[iv p0, iv p1, iv p2, iv p3, iv p4, iv p5, iv (2 : Int32), iv ia_37, iv ib_38, iv tt_39, rv b41, iv (1 : Int32)] [] _
    refine own_go (fun t₀ k₀ => XS.aload X68.here hx rfl (Jvm.hb hby at_168) rfl rfl k₀) ?_
    show Gm p e below T68 m 170 #[iv p0, iv p1, iv p2, iv p3, iv p4, iv p5, iv (2 : Int32), iv ia_37, iv ib_38, iv tt_39, rv b41, iv (1 : Int32)] [(.ref b41)] _
    refine own_go (fun t₀ k₀ => XS.iconst X68.here hx rfl (Jvm.hb hby at_170) k₀) ?_
    show Gm p e below T68 m 171 #[iv p0, iv p1, iv p2, iv p3, iv p4, iv p5, iv (2 : Int32), iv ia_37, iv ib_38, iv tt_39, rv b41, iv (1 : Int32)] [(.int (1 : Int32)), (.ref b41)] _
    refine own_go (fun t₀ k₀ => XS.iload X68.here hx rfl (Jvm.hb hby at_171) rfl k₀) ?_
    show Gm p e below T68 m 173 #[iv p0, iv p1, iv p2, iv p3, iv p4, iv p5, iv (2 : Int32), iv ia_37, iv ib_38, iv tt_39, rv b41, iv (1 : Int32)] [(.int (2 : Int32)), (.int (1 : Int32)), (.ref b41)] _
    refine own_go (fun t₀ k₀ => XS.iload X68.here hx rfl (Jvm.hb hby at_173) rfl k₀) ?_
    show Gm p e below T68 m 175 #[iv p0, iv p1, iv p2, iv p3, iv p4, iv p5, iv (2 : Int32), iv ia_37, iv ib_38, iv tt_39, rv b41, iv (1 : Int32)] [(.int ia_37), (.int (2 : Int32)), (.int (1 : Int32)), (.ref b41)] _
    refine own_go (fun t₀ k₀ => XS.iloadN X68.here hx rfl (Jvm.hb hby at_175) rfl k₀) ?_
    show Gm p e below T68 m 176 #[iv p0, iv p1, iv p2, iv p3, iv p4, iv p5, iv (2 : Int32), iv ia_37, iv ib_38, iv tt_39, rv b41, iv (1 : Int32)] [(.int p2), (.int ia_37), (.int (2 : Int32)), (.int (1 : Int32)), (.ref b41)] _
    refine own_go (fun t₀ k₀ => XS.iloadN X68.here hx rfl (Jvm.hb hby at_176) rfl k₀) ?_
    show Gm p e below T68 m 177 #[iv p0, iv p1, iv p2, iv p3, iv p4, iv p5, iv (2 : Int32), iv ia_37, iv ib_38, iv tt_39, rv b41, iv (1 : Int32)] [(.int p3), (.int p2), (.int ia_37), (.int (2 : Int32)), (.int (1 : Int32)), (.ref b41)] _
    refine own_go (fun t₀ k₀ => XS.iload X68.here hx rfl (Jvm.hb hby at_177) rfl k₀) ?_
    show Gm p e below T68 m 179 #[iv p0, iv p1, iv p2, iv p3, iv p4, iv p5, iv (2 : Int32), iv ia_37, iv ib_38, iv tt_39, rv b41, iv (1 : Int32)] [(.int ib_38), (.int p3), (.int p2), (.int ia_37), (.int (2 : Int32)), (.int (1 : Int32)), (.ref b41)] _
    refine own_go (fun t₀ k₀ => XS.iload X68.here hx rfl (Jvm.hb hby at_179) rfl k₀) ?_
    show Gm p e below T68 m 181 #[iv p0, iv p1, iv p2, iv p3, iv p4, iv p5, iv (2 : Int32), iv ia_37, iv ib_38, iv tt_39, rv b41, iv (1 : Int32)] [(.int p5), (.int ib_38), (.int p3), (.int p2), (.int ia_37), (.int (2 : Int32)), (.int (1 : Int32)), (.ref b41)] _
    refine own_go (fun t₀ k₀ => XS.iload X68.here hx rfl (Jvm.hb hby at_181) rfl k₀) ?_
    show Gm p e below T68 m 183 #[iv p0, iv p1, iv p2, iv p3, iv p4, iv p5, iv (2 : Int32), iv ia_37, iv ib_38, iv tt_39, rv b41, iv (1 : Int32)] [(.int tt_39), (.int p5), (.int ib_38), (.int p3), (.int p2), (.int ia_37), (.int (2 : Int32)), (.int (1 : Int32)), (.ref b41)] _
    obtain ⟨_, _, ⟨T69, L69, k69, n69⟩, -, X69, ⟨Lc69, hQ69, l69, y69, z69⟩, st69⟩ := Jvm.LawKit.callS X68 hx (y := (⟨"com/example/throughfare/throughfare/simulation/WalkersStartPinLaw", "slot", "(Lcom/example/throughfare/throughfare/simulation/Walkers;IIIIIIII)Z"⟩ : MethodName)) hown (mvT hZ (hw _ (List.mem_of_getElem? (i := 48) rfl))) (mvT hZ (hw _ (List.mem_of_getElem? (i := 49) rfl))) (mvT hZ (hw _ (List.mem_of_getElem? (i := 50) rfl))) (mvT hZ (hw _ (List.mem_of_getElem? (i := 51) rfl))) (by decide) (backOf (W := 0) (rm6 l Z a0 hw [] b41 (1 : Int32) (2 : Int32) ia_37 p2 p3 ib_38 p5 tt_39 floor42 startCell42 cell42 heading42 leaving42 exit42 2 (fun i => if i = ib_38.toNatClampNeg then p5 else (fun i => if i = ia_37.toNatClampNeg then p2 else (fun _ => (0 : Int32)) i) i) (fun i => if i = ib_38.toNatClampNeg then tt_39 else (fun i => if i = ia_37.toNatClampNeg then p3 else (fun _ => (0 : Int32)) i) i) (fun i => if i = ib_38.toNatClampNeg then tt_39 else (fun i => if i = ia_37.toNatClampNeg then p3 else (fun _ => (0 : Int32)) i) i) (fun _ => (0 : Int32)) (fun _ => (-1 : Int32)) (fun _ => (-1 : Int32)) T57.heap n0 Z57 f59 f60 f61 f62 f63 f64 Ac_floor57 Ac_startCell57 Ac_cell57 f65 f66 f67 (by decide) (by decide) (own_s2 (by decide) hr_ia_37.1 hr_ib_38.1) (own_s2 (by decide) hr_ia_37.1 hr_ib_38.1) (own_s2 (by decide) hr_ia_37.1 hr_ib_38.1) rfl rfl rfl) hZ (hw _ (List.mem_of_getElem? (i := 51) rfl)) (hw _ (List.mem_of_getElem? (i := 50) rfl)) (by decide) (by decide)) (g := (mkF m 183 #[iv p0, iv p1, iv p2, iv p3, iv p4, iv p5, iv (2 : Int32), iv ia_37, iv ib_38, iv tt_39, rv b41, iv (1 : Int32)] [(.int tt_39), (.int p5), (.int ib_38), (.int p3), (.int p2), (.int ia_37), (.int (2 : Int32)), (.int (1 : Int32)), (.ref b41)])) rfl (by rw [hml]; rfl) (argsL := [(.ref b41), (.int (1 : Int32)), (.int (2 : Int32)), (.int ia_37), (.int p2), (.int p3), (.int ib_38), (.int p5), (.int tt_39)]) (rest := []) (lenOf own_pd4 rfl) rfl (by show 2 * 0 + _ ≤ _; exact Nat.le_of_eq rfl) (Jvm.hb hby at_183) (fun _ _ => ⟨rfl, e68, (by decide : 12 + 0 ≤ _), (by decide : 33 + 0 ≤ _)⟩)
    dsimp only [Pt.U, Pt.locs, Pt.cells, Pt.slots] at X69 l69 y69 z69 st69 hQ69
    subst l69 y69 z69
    obtain ⟨rfl, Nq69, eq69⟩ := hQ69
    have N69 := Fr.app N68 Nq69
    have e69 : T69.heap = T57.heap := eq69
    refine own_go st69 ?_
    show Gm p e below T69 m 186 #[iv p0, iv p1, iv p2, iv p3, iv p4, iv p5, iv (2 : Int32), iv ia_37, iv ib_38, iv tt_39, rv b41, iv (1 : Int32)] [(.int (1 : Int32))] _
    refine own_go (fun t₀ k₀ => XS.ifNo X69.here hx rfl (Jvm.hb hby at_186) rfl (XT.i0_eq_f (by decide)) k₀) ?_
    show Gm p e below T69 m 189 #[iv p0, iv p1, iv p2, iv p3, iv p4, iv p5, iv (2 : Int32), iv ia_37, iv ib_38, iv tt_39, rv b41, iv (1 : Int32)] [] _
    refine own_go (fun t₀ k₀ => XS.aload X69.here hx rfl (Jvm.hb hby at_189) rfl rfl k₀) ?_
    show Gm p e below T69 m 191 #[iv p0, iv p1, iv p2, iv p3, iv p4, iv p5, iv (2 : Int32), iv ia_37, iv ib_38, iv tt_39, rv b41, iv (1 : Int32)] [(.ref b41)] _
    refine own_go (fun t₀ k₀ => XS.iconst X69.here hx rfl (Jvm.hb hby at_191) k₀) ?_
    show Gm p e below T69 m 192 #[iv p0, iv p1, iv p2, iv p3, iv p4, iv p5, iv (2 : Int32), iv ia_37, iv ib_38, iv tt_39, rv b41, iv (1 : Int32)] [(.int (2 : Int32)), (.ref b41)] _
    refine own_go (fun t₀ k₀ => XS.iload X69.here hx rfl (Jvm.hb hby at_192) rfl k₀) ?_
    show Gm p e below T69 m 194 #[iv p0, iv p1, iv p2, iv p3, iv p4, iv p5, iv (2 : Int32), iv ia_37, iv ib_38, iv tt_39, rv b41, iv (1 : Int32)] [(.int (2 : Int32)), (.int (2 : Int32)), (.ref b41)] _
    refine own_go (fun t₀ k₀ => XS.iload X69.here hx rfl (Jvm.hb hby at_194) rfl k₀) ?_
    show Gm p e below T69 m 196 #[iv p0, iv p1, iv p2, iv p3, iv p4, iv p5, iv (2 : Int32), iv ia_37, iv ib_38, iv tt_39, rv b41, iv (1 : Int32)] [(.int ia_37), (.int (2 : Int32)), (.int (2 : Int32)), (.ref b41)] _
    refine own_go (fun t₀ k₀ => XS.iloadN X69.here hx rfl (Jvm.hb hby at_196) rfl k₀) ?_
    show Gm p e below T69 m 197 #[iv p0, iv p1, iv p2, iv p3, iv p4, iv p5, iv (2 : Int32), iv ia_37, iv ib_38, iv tt_39, rv b41, iv (1 : Int32)] [(.int p2), (.int ia_37), (.int (2 : Int32)), (.int (2 : Int32)), (.ref b41)] _
    refine own_go (fun t₀ k₀ => XS.iloadN X69.here hx rfl (Jvm.hb hby at_197) rfl k₀) ?_
    show Gm p e below T69 m 198 #[iv p0, iv p1, iv p2, iv p3, iv p4, iv p5, iv (2 : Int32), iv ia_37, iv ib_38, iv tt_39, rv b41, iv (1 : Int32)] [(.int p3), (.int p2), (.int ia_37), (.int (2 : Int32)), (.int (2 : Int32)), (.ref b41)] _
    refine own_go (fun t₀ k₀ => XS.iload X69.here hx rfl (Jvm.hb hby at_198) rfl k₀) ?_
    show Gm p e below T69 m 200 #[iv p0, iv p1, iv p2, iv p3, iv p4, iv p5, iv (2 : Int32), iv ia_37, iv ib_38, iv tt_39, rv b41, iv (1 : Int32)] [(.int ib_38), (.int p3), (.int p2), (.int ia_37), (.int (2 : Int32)), (.int (2 : Int32)), (.ref b41)] _
    refine own_go (fun t₀ k₀ => XS.iload X69.here hx rfl (Jvm.hb hby at_200) rfl k₀) ?_
    show Gm p e below T69 m 202 #[iv p0, iv p1, iv p2, iv p3, iv p4, iv p5, iv (2 : Int32), iv ia_37, iv ib_38, iv tt_39, rv b41, iv (1 : Int32)] [(.int p5), (.int ib_38), (.int p3), (.int p2), (.int ia_37), (.int (2 : Int32)), (.int (2 : Int32)), (.ref b41)] _
    refine own_go (fun t₀ k₀ => XS.iload X69.here hx rfl (Jvm.hb hby at_202) rfl k₀) ?_
    show Gm p e below T69 m 204 #[iv p0, iv p1, iv p2, iv p3, iv p4, iv p5, iv (2 : Int32), iv ia_37, iv ib_38, iv tt_39, rv b41, iv (1 : Int32)] [(.int tt_39), (.int p5), (.int ib_38), (.int p3), (.int p2), (.int ia_37), (.int (2 : Int32)), (.int (2 : Int32)), (.ref b41)] _
    obtain ⟨_, _, ⟨T70, L70, k70, n70⟩, -, X70, ⟨Lc70, hQ70, l70, y70, z70⟩, st70⟩ := Jvm.LawKit.callS X69 hx (y := (⟨"com/example/throughfare/throughfare/simulation/WalkersStartPinLaw", "slot", "(Lcom/example/throughfare/throughfare/simulation/Walkers;IIIIIIII)Z"⟩ : MethodName)) hown (mvT hZ (hw _ (List.mem_of_getElem? (i := 48) rfl))) (mvT hZ (hw _ (List.mem_of_getElem? (i := 49) rfl))) (mvT hZ (hw _ (List.mem_of_getElem? (i := 50) rfl))) (mvT hZ (hw _ (List.mem_of_getElem? (i := 51) rfl))) (by decide) (backOf (W := 0) (rm6 l Z a0 hw [] b41 (2 : Int32) (2 : Int32) ia_37 p2 p3 ib_38 p5 tt_39 floor42 startCell42 cell42 heading42 leaving42 exit42 2 (fun i => if i = ib_38.toNatClampNeg then p5 else (fun i => if i = ia_37.toNatClampNeg then p2 else (fun _ => (0 : Int32)) i) i) (fun i => if i = ib_38.toNatClampNeg then tt_39 else (fun i => if i = ia_37.toNatClampNeg then p3 else (fun _ => (0 : Int32)) i) i) (fun i => if i = ib_38.toNatClampNeg then tt_39 else (fun i => if i = ia_37.toNatClampNeg then p3 else (fun _ => (0 : Int32)) i) i) (fun _ => (0 : Int32)) (fun _ => (-1 : Int32)) (fun _ => (-1 : Int32)) T57.heap n0 Z57 f59 f60 f61 f62 f63 f64 Ac_floor57 Ac_startCell57 Ac_cell57 f65 f66 f67 (by decide) (by decide) (own_s2 (by decide) hr_ia_37.1 hr_ib_38.1) (own_s2 (by decide) hr_ia_37.1 hr_ib_38.1) (own_s2 (by decide) hr_ia_37.1 hr_ib_38.1) rfl rfl rfl) hZ (hw _ (List.mem_of_getElem? (i := 51) rfl)) (hw _ (List.mem_of_getElem? (i := 50) rfl)) (by decide) (by decide)) (g := (mkF m 204 #[iv p0, iv p1, iv p2, iv p3, iv p4, iv p5, iv (2 : Int32), iv ia_37, iv ib_38, iv tt_39, rv b41, iv (1 : Int32)] [(.int tt_39), (.int p5), (.int ib_38), (.int p3), (.int p2), (.int ia_37), (.int (2 : Int32)), (.int (2 : Int32)), (.ref b41)])) rfl (by rw [hml]; rfl) (argsL := [(.ref b41), (.int (2 : Int32)), (.int (2 : Int32)), (.int ia_37), (.int p2), (.int p3), (.int ib_38), (.int p5), (.int tt_39)]) (rest := []) (lenOf own_pd4 rfl) rfl (by show 2 * 0 + _ ≤ _; exact Nat.le_of_eq rfl) (Jvm.hb hby at_204) (fun _ _ => ⟨rfl, e69, (by decide : 12 + 0 ≤ _), (by decide : 33 + 0 ≤ _)⟩)
    dsimp only [Pt.U, Pt.locs, Pt.cells, Pt.slots] at X70 l70 y70 z70 st70 hQ70
    subst l70 y70 z70
    obtain ⟨rfl, Nq70, eq70⟩ := hQ70
    have N70 := Fr.app N69 Nq70
    have e70 : T70.heap = T57.heap := eq70
    refine own_go st70 ?_
    show Gm p e below T70 m 207 #[iv p0, iv p1, iv p2, iv p3, iv p4, iv p5, iv (2 : Int32), iv ia_37, iv ib_38, iv tt_39, rv b41, iv (1 : Int32)] [(.int (1 : Int32))] _
    refine own_go (fun t₀ k₀ => XS.ifNo X70.here hx rfl (Jvm.hb hby at_207) rfl (XT.i0_eq_f (by decide)) k₀) ?_
    show Gm p e below T70 m 210 #[iv p0, iv p1, iv p2, iv p3, iv p4, iv p5, iv (2 : Int32), iv ia_37, iv ib_38, iv tt_39, rv b41, iv (1 : Int32)] [] _
    refine own_go (fun t₀ k₀ => XS.aload X70.here hx rfl (Jvm.hb hby at_210) rfl rfl k₀) ?_
    show Gm p e below T70 m 212 #[iv p0, iv p1, iv p2, iv p3, iv p4, iv p5, iv (2 : Int32), iv ia_37, iv ib_38, iv tt_39, rv b41, iv (1 : Int32)] [(.ref b41)] _
    refine own_go (fun t₀ k₀ => XS.iconst X70.here hx rfl (Jvm.hb hby at_212) k₀) ?_
    show Gm p e below T70 m 213 #[iv p0, iv p1, iv p2, iv p3, iv p4, iv p5, iv (2 : Int32), iv ia_37, iv ib_38, iv tt_39, rv b41, iv (1 : Int32)] [(.int (3 : Int32)), (.ref b41)] _
    refine own_go (fun t₀ k₀ => XS.iload X70.here hx rfl (Jvm.hb hby at_213) rfl k₀) ?_
    show Gm p e below T70 m 215 #[iv p0, iv p1, iv p2, iv p3, iv p4, iv p5, iv (2 : Int32), iv ia_37, iv ib_38, iv tt_39, rv b41, iv (1 : Int32)] [(.int (2 : Int32)), (.int (3 : Int32)), (.ref b41)] _
    refine own_go (fun t₀ k₀ => XS.iload X70.here hx rfl (Jvm.hb hby at_215) rfl k₀) ?_
    show Gm p e below T70 m 217 #[iv p0, iv p1, iv p2, iv p3, iv p4, iv p5, iv (2 : Int32), iv ia_37, iv ib_38, iv tt_39, rv b41, iv (1 : Int32)] [(.int ia_37), (.int (2 : Int32)), (.int (3 : Int32)), (.ref b41)] _
    refine own_go (fun t₀ k₀ => XS.iloadN X70.here hx rfl (Jvm.hb hby at_217) rfl k₀) ?_
    show Gm p e below T70 m 218 #[iv p0, iv p1, iv p2, iv p3, iv p4, iv p5, iv (2 : Int32), iv ia_37, iv ib_38, iv tt_39, rv b41, iv (1 : Int32)] [(.int p2), (.int ia_37), (.int (2 : Int32)), (.int (3 : Int32)), (.ref b41)] _
    refine own_go (fun t₀ k₀ => XS.iloadN X70.here hx rfl (Jvm.hb hby at_218) rfl k₀) ?_
    show Gm p e below T70 m 219 #[iv p0, iv p1, iv p2, iv p3, iv p4, iv p5, iv (2 : Int32), iv ia_37, iv ib_38, iv tt_39, rv b41, iv (1 : Int32)] [(.int p3), (.int p2), (.int ia_37), (.int (2 : Int32)), (.int (3 : Int32)), (.ref b41)] _
    refine own_go (fun t₀ k₀ => XS.iload X70.here hx rfl (Jvm.hb hby at_219) rfl k₀) ?_
    show Gm p e below T70 m 221 #[iv p0, iv p1, iv p2, iv p3, iv p4, iv p5, iv (2 : Int32), iv ia_37, iv ib_38, iv tt_39, rv b41, iv (1 : Int32)] [(.int ib_38), (.int p3), (.int p2), (.int ia_37), (.int (2 : Int32)), (.int (3 : Int32)), (.ref b41)] _
    refine own_go (fun t₀ k₀ => XS.iload X70.here hx rfl (Jvm.hb hby at_221) rfl k₀) ?_
    show Gm p e below T70 m 223 #[iv p0, iv p1, iv p2, iv p3, iv p4, iv p5, iv (2 : Int32), iv ia_37, iv ib_38, iv tt_39, rv b41, iv (1 : Int32)] [(.int p5), (.int ib_38), (.int p3), (.int p2), (.int ia_37), (.int (2 : Int32)), (.int (3 : Int32)), (.ref b41)] _
    refine own_go (fun t₀ k₀ => XS.iload X70.here hx rfl (Jvm.hb hby at_223) rfl k₀) ?_
    show Gm p e below T70 m 225 #[iv p0, iv p1, iv p2, iv p3, iv p4, iv p5, iv (2 : Int32), iv ia_37, iv ib_38, iv tt_39, rv b41, iv (1 : Int32)] [(.int tt_39), (.int p5), (.int ib_38), (.int p3), (.int p2), (.int ia_37), (.int (2 : Int32)), (.int (3 : Int32)), (.ref b41)] _
    obtain ⟨_, _, ⟨T71, L71, k71, n71⟩, -, X71, ⟨Lc71, hQ71, l71, y71, z71⟩, st71⟩ := Jvm.LawKit.callS X70 hx (y := (⟨"com/example/throughfare/throughfare/simulation/WalkersStartPinLaw", "slot", "(Lcom/example/throughfare/throughfare/simulation/Walkers;IIIIIIII)Z"⟩ : MethodName)) hown (mvT hZ (hw _ (List.mem_of_getElem? (i := 48) rfl))) (mvT hZ (hw _ (List.mem_of_getElem? (i := 49) rfl))) (mvT hZ (hw _ (List.mem_of_getElem? (i := 50) rfl))) (mvT hZ (hw _ (List.mem_of_getElem? (i := 51) rfl))) (by decide) (backOf (W := 0) (rm6 l Z a0 hw [] b41 (3 : Int32) (2 : Int32) ia_37 p2 p3 ib_38 p5 tt_39 floor42 startCell42 cell42 heading42 leaving42 exit42 2 (fun i => if i = ib_38.toNatClampNeg then p5 else (fun i => if i = ia_37.toNatClampNeg then p2 else (fun _ => (0 : Int32)) i) i) (fun i => if i = ib_38.toNatClampNeg then tt_39 else (fun i => if i = ia_37.toNatClampNeg then p3 else (fun _ => (0 : Int32)) i) i) (fun i => if i = ib_38.toNatClampNeg then tt_39 else (fun i => if i = ia_37.toNatClampNeg then p3 else (fun _ => (0 : Int32)) i) i) (fun _ => (0 : Int32)) (fun _ => (-1 : Int32)) (fun _ => (-1 : Int32)) T57.heap n0 Z57 f59 f60 f61 f62 f63 f64 Ac_floor57 Ac_startCell57 Ac_cell57 f65 f66 f67 (by decide) (by decide) (own_s2 (by decide) hr_ia_37.1 hr_ib_38.1) (own_s2 (by decide) hr_ia_37.1 hr_ib_38.1) (own_s2 (by decide) hr_ia_37.1 hr_ib_38.1) rfl rfl rfl) hZ (hw _ (List.mem_of_getElem? (i := 51) rfl)) (hw _ (List.mem_of_getElem? (i := 50) rfl)) (by decide) (by decide)) (g := (mkF m 225 #[iv p0, iv p1, iv p2, iv p3, iv p4, iv p5, iv (2 : Int32), iv ia_37, iv ib_38, iv tt_39, rv b41, iv (1 : Int32)] [(.int tt_39), (.int p5), (.int ib_38), (.int p3), (.int p2), (.int ia_37), (.int (2 : Int32)), (.int (3 : Int32)), (.ref b41)])) rfl (by rw [hml]; rfl) (argsL := [(.ref b41), (.int (3 : Int32)), (.int (2 : Int32)), (.int ia_37), (.int p2), (.int p3), (.int ib_38), (.int p5), (.int tt_39)]) (rest := []) (lenOf own_pd4 rfl) rfl (by show 2 * 0 + _ ≤ _; exact Nat.le_of_eq rfl) (Jvm.hb hby at_225) (fun _ _ => ⟨rfl, e70, (by decide : 12 + 0 ≤ _), (by decide : 33 + 0 ≤ _)⟩)
    dsimp only [Pt.U, Pt.locs, Pt.cells, Pt.slots] at X71 l71 y71 z71 st71 hQ71
    subst l71 y71 z71
    obtain ⟨rfl, Nq71, eq71⟩ := hQ71
    have N71 := Fr.app N70 Nq71
    have e71 : T71.heap = T57.heap := eq71
    refine own_go st71 ?_
    show Gm p e below T71 m 228 #[iv p0, iv p1, iv p2, iv p3, iv p4, iv p5, iv (2 : Int32), iv ia_37, iv ib_38, iv tt_39, rv b41, iv (1 : Int32)] [(.int (1 : Int32))] _
    refine own_go (fun t₀ k₀ => XS.ifNo X71.here hx rfl (Jvm.hb hby at_228) rfl (XT.i0_eq_f (by decide)) k₀) ?_
    show Gm p e below T71 m 231 #[iv p0, iv p1, iv p2, iv p3, iv p4, iv p5, iv (2 : Int32), iv ia_37, iv ib_38, iv tt_39, rv b41, iv (1 : Int32)] [] _
    refine own_go (fun t₀ k₀ => XS.iconst X71.here hx rfl (Jvm.hb hby at_231) k₀) ?_
    show Gm p e below T71 m 232 #[iv p0, iv p1, iv p2, iv p3, iv p4, iv p5, iv (2 : Int32), iv ia_37, iv ib_38, iv tt_39, rv b41, iv (1 : Int32)] [(.int (1 : Int32))] _
    refine own_go (fun t₀ k₀ => XS.goto X71.here hx rfl (pc0 := 232) (pc' := 236) rfl (Jvm.hb hby at_232) (by decide) (by decide) k₀) ?_
    show Gm p e below T71 m 236 #[iv p0, iv p1, iv p2, iv p3, iv p4, iv p5, iv (2 : Int32), iv ia_37, iv ib_38, iv tt_39, rv b41, iv (1 : Int32)] [(.int (1 : Int32))] _
    refine own_go (fun t₀ k₀ => XS.istore X71.here hx rfl (Jvm.hb hby at_236) rfl (l' := #[iv p0, iv p1, iv p2, iv p3, iv p4, iv p5, iv (2 : Int32), iv ia_37, iv ib_38, iv tt_39, rv b41, iv (1 : Int32)]) rfl k₀) ?_
    show Gm p e below T71 m 238 #[iv p0, iv p1, iv p2, iv p3, iv p4, iv p5, iv (2 : Int32), iv ia_37, iv ib_38, iv tt_39, rv b41, iv (1 : Int32)] [] _
    refine own_go (fun t₀ k₀ => XS.iload X71.here hx rfl (Jvm.hb hby at_238) rfl k₀) ?_
    show Gm p e below T71 m 240 #[iv p0, iv p1, iv p2, iv p3, iv p4, iv p5, iv (2 : Int32), iv ia_37, iv ib_38, iv tt_39, rv b41, iv (1 : Int32)] [(.int (1 : Int32))] _
    refine own_go (fun t₀ k₀ => XS.ifNo X71.here hx rfl (Jvm.hb hby at_240) rfl (XT.i0_eq_f (by decide)) k₀) ?_
    show Gm p e below T71 m 243 #[iv p0, iv p1, iv p2, iv p3, iv p4, iv p5, iv (2 : Int32), iv ia_37, iv ib_38, iv tt_39, rv b41, iv (1 : Int32)] [] _
    refine own_go (fun t₀ k₀ => XS.aload X71.here hx rfl (Jvm.hb hby at_243) rfl rfl k₀) ?_
    show Gm p e below T71 m 245 #[iv p0, iv p1, iv p2, iv p3, iv p4, iv p5, iv (2 : Int32), iv ia_37, iv ib_38, iv tt_39, rv b41, iv (1 : Int32)] [(.ref b41)] _
    have f73 := (f58.keep Kc57)
    obtain ⟨cq72, kq72, q72a, q72b, q72c⟩ := isOf hZ e71 f73
    obtain ⟨_, _, ⟨T72, L72, k72, n72⟩, -, X72, ⟨Lc72, hQ72, l72, y72, z72⟩, st72⟩ := X71.virtualBack hx (y := (⟨"com/example/throughfare/throughfare/simulation/Walkers", "count", "()I"⟩ : MethodName)) (z := (⟨"com/example/throughfare/throughfare/simulation/Walkers", "count", "()I"⟩ : MethodName)) hown (mvT hZ (hw _ (List.mem_of_getElem? (i := 58) rfl))) (mvT hZ (hw _ (List.mem_of_getElem? (i := 59) rfl))) (notFace_of_selects (args := #[]) (mvT hZ (hw _ (List.mem_of_getElem? (i := 61) rfl)))) (mvT hZ (hw _ (List.mem_of_getElem? (i := 61) rfl))) (mvT hZ (hw _ (List.mem_of_getElem? (i := 60) rfl))) (by decide) (backOf (W := 0) (rm7 l Z a0 hw [] b41 cell42 2 (fun i => .int (if i = ib_38.toNatClampNeg then tt_39 else (fun i => if i = ia_37.toNatClampNeg then p3 else (fun _ => (0 : Int32)) i) i)) T57.heap n0 Z57 f61 Ac_cell57) hZ (hw _ (List.mem_of_getElem? (i := 62) rfl)) (hw _ (List.mem_of_getElem? (i := 3) rfl)) (by decide) (by decide)) q72a q72c (g := (mkF m 245 #[iv p0, iv p1, iv p2, iv p3, iv p4, iv p5, iv (2 : Int32), iv ia_37, iv ib_38, iv tt_39, rv b41, iv (1 : Int32)] [(.ref b41)])) rfl (by rw [hml]; rfl) (Steps.refl _) (argsL := []) (rest := []) (lenOf own_pd5 rfl) rfl (by show 2 * 0 + _ ≤ _; exact Nat.le_of_eq rfl) (Jvm.hb hby at_245) (fun _ _ => ⟨rfl, e71, (by decide : 12 + 0 ≤ _), (by decide : 33 + 0 ≤ _)⟩)
    dsimp only [Pt.U, Pt.locs, Pt.cells, Pt.slots] at X72 l72 y72 z72 st72 hQ72
    subst l72 y72 z72
    obtain ⟨rfl, Nq72, eq72⟩ := hQ72
    have N72 := Fr.app N71 Nq72
    have e72 : T72.heap = T57.heap := eq72
    refine own_go (fun t k => st72.trans k) ?_
    show Gm p e below T72 m 248 #[iv p0, iv p1, iv p2, iv p3, iv p4, iv p5, iv (2 : Int32), iv ia_37, iv ib_38, iv tt_39, rv b41, iv (1 : Int32)] [(.int (2 : Int32))] _
    refine own_go (fun t₀ k₀ => XS.iload X72.here hx rfl (Jvm.hb hby at_248) rfl k₀) ?_
    show Gm p e below T72 m 250 #[iv p0, iv p1, iv p2, iv p3, iv p4, iv p5, iv (2 : Int32), iv ia_37, iv ib_38, iv tt_39, rv b41, iv (1 : Int32)] [(.int (2 : Int32)), (.int (2 : Int32))] _
    refine own_go (fun t₀ k₀ => XS.icmpNo X72.here hx rfl (Jvm.hb hby at_250) rfl (XT.ii_ne_f (by decide)) k₀) ?_
    show Gm p e below T72 m 253 #[iv p0, iv p1, iv p2, iv p3, iv p4, iv p5, iv (2 : Int32), iv ia_37, iv ib_38, iv tt_39, rv b41, iv (1 : Int32)] [] _
    refine own_go (fun t₀ k₀ => XS.aload X72.here hx rfl (Jvm.hb hby at_253) rfl rfl k₀) ?_
    show Gm p e below T72 m 255 #[iv p0, iv p1, iv p2, iv p3, iv p4, iv p5, iv (2 : Int32), iv ia_37, iv ib_38, iv tt_39, rv b41, iv (1 : Int32)] [(.ref b41)] _
    obtain ⟨cq74, kq74, q74a, q74b, q74c⟩ := isOf hZ e72 f73
    obtain ⟨_, _, ⟨T74, L74, k74, n74⟩, -, X74, ⟨Lc74, hQ74, l74, y74, z74⟩, st74⟩ := X72.virtualBack hx (y := (⟨"com/example/throughfare/throughfare/simulation/Walkers", "anyoneInside", "()Z"⟩ : MethodName)) (z := (⟨"com/example/throughfare/throughfare/simulation/Walkers", "anyoneInside", "()Z"⟩ : MethodName)) hown (mvT hZ (hw _ (List.mem_of_getElem? (i := 63) rfl))) (mvT hZ (hw _ (List.mem_of_getElem? (i := 64) rfl))) (notFace_of_selects (args := #[]) (mvT hZ (hw _ (List.mem_of_getElem? (i := 66) rfl)))) (mvT hZ (hw _ (List.mem_of_getElem? (i := 66) rfl))) (mvT hZ (hw _ (List.mem_of_getElem? (i := 65) rfl))) (by decide) (backOf (W := 0) (rm8 l Z a0 hw [] b41 exit42 2 (fun i => .int ((fun _ => (-1 : Int32)) i)) T57.heap n0 Z57 f64 f67 (by decide) (by decide) rfl) hZ (hw _ (List.mem_of_getElem? (i := 67) rfl)) (hw _ (List.mem_of_getElem? (i := 3) rfl)) (by decide) (by decide)) q74a q74c (g := (mkF m 255 #[iv p0, iv p1, iv p2, iv p3, iv p4, iv p5, iv (2 : Int32), iv ia_37, iv ib_38, iv tt_39, rv b41, iv (1 : Int32)] [(.ref b41)])) rfl (by rw [hml]; rfl) (Steps.refl _) (argsL := []) (rest := []) (lenOf own_pd6 rfl) rfl (by show 2 * 0 + _ ≤ _; exact Nat.le_of_eq rfl) (Jvm.hb hby at_255) (fun _ _ => ⟨rfl, e72, (by decide : 12 + 0 ≤ _), (by decide : 33 + 0 ≤ _)⟩)
    dsimp only [Pt.U, Pt.locs, Pt.cells, Pt.slots] at X74 l74 y74 z74 st74 hQ74
    subst l74 y74 z74
    obtain ⟨rfl, Nq74, eq74⟩ := hQ74
    have N74 := Fr.app N72 Nq74
    have e74 : T74.heap = T57.heap := eq74
    refine own_go (fun t k => st74.trans k) ?_
    show Gm p e below T74 m 258 #[iv p0, iv p1, iv p2, iv p3, iv p4, iv p5, iv (2 : Int32), iv ia_37, iv ib_38, iv tt_39, rv b41, iv (1 : Int32)] [(.int (1 : Int32))] _
    refine own_go (fun t₀ k₀ => XS.ifNo X74.here hx rfl (Jvm.hb hby at_258) rfl (XT.i0_eq_f (by decide)) k₀) ?_
    show Gm p e below T74 m 261 #[iv p0, iv p1, iv p2, iv p3, iv p4, iv p5, iv (2 : Int32), iv ia_37, iv ib_38, iv tt_39, rv b41, iv (1 : Int32)] [] _
    refine own_go (fun t₀ k₀ => XS.iconst X74.here hx rfl (Jvm.hb hby at_261) k₀) ?_
    show Gm p e below T74 m 262 #[iv p0, iv p1, iv p2, iv p3, iv p4, iv p5, iv (2 : Int32), iv ia_37, iv ib_38, iv tt_39, rv b41, iv (1 : Int32)] [(.int (1 : Int32))] _
    refine own_go (fun t₀ k₀ => XS.goto X74.here hx rfl (pc0 := 262) (pc' := 266) rfl (Jvm.hb hby at_262) (by decide) (by decide) k₀) ?_
    show Gm p e below T74 m 266 #[iv p0, iv p1, iv p2, iv p3, iv p4, iv p5, iv (2 : Int32), iv ia_37, iv ib_38, iv tt_39, rv b41, iv (1 : Int32)] [(.int (1 : Int32))] _
    refine own_go (fun t₀ k₀ => XS.istore X74.here hx rfl (Jvm.hb hby at_266) rfl (l' := #[iv p0, iv p1, iv p2, iv p3, iv p4, iv p5, iv (2 : Int32), iv ia_37, iv ib_38, iv tt_39, rv b41, iv (1 : Int32)]) rfl k₀) ?_
    show Gm p e below T74 m 268 #[iv p0, iv p1, iv p2, iv p3, iv p4, iv p5, iv (2 : Int32), iv ia_37, iv ib_38, iv tt_39, rv b41, iv (1 : Int32)] [] _
    refine own_go (fun t₀ k₀ => XS.iload X74.here hx rfl (Jvm.hb hby at_268) rfl k₀) ?_
    show Gm p e below T74 m 270 #[iv p0, iv p1, iv p2, iv p3, iv p4, iv p5, iv (2 : Int32), iv ia_37, iv ib_38, iv tt_39, rv b41, iv (1 : Int32)] [(.int (1 : Int32))] _
    exact own_retI X74 hx hlk (t := .boolean) Bd.returns rfl (by simp) (Jvm.hb hby at_270) e74 ⟨rfl, N74⟩ (by decide) (by decide)
  · rw [hk]
    show Gm p e below s₁ m 3 #[iv p0, iv p1, iv p2, iv p3, iv p4, iv p5, .unset, .unset, .unset, .unset, .unset, .unset] [(.int (2 : Int32))] _
    refine own_go (fun t₀ k₀ => XS.iconst X0.here hx rfl (Jvm.hb hby at_3) k₀) ?_
    show Gm p e below s₁ m 4 #[iv p0, iv p1, iv p2, iv p3, iv p4, iv p5, .unset, .unset, .unset, .unset, .unset, .unset] [(.int (1 : Int32)), (.int (2 : Int32))] _
    refine own_go (fun t₀ k₀ => XS.iadd X0.here hx rfl (Jvm.hb hby at_4) rfl k₀) ?_
    show Gm p e below s₁ m 5 #[iv p0, iv p1, iv p2, iv p3, iv p4, iv p5, .unset, .unset, .unset, .unset, .unset, .unset] [(.int (3 : Int32))] _
    refine own_go (fun t₀ k₀ => XS.istore X0.here hx rfl (Jvm.hb hby at_5) rfl (l' := #[iv p0, iv p1, iv p2, iv p3, iv p4, iv p5, iv (3 : Int32), .unset, .unset, .unset, .unset, .unset]) rfl k₀) ?_
    show Gm p e below s₁ m 7 #[iv p0, iv p1, iv p2, iv p3, iv p4, iv p5, iv (3 : Int32), .unset, .unset, .unset, .unset, .unset] [] _
    refine own_go (fun t₀ k₀ => XS.iloadN X0.here hx rfl (Jvm.hb hby at_7) rfl k₀) ?_
    show Gm p e below s₁ m 8 #[iv p0, iv p1, iv p2, iv p3, iv p4, iv p5, iv (3 : Int32), .unset, .unset, .unset, .unset, .unset] [(.int p1)] _
    refine own_go (fun t₀ k₀ => X0.ldcI hx hown (mvT hZ (hw _ (List.mem_of_getElem? (i := 0) rfl))) rfl (Jvm.hb hby at_8) k₀) ?_
    show Gm p e below s₁ m 10 #[iv p0, iv p1, iv p2, iv p3, iv p4, iv p5, iv (3 : Int32), .unset, .unset, .unset, .unset, .unset] [(.int (2147483647 : Int32)), (.int p1)] _
    refine own_go (fun t₀ k₀ => XS.iand X0.here hx rfl (Jvm.hb hby at_10) rfl k₀) ?_
    show Gm p e below s₁ m 11 #[iv p0, iv p1, iv p2, iv p3, iv p4, iv p5, iv (3 : Int32), .unset, .unset, .unset, .unset, .unset] [(.int (p1 &&& (2147483647 : Int32)))] _
    refine own_go (fun t₀ k₀ => XS.iload X0.here hx rfl (Jvm.hb hby at_11) rfl k₀) ?_
    show Gm p e below s₁ m 13 #[iv p0, iv p1, iv p2, iv p3, iv p4, iv p5, iv (3 : Int32), .unset, .unset, .unset, .unset, .unset] [(.int (3 : Int32)), (.int (p1 &&& (2147483647 : Int32)))] _
    refine own_go (fun t₀ k₀ => iremM X0 hx rfl (Jvm.hb hby at_13) rfl (by decide) k₀) ?_
    show Gm p e below s₁ m 14 #[iv p0, iv p1, iv p2, iv p3, iv p4, iv p5, iv (3 : Int32), .unset, .unset, .unset, .unset, .unset] [(.int ((p1 &&& (2147483647 : Int32)) % (3 : Int32)))] _
    refine own_go (fun t₀ k₀ => XS.istore X0.here hx rfl (Jvm.hb hby at_14) rfl (l' := #[iv p0, iv p1, iv p2, iv p3, iv p4, iv p5, iv (3 : Int32), iv ((p1 &&& (2147483647 : Int32)) % (3 : Int32)), .unset, .unset, .unset, .unset]) rfl k₀) ?_
    show Gm p e below s₁ m 16 #[iv p0, iv p1, iv p2, iv p3, iv p4, iv p5, iv (3 : Int32), iv ((p1 &&& (2147483647 : Int32)) % (3 : Int32)), .unset, .unset, .unset, .unset] [] _
    obtain ⟨ia_74, h_ia_74⟩ : ∃ z : Int32, z = ((p1 &&& (2147483647 : Int32)) % (3 : Int32)) := ⟨_, rfl⟩
    rw [← h_ia_74]
    have hr_ia_74 := own_rem (n := 3) p1 (3 : Int32) (by decide) (by decide) h_ia_74
    show Gm p e below s₁ m 16 #[iv p0, iv p1, iv p2, iv p3, iv p4, iv p5, iv (3 : Int32), iv ia_74, .unset, .unset, .unset, .unset] [] _
    refine own_go (fun t₀ k₀ => XS.iload X0.here hx rfl (Jvm.hb hby at_16) rfl k₀) ?_
    show Gm p e below s₁ m 18 #[iv p0, iv p1, iv p2, iv p3, iv p4, iv p5, iv (3 : Int32), iv ia_74, .unset, .unset, .unset, .unset] [(.int p4)] _
    refine own_go (fun t₀ k₀ => X0.ldcI hx hown (mvT hZ (hw _ (List.mem_of_getElem? (i := 0) rfl))) rfl (Jvm.hb hby at_18) k₀) ?_
    show Gm p e below s₁ m 20 #[iv p0, iv p1, iv p2, iv p3, iv p4, iv p5, iv (3 : Int32), iv ia_74, .unset, .unset, .unset, .unset] [(.int (2147483647 : Int32)), (.int p4)] _
    refine own_go (fun t₀ k₀ => XS.iand X0.here hx rfl (Jvm.hb hby at_20) rfl k₀) ?_
    show Gm p e below s₁ m 21 #[iv p0, iv p1, iv p2, iv p3, iv p4, iv p5, iv (3 : Int32), iv ia_74, .unset, .unset, .unset, .unset] [(.int (p4 &&& (2147483647 : Int32)))] _
    refine own_go (fun t₀ k₀ => XS.iload X0.here hx rfl (Jvm.hb hby at_21) rfl k₀) ?_
    show Gm p e below s₁ m 23 #[iv p0, iv p1, iv p2, iv p3, iv p4, iv p5, iv (3 : Int32), iv ia_74, .unset, .unset, .unset, .unset] [(.int (3 : Int32)), (.int (p4 &&& (2147483647 : Int32)))] _
    refine own_go (fun t₀ k₀ => iremM X0 hx rfl (Jvm.hb hby at_23) rfl (by decide) k₀) ?_
    show Gm p e below s₁ m 24 #[iv p0, iv p1, iv p2, iv p3, iv p4, iv p5, iv (3 : Int32), iv ia_74, .unset, .unset, .unset, .unset] [(.int ((p4 &&& (2147483647 : Int32)) % (3 : Int32)))] _
    refine own_go (fun t₀ k₀ => XS.istore X0.here hx rfl (Jvm.hb hby at_24) rfl (l' := #[iv p0, iv p1, iv p2, iv p3, iv p4, iv p5, iv (3 : Int32), iv ia_74, iv ((p4 &&& (2147483647 : Int32)) % (3 : Int32)), .unset, .unset, .unset]) rfl k₀) ?_
    show Gm p e below s₁ m 26 #[iv p0, iv p1, iv p2, iv p3, iv p4, iv p5, iv (3 : Int32), iv ia_74, iv ((p4 &&& (2147483647 : Int32)) % (3 : Int32)), .unset, .unset, .unset] [] _
    obtain ⟨ib_75, h_ib_75⟩ : ∃ z : Int32, z = ((p4 &&& (2147483647 : Int32)) % (3 : Int32)) := ⟨_, rfl⟩
    rw [← h_ib_75]
    have hr_ib_75 := own_rem (n := 3) p4 (3 : Int32) (by decide) (by decide) h_ib_75
    show Gm p e below s₁ m 26 #[iv p0, iv p1, iv p2, iv p3, iv p4, iv p5, iv (3 : Int32), iv ia_74, iv ib_75, .unset, .unset, .unset] [] _
    refine own_go (fun t₀ k₀ => XS.iloadN X0.here hx rfl (Jvm.hb hby at_26) rfl k₀) ?_
    show Gm p e below s₁ m 27 #[iv p0, iv p1, iv p2, iv p3, iv p4, iv p5, iv (3 : Int32), iv ia_74, iv ib_75, .unset, .unset, .unset] [(.int p3)] _
    refine own_go (fun t₀ k₀ => XS.iload X0.here hx rfl (Jvm.hb hby at_27) rfl k₀) ?_
    show Gm p e below s₁ m 29 #[iv p0, iv p1, iv p2, iv p3, iv p4, iv p5, iv (3 : Int32), iv ia_74, iv ib_75, .unset, .unset, .unset] [(.int p5), (.int p3)] _
    refine own_go (fun t₀ k₀ => XS.ixor X0.here hx rfl (Jvm.hb hby at_29) rfl k₀) ?_
    show Gm p e below s₁ m 30 #[iv p0, iv p1, iv p2, iv p3, iv p4, iv p5, iv (3 : Int32), iv ia_74, iv ib_75, .unset, .unset, .unset] [(.int (p3 ^^^ p5))] _
    refine own_go (fun t₀ k₀ => XS.istore X0.here hx rfl (Jvm.hb hby at_30) rfl (l' := #[iv p0, iv p1, iv p2, iv p3, iv p4, iv p5, iv (3 : Int32), iv ia_74, iv ib_75, iv (p3 ^^^ p5), .unset, .unset]) rfl k₀) ?_
    show Gm p e below s₁ m 32 #[iv p0, iv p1, iv p2, iv p3, iv p4, iv p5, iv (3 : Int32), iv ia_74, iv ib_75, iv (p3 ^^^ p5), .unset, .unset] [] _
    obtain ⟨tt_76, h_tt_76⟩ : ∃ z : Int32, z = (p3 ^^^ p5) := ⟨_, rfl⟩
    rw [← h_tt_76]
    show Gm p e below s₁ m 32 #[iv p0, iv p1, iv p2, iv p3, iv p4, iv p5, iv (3 : Int32), iv ia_74, iv ib_75, iv tt_76, .unset, .unset] [] _
    obtain ⟨T78, h78, X78, e78, E78, A78, D78, -, st78⟩ := newO X0 hx hZ hown (hw _ (List.mem_of_getElem? (i := 1) rfl)) (hw _ (List.mem_of_getElem? (i := 2) rfl)) (hw _ (List.mem_of_getElem? (i := 3) rfl)) e0 (g := (mkF m 32 #[iv p0, iv p1, iv p2, iv p3, iv p4, iv p5, iv (3 : Int32), iv ia_74, iv ib_75, iv tt_76, .unset, .unset] [])) rfl (Jvm.hb hby at_32) (by decide) (by decide)
    obtain ⟨b78, g78⟩ : ∃ z, z = h0.size := ⟨_, rfl⟩
    rw [← g78] at A78 D78 st78
    have g_b78 : n0 ≤ b78 := Nat.le_trans Z0 (Nat.le_of_eq g78.symm)
    have Z78 : n0 ≤ h78.size := Nat.le_trans Z0 E78.1
    have F_floor_b78 : Fld Z h78 b78 "com/example/throughfare/throughfare/simulation/Walkers" "floor" "[I" .null := D78 (Or.inr (hw _ (List.mem_of_getElem? (i := 12) rfl))) (ty := (.array .int)) (by decide)
    have F_startCell_b78 : Fld Z h78 b78 "com/example/throughfare/throughfare/simulation/Walkers" "startCell" "[I" .null := D78 (Or.inr (hw _ (List.mem_of_getElem? (i := 14) rfl))) (ty := (.array .int)) (by decide)
    have F_cell_b78 : Fld Z h78 b78 "com/example/throughfare/throughfare/simulation/Walkers" "cell" "[I" .null := D78 (Or.inr (hw _ (List.mem_of_getElem? (i := 16) rfl))) (ty := (.array .int)) (by decide)
    have F_speedMps_b78 : Fld Z h78 b78 "com/example/throughfare/throughfare/simulation/Walkers" "speedMps" "[D" .null := D78 (Or.inr (hw _ (List.mem_of_getElem? (i := 19) rfl))) (ty := (.array .double)) (by decide)
    have F_reactionS_b78 : Fld Z h78 b78 "com/example/throughfare/throughfare/simulation/Walkers" "reactionS" "[D" .null := D78 (Or.inr (hw _ (List.mem_of_getElem? (i := 21) rfl))) (ty := (.array .double)) (by decide)
    have F_heading_b78 : Fld Z h78 b78 "com/example/throughfare/throughfare/simulation/Walkers" "heading" "[I" .null := D78 (Or.inr (hw _ (List.mem_of_getElem? (i := 23) rfl))) (ty := (.array .int)) (by decide)
    have F_heldUpS_b78 : Fld Z h78 b78 "com/example/throughfare/throughfare/simulation/Walkers" "heldUpS" "[D" .null := D78 (Or.inr (hw _ (List.mem_of_getElem? (i := 25) rfl))) (ty := (.array .double)) (by decide)
    have F_exitTimeS_b78 : Fld Z h78 b78 "com/example/throughfare/throughfare/simulation/Walkers" "exitTimeS" "[D" .null := D78 (Or.inr (hw _ (List.mem_of_getElem? (i := 32) rfl))) (ty := (.array .double)) (by decide)
    have F_leaving_b78 : Fld Z h78 b78 "com/example/throughfare/throughfare/simulation/Walkers" "leaving" "[I" .null := D78 (Or.inr (hw _ (List.mem_of_getElem? (i := 35) rfl))) (ty := (.array .int)) (by decide)
    have F_exit_b78 : Fld Z h78 b78 "com/example/throughfare/throughfare/simulation/Walkers" "exit" "[I" .null := D78 (Or.inr (hw _ (List.mem_of_getElem? (i := 40) rfl))) (ty := (.array .int)) (by decide)
    have F_distanceM_b78 : Fld Z h78 b78 "com/example/throughfare/throughfare/simulation/Walkers" "distanceM" "[D" .null := D78 (Or.inr (hw _ (List.mem_of_getElem? (i := 42) rfl))) (ty := (.array .double)) (by decide)
    refine own_go st78 ?_
    show Gm p e below T78 m 35 #[iv p0, iv p1, iv p2, iv p3, iv p4, iv p5, iv (3 : Int32), iv ia_74, iv ib_75, iv tt_76, .unset, .unset] [(.ref b78)] _
    refine own_go (fun t₀ k₀ => XS.dup X78.here hx rfl (Jvm.hb hby at_35) rfl rfl k₀) ?_
    show Gm p e below T78 m 36 #[iv p0, iv p1, iv p2, iv p3, iv p4, iv p5, iv (3 : Int32), iv ia_74, iv ib_75, iv tt_76, .unset, .unset] [(.ref b78), (.ref b78)] _
    refine own_go (fun t₀ k₀ => XS.iload X78.here hx rfl (Jvm.hb hby at_36) rfl k₀) ?_
    show Gm p e below T78 m 38 #[iv p0, iv p1, iv p2, iv p3, iv p4, iv p5, iv (3 : Int32), iv ia_74, iv ib_75, iv tt_76, .unset, .unset] [(.int (3 : Int32)), (.ref b78), (.ref b78)] _
    obtain ⟨_, _, ⟨T79, L79, k79, n79⟩, -, X79, ⟨Lc79, hQ79, l79, y79, z79⟩, st79⟩ := X78.specialBack hx (y := (⟨"com/example/throughfare/throughfare/simulation/Walkers", "<init>", "(I)V"⟩ : MethodName)) rfl hown (mvT hZ (hw _ (List.mem_of_getElem? (i := 4) rfl))) (mvT hZ (hw _ (List.mem_of_getElem? (i := 5) rfl))) (mvT hZ (hw _ (List.mem_of_getElem? (i := 6) rfl))) (by decide) (backOf (W := 1) (rm1_3 l Z a0 hw [] b78 h78 n0 Z78 A78 F_floor_b78 F_startCell_b78 F_cell_b78 F_speedMps_b78 F_reactionS_b78 F_heading_b78 F_heldUpS_b78 F_exitTimeS_b78 F_leaving_b78 F_exit_b78 F_distanceM_b78 g_b78) hZ (hw _ (List.mem_of_getElem? (i := 6) rfl)) (hw _ (List.mem_of_getElem? (i := 3) rfl)) (by decide) (by decide)) (g := (mkF m 38 #[iv p0, iv p1, iv p2, iv p3, iv p4, iv p5, iv (3 : Int32), iv ia_74, iv ib_75, iv tt_76, .unset, .unset] [(.int (3 : Int32)), (.ref b78), (.ref b78)])) rfl (by rw [hml]; rfl) (Steps.refl _) (a := b78) (argsL := [(.int (3 : Int32))]) (rest := [(.ref b78)]) (lenOf own_pd2 rfl) rfl (by show 2 * 0 + _ ≤ _; exact Nat.le_of_eq rfl) (Jvm.hb hby at_38) (fun _ _ => ⟨rfl, e78, (by decide : 1 + 11 ≤ _), (by decide : 11 + 33 ≤ _)⟩)
    dsimp only [Pt.U, Pt.locs, Pt.cells, Pt.slots] at X79 l79 y79 z79 st79 hQ79
    subst l79 y79 z79
    obtain ⟨floor79, startCell79, cell79, heading79, leaving79, exit79, rfl, Nq79, Kc79, Ec79, hs_floor79, Fc_floor79, Ac_floor79, hs_startCell79, Fc_startCell79, Ac_startCell79, hs_cell79, Fc_cell79, Ac_cell79, hs_heading79, Fc_heading79, Ac_heading79, hs_leaving79, Fc_leaving79, Ac_leaving79, hs_exit79, Fc_exit79, Ac_exit79, nn_floor_startCell79, nn_floor_cell79, nn_startCell_cell79, nn_floor_heading79, nn_startCell_heading79, nn_cell_heading79, nn_floor_leaving79, nn_startCell_leaving79, nn_cell_leaving79, nn_heading_leaving79, nn_floor_exit79, nn_startCell_exit79, nn_cell_exit79, nn_heading_exit79, nn_leaving_exit79⟩ := hQ79
    have N79 := Fr.app N0 Nq79
    refine own_go (fun t k => st79.trans k) ?_
    have ne_b78_floor79 : b78 ≠ floor79 := Nat.ne_of_lt (Nat.lt_of_lt_of_le A78.lt hs_floor79)
    have g_floor79 : n0 ≤ floor79 := Nat.le_trans Z78 hs_floor79
    have ne_b78_startCell79 : b78 ≠ startCell79 := Nat.ne_of_lt (Nat.lt_of_lt_of_le A78.lt hs_startCell79)
    have g_startCell79 : n0 ≤ startCell79 := Nat.le_trans Z78 hs_startCell79
    have ne_b78_cell79 : b78 ≠ cell79 := Nat.ne_of_lt (Nat.lt_of_lt_of_le A78.lt hs_cell79)
    have g_cell79 : n0 ≤ cell79 := Nat.le_trans Z78 hs_cell79
    have ne_b78_heading79 : b78 ≠ heading79 := Nat.ne_of_lt (Nat.lt_of_lt_of_le A78.lt hs_heading79)
    have g_heading79 : n0 ≤ heading79 := Nat.le_trans Z78 hs_heading79
    have ne_b78_leaving79 : b78 ≠ leaving79 := Nat.ne_of_lt (Nat.lt_of_lt_of_le A78.lt hs_leaving79)
    have g_leaving79 : n0 ≤ leaving79 := Nat.le_trans Z78 hs_leaving79
    have ne_b78_exit79 : b78 ≠ exit79 := Nat.ne_of_lt (Nat.lt_of_lt_of_le A78.lt hs_exit79)
    have g_exit79 : n0 ≤ exit79 := Nat.le_trans Z78 hs_exit79
    have Z79 : n0 ≤ T79.heap.size := Nat.le_trans Z78 Kc79.1
    show Gm p e below T79 m 41 #[iv p0, iv p1, iv p2, iv p3, iv p4, iv p5, iv (3 : Int32), iv ia_74, iv ib_75, iv tt_76, .unset, .unset] [(.ref b78)] _
    refine own_go (fun t₀ k₀ => XS.astore X79.here hx rfl (Jvm.hb hby at_41) rfl rfl (l' := #[iv p0, iv p1, iv p2, iv p3, iv p4, iv p5, iv (3 : Int32), iv ia_74, iv ib_75, iv tt_76, rv b78, .unset]) rfl k₀) ?_
    show Gm p e below T79 m 43 #[iv p0, iv p1, iv p2, iv p3, iv p4, iv p5, iv (3 : Int32), iv ia_74, iv ib_75, iv tt_76, rv b78, .unset] [] _
    refine own_go (fun t₀ k₀ => XS.aload X79.here hx rfl (Jvm.hb hby at_43) rfl rfl k₀) ?_
    show Gm p e below T79 m 45 #[iv p0, iv p1, iv p2, iv p3, iv p4, iv p5, iv (3 : Int32), iv ia_74, iv ib_75, iv tt_76, rv b78, .unset] [(.ref b78)] _
    refine own_go (fun t₀ k₀ => XS.iload X79.here hx rfl (Jvm.hb hby at_45) rfl k₀) ?_
    show Gm p e below T79 m 47 #[iv p0, iv p1, iv p2, iv p3, iv p4, iv p5, iv (3 : Int32), iv ia_74, iv ib_75, iv tt_76, rv b78, .unset] [(.int ia_74), (.ref b78)] _
    refine own_go (fun t₀ k₀ => XS.iloadN X79.here hx rfl (Jvm.hb hby at_47) rfl k₀) ?_
    show Gm p e below T79 m 48 #[iv p0, iv p1, iv p2, iv p3, iv p4, iv p5, iv (3 : Int32), iv ia_74, iv ib_75, iv tt_76, rv b78, .unset] [(.int p2), (.int ia_74), (.ref b78)] _
    refine own_go (fun t₀ k₀ => XS.iloadN X79.here hx rfl (Jvm.hb hby at_48) rfl k₀) ?_
    show Gm p e below T79 m 49 #[iv p0, iv p1, iv p2, iv p3, iv p4, iv p5, iv (3 : Int32), iv ia_74, iv ib_75, iv tt_76, rv b78, .unset] [(.int p3), (.int p2), (.int ia_74), (.ref b78)] _
    obtain ⟨cq80, kq80, q80a, q80b, q80c⟩ := isOf hZ rfl Ec79
    obtain ⟨_, _, ⟨T80, L80, k80, n80⟩, -, X80, ⟨Lc80, hQ80, l80, y80, z80⟩, st80⟩ := X79.virtualBack hx (y := (⟨"com/example/throughfare/throughfare/simulation/Walkers", "start", "(III)V"⟩ : MethodName)) (z := (⟨"com/example/throughfare/throughfare/simulation/Walkers", "start", "(III)V"⟩ : MethodName)) hown (mvT hZ (hw _ (List.mem_of_getElem? (i := 43) rfl))) (mvT hZ (hw _ (List.mem_of_getElem? (i := 44) rfl))) (notFace_of_selects (args := #[]) (mvT hZ (hw _ (List.mem_of_getElem? (i := 46) rfl)))) (mvT hZ (hw _ (List.mem_of_getElem? (i := 46) rfl))) (mvT hZ (hw _ (List.mem_of_getElem? (i := 45) rfl))) (by decide) (backOf (W := 0) (rm5 l Z a0 hw [] b78 ia_74 p2 p3 floor79 startCell79 cell79 3 (fun _ => (0 : Int32)) (fun _ => (0 : Int32)) (fun _ => (0 : Int32)) T79.heap n0 Z79 Fc_floor79 Fc_startCell79 Fc_cell79 Ac_floor79 Ac_startCell79 Ac_cell79 ne_b78_floor79 ne_b78_startCell79 ne_b78_cell79 nn_floor_startCell79 nn_floor_cell79 nn_startCell_cell79 g_floor79 g_startCell79 g_cell79 hr_ia_74.1 hr_ia_74.2) hZ (hw _ (List.mem_of_getElem? (i := 47) rfl)) (hw _ (List.mem_of_getElem? (i := 3) rfl)) (by decide) (by decide)) q80a q80c (g := (mkF m 49 #[iv p0, iv p1, iv p2, iv p3, iv p4, iv p5, iv (3 : Int32), iv ia_74, iv ib_75, iv tt_76, rv b78, .unset] [(.int p3), (.int p2), (.int ia_74), (.ref b78)])) rfl (by rw [hml]; rfl) (Steps.refl _) (argsL := [(.int ia_74), (.int p2), (.int p3)]) (rest := []) (lenOf own_pd3 rfl) rfl (by show 2 * 0 + _ ≤ _; exact Nat.le_of_eq rfl) (Jvm.hb hby at_49) (fun _ _ => ⟨rfl, rfl, (by decide : 12 + 0 ≤ _), (by decide : 44 + 0 ≤ _)⟩)
    dsimp only [Pt.U, Pt.locs, Pt.cells, Pt.slots] at X80 l80 y80 z80 st80 hQ80
    subst l80 y80 z80
    obtain ⟨rfl, Nq80, Kc80, Ac_floor80, Ac_startCell80, Ac_cell80⟩ := hQ80
    have N80 := Fr.app N79 Nq80
    refine own_go (fun t k => st80.trans k) ?_
    have Z80 : n0 ≤ T80.heap.size := Nat.le_trans Z79 Kc80.1
    show Gm p e below T80 m 52 #[iv p0, iv p1, iv p2, iv p3, iv p4, iv p5, iv (3 : Int32), iv ia_74, iv ib_75, iv tt_76, rv b78, .unset] [] _
    refine own_go (fun t₀ k₀ => XS.aload X80.here hx rfl (Jvm.hb hby at_52) rfl rfl k₀) ?_
    show Gm p e below T80 m 54 #[iv p0, iv p1, iv p2, iv p3, iv p4, iv p5, iv (3 : Int32), iv ia_74, iv ib_75, iv tt_76, rv b78, .unset] [(.ref b78)] _
    refine own_go (fun t₀ k₀ => XS.iconst X80.here hx rfl (Jvm.hb hby at_54) k₀) ?_
    show Gm p e below T80 m 55 #[iv p0, iv p1, iv p2, iv p3, iv p4, iv p5, iv (3 : Int32), iv ia_74, iv ib_75, iv tt_76, rv b78, .unset] [(.int (0 : Int32)), (.ref b78)] _
    refine own_go (fun t₀ k₀ => XS.iload X80.here hx rfl (Jvm.hb hby at_55) rfl k₀) ?_
    show Gm p e below T80 m 57 #[iv p0, iv p1, iv p2, iv p3, iv p4, iv p5, iv (3 : Int32), iv ia_74, iv ib_75, iv tt_76, rv b78, .unset] [(.int (3 : Int32)), (.int (0 : Int32)), (.ref b78)] _
    refine own_go (fun t₀ k₀ => XS.iload X80.here hx rfl (Jvm.hb hby at_57) rfl k₀) ?_
    show Gm p e below T80 m 59 #[iv p0, iv p1, iv p2, iv p3, iv p4, iv p5, iv (3 : Int32), iv ia_74, iv ib_75, iv tt_76, rv b78, .unset] [(.int ia_74), (.int (3 : Int32)), (.int (0 : Int32)), (.ref b78)] _
    refine own_go (fun t₀ k₀ => XS.iloadN X80.here hx rfl (Jvm.hb hby at_59) rfl k₀) ?_
    show Gm p e below T80 m 60 #[iv p0, iv p1, iv p2, iv p3, iv p4, iv p5, iv (3 : Int32), iv ia_74, iv ib_75, iv tt_76, rv b78, .unset] [(.int p2), (.int ia_74), (.int (3 : Int32)), (.int (0 : Int32)), (.ref b78)] _
    refine own_go (fun t₀ k₀ => XS.iloadN X80.here hx rfl (Jvm.hb hby at_60) rfl k₀) ?_
    show Gm p e below T80 m 61 #[iv p0, iv p1, iv p2, iv p3, iv p4, iv p5, iv (3 : Int32), iv ia_74, iv ib_75, iv tt_76, rv b78, .unset] [(.int p3), (.int p2), (.int ia_74), (.int (3 : Int32)), (.int (0 : Int32)), (.ref b78)] _
    refine own_go (fun t₀ k₀ => XS.iconst X80.here hx rfl (Jvm.hb hby at_61) k₀) ?_
    show Gm p e below T80 m 62 #[iv p0, iv p1, iv p2, iv p3, iv p4, iv p5, iv (3 : Int32), iv ia_74, iv ib_75, iv tt_76, rv b78, .unset] [(.int (-1 : Int32)), (.int p3), (.int p2), (.int ia_74), (.int (3 : Int32)), (.int (0 : Int32)), (.ref b78)] _
    refine own_go (fun t₀ k₀ => XS.iconst X80.here hx rfl (Jvm.hb hby at_62) k₀) ?_
    show Gm p e below T80 m 63 #[iv p0, iv p1, iv p2, iv p3, iv p4, iv p5, iv (3 : Int32), iv ia_74, iv ib_75, iv tt_76, rv b78, .unset] [(.int (0 : Int32)), (.int (-1 : Int32)), (.int p3), (.int p2), (.int ia_74), (.int (3 : Int32)), (.int (0 : Int32)), (.ref b78)] _
    refine own_go (fun t₀ k₀ => XS.iconst X80.here hx rfl (Jvm.hb hby at_63) k₀) ?_
    show Gm p e below T80 m 64 #[iv p0, iv p1, iv p2, iv p3, iv p4, iv p5, iv (3 : Int32), iv ia_74, iv ib_75, iv tt_76, rv b78, .unset] [(.int (0 : Int32)), (.int (0 : Int32)), (.int (-1 : Int32)), (.int p3), (.int p2), (.int ia_74), (.int (3 : Int32)), (.int (0 : Int32)), (.ref b78)] _
    have f81 := (Fc_floor79.keep Kc80 (ninS ne_b78_floor79 (ninS ne_b78_startCell79 (ninS ne_b78_cell79 nin0))))
    have f82 := (Fc_startCell79.keep Kc80 (ninS ne_b78_floor79 (ninS ne_b78_startCell79 (ninS ne_b78_cell79 nin0))))
    have f83 := (Fc_cell79.keep Kc80 (ninS ne_b78_floor79 (ninS ne_b78_startCell79 (ninS ne_b78_cell79 nin0))))
    have f84 := (Fc_heading79.keep Kc80 (ninS ne_b78_floor79 (ninS ne_b78_startCell79 (ninS ne_b78_cell79 nin0))))
    have f85 := (Fc_leaving79.keep Kc80 (ninS ne_b78_floor79 (ninS ne_b78_startCell79 (ninS ne_b78_cell79 nin0))))
    have f86 := (Fc_exit79.keep Kc80 (ninS ne_b78_floor79 (ninS ne_b78_startCell79 (ninS ne_b78_cell79 nin0))))
    have f87 := (Ac_heading79.keep Kc80 (ninS (Ne.symm nn_floor_heading79) (ninS (Ne.symm nn_startCell_heading79) (ninS (Ne.symm nn_cell_heading79) nin0))))
    have f88 := (Ac_leaving79.keep Kc80 (ninS (Ne.symm nn_floor_leaving79) (ninS (Ne.symm nn_startCell_leaving79) (ninS (Ne.symm nn_cell_leaving79) nin0))))
    have f89 := (Ac_exit79.keep Kc80 (ninS (Ne.symm nn_floor_exit79) (ninS (Ne.symm nn_startCell_exit79) (ninS (Ne.symm nn_cell_exit79) nin0))))
    obtain ⟨_, _, ⟨T90, L90, k90, n90⟩, -, X90, ⟨Lc90, hQ90, l90, y90, z90⟩, st90⟩ := Jvm.LawKit.callS X80 hx (y := (⟨"com/example/throughfare/throughfare/simulation/WalkersStartPinLaw", "slot", "(Lcom/example/throughfare/throughfare/simulation/Walkers;IIIIIIII)Z"⟩ : MethodName)) hown (mvT hZ (hw _ (List.mem_of_getElem? (i := 48) rfl))) (mvT hZ (hw _ (List.mem_of_getElem? (i := 49) rfl))) (mvT hZ (hw _ (List.mem_of_getElem? (i := 50) rfl))) (mvT hZ (hw _ (List.mem_of_getElem? (i := 51) rfl))) (by decide) (backOf (W := 0) (rm6 l Z a0 hw [] b78 (0 : Int32) (3 : Int32) ia_74 p2 p3 (-1 : Int32) (0 : Int32) (0 : Int32) floor79 startCell79 cell79 heading79 leaving79 exit79 3 (fun i => if i = ia_74.toNatClampNeg then p2 else (fun _ => (0 : Int32)) i) (fun i => if i = ia_74.toNatClampNeg then p3 else (fun _ => (0 : Int32)) i) (fun i => if i = ia_74.toNatClampNeg then p3 else (fun _ => (0 : Int32)) i) (fun _ => (0 : Int32)) (fun _ => (-1 : Int32)) (fun _ => (-1 : Int32)) T80.heap n0 Z80 f81 f82 f83 f84 f85 f86 Ac_floor80 Ac_startCell80 Ac_cell80 f87 f88 f89 (by decide) (by decide) (own_s1 (by decide) hr_ia_74.1 (by decide)) (own_s1 (by decide) hr_ia_74.1 (by decide)) (own_s1 (by decide) hr_ia_74.1 (by decide)) rfl rfl rfl) hZ (hw _ (List.mem_of_getElem? (i := 51) rfl)) (hw _ (List.mem_of_getElem? (i := 50) rfl)) (by decide) (by decide)) (g := (mkF m 64 #[iv p0, iv p1, iv p2, iv p3, iv p4, iv p5, iv (3 : Int32), iv ia_74, iv ib_75, iv tt_76, rv b78, .unset] [(.int (0 : Int32)), (.int (0 : Int32)), (.int (-1 : Int32)), (.int p3), (.int p2), (.int ia_74), (.int (3 : Int32)), (.int (0 : Int32)), (.ref b78)])) rfl (by rw [hml]; rfl) (argsL := [(.ref b78), (.int (0 : Int32)), (.int (3 : Int32)), (.int ia_74), (.int p2), (.int p3), (.int (-1 : Int32)), (.int (0 : Int32)), (.int (0 : Int32))]) (rest := []) (lenOf own_pd4 rfl) rfl (by show 2 * 0 + _ ≤ _; exact Nat.le_of_eq rfl) (Jvm.hb hby at_64) (fun _ _ => ⟨rfl, rfl, (by decide : 12 + 0 ≤ _), (by decide : 44 + 0 ≤ _)⟩)
    dsimp only [Pt.U, Pt.locs, Pt.cells, Pt.slots] at X90 l90 y90 z90 st90 hQ90
    subst l90 y90 z90
    obtain ⟨rfl, Nq90, eq90⟩ := hQ90
    have N90 := Fr.app N80 Nq90
    have e90 : T90.heap = T80.heap := eq90
    refine own_go st90 ?_
    show Gm p e below T90 m 67 #[iv p0, iv p1, iv p2, iv p3, iv p4, iv p5, iv (3 : Int32), iv ia_74, iv ib_75, iv tt_76, rv b78, .unset] [(.int (1 : Int32))] _
    refine own_go (fun t₀ k₀ => XS.ifNo X90.here hx rfl (Jvm.hb hby at_67) rfl (XT.i0_eq_f (by decide)) k₀) ?_
    show Gm p e below T90 m 70 #[iv p0, iv p1, iv p2, iv p3, iv p4, iv p5, iv (3 : Int32), iv ia_74, iv ib_75, iv tt_76, rv b78, .unset] [] _
    refine own_go (fun t₀ k₀ => XS.aload X90.here hx rfl (Jvm.hb hby at_70) rfl rfl k₀) ?_
    show Gm p e below T90 m 72 #[iv p0, iv p1, iv p2, iv p3, iv p4, iv p5, iv (3 : Int32), iv ia_74, iv ib_75, iv tt_76, rv b78, .unset] [(.ref b78)] _
    refine own_go (fun t₀ k₀ => XS.iconst X90.here hx rfl (Jvm.hb hby at_72) k₀) ?_
    show Gm p e below T90 m 73 #[iv p0, iv p1, iv p2, iv p3, iv p4, iv p5, iv (3 : Int32), iv ia_74, iv ib_75, iv tt_76, rv b78, .unset] [(.int (1 : Int32)), (.ref b78)] _
    refine own_go (fun t₀ k₀ => XS.iload X90.here hx rfl (Jvm.hb hby at_73) rfl k₀) ?_
    show Gm p e below T90 m 75 #[iv p0, iv p1, iv p2, iv p3, iv p4, iv p5, iv (3 : Int32), iv ia_74, iv ib_75, iv tt_76, rv b78, .unset] [(.int (3 : Int32)), (.int (1 : Int32)), (.ref b78)] _
    refine own_go (fun t₀ k₀ => XS.iload X90.here hx rfl (Jvm.hb hby at_75) rfl k₀) ?_
    show Gm p e below T90 m 77 #[iv p0, iv p1, iv p2, iv p3, iv p4, iv p5, iv (3 : Int32), iv ia_74, iv ib_75, iv tt_76, rv b78, .unset] [(.int ia_74), (.int (3 : Int32)), (.int (1 : Int32)), (.ref b78)] _
    refine own_go (fun t₀ k₀ => XS.iloadN X90.here hx rfl (Jvm.hb hby at_77) rfl k₀) ?_
    show Gm p e below T90 m 78 #[iv p0, iv p1, iv p2, iv p3, iv p4, iv p5, iv (3 : Int32), iv ia_74, iv ib_75, iv tt_76, rv b78, .unset] [(.int p2), (.int ia_74), (.int (3 : Int32)), (.int (1 : Int32)), (.ref b78)] _
    refine own_go (fun t₀ k₀ => XS.iloadN X90.here hx rfl (Jvm.hb hby at_78) rfl k₀) ?_
    show Gm p e below T90 m 79 #[iv p0, iv p1, iv p2, iv p3, iv p4, iv p5, iv (3 : Int32), iv ia_74, iv ib_75, iv tt_76, rv b78, .unset] [(.int p3), (.int p2), (.int ia_74), (.int (3 : Int32)), (.int (1 : Int32)), (.ref b78)] _
    refine own_go (fun t₀ k₀ => XS.iconst X90.here hx rfl (Jvm.hb hby at_79) k₀) ?_
    show Gm p e below T90 m 80 #[iv p0, iv p1, iv p2, iv p3, iv p4, iv p5, iv (3 : Int32), iv ia_74, iv ib_75, iv tt_76, rv b78, .unset] [(.int (-1 : Int32)), (.int p3), (.int p2), (.int ia_74), (.int (3 : Int32)), (.int (1 : Int32)), (.ref b78)] _
    refine own_go (fun t₀ k₀ => XS.iconst X90.here hx rfl (Jvm.hb hby at_80) k₀) ?_
    show Gm p e below T90 m 81 #[iv p0, iv p1, iv p2, iv p3, iv p4, iv p5, iv (3 : Int32), iv ia_74, iv ib_75, iv tt_76, rv b78, .unset] [(.int (0 : Int32)), (.int (-1 : Int32)), (.int p3), (.int p2), (.int ia_74), (.int (3 : Int32)), (.int (1 : Int32)), (.ref b78)] _
    refine own_go (fun t₀ k₀ => XS.iconst X90.here hx rfl (Jvm.hb hby at_81) k₀) ?_
    show Gm p e below T90 m 82 #[iv p0, iv p1, iv p2, iv p3, iv p4, iv p5, iv (3 : Int32), iv ia_74, iv ib_75, iv tt_76, rv b78, .unset] [(.int (0 : Int32)), (.int (0 : Int32)), (.int (-1 : Int32)), (.int p3), (.int p2), (.int ia_74), (.int (3 : Int32)), (.int (1 : Int32)), (.ref b78)] _
    obtain ⟨_, _, ⟨T91, L91, k91, n91⟩, -, X91, ⟨Lc91, hQ91, l91, y91, z91⟩, st91⟩ := Jvm.LawKit.callS X90 hx (y := (⟨"com/example/throughfare/throughfare/simulation/WalkersStartPinLaw", "slot", "(Lcom/example/throughfare/throughfare/simulation/Walkers;IIIIIIII)Z"⟩ : MethodName)) hown (mvT hZ (hw _ (List.mem_of_getElem? (i := 48) rfl))) (mvT hZ (hw _ (List.mem_of_getElem? (i := 49) rfl))) (mvT hZ (hw _ (List.mem_of_getElem? (i := 50) rfl))) (mvT hZ (hw _ (List.mem_of_getElem? (i := 51) rfl))) (by decide) (backOf (W := 0) (rm6 l Z a0 hw [] b78 (1 : Int32) (3 : Int32) ia_74 p2 p3 (-1 : Int32) (0 : Int32) (0 : Int32) floor79 startCell79 cell79 heading79 leaving79 exit79 3 (fun i => if i = ia_74.toNatClampNeg then p2 else (fun _ => (0 : Int32)) i) (fun i => if i = ia_74.toNatClampNeg then p3 else (fun _ => (0 : Int32)) i) (fun i => if i = ia_74.toNatClampNeg then p3 else (fun _ => (0 : Int32)) i) (fun _ => (0 : Int32)) (fun _ => (-1 : Int32)) (fun _ => (-1 : Int32)) T80.heap n0 Z80 f81 f82 f83 f84 f85 f86 Ac_floor80 Ac_startCell80 Ac_cell80 f87 f88 f89 (by decide) (by decide) (own_s1 (by decide) hr_ia_74.1 (by decide)) (own_s1 (by decide) hr_ia_74.1 (by decide)) (own_s1 (by decide) hr_ia_74.1 (by decide)) rfl rfl rfl) hZ (hw _ (List.mem_of_getElem? (i := 51) rfl)) (hw _ (List.mem_of_getElem? (i := 50) rfl)) (by decide) (by decide)) (g := (mkF m 82 #[iv p0, iv p1, iv p2, iv p3, iv p4, iv p5, iv (3 : Int32), iv ia_74, iv ib_75, iv tt_76, rv b78, .unset] [(.int (0 : Int32)), (.int (0 : Int32)), (.int (-1 : Int32)), (.int p3), (.int p2), (.int ia_74), (.int (3 : Int32)), (.int (1 : Int32)), (.ref b78)])) rfl (by rw [hml]; rfl) (argsL := [(.ref b78), (.int (1 : Int32)), (.int (3 : Int32)), (.int ia_74), (.int p2), (.int p3), (.int (-1 : Int32)), (.int (0 : Int32)), (.int (0 : Int32))]) (rest := []) (lenOf own_pd4 rfl) rfl (by show 2 * 0 + _ ≤ _; exact Nat.le_of_eq rfl) (Jvm.hb hby at_82) (fun _ _ => ⟨rfl, e90, (by decide : 12 + 0 ≤ _), (by decide : 44 + 0 ≤ _)⟩)
    dsimp only [Pt.U, Pt.locs, Pt.cells, Pt.slots] at X91 l91 y91 z91 st91 hQ91
    subst l91 y91 z91
    obtain ⟨rfl, Nq91, eq91⟩ := hQ91
    have N91 := Fr.app N90 Nq91
    have e91 : T91.heap = T80.heap := eq91
    refine own_go st91 ?_
    show Gm p e below T91 m 85 #[iv p0, iv p1, iv p2, iv p3, iv p4, iv p5, iv (3 : Int32), iv ia_74, iv ib_75, iv tt_76, rv b78, .unset] [(.int (1 : Int32))] _
    refine own_go (fun t₀ k₀ => XS.ifNo X91.here hx rfl (Jvm.hb hby at_85) rfl (XT.i0_eq_f (by decide)) k₀) ?_
    show Gm p e below T91 m 88 #[iv p0, iv p1, iv p2, iv p3, iv p4, iv p5, iv (3 : Int32), iv ia_74, iv ib_75, iv tt_76, rv b78, .unset] [] _
    refine own_go (fun t₀ k₀ => XS.aload X91.here hx rfl (Jvm.hb hby at_88) rfl rfl k₀) ?_
    show Gm p e below T91 m 90 #[iv p0, iv p1, iv p2, iv p3, iv p4, iv p5, iv (3 : Int32), iv ia_74, iv ib_75, iv tt_76, rv b78, .unset] [(.ref b78)] _
    refine own_go (fun t₀ k₀ => XS.iconst X91.here hx rfl (Jvm.hb hby at_90) k₀) ?_
    show Gm p e below T91 m 91 #[iv p0, iv p1, iv p2, iv p3, iv p4, iv p5, iv (3 : Int32), iv ia_74, iv ib_75, iv tt_76, rv b78, .unset] [(.int (2 : Int32)), (.ref b78)] _
    refine own_go (fun t₀ k₀ => XS.iload X91.here hx rfl (Jvm.hb hby at_91) rfl k₀) ?_
    show Gm p e below T91 m 93 #[iv p0, iv p1, iv p2, iv p3, iv p4, iv p5, iv (3 : Int32), iv ia_74, iv ib_75, iv tt_76, rv b78, .unset] [(.int (3 : Int32)), (.int (2 : Int32)), (.ref b78)] _
    refine own_go (fun t₀ k₀ => XS.iload X91.here hx rfl (Jvm.hb hby at_93) rfl k₀) ?_
    show Gm p e below T91 m 95 #[iv p0, iv p1, iv p2, iv p3, iv p4, iv p5, iv (3 : Int32), iv ia_74, iv ib_75, iv tt_76, rv b78, .unset] [(.int ia_74), (.int (3 : Int32)), (.int (2 : Int32)), (.ref b78)] _
    refine own_go (fun t₀ k₀ => XS.iloadN X91.here hx rfl (Jvm.hb hby at_95) rfl k₀) ?_
    show Gm p e below T91 m 96 #[iv p0, iv p1, iv p2, iv p3, iv p4, iv p5, iv (3 : Int32), iv ia_74, iv ib_75, iv tt_76, rv b78, .unset] [(.int p2), (.int ia_74), (.int (3 : Int32)), (.int (2 : Int32)), (.ref b78)] _
    refine own_go (fun t₀ k₀ => XS.iloadN X91.here hx rfl (Jvm.hb hby at_96) rfl k₀) ?_
    show Gm p e below T91 m 97 #[iv p0, iv p1, iv p2, iv p3, iv p4, iv p5, iv (3 : Int32), iv ia_74, iv ib_75, iv tt_76, rv b78, .unset] [(.int p3), (.int p2), (.int ia_74), (.int (3 : Int32)), (.int (2 : Int32)), (.ref b78)] _
    refine own_go (fun t₀ k₀ => XS.iconst X91.here hx rfl (Jvm.hb hby at_97) k₀) ?_
    show Gm p e below T91 m 98 #[iv p0, iv p1, iv p2, iv p3, iv p4, iv p5, iv (3 : Int32), iv ia_74, iv ib_75, iv tt_76, rv b78, .unset] [(.int (-1 : Int32)), (.int p3), (.int p2), (.int ia_74), (.int (3 : Int32)), (.int (2 : Int32)), (.ref b78)] _
    refine own_go (fun t₀ k₀ => XS.iconst X91.here hx rfl (Jvm.hb hby at_98) k₀) ?_
    show Gm p e below T91 m 99 #[iv p0, iv p1, iv p2, iv p3, iv p4, iv p5, iv (3 : Int32), iv ia_74, iv ib_75, iv tt_76, rv b78, .unset] [(.int (0 : Int32)), (.int (-1 : Int32)), (.int p3), (.int p2), (.int ia_74), (.int (3 : Int32)), (.int (2 : Int32)), (.ref b78)] _
    refine own_go (fun t₀ k₀ => XS.iconst X91.here hx rfl (Jvm.hb hby at_99) k₀) ?_
    show Gm p e below T91 m 100 #[iv p0, iv p1, iv p2, iv p3, iv p4, iv p5, iv (3 : Int32), iv ia_74, iv ib_75, iv tt_76, rv b78, .unset] [(.int (0 : Int32)), (.int (0 : Int32)), (.int (-1 : Int32)), (.int p3), (.int p2), (.int ia_74), (.int (3 : Int32)), (.int (2 : Int32)), (.ref b78)] _
    obtain ⟨_, _, ⟨T92, L92, k92, n92⟩, -, X92, ⟨Lc92, hQ92, l92, y92, z92⟩, st92⟩ := Jvm.LawKit.callS X91 hx (y := (⟨"com/example/throughfare/throughfare/simulation/WalkersStartPinLaw", "slot", "(Lcom/example/throughfare/throughfare/simulation/Walkers;IIIIIIII)Z"⟩ : MethodName)) hown (mvT hZ (hw _ (List.mem_of_getElem? (i := 48) rfl))) (mvT hZ (hw _ (List.mem_of_getElem? (i := 49) rfl))) (mvT hZ (hw _ (List.mem_of_getElem? (i := 50) rfl))) (mvT hZ (hw _ (List.mem_of_getElem? (i := 51) rfl))) (by decide) (backOf (W := 0) (rm6 l Z a0 hw [] b78 (2 : Int32) (3 : Int32) ia_74 p2 p3 (-1 : Int32) (0 : Int32) (0 : Int32) floor79 startCell79 cell79 heading79 leaving79 exit79 3 (fun i => if i = ia_74.toNatClampNeg then p2 else (fun _ => (0 : Int32)) i) (fun i => if i = ia_74.toNatClampNeg then p3 else (fun _ => (0 : Int32)) i) (fun i => if i = ia_74.toNatClampNeg then p3 else (fun _ => (0 : Int32)) i) (fun _ => (0 : Int32)) (fun _ => (-1 : Int32)) (fun _ => (-1 : Int32)) T80.heap n0 Z80 f81 f82 f83 f84 f85 f86 Ac_floor80 Ac_startCell80 Ac_cell80 f87 f88 f89 (by decide) (by decide) (own_s1 (by decide) hr_ia_74.1 (by decide)) (own_s1 (by decide) hr_ia_74.1 (by decide)) (own_s1 (by decide) hr_ia_74.1 (by decide)) rfl rfl rfl) hZ (hw _ (List.mem_of_getElem? (i := 51) rfl)) (hw _ (List.mem_of_getElem? (i := 50) rfl)) (by decide) (by decide)) (g := (mkF m 100 #[iv p0, iv p1, iv p2, iv p3, iv p4, iv p5, iv (3 : Int32), iv ia_74, iv ib_75, iv tt_76, rv b78, .unset] [(.int (0 : Int32)), (.int (0 : Int32)), (.int (-1 : Int32)), (.int p3), (.int p2), (.int ia_74), (.int (3 : Int32)), (.int (2 : Int32)), (.ref b78)])) rfl (by rw [hml]; rfl) (argsL := [(.ref b78), (.int (2 : Int32)), (.int (3 : Int32)), (.int ia_74), (.int p2), (.int p3), (.int (-1 : Int32)), (.int (0 : Int32)), (.int (0 : Int32))]) (rest := []) (lenOf own_pd4 rfl) rfl (by show 2 * 0 + _ ≤ _; exact Nat.le_of_eq rfl) (Jvm.hb hby at_100) (fun _ _ => ⟨rfl, e91, (by decide : 12 + 0 ≤ _), (by decide : 44 + 0 ≤ _)⟩)
    dsimp only [Pt.U, Pt.locs, Pt.cells, Pt.slots] at X92 l92 y92 z92 st92 hQ92
    subst l92 y92 z92
    obtain ⟨rfl, Nq92, eq92⟩ := hQ92
    have N92 := Fr.app N91 Nq92
    have e92 : T92.heap = T80.heap := eq92
    refine own_go st92 ?_
    show Gm p e below T92 m 103 #[iv p0, iv p1, iv p2, iv p3, iv p4, iv p5, iv (3 : Int32), iv ia_74, iv ib_75, iv tt_76, rv b78, .unset] [(.int (1 : Int32))] _
    refine own_go (fun t₀ k₀ => XS.ifNo X92.here hx rfl (Jvm.hb hby at_103) rfl (XT.i0_eq_f (by decide)) k₀) ?_
    show Gm p e below T92 m 106 #[iv p0, iv p1, iv p2, iv p3, iv p4, iv p5, iv (3 : Int32), iv ia_74, iv ib_75, iv tt_76, rv b78, .unset] [] _
    refine own_go (fun t₀ k₀ => XS.aload X92.here hx rfl (Jvm.hb hby at_106) rfl rfl k₀) ?_
    show Gm p e below T92 m 108 #[iv p0, iv p1, iv p2, iv p3, iv p4, iv p5, iv (3 : Int32), iv ia_74, iv ib_75, iv tt_76, rv b78, .unset] [(.ref b78)] _
    refine own_go (fun t₀ k₀ => XS.iconst X92.here hx rfl (Jvm.hb hby at_108) k₀) ?_
    show Gm p e below T92 m 109 #[iv p0, iv p1, iv p2, iv p3, iv p4, iv p5, iv (3 : Int32), iv ia_74, iv ib_75, iv tt_76, rv b78, .unset] [(.int (3 : Int32)), (.ref b78)] _
    refine own_go (fun t₀ k₀ => XS.iload X92.here hx rfl (Jvm.hb hby at_109) rfl k₀) ?_
    show Gm p e below T92 m 111 #[iv p0, iv p1, iv p2, iv p3, iv p4, iv p5, iv (3 : Int32), iv ia_74, iv ib_75, iv tt_76, rv b78, .unset] [(.int (3 : Int32)), (.int (3 : Int32)), (.ref b78)] _
    refine own_go (fun t₀ k₀ => XS.iload X92.here hx rfl (Jvm.hb hby at_111) rfl k₀) ?_
    show Gm p e below T92 m 113 #[iv p0, iv p1, iv p2, iv p3, iv p4, iv p5, iv (3 : Int32), iv ia_74, iv ib_75, iv tt_76, rv b78, .unset] [(.int ia_74), (.int (3 : Int32)), (.int (3 : Int32)), (.ref b78)] _
    refine own_go (fun t₀ k₀ => XS.iloadN X92.here hx rfl (Jvm.hb hby at_113) rfl k₀) ?_
    show Gm p e below T92 m 114 #[iv p0, iv p1, iv p2, iv p3, iv p4, iv p5, iv (3 : Int32), iv ia_74, iv ib_75, iv tt_76, rv b78, .unset] [(.int p2), (.int ia_74), (.int (3 : Int32)), (.int (3 : Int32)), (.ref b78)] _
    refine own_go (fun t₀ k₀ => XS.iloadN X92.here hx rfl (Jvm.hb hby at_114) rfl k₀) ?_
    show Gm p e below T92 m 115 #[iv p0, iv p1, iv p2, iv p3, iv p4, iv p5, iv (3 : Int32), iv ia_74, iv ib_75, iv tt_76, rv b78, .unset] [(.int p3), (.int p2), (.int ia_74), (.int (3 : Int32)), (.int (3 : Int32)), (.ref b78)] _
    refine own_go (fun t₀ k₀ => XS.iconst X92.here hx rfl (Jvm.hb hby at_115) k₀) ?_
    show Gm p e below T92 m 116 #[iv p0, iv p1, iv p2, iv p3, iv p4, iv p5, iv (3 : Int32), iv ia_74, iv ib_75, iv tt_76, rv b78, .unset] [(.int (-1 : Int32)), (.int p3), (.int p2), (.int ia_74), (.int (3 : Int32)), (.int (3 : Int32)), (.ref b78)] _
    refine own_go (fun t₀ k₀ => XS.iconst X92.here hx rfl (Jvm.hb hby at_116) k₀) ?_
    show Gm p e below T92 m 117 #[iv p0, iv p1, iv p2, iv p3, iv p4, iv p5, iv (3 : Int32), iv ia_74, iv ib_75, iv tt_76, rv b78, .unset] [(.int (0 : Int32)), (.int (-1 : Int32)), (.int p3), (.int p2), (.int ia_74), (.int (3 : Int32)), (.int (3 : Int32)), (.ref b78)] _
    refine own_go (fun t₀ k₀ => XS.iconst X92.here hx rfl (Jvm.hb hby at_117) k₀) ?_
    show Gm p e below T92 m 118 #[iv p0, iv p1, iv p2, iv p3, iv p4, iv p5, iv (3 : Int32), iv ia_74, iv ib_75, iv tt_76, rv b78, .unset] [(.int (0 : Int32)), (.int (0 : Int32)), (.int (-1 : Int32)), (.int p3), (.int p2), (.int ia_74), (.int (3 : Int32)), (.int (3 : Int32)), (.ref b78)] _
    obtain ⟨_, _, ⟨T93, L93, k93, n93⟩, -, X93, ⟨Lc93, hQ93, l93, y93, z93⟩, st93⟩ := Jvm.LawKit.callS X92 hx (y := (⟨"com/example/throughfare/throughfare/simulation/WalkersStartPinLaw", "slot", "(Lcom/example/throughfare/throughfare/simulation/Walkers;IIIIIIII)Z"⟩ : MethodName)) hown (mvT hZ (hw _ (List.mem_of_getElem? (i := 48) rfl))) (mvT hZ (hw _ (List.mem_of_getElem? (i := 49) rfl))) (mvT hZ (hw _ (List.mem_of_getElem? (i := 50) rfl))) (mvT hZ (hw _ (List.mem_of_getElem? (i := 51) rfl))) (by decide) (backOf (W := 0) (rm6 l Z a0 hw [] b78 (3 : Int32) (3 : Int32) ia_74 p2 p3 (-1 : Int32) (0 : Int32) (0 : Int32) floor79 startCell79 cell79 heading79 leaving79 exit79 3 (fun i => if i = ia_74.toNatClampNeg then p2 else (fun _ => (0 : Int32)) i) (fun i => if i = ia_74.toNatClampNeg then p3 else (fun _ => (0 : Int32)) i) (fun i => if i = ia_74.toNatClampNeg then p3 else (fun _ => (0 : Int32)) i) (fun _ => (0 : Int32)) (fun _ => (-1 : Int32)) (fun _ => (-1 : Int32)) T80.heap n0 Z80 f81 f82 f83 f84 f85 f86 Ac_floor80 Ac_startCell80 Ac_cell80 f87 f88 f89 (by decide) (by decide) (own_s1 (by decide) hr_ia_74.1 (by decide)) (own_s1 (by decide) hr_ia_74.1 (by decide)) (own_s1 (by decide) hr_ia_74.1 (by decide)) rfl rfl rfl) hZ (hw _ (List.mem_of_getElem? (i := 51) rfl)) (hw _ (List.mem_of_getElem? (i := 50) rfl)) (by decide) (by decide)) (g := (mkF m 118 #[iv p0, iv p1, iv p2, iv p3, iv p4, iv p5, iv (3 : Int32), iv ia_74, iv ib_75, iv tt_76, rv b78, .unset] [(.int (0 : Int32)), (.int (0 : Int32)), (.int (-1 : Int32)), (.int p3), (.int p2), (.int ia_74), (.int (3 : Int32)), (.int (3 : Int32)), (.ref b78)])) rfl (by rw [hml]; rfl) (argsL := [(.ref b78), (.int (3 : Int32)), (.int (3 : Int32)), (.int ia_74), (.int p2), (.int p3), (.int (-1 : Int32)), (.int (0 : Int32)), (.int (0 : Int32))]) (rest := []) (lenOf own_pd4 rfl) rfl (by show 2 * 0 + _ ≤ _; exact Nat.le_of_eq rfl) (Jvm.hb hby at_118) (fun _ _ => ⟨rfl, e92, (by decide : 12 + 0 ≤ _), (by decide : 44 + 0 ≤ _)⟩)
    dsimp only [Pt.U, Pt.locs, Pt.cells, Pt.slots] at X93 l93 y93 z93 st93 hQ93
    subst l93 y93 z93
    obtain ⟨rfl, Nq93, eq93⟩ := hQ93
    have N93 := Fr.app N92 Nq93
    have e93 : T93.heap = T80.heap := eq93
    refine own_go st93 ?_
    show Gm p e below T93 m 121 #[iv p0, iv p1, iv p2, iv p3, iv p4, iv p5, iv (3 : Int32), iv ia_74, iv ib_75, iv tt_76, rv b78, .unset] [(.int (1 : Int32))] _
    refine own_go (fun t₀ k₀ => XS.ifNo X93.here hx rfl (Jvm.hb hby at_121) rfl (XT.i0_eq_f (by decide)) k₀) ?_
    show Gm p e below T93 m 124 #[iv p0, iv p1, iv p2, iv p3, iv p4, iv p5, iv (3 : Int32), iv ia_74, iv ib_75, iv tt_76, rv b78, .unset] [] _
    refine own_go (fun t₀ k₀ => XS.iconst X93.here hx rfl (Jvm.hb hby at_124) k₀) ?_
    show Gm p e below T93 m 125 #[iv p0, iv p1, iv p2, iv p3, iv p4, iv p5, iv (3 : Int32), iv ia_74, iv ib_75, iv tt_76, rv b78, .unset] [(.int (1 : Int32))] _
    refine own_go (fun t₀ k₀ => XS.goto X93.here hx rfl (pc0 := 125) (pc' := 129) rfl (Jvm.hb hby at_125) (by decide) (by decide) k₀) ?_
    show Gm p e below T93 m 129 #[iv p0, iv p1, iv p2, iv p3, iv p4, iv p5, iv (3 : Int32), iv ia_74, iv ib_75, iv tt_76, rv b78, .unset] [(.int (1 : Int32))] _
    refine own_go (fun t₀ k₀ => XS.istore X93.here hx rfl (Jvm.hb hby at_129) rfl (l' := #[iv p0, iv p1, iv p2, iv p3, iv p4, iv p5, iv (3 : Int32), iv ia_74, iv ib_75, iv tt_76, rv b78, iv (1 : Int32)]) rfl k₀) ?_
    show Gm p e below T93 m 131 #[iv p0, iv p1, iv p2, iv p3, iv p4, iv p5, iv (3 : Int32), iv ia_74, iv ib_75, iv tt_76, rv b78, iv (1 : Int32)] [] _
    refine own_go (fun t₀ k₀ => XS.aload X93.here hx rfl (Jvm.hb hby at_131) rfl rfl k₀) ?_
    show Gm p e below T93 m 133 #[iv p0, iv p1, iv p2, iv p3, iv p4, iv p5, iv (3 : Int32), iv ia_74, iv ib_75, iv tt_76, rv b78, iv (1 : Int32)] [(.ref b78)] _
    refine own_go (fun t₀ k₀ => XS.iload X93.here hx rfl (Jvm.hb hby at_133) rfl k₀) ?_
    show Gm p e below T93 m 135 #[iv p0, iv p1, iv p2, iv p3, iv p4, iv p5, iv (3 : Int32), iv ia_74, iv ib_75, iv tt_76, rv b78, iv (1 : Int32)] [(.int ib_75), (.ref b78)] _
    refine own_go (fun t₀ k₀ => XS.iload X93.here hx rfl (Jvm.hb hby at_135) rfl k₀) ?_
    show Gm p e below T93 m 137 #[iv p0, iv p1, iv p2, iv p3, iv p4, iv p5, iv (3 : Int32), iv ia_74, iv ib_75, iv tt_76, rv b78, iv (1 : Int32)] [(.int p5), (.int ib_75), (.ref b78)] _
    refine own_go (fun t₀ k₀ => XS.iload X93.here hx rfl (Jvm.hb hby at_137) rfl k₀) ?_
    show Gm p e below T93 m 139 #[iv p0, iv p1, iv p2, iv p3, iv p4, iv p5, iv (3 : Int32), iv ia_74, iv ib_75, iv tt_76, rv b78, iv (1 : Int32)] [(.int tt_76), (.int p5), (.int ib_75), (.ref b78)] _
    have f95 := (Ec79.keep Kc80)
    obtain ⟨cq94, kq94, q94a, q94b, q94c⟩ := isOf hZ e93 f95
    obtain ⟨_, _, ⟨T94, L94, k94, n94⟩, -, X94, ⟨Lc94, hQ94, l94, y94, z94⟩, st94⟩ := X93.virtualBack hx (y := (⟨"com/example/throughfare/throughfare/simulation/Walkers", "start", "(III)V"⟩ : MethodName)) (z := (⟨"com/example/throughfare/throughfare/simulation/Walkers", "start", "(III)V"⟩ : MethodName)) hown (mvT hZ (hw _ (List.mem_of_getElem? (i := 43) rfl))) (mvT hZ (hw _ (List.mem_of_getElem? (i := 44) rfl))) (notFace_of_selects (args := #[]) (mvT hZ (hw _ (List.mem_of_getElem? (i := 46) rfl)))) (mvT hZ (hw _ (List.mem_of_getElem? (i := 46) rfl))) (mvT hZ (hw _ (List.mem_of_getElem? (i := 45) rfl))) (by decide) (backOf (W := 0) (rm5 l Z a0 hw [] b78 ib_75 p5 tt_76 floor79 startCell79 cell79 3 (fun i => if i = ia_74.toNatClampNeg then p2 else (fun _ => (0 : Int32)) i) (fun i => if i = ia_74.toNatClampNeg then p3 else (fun _ => (0 : Int32)) i) (fun i => if i = ia_74.toNatClampNeg then p3 else (fun _ => (0 : Int32)) i) T80.heap n0 Z80 f81 f82 f83 Ac_floor80 Ac_startCell80 Ac_cell80 ne_b78_floor79 ne_b78_startCell79 ne_b78_cell79 nn_floor_startCell79 nn_floor_cell79 nn_startCell_cell79 g_floor79 g_startCell79 g_cell79 hr_ib_75.1 hr_ib_75.2) hZ (hw _ (List.mem_of_getElem? (i := 47) rfl)) (hw _ (List.mem_of_getElem? (i := 3) rfl)) (by decide) (by decide)) q94a q94c (g := (mkF m 139 #[iv p0, iv p1, iv p2, iv p3, iv p4, iv p5, iv (3 : Int32), iv ia_74, iv ib_75, iv tt_76, rv b78, iv (1 : Int32)] [(.int tt_76), (.int p5), (.int ib_75), (.ref b78)])) rfl (by rw [hml]; rfl) (Steps.refl _) (argsL := [(.int ib_75), (.int p5), (.int tt_76)]) (rest := []) (lenOf own_pd3 rfl) rfl (by show 2 * 0 + _ ≤ _; exact Nat.le_of_eq rfl) (Jvm.hb hby at_139) (fun _ _ => ⟨rfl, e93, (by decide : 12 + 0 ≤ _), (by decide : 44 + 0 ≤ _)⟩)
    dsimp only [Pt.U, Pt.locs, Pt.cells, Pt.slots] at X94 l94 y94 z94 st94 hQ94
    subst l94 y94 z94
    obtain ⟨rfl, Nq94, Kc94, Ac_floor94, Ac_startCell94, Ac_cell94⟩ := hQ94
    have N94 := Fr.app N93 Nq94
    refine own_go (fun t k => st94.trans k) ?_
    have Z94 : n0 ≤ T94.heap.size := Nat.le_trans Z80 Kc94.1
    show Gm p e below T94 m 142 #[iv p0, iv p1, iv p2, iv p3, iv p4, iv p5, iv (3 : Int32), iv ia_74, iv ib_75, iv tt_76, rv b78, iv (1 : Int32)] [] _
    refine own_go (fun t₀ k₀ => XS.iload X94.here hx rfl (Jvm.hb hby at_142) rfl k₀) ?_
    show Gm p e below T94 m 144 #[iv p0, iv p1, iv p2, iv p3, iv p4, iv p5, iv (3 : Int32), iv ia_74, iv ib_75, iv tt_76, rv b78, iv (1 : Int32)] [(.int (1 : Int32))] _
    refine own_go (fun t₀ k₀ => XS.ifNo X94.here hx rfl (Jvm.hb hby at_144) rfl (XT.i0_eq_f (by decide)) k₀) ?_
    show Gm p e below T94 m 147 #[iv p0, iv p1, iv p2, iv p3, iv p4, iv p5, iv (3 : Int32), iv ia_74, iv ib_75, iv tt_76, rv b78, iv (1 : Int32)] [] _
    refine own_go (fun t₀ k₀ => XS.aload X94.here hx rfl (Jvm.hb hby at_147) rfl rfl k₀) ?_
    show Gm p e below T94 m 149 #[iv p0, iv p1, iv p2, iv p3, iv p4, iv p5, iv (3 : Int32), iv ia_74, iv ib_75, iv tt_76, rv b78, iv (1 : Int32)] [(.ref b78)] _
    refine own_go (fun t₀ k₀ => XS.iconst X94.here hx rfl (Jvm.hb hby at_149) k₀) ?_
    show Gm p e below T94 m 150 #[iv p0, iv p1, iv p2, iv p3, iv p4, iv p5, iv (3 : Int32), iv ia_74, iv ib_75, iv tt_76, rv b78, iv (1 : Int32)] [(.int (0 : Int32)), (.ref b78)] _
    refine own_go (fun t₀ k₀ => XS.iload X94.here hx rfl (Jvm.hb hby at_150) rfl k₀) ?_
    show Gm p e below T94 m 152 #[iv p0, iv p1, iv p2, iv p3, iv p4, iv p5, iv (3 : Int32), iv ia_74, iv ib_75, iv tt_76, rv b78, iv (1 : Int32)] [(.int (3 : Int32)), (.int (0 : Int32)), (.ref b78)] _
    refine own_go (fun t₀ k₀ => XS.iload X94.here hx rfl (Jvm.hb hby at_152) rfl k₀) ?_
    show Gm p e below T94 m 154 #[iv p0, iv p1, iv p2, iv p3, iv p4, iv p5, iv (3 : Int32), iv ia_74, iv ib_75, iv tt_76, rv b78, iv (1 : Int32)] [(.int ia_74), (.int (3 : Int32)), (.int (0 : Int32)), (.ref b78)] _
    refine own_go (fun t₀ k₀ => XS.iloadN X94.here hx rfl (Jvm.hb hby at_154) rfl k₀) ?_
    show Gm p e below T94 m 155 #[iv p0, iv p1, iv p2, iv p3, iv p4, iv p5, iv (3 : Int32), iv ia_74, iv ib_75, iv tt_76, rv b78, iv (1 : Int32)] [(.int p2), (.int ia_74), (.int (3 : Int32)), (.int (0 : Int32)), (.ref b78)] _
    refine own_go (fun t₀ k₀ => XS.iloadN X94.here hx rfl (Jvm.hb hby at_155) rfl k₀) ?_
    show Gm p e below T94 m 156 #[iv p0, iv p1, iv p2, iv p3, iv p4, iv p5, iv (3 : Int32), iv ia_74, iv ib_75, iv tt_76, rv b78, iv (1 : Int32)] [(.int p3), (.int p2), (.int ia_74), (.int (3 : Int32)), (.int (0 : Int32)), (.ref b78)] _
    refine own_go (fun t₀ k₀ => XS.iload X94.here hx rfl (Jvm.hb hby at_156) rfl k₀) ?_
    show Gm p e below T94 m 158 #[iv p0, iv p1, iv p2, iv p3, iv p4, iv p5, iv (3 : Int32), iv ia_74, iv ib_75, iv tt_76, rv b78, iv (1 : Int32)] [(.int ib_75), (.int p3), (.int p2), (.int ia_74), (.int (3 : Int32)), (.int (0 : Int32)), (.ref b78)] _
    refine own_go (fun t₀ k₀ => XS.iload X94.here hx rfl (Jvm.hb hby at_158) rfl k₀) ?_
    show Gm p e below T94 m 160 #[iv p0, iv p1, iv p2, iv p3, iv p4, iv p5, iv (3 : Int32), iv ia_74, iv ib_75, iv tt_76, rv b78, iv (1 : Int32)] [(.int p5), (.int ib_75), (.int p3), (.int p2), (.int ia_74), (.int (3 : Int32)), (.int (0 : Int32)), (.ref b78)] _
    refine own_go (fun t₀ k₀ => XS.iload X94.here hx rfl (Jvm.hb hby at_160) rfl k₀) ?_
    show Gm p e below T94 m 162 #[iv p0, iv p1, iv p2, iv p3, iv p4, iv p5, iv (3 : Int32), iv ia_74, iv ib_75, iv tt_76, rv b78, iv (1 : Int32)] [(.int tt_76), (.int p5), (.int ib_75), (.int p3), (.int p2), (.int ia_74), (.int (3 : Int32)), (.int (0 : Int32)), (.ref b78)] _
    have f96 := (f81.keep Kc94 (ninS ne_b78_floor79 (ninS ne_b78_startCell79 (ninS ne_b78_cell79 nin0))))
    have f97 := (f82.keep Kc94 (ninS ne_b78_floor79 (ninS ne_b78_startCell79 (ninS ne_b78_cell79 nin0))))
    have f98 := (f83.keep Kc94 (ninS ne_b78_floor79 (ninS ne_b78_startCell79 (ninS ne_b78_cell79 nin0))))
    have f99 := (f84.keep Kc94 (ninS ne_b78_floor79 (ninS ne_b78_startCell79 (ninS ne_b78_cell79 nin0))))
    have f100 := (f85.keep Kc94 (ninS ne_b78_floor79 (ninS ne_b78_startCell79 (ninS ne_b78_cell79 nin0))))
    have f101 := (f86.keep Kc94 (ninS ne_b78_floor79 (ninS ne_b78_startCell79 (ninS ne_b78_cell79 nin0))))
    have f102 := (f87.keep Kc94 (ninS (Ne.symm nn_floor_heading79) (ninS (Ne.symm nn_startCell_heading79) (ninS (Ne.symm nn_cell_heading79) nin0))))
    have f103 := (f88.keep Kc94 (ninS (Ne.symm nn_floor_leaving79) (ninS (Ne.symm nn_startCell_leaving79) (ninS (Ne.symm nn_cell_leaving79) nin0))))
    have f104 := (f89.keep Kc94 (ninS (Ne.symm nn_floor_exit79) (ninS (Ne.symm nn_startCell_exit79) (ninS (Ne.symm nn_cell_exit79) nin0))))
    obtain ⟨_, _, ⟨T105, L105, k105, n105⟩, -, X105, ⟨Lc105, hQ105, l105, y105, z105⟩, st105⟩ := Jvm.LawKit.callS X94 hx (y := (⟨"com/example/throughfare/throughfare/simulation/WalkersStartPinLaw", "slot", "(Lcom/example/throughfare/throughfare/simulation/Walkers;IIIIIIII)Z"⟩ : MethodName)) hown (mvT hZ (hw _ (List.mem_of_getElem? (i := 48) rfl))) (mvT hZ (hw _ (List.mem_of_getElem? (i := 49) rfl))) (mvT hZ (hw _ (List.mem_of_getElem? (i := 50) rfl))) (mvT hZ (hw _ (List.mem_of_getElem? (i := 51) rfl))) (by decide) (backOf (W := 0) (rm6 l Z a0 hw [] b78 (0 : Int32) (3 : Int32) ia_74 p2 p3 ib_75 p5 tt_76 floor79 startCell79 cell79 heading79 leaving79 exit79 3 (fun i => if i = ib_75.toNatClampNeg then p5 else (fun i => if i = ia_74.toNatClampNeg then p2 else (fun _ => (0 : Int32)) i) i) (fun i => if i = ib_75.toNatClampNeg then tt_76 else (fun i => if i = ia_74.toNatClampNeg then p3 else (fun _ => (0 : Int32)) i) i) (fun i => if i = ib_75.toNatClampNeg then tt_76 else (fun i => if i = ia_74.toNatClampNeg then p3 else (fun _ => (0 : Int32)) i) i) (fun _ => (0 : Int32)) (fun _ => (-1 : Int32)) (fun _ => (-1 : Int32)) T94.heap n0 Z94 f96 f97 f98 f99 f100 f101 Ac_floor94 Ac_startCell94 Ac_cell94 f102 f103 f104 (by decide) (by decide) (own_s2 (by decide) hr_ia_74.1 hr_ib_75.1) (own_s2 (by decide) hr_ia_74.1 hr_ib_75.1) (own_s2 (by decide) hr_ia_74.1 hr_ib_75.1) rfl rfl rfl) hZ (hw _ (List.mem_of_getElem? (i := 51) rfl)) (hw _ (List.mem_of_getElem? (i := 50) rfl)) (by decide) (by decide)) (g := (mkF m 162 #[iv p0, iv p1, iv p2, iv p3, iv p4, iv p5, iv (3 : Int32), iv ia_74, iv ib_75, iv tt_76, rv b78, iv (1 : Int32)] [(.int tt_76), (.int p5), (.int ib_75), (.int p3), (.int p2), (.int ia_74), (.int (3 : Int32)), (.int (0 : Int32)), (.ref b78)])) rfl (by rw [hml]; rfl) (argsL := [(.ref b78), (.int (0 : Int32)), (.int (3 : Int32)), (.int ia_74), (.int p2), (.int p3), (.int ib_75), (.int p5), (.int tt_76)]) (rest := []) (lenOf own_pd4 rfl) rfl (by show 2 * 0 + _ ≤ _; exact Nat.le_of_eq rfl) (Jvm.hb hby at_162) (fun _ _ => ⟨rfl, rfl, (by decide : 12 + 0 ≤ _), (by decide : 44 + 0 ≤ _)⟩)
    dsimp only [Pt.U, Pt.locs, Pt.cells, Pt.slots] at X105 l105 y105 z105 st105 hQ105
    subst l105 y105 z105
    obtain ⟨rfl, Nq105, eq105⟩ := hQ105
    have N105 := Fr.app N94 Nq105
    have e105 : T105.heap = T94.heap := eq105
    refine own_go st105 ?_
    show Gm p e below T105 m 165 #[iv p0, iv p1, iv p2, iv p3, iv p4, iv p5, iv (3 : Int32), iv ia_74, iv ib_75, iv tt_76, rv b78, iv (1 : Int32)] [(.int (1 : Int32))] _
    refine own_go (fun t₀ k₀ => XS.ifNo X105.here hx rfl (Jvm.hb hby at_165) rfl (XT.i0_eq_f (by decide)) k₀) ?_
    show Gm p e below T105 m 168 #[iv p0, iv p1, iv p2, iv p3, iv p4, iv p5, iv (3 : Int32), iv ia_74, iv ib_75, iv tt_76, rv b78, iv (1 : Int32)] [] _
    refine own_go (fun t₀ k₀ => XS.aload X105.here hx rfl (Jvm.hb hby at_168) rfl rfl k₀) ?_
    show Gm p e below T105 m 170 #[iv p0, iv p1, iv p2, iv p3, iv p4, iv p5, iv (3 : Int32), iv ia_74, iv ib_75, iv tt_76, rv b78, iv (1 : Int32)] [(.ref b78)] _
    refine own_go (fun t₀ k₀ => XS.iconst X105.here hx rfl (Jvm.hb hby at_170) k₀) ?_
    show Gm p e below T105 m 171 #[iv p0, iv p1, iv p2, iv p3, iv p4, iv p5, iv (3 : Int32), iv ia_74, iv ib_75, iv tt_76, rv b78, iv (1 : Int32)] [(.int (1 : Int32)), (.ref b78)] _
    refine own_go (fun t₀ k₀ => XS.iload X105.here hx rfl (Jvm.hb hby at_171) rfl k₀) ?_
    show Gm p e below T105 m 173 #[iv p0, iv p1, iv p2, iv p3, iv p4, iv p5, iv (3 : Int32), iv ia_74, iv ib_75, iv tt_76, rv b78, iv (1 : Int32)] [(.int (3 : Int32)), (.int (1 : Int32)), (.ref b78)] _
    refine own_go (fun t₀ k₀ => XS.iload X105.here hx rfl (Jvm.hb hby at_173) rfl k₀) ?_
    show Gm p e below T105 m 175 #[iv p0, iv p1, iv p2, iv p3, iv p4, iv p5, iv (3 : Int32), iv ia_74, iv ib_75, iv tt_76, rv b78, iv (1 : Int32)] [(.int ia_74), (.int (3 : Int32)), (.int (1 : Int32)), (.ref b78)] _
    refine own_go (fun t₀ k₀ => XS.iloadN X105.here hx rfl (Jvm.hb hby at_175) rfl k₀) ?_
    show Gm p e below T105 m 176 #[iv p0, iv p1, iv p2, iv p3, iv p4, iv p5, iv (3 : Int32), iv ia_74, iv ib_75, iv tt_76, rv b78, iv (1 : Int32)] [(.int p2), (.int ia_74), (.int (3 : Int32)), (.int (1 : Int32)), (.ref b78)] _
    refine own_go (fun t₀ k₀ => XS.iloadN X105.here hx rfl (Jvm.hb hby at_176) rfl k₀) ?_
    show Gm p e below T105 m 177 #[iv p0, iv p1, iv p2, iv p3, iv p4, iv p5, iv (3 : Int32), iv ia_74, iv ib_75, iv tt_76, rv b78, iv (1 : Int32)] [(.int p3), (.int p2), (.int ia_74), (.int (3 : Int32)), (.int (1 : Int32)), (.ref b78)] _
    refine own_go (fun t₀ k₀ => XS.iload X105.here hx rfl (Jvm.hb hby at_177) rfl k₀) ?_
    show Gm p e below T105 m 179 #[iv p0, iv p1, iv p2, iv p3, iv p4, iv p5, iv (3 : Int32), iv ia_74, iv ib_75, iv tt_76, rv b78, iv (1 : Int32)] [(.int ib_75), (.int p3), (.int p2), (.int ia_74), (.int (3 : Int32)), (.int (1 : Int32)), (.ref b78)] _
    refine own_go (fun t₀ k₀ => XS.iload X105.here hx rfl (Jvm.hb hby at_179) rfl k₀) ?_
    show Gm p e below T105 m 181 #[iv p0, iv p1, iv p2, iv p3, iv p4, iv p5, iv (3 : Int32), iv ia_74, iv ib_75, iv tt_76, rv b78, iv (1 : Int32)] [(.int p5), (.int ib_75), (.int p3), (.int p2), (.int ia_74), (.int (3 : Int32)), (.int (1 : Int32)), (.ref b78)] _
    refine own_go (fun t₀ k₀ => XS.iload X105.here hx rfl (Jvm.hb hby at_181) rfl k₀) ?_
    show Gm p e below T105 m 183 #[iv p0, iv p1, iv p2, iv p3, iv p4, iv p5, iv (3 : Int32), iv ia_74, iv ib_75, iv tt_76, rv b78, iv (1 : Int32)] [(.int tt_76), (.int p5), (.int ib_75), (.int p3), (.int p2), (.int ia_74), (.int (3 : Int32)), (.int (1 : Int32)), (.ref b78)] _
    obtain ⟨_, _, ⟨T106, L106, k106, n106⟩, -, X106, ⟨Lc106, hQ106, l106, y106, z106⟩, st106⟩ := Jvm.LawKit.callS X105 hx (y := (⟨"com/example/throughfare/throughfare/simulation/WalkersStartPinLaw", "slot", "(Lcom/example/throughfare/throughfare/simulation/Walkers;IIIIIIII)Z"⟩ : MethodName)) hown (mvT hZ (hw _ (List.mem_of_getElem? (i := 48) rfl))) (mvT hZ (hw _ (List.mem_of_getElem? (i := 49) rfl))) (mvT hZ (hw _ (List.mem_of_getElem? (i := 50) rfl))) (mvT hZ (hw _ (List.mem_of_getElem? (i := 51) rfl))) (by decide) (backOf (W := 0) (rm6 l Z a0 hw [] b78 (1 : Int32) (3 : Int32) ia_74 p2 p3 ib_75 p5 tt_76 floor79 startCell79 cell79 heading79 leaving79 exit79 3 (fun i => if i = ib_75.toNatClampNeg then p5 else (fun i => if i = ia_74.toNatClampNeg then p2 else (fun _ => (0 : Int32)) i) i) (fun i => if i = ib_75.toNatClampNeg then tt_76 else (fun i => if i = ia_74.toNatClampNeg then p3 else (fun _ => (0 : Int32)) i) i) (fun i => if i = ib_75.toNatClampNeg then tt_76 else (fun i => if i = ia_74.toNatClampNeg then p3 else (fun _ => (0 : Int32)) i) i) (fun _ => (0 : Int32)) (fun _ => (-1 : Int32)) (fun _ => (-1 : Int32)) T94.heap n0 Z94 f96 f97 f98 f99 f100 f101 Ac_floor94 Ac_startCell94 Ac_cell94 f102 f103 f104 (by decide) (by decide) (own_s2 (by decide) hr_ia_74.1 hr_ib_75.1) (own_s2 (by decide) hr_ia_74.1 hr_ib_75.1) (own_s2 (by decide) hr_ia_74.1 hr_ib_75.1) rfl rfl rfl) hZ (hw _ (List.mem_of_getElem? (i := 51) rfl)) (hw _ (List.mem_of_getElem? (i := 50) rfl)) (by decide) (by decide)) (g := (mkF m 183 #[iv p0, iv p1, iv p2, iv p3, iv p4, iv p5, iv (3 : Int32), iv ia_74, iv ib_75, iv tt_76, rv b78, iv (1 : Int32)] [(.int tt_76), (.int p5), (.int ib_75), (.int p3), (.int p2), (.int ia_74), (.int (3 : Int32)), (.int (1 : Int32)), (.ref b78)])) rfl (by rw [hml]; rfl) (argsL := [(.ref b78), (.int (1 : Int32)), (.int (3 : Int32)), (.int ia_74), (.int p2), (.int p3), (.int ib_75), (.int p5), (.int tt_76)]) (rest := []) (lenOf own_pd4 rfl) rfl (by show 2 * 0 + _ ≤ _; exact Nat.le_of_eq rfl) (Jvm.hb hby at_183) (fun _ _ => ⟨rfl, e105, (by decide : 12 + 0 ≤ _), (by decide : 44 + 0 ≤ _)⟩)
    dsimp only [Pt.U, Pt.locs, Pt.cells, Pt.slots] at X106 l106 y106 z106 st106 hQ106
    subst l106 y106 z106
    obtain ⟨rfl, Nq106, eq106⟩ := hQ106
    have N106 := Fr.app N105 Nq106
    have e106 : T106.heap = T94.heap := eq106
    refine own_go st106 ?_
    show Gm p e below T106 m 186 #[iv p0, iv p1, iv p2, iv p3, iv p4, iv p5, iv (3 : Int32), iv ia_74, iv ib_75, iv tt_76, rv b78, iv (1 : Int32)] [(.int (1 : Int32))] _
    refine own_go (fun t₀ k₀ => XS.ifNo X106.here hx rfl (Jvm.hb hby at_186) rfl (XT.i0_eq_f (by decide)) k₀) ?_
    show Gm p e below T106 m 189 #[iv p0, iv p1, iv p2, iv p3, iv p4, iv p5, iv (3 : Int32), iv ia_74, iv ib_75, iv tt_76, rv b78, iv (1 : Int32)] [] _
    refine own_go (fun t₀ k₀ => XS.aload X106.here hx rfl (Jvm.hb hby at_189) rfl rfl k₀) ?_
    show Gm p e below T106 m 191 #[iv p0, iv p1, iv p2, iv p3, iv p4, iv p5, iv (3 : Int32), iv ia_74, iv ib_75, iv tt_76, rv b78, iv (1 : Int32)] [(.ref b78)] _
    refine own_go (fun t₀ k₀ => XS.iconst X106.here hx rfl (Jvm.hb hby at_191) k₀) ?_
    show Gm p e below T106 m 192 #[iv p0, iv p1, iv p2, iv p3, iv p4, iv p5, iv (3 : Int32), iv ia_74, iv ib_75, iv tt_76, rv b78, iv (1 : Int32)] [(.int (2 : Int32)), (.ref b78)] _
    refine own_go (fun t₀ k₀ => XS.iload X106.here hx rfl (Jvm.hb hby at_192) rfl k₀) ?_
    show Gm p e below T106 m 194 #[iv p0, iv p1, iv p2, iv p3, iv p4, iv p5, iv (3 : Int32), iv ia_74, iv ib_75, iv tt_76, rv b78, iv (1 : Int32)] [(.int (3 : Int32)), (.int (2 : Int32)), (.ref b78)] _
    refine own_go (fun t₀ k₀ => XS.iload X106.here hx rfl (Jvm.hb hby at_194) rfl k₀) ?_
    show Gm p e below T106 m 196 #[iv p0, iv p1, iv p2, iv p3, iv p4, iv p5, iv (3 : Int32), iv ia_74, iv ib_75, iv tt_76, rv b78, iv (1 : Int32)] [(.int ia_74), (.int (3 : Int32)), (.int (2 : Int32)), (.ref b78)] _
    refine own_go (fun t₀ k₀ => XS.iloadN X106.here hx rfl (Jvm.hb hby at_196) rfl k₀) ?_
    show Gm p e below T106 m 197 #[iv p0, iv p1, iv p2, iv p3, iv p4, iv p5, iv (3 : Int32), iv ia_74, iv ib_75, iv tt_76, rv b78, iv (1 : Int32)] [(.int p2), (.int ia_74), (.int (3 : Int32)), (.int (2 : Int32)), (.ref b78)] _
    refine own_go (fun t₀ k₀ => XS.iloadN X106.here hx rfl (Jvm.hb hby at_197) rfl k₀) ?_
    show Gm p e below T106 m 198 #[iv p0, iv p1, iv p2, iv p3, iv p4, iv p5, iv (3 : Int32), iv ia_74, iv ib_75, iv tt_76, rv b78, iv (1 : Int32)] [(.int p3), (.int p2), (.int ia_74), (.int (3 : Int32)), (.int (2 : Int32)), (.ref b78)] _
    refine own_go (fun t₀ k₀ => XS.iload X106.here hx rfl (Jvm.hb hby at_198) rfl k₀) ?_
    show Gm p e below T106 m 200 #[iv p0, iv p1, iv p2, iv p3, iv p4, iv p5, iv (3 : Int32), iv ia_74, iv ib_75, iv tt_76, rv b78, iv (1 : Int32)] [(.int ib_75), (.int p3), (.int p2), (.int ia_74), (.int (3 : Int32)), (.int (2 : Int32)), (.ref b78)] _
    refine own_go (fun t₀ k₀ => XS.iload X106.here hx rfl (Jvm.hb hby at_200) rfl k₀) ?_
    show Gm p e below T106 m 202 #[iv p0, iv p1, iv p2, iv p3, iv p4, iv p5, iv (3 : Int32), iv ia_74, iv ib_75, iv tt_76, rv b78, iv (1 : Int32)] [(.int p5), (.int ib_75), (.int p3), (.int p2), (.int ia_74), (.int (3 : Int32)), (.int (2 : Int32)), (.ref b78)] _
    refine own_go (fun t₀ k₀ => XS.iload X106.here hx rfl (Jvm.hb hby at_202) rfl k₀) ?_
    show Gm p e below T106 m 204 #[iv p0, iv p1, iv p2, iv p3, iv p4, iv p5, iv (3 : Int32), iv ia_74, iv ib_75, iv tt_76, rv b78, iv (1 : Int32)] [(.int tt_76), (.int p5), (.int ib_75), (.int p3), (.int p2), (.int ia_74), (.int (3 : Int32)), (.int (2 : Int32)), (.ref b78)] _
    obtain ⟨_, _, ⟨T107, L107, k107, n107⟩, -, X107, ⟨Lc107, hQ107, l107, y107, z107⟩, st107⟩ := Jvm.LawKit.callS X106 hx (y := (⟨"com/example/throughfare/throughfare/simulation/WalkersStartPinLaw", "slot", "(Lcom/example/throughfare/throughfare/simulation/Walkers;IIIIIIII)Z"⟩ : MethodName)) hown (mvT hZ (hw _ (List.mem_of_getElem? (i := 48) rfl))) (mvT hZ (hw _ (List.mem_of_getElem? (i := 49) rfl))) (mvT hZ (hw _ (List.mem_of_getElem? (i := 50) rfl))) (mvT hZ (hw _ (List.mem_of_getElem? (i := 51) rfl))) (by decide) (backOf (W := 0) (rm6 l Z a0 hw [] b78 (2 : Int32) (3 : Int32) ia_74 p2 p3 ib_75 p5 tt_76 floor79 startCell79 cell79 heading79 leaving79 exit79 3 (fun i => if i = ib_75.toNatClampNeg then p5 else (fun i => if i = ia_74.toNatClampNeg then p2 else (fun _ => (0 : Int32)) i) i) (fun i => if i = ib_75.toNatClampNeg then tt_76 else (fun i => if i = ia_74.toNatClampNeg then p3 else (fun _ => (0 : Int32)) i) i) (fun i => if i = ib_75.toNatClampNeg then tt_76 else (fun i => if i = ia_74.toNatClampNeg then p3 else (fun _ => (0 : Int32)) i) i) (fun _ => (0 : Int32)) (fun _ => (-1 : Int32)) (fun _ => (-1 : Int32)) T94.heap n0 Z94 f96 f97 f98 f99 f100 f101 Ac_floor94 Ac_startCell94 Ac_cell94 f102 f103 f104 (by decide) (by decide) (own_s2 (by decide) hr_ia_74.1 hr_ib_75.1) (own_s2 (by decide) hr_ia_74.1 hr_ib_75.1) (own_s2 (by decide) hr_ia_74.1 hr_ib_75.1) rfl rfl rfl) hZ (hw _ (List.mem_of_getElem? (i := 51) rfl)) (hw _ (List.mem_of_getElem? (i := 50) rfl)) (by decide) (by decide)) (g := (mkF m 204 #[iv p0, iv p1, iv p2, iv p3, iv p4, iv p5, iv (3 : Int32), iv ia_74, iv ib_75, iv tt_76, rv b78, iv (1 : Int32)] [(.int tt_76), (.int p5), (.int ib_75), (.int p3), (.int p2), (.int ia_74), (.int (3 : Int32)), (.int (2 : Int32)), (.ref b78)])) rfl (by rw [hml]; rfl) (argsL := [(.ref b78), (.int (2 : Int32)), (.int (3 : Int32)), (.int ia_74), (.int p2), (.int p3), (.int ib_75), (.int p5), (.int tt_76)]) (rest := []) (lenOf own_pd4 rfl) rfl (by show 2 * 0 + _ ≤ _; exact Nat.le_of_eq rfl) (Jvm.hb hby at_204) (fun _ _ => ⟨rfl, e106, (by decide : 12 + 0 ≤ _), (by decide : 44 + 0 ≤ _)⟩)
    dsimp only [Pt.U, Pt.locs, Pt.cells, Pt.slots] at X107 l107 y107 z107 st107 hQ107
    subst l107 y107 z107
    obtain ⟨rfl, Nq107, eq107⟩ := hQ107
    have N107 := Fr.app N106 Nq107
    have e107 : T107.heap = T94.heap := eq107
    refine own_go st107 ?_
    show Gm p e below T107 m 207 #[iv p0, iv p1, iv p2, iv p3, iv p4, iv p5, iv (3 : Int32), iv ia_74, iv ib_75, iv tt_76, rv b78, iv (1 : Int32)] [(.int (1 : Int32))] _
    refine own_go (fun t₀ k₀ => XS.ifNo X107.here hx rfl (Jvm.hb hby at_207) rfl (XT.i0_eq_f (by decide)) k₀) ?_
    show Gm p e below T107 m 210 #[iv p0, iv p1, iv p2, iv p3, iv p4, iv p5, iv (3 : Int32), iv ia_74, iv ib_75, iv tt_76, rv b78, iv (1 : Int32)] [] _
    refine own_go (fun t₀ k₀ => XS.aload X107.here hx rfl (Jvm.hb hby at_210) rfl rfl k₀) ?_
    show Gm p e below T107 m 212 #[iv p0, iv p1, iv p2, iv p3, iv p4, iv p5, iv (3 : Int32), iv ia_74, iv ib_75, iv tt_76, rv b78, iv (1 : Int32)] [(.ref b78)] _
    refine own_go (fun t₀ k₀ => XS.iconst X107.here hx rfl (Jvm.hb hby at_212) k₀) ?_
    show Gm p e below T107 m 213 #[iv p0, iv p1, iv p2, iv p3, iv p4, iv p5, iv (3 : Int32), iv ia_74, iv ib_75, iv tt_76, rv b78, iv (1 : Int32)] [(.int (3 : Int32)), (.ref b78)] _
    refine own_go (fun t₀ k₀ => XS.iload X107.here hx rfl (Jvm.hb hby at_213) rfl k₀) ?_
    show Gm p e below T107 m 215 #[iv p0, iv p1, iv p2, iv p3, iv p4, iv p5, iv (3 : Int32), iv ia_74, iv ib_75, iv tt_76, rv b78, iv (1 : Int32)] [(.int (3 : Int32)), (.int (3 : Int32)), (.ref b78)] _
    refine own_go (fun t₀ k₀ => XS.iload X107.here hx rfl (Jvm.hb hby at_215) rfl k₀) ?_
    show Gm p e below T107 m 217 #[iv p0, iv p1, iv p2, iv p3, iv p4, iv p5, iv (3 : Int32), iv ia_74, iv ib_75, iv tt_76, rv b78, iv (1 : Int32)] [(.int ia_74), (.int (3 : Int32)), (.int (3 : Int32)), (.ref b78)] _
    refine own_go (fun t₀ k₀ => XS.iloadN X107.here hx rfl (Jvm.hb hby at_217) rfl k₀) ?_
    show Gm p e below T107 m 218 #[iv p0, iv p1, iv p2, iv p3, iv p4, iv p5, iv (3 : Int32), iv ia_74, iv ib_75, iv tt_76, rv b78, iv (1 : Int32)] [(.int p2), (.int ia_74), (.int (3 : Int32)), (.int (3 : Int32)), (.ref b78)] _
    refine own_go (fun t₀ k₀ => XS.iloadN X107.here hx rfl (Jvm.hb hby at_218) rfl k₀) ?_
    show Gm p e below T107 m 219 #[iv p0, iv p1, iv p2, iv p3, iv p4, iv p5, iv (3 : Int32), iv ia_74, iv ib_75, iv tt_76, rv b78, iv (1 : Int32)] [(.int p3), (.int p2), (.int ia_74), (.int (3 : Int32)), (.int (3 : Int32)), (.ref b78)] _
    refine own_go (fun t₀ k₀ => XS.iload X107.here hx rfl (Jvm.hb hby at_219) rfl k₀) ?_
    show Gm p e below T107 m 221 #[iv p0, iv p1, iv p2, iv p3, iv p4, iv p5, iv (3 : Int32), iv ia_74, iv ib_75, iv tt_76, rv b78, iv (1 : Int32)] [(.int ib_75), (.int p3), (.int p2), (.int ia_74), (.int (3 : Int32)), (.int (3 : Int32)), (.ref b78)] _
    refine own_go (fun t₀ k₀ => XS.iload X107.here hx rfl (Jvm.hb hby at_221) rfl k₀) ?_
    show Gm p e below T107 m 223 #[iv p0, iv p1, iv p2, iv p3, iv p4, iv p5, iv (3 : Int32), iv ia_74, iv ib_75, iv tt_76, rv b78, iv (1 : Int32)] [(.int p5), (.int ib_75), (.int p3), (.int p2), (.int ia_74), (.int (3 : Int32)), (.int (3 : Int32)), (.ref b78)] _
    refine own_go (fun t₀ k₀ => XS.iload X107.here hx rfl (Jvm.hb hby at_223) rfl k₀) ?_
    show Gm p e below T107 m 225 #[iv p0, iv p1, iv p2, iv p3, iv p4, iv p5, iv (3 : Int32), iv ia_74, iv ib_75, iv tt_76, rv b78, iv (1 : Int32)] [(.int tt_76), (.int p5), (.int ib_75), (.int p3), (.int p2), (.int ia_74), (.int (3 : Int32)), (.int (3 : Int32)), (.ref b78)] _
    obtain ⟨_, _, ⟨T108, L108, k108, n108⟩, -, X108, ⟨Lc108, hQ108, l108, y108, z108⟩, st108⟩ := Jvm.LawKit.callS X107 hx (y := (⟨"com/example/throughfare/throughfare/simulation/WalkersStartPinLaw", "slot", "(Lcom/example/throughfare/throughfare/simulation/Walkers;IIIIIIII)Z"⟩ : MethodName)) hown (mvT hZ (hw _ (List.mem_of_getElem? (i := 48) rfl))) (mvT hZ (hw _ (List.mem_of_getElem? (i := 49) rfl))) (mvT hZ (hw _ (List.mem_of_getElem? (i := 50) rfl))) (mvT hZ (hw _ (List.mem_of_getElem? (i := 51) rfl))) (by decide) (backOf (W := 0) (rm6 l Z a0 hw [] b78 (3 : Int32) (3 : Int32) ia_74 p2 p3 ib_75 p5 tt_76 floor79 startCell79 cell79 heading79 leaving79 exit79 3 (fun i => if i = ib_75.toNatClampNeg then p5 else (fun i => if i = ia_74.toNatClampNeg then p2 else (fun _ => (0 : Int32)) i) i) (fun i => if i = ib_75.toNatClampNeg then tt_76 else (fun i => if i = ia_74.toNatClampNeg then p3 else (fun _ => (0 : Int32)) i) i) (fun i => if i = ib_75.toNatClampNeg then tt_76 else (fun i => if i = ia_74.toNatClampNeg then p3 else (fun _ => (0 : Int32)) i) i) (fun _ => (0 : Int32)) (fun _ => (-1 : Int32)) (fun _ => (-1 : Int32)) T94.heap n0 Z94 f96 f97 f98 f99 f100 f101 Ac_floor94 Ac_startCell94 Ac_cell94 f102 f103 f104 (by decide) (by decide) (own_s2 (by decide) hr_ia_74.1 hr_ib_75.1) (own_s2 (by decide) hr_ia_74.1 hr_ib_75.1) (own_s2 (by decide) hr_ia_74.1 hr_ib_75.1) rfl rfl rfl) hZ (hw _ (List.mem_of_getElem? (i := 51) rfl)) (hw _ (List.mem_of_getElem? (i := 50) rfl)) (by decide) (by decide)) (g := (mkF m 225 #[iv p0, iv p1, iv p2, iv p3, iv p4, iv p5, iv (3 : Int32), iv ia_74, iv ib_75, iv tt_76, rv b78, iv (1 : Int32)] [(.int tt_76), (.int p5), (.int ib_75), (.int p3), (.int p2), (.int ia_74), (.int (3 : Int32)), (.int (3 : Int32)), (.ref b78)])) rfl (by rw [hml]; rfl) (argsL := [(.ref b78), (.int (3 : Int32)), (.int (3 : Int32)), (.int ia_74), (.int p2), (.int p3), (.int ib_75), (.int p5), (.int tt_76)]) (rest := []) (lenOf own_pd4 rfl) rfl (by show 2 * 0 + _ ≤ _; exact Nat.le_of_eq rfl) (Jvm.hb hby at_225) (fun _ _ => ⟨rfl, e107, (by decide : 12 + 0 ≤ _), (by decide : 44 + 0 ≤ _)⟩)
    dsimp only [Pt.U, Pt.locs, Pt.cells, Pt.slots] at X108 l108 y108 z108 st108 hQ108
    subst l108 y108 z108
    obtain ⟨rfl, Nq108, eq108⟩ := hQ108
    have N108 := Fr.app N107 Nq108
    have e108 : T108.heap = T94.heap := eq108
    refine own_go st108 ?_
    show Gm p e below T108 m 228 #[iv p0, iv p1, iv p2, iv p3, iv p4, iv p5, iv (3 : Int32), iv ia_74, iv ib_75, iv tt_76, rv b78, iv (1 : Int32)] [(.int (1 : Int32))] _
    refine own_go (fun t₀ k₀ => XS.ifNo X108.here hx rfl (Jvm.hb hby at_228) rfl (XT.i0_eq_f (by decide)) k₀) ?_
    show Gm p e below T108 m 231 #[iv p0, iv p1, iv p2, iv p3, iv p4, iv p5, iv (3 : Int32), iv ia_74, iv ib_75, iv tt_76, rv b78, iv (1 : Int32)] [] _
    refine own_go (fun t₀ k₀ => XS.iconst X108.here hx rfl (Jvm.hb hby at_231) k₀) ?_
    show Gm p e below T108 m 232 #[iv p0, iv p1, iv p2, iv p3, iv p4, iv p5, iv (3 : Int32), iv ia_74, iv ib_75, iv tt_76, rv b78, iv (1 : Int32)] [(.int (1 : Int32))] _
    refine own_go (fun t₀ k₀ => XS.goto X108.here hx rfl (pc0 := 232) (pc' := 236) rfl (Jvm.hb hby at_232) (by decide) (by decide) k₀) ?_
    show Gm p e below T108 m 236 #[iv p0, iv p1, iv p2, iv p3, iv p4, iv p5, iv (3 : Int32), iv ia_74, iv ib_75, iv tt_76, rv b78, iv (1 : Int32)] [(.int (1 : Int32))] _
    refine own_go (fun t₀ k₀ => XS.istore X108.here hx rfl (Jvm.hb hby at_236) rfl (l' := #[iv p0, iv p1, iv p2, iv p3, iv p4, iv p5, iv (3 : Int32), iv ia_74, iv ib_75, iv tt_76, rv b78, iv (1 : Int32)]) rfl k₀) ?_
    show Gm p e below T108 m 238 #[iv p0, iv p1, iv p2, iv p3, iv p4, iv p5, iv (3 : Int32), iv ia_74, iv ib_75, iv tt_76, rv b78, iv (1 : Int32)] [] _
    refine own_go (fun t₀ k₀ => XS.iload X108.here hx rfl (Jvm.hb hby at_238) rfl k₀) ?_
    show Gm p e below T108 m 240 #[iv p0, iv p1, iv p2, iv p3, iv p4, iv p5, iv (3 : Int32), iv ia_74, iv ib_75, iv tt_76, rv b78, iv (1 : Int32)] [(.int (1 : Int32))] _
    refine own_go (fun t₀ k₀ => XS.ifNo X108.here hx rfl (Jvm.hb hby at_240) rfl (XT.i0_eq_f (by decide)) k₀) ?_
    show Gm p e below T108 m 243 #[iv p0, iv p1, iv p2, iv p3, iv p4, iv p5, iv (3 : Int32), iv ia_74, iv ib_75, iv tt_76, rv b78, iv (1 : Int32)] [] _
    refine own_go (fun t₀ k₀ => XS.aload X108.here hx rfl (Jvm.hb hby at_243) rfl rfl k₀) ?_
    show Gm p e below T108 m 245 #[iv p0, iv p1, iv p2, iv p3, iv p4, iv p5, iv (3 : Int32), iv ia_74, iv ib_75, iv tt_76, rv b78, iv (1 : Int32)] [(.ref b78)] _
    have f110 := (f95.keep Kc94)
    obtain ⟨cq109, kq109, q109a, q109b, q109c⟩ := isOf hZ e108 f110
    obtain ⟨_, _, ⟨T109, L109, k109, n109⟩, -, X109, ⟨Lc109, hQ109, l109, y109, z109⟩, st109⟩ := X108.virtualBack hx (y := (⟨"com/example/throughfare/throughfare/simulation/Walkers", "count", "()I"⟩ : MethodName)) (z := (⟨"com/example/throughfare/throughfare/simulation/Walkers", "count", "()I"⟩ : MethodName)) hown (mvT hZ (hw _ (List.mem_of_getElem? (i := 58) rfl))) (mvT hZ (hw _ (List.mem_of_getElem? (i := 59) rfl))) (notFace_of_selects (args := #[]) (mvT hZ (hw _ (List.mem_of_getElem? (i := 61) rfl)))) (mvT hZ (hw _ (List.mem_of_getElem? (i := 61) rfl))) (mvT hZ (hw _ (List.mem_of_getElem? (i := 60) rfl))) (by decide) (backOf (W := 0) (rm7 l Z a0 hw [] b78 cell79 3 (fun i => .int (if i = ib_75.toNatClampNeg then tt_76 else (fun i => if i = ia_74.toNatClampNeg then p3 else (fun _ => (0 : Int32)) i) i)) T94.heap n0 Z94 f98 Ac_cell94) hZ (hw _ (List.mem_of_getElem? (i := 62) rfl)) (hw _ (List.mem_of_getElem? (i := 3) rfl)) (by decide) (by decide)) q109a q109c (g := (mkF m 245 #[iv p0, iv p1, iv p2, iv p3, iv p4, iv p5, iv (3 : Int32), iv ia_74, iv ib_75, iv tt_76, rv b78, iv (1 : Int32)] [(.ref b78)])) rfl (by rw [hml]; rfl) (Steps.refl _) (argsL := []) (rest := []) (lenOf own_pd5 rfl) rfl (by show 2 * 0 + _ ≤ _; exact Nat.le_of_eq rfl) (Jvm.hb hby at_245) (fun _ _ => ⟨rfl, e108, (by decide : 12 + 0 ≤ _), (by decide : 44 + 0 ≤ _)⟩)
    dsimp only [Pt.U, Pt.locs, Pt.cells, Pt.slots] at X109 l109 y109 z109 st109 hQ109
    subst l109 y109 z109
    obtain ⟨rfl, Nq109, eq109⟩ := hQ109
    have N109 := Fr.app N108 Nq109
    have e109 : T109.heap = T94.heap := eq109
    refine own_go (fun t k => st109.trans k) ?_
    show Gm p e below T109 m 248 #[iv p0, iv p1, iv p2, iv p3, iv p4, iv p5, iv (3 : Int32), iv ia_74, iv ib_75, iv tt_76, rv b78, iv (1 : Int32)] [(.int (3 : Int32))] _
    refine own_go (fun t₀ k₀ => XS.iload X109.here hx rfl (Jvm.hb hby at_248) rfl k₀) ?_
    show Gm p e below T109 m 250 #[iv p0, iv p1, iv p2, iv p3, iv p4, iv p5, iv (3 : Int32), iv ia_74, iv ib_75, iv tt_76, rv b78, iv (1 : Int32)] [(.int (3 : Int32)), (.int (3 : Int32))] _
    refine own_go (fun t₀ k₀ => XS.icmpNo X109.here hx rfl (Jvm.hb hby at_250) rfl (XT.ii_ne_f (by decide)) k₀) ?_
    show Gm p e below T109 m 253 #[iv p0, iv p1, iv p2, iv p3, iv p4, iv p5, iv (3 : Int32), iv ia_74, iv ib_75, iv tt_76, rv b78, iv (1 : Int32)] [] _
    refine own_go (fun t₀ k₀ => XS.aload X109.here hx rfl (Jvm.hb hby at_253) rfl rfl k₀) ?_
    show Gm p e below T109 m 255 #[iv p0, iv p1, iv p2, iv p3, iv p4, iv p5, iv (3 : Int32), iv ia_74, iv ib_75, iv tt_76, rv b78, iv (1 : Int32)] [(.ref b78)] _
    obtain ⟨cq111, kq111, q111a, q111b, q111c⟩ := isOf hZ e109 f110
    obtain ⟨_, _, ⟨T111, L111, k111, n111⟩, -, X111, ⟨Lc111, hQ111, l111, y111, z111⟩, st111⟩ := X109.virtualBack hx (y := (⟨"com/example/throughfare/throughfare/simulation/Walkers", "anyoneInside", "()Z"⟩ : MethodName)) (z := (⟨"com/example/throughfare/throughfare/simulation/Walkers", "anyoneInside", "()Z"⟩ : MethodName)) hown (mvT hZ (hw _ (List.mem_of_getElem? (i := 63) rfl))) (mvT hZ (hw _ (List.mem_of_getElem? (i := 64) rfl))) (notFace_of_selects (args := #[]) (mvT hZ (hw _ (List.mem_of_getElem? (i := 66) rfl)))) (mvT hZ (hw _ (List.mem_of_getElem? (i := 66) rfl))) (mvT hZ (hw _ (List.mem_of_getElem? (i := 65) rfl))) (by decide) (backOf (W := 0) (rm8 l Z a0 hw [] b78 exit79 3 (fun i => .int ((fun _ => (-1 : Int32)) i)) T94.heap n0 Z94 f101 f104 (by decide) (by decide) rfl) hZ (hw _ (List.mem_of_getElem? (i := 67) rfl)) (hw _ (List.mem_of_getElem? (i := 3) rfl)) (by decide) (by decide)) q111a q111c (g := (mkF m 255 #[iv p0, iv p1, iv p2, iv p3, iv p4, iv p5, iv (3 : Int32), iv ia_74, iv ib_75, iv tt_76, rv b78, iv (1 : Int32)] [(.ref b78)])) rfl (by rw [hml]; rfl) (Steps.refl _) (argsL := []) (rest := []) (lenOf own_pd6 rfl) rfl (by show 2 * 0 + _ ≤ _; exact Nat.le_of_eq rfl) (Jvm.hb hby at_255) (fun _ _ => ⟨rfl, e109, (by decide : 12 + 0 ≤ _), (by decide : 44 + 0 ≤ _)⟩)
    dsimp only [Pt.U, Pt.locs, Pt.cells, Pt.slots] at X111 l111 y111 z111 st111 hQ111
    subst l111 y111 z111
    obtain ⟨rfl, Nq111, eq111⟩ := hQ111
    have N111 := Fr.app N109 Nq111
    have e111 : T111.heap = T94.heap := eq111
    refine own_go (fun t k => st111.trans k) ?_
    show Gm p e below T111 m 258 #[iv p0, iv p1, iv p2, iv p3, iv p4, iv p5, iv (3 : Int32), iv ia_74, iv ib_75, iv tt_76, rv b78, iv (1 : Int32)] [(.int (1 : Int32))] _
    refine own_go (fun t₀ k₀ => XS.ifNo X111.here hx rfl (Jvm.hb hby at_258) rfl (XT.i0_eq_f (by decide)) k₀) ?_
    show Gm p e below T111 m 261 #[iv p0, iv p1, iv p2, iv p3, iv p4, iv p5, iv (3 : Int32), iv ia_74, iv ib_75, iv tt_76, rv b78, iv (1 : Int32)] [] _
    refine own_go (fun t₀ k₀ => XS.iconst X111.here hx rfl (Jvm.hb hby at_261) k₀) ?_
    show Gm p e below T111 m 262 #[iv p0, iv p1, iv p2, iv p3, iv p4, iv p5, iv (3 : Int32), iv ia_74, iv ib_75, iv tt_76, rv b78, iv (1 : Int32)] [(.int (1 : Int32))] _
    refine own_go (fun t₀ k₀ => XS.goto X111.here hx rfl (pc0 := 262) (pc' := 266) rfl (Jvm.hb hby at_262) (by decide) (by decide) k₀) ?_
    show Gm p e below T111 m 266 #[iv p0, iv p1, iv p2, iv p3, iv p4, iv p5, iv (3 : Int32), iv ia_74, iv ib_75, iv tt_76, rv b78, iv (1 : Int32)] [(.int (1 : Int32))] _
    refine own_go (fun t₀ k₀ => XS.istore X111.here hx rfl (Jvm.hb hby at_266) rfl (l' := #[iv p0, iv p1, iv p2, iv p3, iv p4, iv p5, iv (3 : Int32), iv ia_74, iv ib_75, iv tt_76, rv b78, iv (1 : Int32)]) rfl k₀) ?_
    show Gm p e below T111 m 268 #[iv p0, iv p1, iv p2, iv p3, iv p4, iv p5, iv (3 : Int32), iv ia_74, iv ib_75, iv tt_76, rv b78, iv (1 : Int32)] [] _
    refine own_go (fun t₀ k₀ => XS.iload X111.here hx rfl (Jvm.hb hby at_268) rfl k₀) ?_
    show Gm p e below T111 m 270 #[iv p0, iv p1, iv p2, iv p3, iv p4, iv p5, iv (3 : Int32), iv ia_74, iv ib_75, iv tt_76, rv b78, iv (1 : Int32)] [(.int (1 : Int32))] _
    exact own_retI X111 hx hlk (t := .boolean) Bd.returns rfl (by simp) (Jvm.hb hby at_270) e111 ⟨rfl, N111⟩ (by decide) (by decide)
  · rw [hk]
    show Gm p e below s₁ m 3 #[iv p0, iv p1, iv p2, iv p3, iv p4, iv p5, .unset, .unset, .unset, .unset, .unset, .unset] [(.int (3 : Int32))] _
    refine own_go (fun t₀ k₀ => XS.iconst X0.here hx rfl (Jvm.hb hby at_3) k₀) ?_
    show Gm p e below s₁ m 4 #[iv p0, iv p1, iv p2, iv p3, iv p4, iv p5, .unset, .unset, .unset, .unset, .unset, .unset] [(.int (1 : Int32)), (.int (3 : Int32))] _
    refine own_go (fun t₀ k₀ => XS.iadd X0.here hx rfl (Jvm.hb hby at_4) rfl k₀) ?_
    show Gm p e below s₁ m 5 #[iv p0, iv p1, iv p2, iv p3, iv p4, iv p5, .unset, .unset, .unset, .unset, .unset, .unset] [(.int (4 : Int32))] _
    refine own_go (fun t₀ k₀ => XS.istore X0.here hx rfl (Jvm.hb hby at_5) rfl (l' := #[iv p0, iv p1, iv p2, iv p3, iv p4, iv p5, iv (4 : Int32), .unset, .unset, .unset, .unset, .unset]) rfl k₀) ?_
    show Gm p e below s₁ m 7 #[iv p0, iv p1, iv p2, iv p3, iv p4, iv p5, iv (4 : Int32), .unset, .unset, .unset, .unset, .unset] [] _
    refine own_go (fun t₀ k₀ => XS.iloadN X0.here hx rfl (Jvm.hb hby at_7) rfl k₀) ?_
    show Gm p e below s₁ m 8 #[iv p0, iv p1, iv p2, iv p3, iv p4, iv p5, iv (4 : Int32), .unset, .unset, .unset, .unset, .unset] [(.int p1)] _
    refine own_go (fun t₀ k₀ => X0.ldcI hx hown (mvT hZ (hw _ (List.mem_of_getElem? (i := 0) rfl))) rfl (Jvm.hb hby at_8) k₀) ?_
    show Gm p e below s₁ m 10 #[iv p0, iv p1, iv p2, iv p3, iv p4, iv p5, iv (4 : Int32), .unset, .unset, .unset, .unset, .unset] [(.int (2147483647 : Int32)), (.int p1)] _
    refine own_go (fun t₀ k₀ => XS.iand X0.here hx rfl (Jvm.hb hby at_10) rfl k₀) ?_
    show Gm p e below s₁ m 11 #[iv p0, iv p1, iv p2, iv p3, iv p4, iv p5, iv (4 : Int32), .unset, .unset, .unset, .unset, .unset] [(.int (p1 &&& (2147483647 : Int32)))] _
    refine own_go (fun t₀ k₀ => XS.iload X0.here hx rfl (Jvm.hb hby at_11) rfl k₀) ?_
    show Gm p e below s₁ m 13 #[iv p0, iv p1, iv p2, iv p3, iv p4, iv p5, iv (4 : Int32), .unset, .unset, .unset, .unset, .unset] [(.int (4 : Int32)), (.int (p1 &&& (2147483647 : Int32)))] _
    refine own_go (fun t₀ k₀ => iremM X0 hx rfl (Jvm.hb hby at_13) rfl (by decide) k₀) ?_
    show Gm p e below s₁ m 14 #[iv p0, iv p1, iv p2, iv p3, iv p4, iv p5, iv (4 : Int32), .unset, .unset, .unset, .unset, .unset] [(.int ((p1 &&& (2147483647 : Int32)) % (4 : Int32)))] _
    refine own_go (fun t₀ k₀ => XS.istore X0.here hx rfl (Jvm.hb hby at_14) rfl (l' := #[iv p0, iv p1, iv p2, iv p3, iv p4, iv p5, iv (4 : Int32), iv ((p1 &&& (2147483647 : Int32)) % (4 : Int32)), .unset, .unset, .unset, .unset]) rfl k₀) ?_
    show Gm p e below s₁ m 16 #[iv p0, iv p1, iv p2, iv p3, iv p4, iv p5, iv (4 : Int32), iv ((p1 &&& (2147483647 : Int32)) % (4 : Int32)), .unset, .unset, .unset, .unset] [] _
    obtain ⟨ia_111, h_ia_111⟩ : ∃ z : Int32, z = ((p1 &&& (2147483647 : Int32)) % (4 : Int32)) := ⟨_, rfl⟩
    rw [← h_ia_111]
    have hr_ia_111 := own_rem (n := 4) p1 (4 : Int32) (by decide) (by decide) h_ia_111
    show Gm p e below s₁ m 16 #[iv p0, iv p1, iv p2, iv p3, iv p4, iv p5, iv (4 : Int32), iv ia_111, .unset, .unset, .unset, .unset] [] _
    refine own_go (fun t₀ k₀ => XS.iload X0.here hx rfl (Jvm.hb hby at_16) rfl k₀) ?_
    show Gm p e below s₁ m 18 #[iv p0, iv p1, iv p2, iv p3, iv p4, iv p5, iv (4 : Int32), iv ia_111, .unset, .unset, .unset, .unset] [(.int p4)] _
    refine own_go (fun t₀ k₀ => X0.ldcI hx hown (mvT hZ (hw _ (List.mem_of_getElem? (i := 0) rfl))) rfl (Jvm.hb hby at_18) k₀) ?_
    show Gm p e below s₁ m 20 #[iv p0, iv p1, iv p2, iv p3, iv p4, iv p5, iv (4 : Int32), iv ia_111, .unset, .unset, .unset, .unset] [(.int (2147483647 : Int32)), (.int p4)] _
    refine own_go (fun t₀ k₀ => XS.iand X0.here hx rfl (Jvm.hb hby at_20) rfl k₀) ?_
    show Gm p e below s₁ m 21 #[iv p0, iv p1, iv p2, iv p3, iv p4, iv p5, iv (4 : Int32), iv ia_111, .unset, .unset, .unset, .unset] [(.int (p4 &&& (2147483647 : Int32)))] _
    refine own_go (fun t₀ k₀ => XS.iload X0.here hx rfl (Jvm.hb hby at_21) rfl k₀) ?_
    show Gm p e below s₁ m 23 #[iv p0, iv p1, iv p2, iv p3, iv p4, iv p5, iv (4 : Int32), iv ia_111, .unset, .unset, .unset, .unset] [(.int (4 : Int32)), (.int (p4 &&& (2147483647 : Int32)))] _
    refine own_go (fun t₀ k₀ => iremM X0 hx rfl (Jvm.hb hby at_23) rfl (by decide) k₀) ?_
    show Gm p e below s₁ m 24 #[iv p0, iv p1, iv p2, iv p3, iv p4, iv p5, iv (4 : Int32), iv ia_111, .unset, .unset, .unset, .unset] [(.int ((p4 &&& (2147483647 : Int32)) % (4 : Int32)))] _
    refine own_go (fun t₀ k₀ => XS.istore X0.here hx rfl (Jvm.hb hby at_24) rfl (l' := #[iv p0, iv p1, iv p2, iv p3, iv p4, iv p5, iv (4 : Int32), iv ia_111, iv ((p4 &&& (2147483647 : Int32)) % (4 : Int32)), .unset, .unset, .unset]) rfl k₀) ?_
    show Gm p e below s₁ m 26 #[iv p0, iv p1, iv p2, iv p3, iv p4, iv p5, iv (4 : Int32), iv ia_111, iv ((p4 &&& (2147483647 : Int32)) % (4 : Int32)), .unset, .unset, .unset] [] _
    obtain ⟨ib_112, h_ib_112⟩ : ∃ z : Int32, z = ((p4 &&& (2147483647 : Int32)) % (4 : Int32)) := ⟨_, rfl⟩
    rw [← h_ib_112]
    have hr_ib_112 := own_rem (n := 4) p4 (4 : Int32) (by decide) (by decide) h_ib_112
    show Gm p e below s₁ m 26 #[iv p0, iv p1, iv p2, iv p3, iv p4, iv p5, iv (4 : Int32), iv ia_111, iv ib_112, .unset, .unset, .unset] [] _
    refine own_go (fun t₀ k₀ => XS.iloadN X0.here hx rfl (Jvm.hb hby at_26) rfl k₀) ?_
    show Gm p e below s₁ m 27 #[iv p0, iv p1, iv p2, iv p3, iv p4, iv p5, iv (4 : Int32), iv ia_111, iv ib_112, .unset, .unset, .unset] [(.int p3)] _
    refine own_go (fun t₀ k₀ => XS.iload X0.here hx rfl (Jvm.hb hby at_27) rfl k₀) ?_
    show Gm p e below s₁ m 29 #[iv p0, iv p1, iv p2, iv p3, iv p4, iv p5, iv (4 : Int32), iv ia_111, iv ib_112, .unset, .unset, .unset] [(.int p5), (.int p3)] _
    refine own_go (fun t₀ k₀ => XS.ixor X0.here hx rfl (Jvm.hb hby at_29) rfl k₀) ?_
    show Gm p e below s₁ m 30 #[iv p0, iv p1, iv p2, iv p3, iv p4, iv p5, iv (4 : Int32), iv ia_111, iv ib_112, .unset, .unset, .unset] [(.int (p3 ^^^ p5))] _
    refine own_go (fun t₀ k₀ => XS.istore X0.here hx rfl (Jvm.hb hby at_30) rfl (l' := #[iv p0, iv p1, iv p2, iv p3, iv p4, iv p5, iv (4 : Int32), iv ia_111, iv ib_112, iv (p3 ^^^ p5), .unset, .unset]) rfl k₀) ?_
    show Gm p e below s₁ m 32 #[iv p0, iv p1, iv p2, iv p3, iv p4, iv p5, iv (4 : Int32), iv ia_111, iv ib_112, iv (p3 ^^^ p5), .unset, .unset] [] _
    obtain ⟨tt_113, h_tt_113⟩ : ∃ z : Int32, z = (p3 ^^^ p5) := ⟨_, rfl⟩
    rw [← h_tt_113]
    show Gm p e below s₁ m 32 #[iv p0, iv p1, iv p2, iv p3, iv p4, iv p5, iv (4 : Int32), iv ia_111, iv ib_112, iv tt_113, .unset, .unset] [] _
    obtain ⟨T115, h115, X115, e115, E115, A115, D115, -, st115⟩ := newO X0 hx hZ hown (hw _ (List.mem_of_getElem? (i := 1) rfl)) (hw _ (List.mem_of_getElem? (i := 2) rfl)) (hw _ (List.mem_of_getElem? (i := 3) rfl)) e0 (g := (mkF m 32 #[iv p0, iv p1, iv p2, iv p3, iv p4, iv p5, iv (4 : Int32), iv ia_111, iv ib_112, iv tt_113, .unset, .unset] [])) rfl (Jvm.hb hby at_32) (by decide) (by decide)
    obtain ⟨b115, g115⟩ : ∃ z, z = h0.size := ⟨_, rfl⟩
    rw [← g115] at A115 D115 st115
    have g_b115 : n0 ≤ b115 := Nat.le_trans Z0 (Nat.le_of_eq g115.symm)
    have Z115 : n0 ≤ h115.size := Nat.le_trans Z0 E115.1
    have F_floor_b115 : Fld Z h115 b115 "com/example/throughfare/throughfare/simulation/Walkers" "floor" "[I" .null := D115 (Or.inr (hw _ (List.mem_of_getElem? (i := 12) rfl))) (ty := (.array .int)) (by decide)
    have F_startCell_b115 : Fld Z h115 b115 "com/example/throughfare/throughfare/simulation/Walkers" "startCell" "[I" .null := D115 (Or.inr (hw _ (List.mem_of_getElem? (i := 14) rfl))) (ty := (.array .int)) (by decide)
    have F_cell_b115 : Fld Z h115 b115 "com/example/throughfare/throughfare/simulation/Walkers" "cell" "[I" .null := D115 (Or.inr (hw _ (List.mem_of_getElem? (i := 16) rfl))) (ty := (.array .int)) (by decide)
    have F_speedMps_b115 : Fld Z h115 b115 "com/example/throughfare/throughfare/simulation/Walkers" "speedMps" "[D" .null := D115 (Or.inr (hw _ (List.mem_of_getElem? (i := 19) rfl))) (ty := (.array .double)) (by decide)
    have F_reactionS_b115 : Fld Z h115 b115 "com/example/throughfare/throughfare/simulation/Walkers" "reactionS" "[D" .null := D115 (Or.inr (hw _ (List.mem_of_getElem? (i := 21) rfl))) (ty := (.array .double)) (by decide)
    have F_heading_b115 : Fld Z h115 b115 "com/example/throughfare/throughfare/simulation/Walkers" "heading" "[I" .null := D115 (Or.inr (hw _ (List.mem_of_getElem? (i := 23) rfl))) (ty := (.array .int)) (by decide)
    have F_heldUpS_b115 : Fld Z h115 b115 "com/example/throughfare/throughfare/simulation/Walkers" "heldUpS" "[D" .null := D115 (Or.inr (hw _ (List.mem_of_getElem? (i := 25) rfl))) (ty := (.array .double)) (by decide)
    have F_exitTimeS_b115 : Fld Z h115 b115 "com/example/throughfare/throughfare/simulation/Walkers" "exitTimeS" "[D" .null := D115 (Or.inr (hw _ (List.mem_of_getElem? (i := 32) rfl))) (ty := (.array .double)) (by decide)
    have F_leaving_b115 : Fld Z h115 b115 "com/example/throughfare/throughfare/simulation/Walkers" "leaving" "[I" .null := D115 (Or.inr (hw _ (List.mem_of_getElem? (i := 35) rfl))) (ty := (.array .int)) (by decide)
    have F_exit_b115 : Fld Z h115 b115 "com/example/throughfare/throughfare/simulation/Walkers" "exit" "[I" .null := D115 (Or.inr (hw _ (List.mem_of_getElem? (i := 40) rfl))) (ty := (.array .int)) (by decide)
    have F_distanceM_b115 : Fld Z h115 b115 "com/example/throughfare/throughfare/simulation/Walkers" "distanceM" "[D" .null := D115 (Or.inr (hw _ (List.mem_of_getElem? (i := 42) rfl))) (ty := (.array .double)) (by decide)
    refine own_go st115 ?_
    show Gm p e below T115 m 35 #[iv p0, iv p1, iv p2, iv p3, iv p4, iv p5, iv (4 : Int32), iv ia_111, iv ib_112, iv tt_113, .unset, .unset] [(.ref b115)] _
    refine own_go (fun t₀ k₀ => XS.dup X115.here hx rfl (Jvm.hb hby at_35) rfl rfl k₀) ?_
    show Gm p e below T115 m 36 #[iv p0, iv p1, iv p2, iv p3, iv p4, iv p5, iv (4 : Int32), iv ia_111, iv ib_112, iv tt_113, .unset, .unset] [(.ref b115), (.ref b115)] _
    refine own_go (fun t₀ k₀ => XS.iload X115.here hx rfl (Jvm.hb hby at_36) rfl k₀) ?_
    show Gm p e below T115 m 38 #[iv p0, iv p1, iv p2, iv p3, iv p4, iv p5, iv (4 : Int32), iv ia_111, iv ib_112, iv tt_113, .unset, .unset] [(.int (4 : Int32)), (.ref b115), (.ref b115)] _
    obtain ⟨_, _, ⟨T116, L116, k116, n116⟩, -, X116, ⟨Lc116, hQ116, l116, y116, z116⟩, st116⟩ := X115.specialBack hx (y := (⟨"com/example/throughfare/throughfare/simulation/Walkers", "<init>", "(I)V"⟩ : MethodName)) rfl hown (mvT hZ (hw _ (List.mem_of_getElem? (i := 4) rfl))) (mvT hZ (hw _ (List.mem_of_getElem? (i := 5) rfl))) (mvT hZ (hw _ (List.mem_of_getElem? (i := 6) rfl))) (by decide) (backOf (W := 1) (rm1_4 l Z a0 hw [] b115 h115 n0 Z115 A115 F_floor_b115 F_startCell_b115 F_cell_b115 F_speedMps_b115 F_reactionS_b115 F_heading_b115 F_heldUpS_b115 F_exitTimeS_b115 F_leaving_b115 F_exit_b115 F_distanceM_b115 g_b115) hZ (hw _ (List.mem_of_getElem? (i := 6) rfl)) (hw _ (List.mem_of_getElem? (i := 3) rfl)) (by decide) (by decide)) (g := (mkF m 38 #[iv p0, iv p1, iv p2, iv p3, iv p4, iv p5, iv (4 : Int32), iv ia_111, iv ib_112, iv tt_113, .unset, .unset] [(.int (4 : Int32)), (.ref b115), (.ref b115)])) rfl (by rw [hml]; rfl) (Steps.refl _) (a := b115) (argsL := [(.int (4 : Int32))]) (rest := [(.ref b115)]) (lenOf own_pd2 rfl) rfl (by show 2 * 0 + _ ≤ _; exact Nat.le_of_eq rfl) (Jvm.hb hby at_38) (fun _ _ => ⟨rfl, e115, (by decide : 1 + 11 ≤ _), (by decide : 11 + 44 ≤ _)⟩)
    dsimp only [Pt.U, Pt.locs, Pt.cells, Pt.slots] at X116 l116 y116 z116 st116 hQ116
    subst l116 y116 z116
    obtain ⟨floor116, startCell116, cell116, heading116, leaving116, exit116, rfl, Nq116, Kc116, Ec116, hs_floor116, Fc_floor116, Ac_floor116, hs_startCell116, Fc_startCell116, Ac_startCell116, hs_cell116, Fc_cell116, Ac_cell116, hs_heading116, Fc_heading116, Ac_heading116, hs_leaving116, Fc_leaving116, Ac_leaving116, hs_exit116, Fc_exit116, Ac_exit116, nn_floor_startCell116, nn_floor_cell116, nn_startCell_cell116, nn_floor_heading116, nn_startCell_heading116, nn_cell_heading116, nn_floor_leaving116, nn_startCell_leaving116, nn_cell_leaving116, nn_heading_leaving116, nn_floor_exit116, nn_startCell_exit116, nn_cell_exit116, nn_heading_exit116, nn_leaving_exit116⟩ := hQ116
    have N116 := Fr.app N0 Nq116
    refine own_go (fun t k => st116.trans k) ?_
    have ne_b115_floor116 : b115 ≠ floor116 := Nat.ne_of_lt (Nat.lt_of_lt_of_le A115.lt hs_floor116)
    have g_floor116 : n0 ≤ floor116 := Nat.le_trans Z115 hs_floor116
    have ne_b115_startCell116 : b115 ≠ startCell116 := Nat.ne_of_lt (Nat.lt_of_lt_of_le A115.lt hs_startCell116)
    have g_startCell116 : n0 ≤ startCell116 := Nat.le_trans Z115 hs_startCell116
    have ne_b115_cell116 : b115 ≠ cell116 := Nat.ne_of_lt (Nat.lt_of_lt_of_le A115.lt hs_cell116)
    have g_cell116 : n0 ≤ cell116 := Nat.le_trans Z115 hs_cell116
    have ne_b115_heading116 : b115 ≠ heading116 := Nat.ne_of_lt (Nat.lt_of_lt_of_le A115.lt hs_heading116)
    have g_heading116 : n0 ≤ heading116 := Nat.le_trans Z115 hs_heading116
    have ne_b115_leaving116 : b115 ≠ leaving116 := Nat.ne_of_lt (Nat.lt_of_lt_of_le A115.lt hs_leaving116)
    have g_leaving116 : n0 ≤ leaving116 := Nat.le_trans Z115 hs_leaving116
    have ne_b115_exit116 : b115 ≠ exit116 := Nat.ne_of_lt (Nat.lt_of_lt_of_le A115.lt hs_exit116)
    have g_exit116 : n0 ≤ exit116 := Nat.le_trans Z115 hs_exit116
    have Z116 : n0 ≤ T116.heap.size := Nat.le_trans Z115 Kc116.1
    show Gm p e below T116 m 41 #[iv p0, iv p1, iv p2, iv p3, iv p4, iv p5, iv (4 : Int32), iv ia_111, iv ib_112, iv tt_113, .unset, .unset] [(.ref b115)] _
    refine own_go (fun t₀ k₀ => XS.astore X116.here hx rfl (Jvm.hb hby at_41) rfl rfl (l' := #[iv p0, iv p1, iv p2, iv p3, iv p4, iv p5, iv (4 : Int32), iv ia_111, iv ib_112, iv tt_113, rv b115, .unset]) rfl k₀) ?_
    show Gm p e below T116 m 43 #[iv p0, iv p1, iv p2, iv p3, iv p4, iv p5, iv (4 : Int32), iv ia_111, iv ib_112, iv tt_113, rv b115, .unset] [] _
    refine own_go (fun t₀ k₀ => XS.aload X116.here hx rfl (Jvm.hb hby at_43) rfl rfl k₀) ?_
    show Gm p e below T116 m 45 #[iv p0, iv p1, iv p2, iv p3, iv p4, iv p5, iv (4 : Int32), iv ia_111, iv ib_112, iv tt_113, rv b115, .unset] [(.ref b115)] _
    refine own_go (fun t₀ k₀ => XS.iload X116.here hx rfl (Jvm.hb hby at_45) rfl k₀) ?_
    show Gm p e below T116 m 47 #[iv p0, iv p1, iv p2, iv p3, iv p4, iv p5, iv (4 : Int32), iv ia_111, iv ib_112, iv tt_113, rv b115, .unset] [(.int ia_111), (.ref b115)] _
    refine own_go (fun t₀ k₀ => XS.iloadN X116.here hx rfl (Jvm.hb hby at_47) rfl k₀) ?_
    show Gm p e below T116 m 48 #[iv p0, iv p1, iv p2, iv p3, iv p4, iv p5, iv (4 : Int32), iv ia_111, iv ib_112, iv tt_113, rv b115, .unset] [(.int p2), (.int ia_111), (.ref b115)] _
    refine own_go (fun t₀ k₀ => XS.iloadN X116.here hx rfl (Jvm.hb hby at_48) rfl k₀) ?_
    show Gm p e below T116 m 49 #[iv p0, iv p1, iv p2, iv p3, iv p4, iv p5, iv (4 : Int32), iv ia_111, iv ib_112, iv tt_113, rv b115, .unset] [(.int p3), (.int p2), (.int ia_111), (.ref b115)] _
    obtain ⟨cq117, kq117, q117a, q117b, q117c⟩ := isOf hZ rfl Ec116
    obtain ⟨_, _, ⟨T117, L117, k117, n117⟩, -, X117, ⟨Lc117, hQ117, l117, y117, z117⟩, st117⟩ := X116.virtualBack hx (y := (⟨"com/example/throughfare/throughfare/simulation/Walkers", "start", "(III)V"⟩ : MethodName)) (z := (⟨"com/example/throughfare/throughfare/simulation/Walkers", "start", "(III)V"⟩ : MethodName)) hown (mvT hZ (hw _ (List.mem_of_getElem? (i := 43) rfl))) (mvT hZ (hw _ (List.mem_of_getElem? (i := 44) rfl))) (notFace_of_selects (args := #[]) (mvT hZ (hw _ (List.mem_of_getElem? (i := 46) rfl)))) (mvT hZ (hw _ (List.mem_of_getElem? (i := 46) rfl))) (mvT hZ (hw _ (List.mem_of_getElem? (i := 45) rfl))) (by decide) (backOf (W := 0) (rm5 l Z a0 hw [] b115 ia_111 p2 p3 floor116 startCell116 cell116 4 (fun _ => (0 : Int32)) (fun _ => (0 : Int32)) (fun _ => (0 : Int32)) T116.heap n0 Z116 Fc_floor116 Fc_startCell116 Fc_cell116 Ac_floor116 Ac_startCell116 Ac_cell116 ne_b115_floor116 ne_b115_startCell116 ne_b115_cell116 nn_floor_startCell116 nn_floor_cell116 nn_startCell_cell116 g_floor116 g_startCell116 g_cell116 hr_ia_111.1 hr_ia_111.2) hZ (hw _ (List.mem_of_getElem? (i := 47) rfl)) (hw _ (List.mem_of_getElem? (i := 3) rfl)) (by decide) (by decide)) q117a q117c (g := (mkF m 49 #[iv p0, iv p1, iv p2, iv p3, iv p4, iv p5, iv (4 : Int32), iv ia_111, iv ib_112, iv tt_113, rv b115, .unset] [(.int p3), (.int p2), (.int ia_111), (.ref b115)])) rfl (by rw [hml]; rfl) (Steps.refl _) (argsL := [(.int ia_111), (.int p2), (.int p3)]) (rest := []) (lenOf own_pd3 rfl) rfl (by show 2 * 0 + _ ≤ _; exact Nat.le_of_eq rfl) (Jvm.hb hby at_49) (fun _ _ => ⟨rfl, rfl, (by decide : 12 + 0 ≤ _), (by decide : 55 + 0 ≤ _)⟩)
    dsimp only [Pt.U, Pt.locs, Pt.cells, Pt.slots] at X117 l117 y117 z117 st117 hQ117
    subst l117 y117 z117
    obtain ⟨rfl, Nq117, Kc117, Ac_floor117, Ac_startCell117, Ac_cell117⟩ := hQ117
    have N117 := Fr.app N116 Nq117
    refine own_go (fun t k => st117.trans k) ?_
    have Z117 : n0 ≤ T117.heap.size := Nat.le_trans Z116 Kc117.1
    show Gm p e below T117 m 52 #[iv p0, iv p1, iv p2, iv p3, iv p4, iv p5, iv (4 : Int32), iv ia_111, iv ib_112, iv tt_113, rv b115, .unset] [] _
    refine own_go (fun t₀ k₀ => XS.aload X117.here hx rfl (Jvm.hb hby at_52) rfl rfl k₀) ?_
    show Gm p e below T117 m 54 #[iv p0, iv p1, iv p2, iv p3, iv p4, iv p5, iv (4 : Int32), iv ia_111, iv ib_112, iv tt_113, rv b115, .unset] [(.ref b115)] _
    refine own_go (fun t₀ k₀ => XS.iconst X117.here hx rfl (Jvm.hb hby at_54) k₀) ?_
    show Gm p e below T117 m 55 #[iv p0, iv p1, iv p2, iv p3, iv p4, iv p5, iv (4 : Int32), iv ia_111, iv ib_112, iv tt_113, rv b115, .unset] [(.int (0 : Int32)), (.ref b115)] _
    refine own_go (fun t₀ k₀ => XS.iload X117.here hx rfl (Jvm.hb hby at_55) rfl k₀) ?_
    show Gm p e below T117 m 57 #[iv p0, iv p1, iv p2, iv p3, iv p4, iv p5, iv (4 : Int32), iv ia_111, iv ib_112, iv tt_113, rv b115, .unset] [(.int (4 : Int32)), (.int (0 : Int32)), (.ref b115)] _
    refine own_go (fun t₀ k₀ => XS.iload X117.here hx rfl (Jvm.hb hby at_57) rfl k₀) ?_
    show Gm p e below T117 m 59 #[iv p0, iv p1, iv p2, iv p3, iv p4, iv p5, iv (4 : Int32), iv ia_111, iv ib_112, iv tt_113, rv b115, .unset] [(.int ia_111), (.int (4 : Int32)), (.int (0 : Int32)), (.ref b115)] _
    refine own_go (fun t₀ k₀ => XS.iloadN X117.here hx rfl (Jvm.hb hby at_59) rfl k₀) ?_
    show Gm p e below T117 m 60 #[iv p0, iv p1, iv p2, iv p3, iv p4, iv p5, iv (4 : Int32), iv ia_111, iv ib_112, iv tt_113, rv b115, .unset] [(.int p2), (.int ia_111), (.int (4 : Int32)), (.int (0 : Int32)), (.ref b115)] _
    refine own_go (fun t₀ k₀ => XS.iloadN X117.here hx rfl (Jvm.hb hby at_60) rfl k₀) ?_
    show Gm p e below T117 m 61 #[iv p0, iv p1, iv p2, iv p3, iv p4, iv p5, iv (4 : Int32), iv ia_111, iv ib_112, iv tt_113, rv b115, .unset] [(.int p3), (.int p2), (.int ia_111), (.int (4 : Int32)), (.int (0 : Int32)), (.ref b115)] _
    refine own_go (fun t₀ k₀ => XS.iconst X117.here hx rfl (Jvm.hb hby at_61) k₀) ?_
    show Gm p e below T117 m 62 #[iv p0, iv p1, iv p2, iv p3, iv p4, iv p5, iv (4 : Int32), iv ia_111, iv ib_112, iv tt_113, rv b115, .unset] [(.int (-1 : Int32)), (.int p3), (.int p2), (.int ia_111), (.int (4 : Int32)), (.int (0 : Int32)), (.ref b115)] _
    refine own_go (fun t₀ k₀ => XS.iconst X117.here hx rfl (Jvm.hb hby at_62) k₀) ?_
    show Gm p e below T117 m 63 #[iv p0, iv p1, iv p2, iv p3, iv p4, iv p5, iv (4 : Int32), iv ia_111, iv ib_112, iv tt_113, rv b115, .unset] [(.int (0 : Int32)), (.int (-1 : Int32)), (.int p3), (.int p2), (.int ia_111), (.int (4 : Int32)), (.int (0 : Int32)), (.ref b115)] _
    refine own_go (fun t₀ k₀ => XS.iconst X117.here hx rfl (Jvm.hb hby at_63) k₀) ?_
    show Gm p e below T117 m 64 #[iv p0, iv p1, iv p2, iv p3, iv p4, iv p5, iv (4 : Int32), iv ia_111, iv ib_112, iv tt_113, rv b115, .unset] [(.int (0 : Int32)), (.int (0 : Int32)), (.int (-1 : Int32)), (.int p3), (.int p2), (.int ia_111), (.int (4 : Int32)), (.int (0 : Int32)), (.ref b115)] _
    have f118 := (Fc_floor116.keep Kc117 (ninS ne_b115_floor116 (ninS ne_b115_startCell116 (ninS ne_b115_cell116 nin0))))
    have f119 := (Fc_startCell116.keep Kc117 (ninS ne_b115_floor116 (ninS ne_b115_startCell116 (ninS ne_b115_cell116 nin0))))
    have f120 := (Fc_cell116.keep Kc117 (ninS ne_b115_floor116 (ninS ne_b115_startCell116 (ninS ne_b115_cell116 nin0))))
    have f121 := (Fc_heading116.keep Kc117 (ninS ne_b115_floor116 (ninS ne_b115_startCell116 (ninS ne_b115_cell116 nin0))))
    have f122 := (Fc_leaving116.keep Kc117 (ninS ne_b115_floor116 (ninS ne_b115_startCell116 (ninS ne_b115_cell116 nin0))))
    have f123 := (Fc_exit116.keep Kc117 (ninS ne_b115_floor116 (ninS ne_b115_startCell116 (ninS ne_b115_cell116 nin0))))
    have f124 := (Ac_heading116.keep Kc117 (ninS (Ne.symm nn_floor_heading116) (ninS (Ne.symm nn_startCell_heading116) (ninS (Ne.symm nn_cell_heading116) nin0))))
    have f125 := (Ac_leaving116.keep Kc117 (ninS (Ne.symm nn_floor_leaving116) (ninS (Ne.symm nn_startCell_leaving116) (ninS (Ne.symm nn_cell_leaving116) nin0))))
    have f126 := (Ac_exit116.keep Kc117 (ninS (Ne.symm nn_floor_exit116) (ninS (Ne.symm nn_startCell_exit116) (ninS (Ne.symm nn_cell_exit116) nin0))))
    obtain ⟨_, _, ⟨T127, L127, k127, n127⟩, -, X127, ⟨Lc127, hQ127, l127, y127, z127⟩, st127⟩ := Jvm.LawKit.callS X117 hx (y := (⟨"com/example/throughfare/throughfare/simulation/WalkersStartPinLaw", "slot", "(Lcom/example/throughfare/throughfare/simulation/Walkers;IIIIIIII)Z"⟩ : MethodName)) hown (mvT hZ (hw _ (List.mem_of_getElem? (i := 48) rfl))) (mvT hZ (hw _ (List.mem_of_getElem? (i := 49) rfl))) (mvT hZ (hw _ (List.mem_of_getElem? (i := 50) rfl))) (mvT hZ (hw _ (List.mem_of_getElem? (i := 51) rfl))) (by decide) (backOf (W := 0) (rm6 l Z a0 hw [] b115 (0 : Int32) (4 : Int32) ia_111 p2 p3 (-1 : Int32) (0 : Int32) (0 : Int32) floor116 startCell116 cell116 heading116 leaving116 exit116 4 (fun i => if i = ia_111.toNatClampNeg then p2 else (fun _ => (0 : Int32)) i) (fun i => if i = ia_111.toNatClampNeg then p3 else (fun _ => (0 : Int32)) i) (fun i => if i = ia_111.toNatClampNeg then p3 else (fun _ => (0 : Int32)) i) (fun _ => (0 : Int32)) (fun _ => (-1 : Int32)) (fun _ => (-1 : Int32)) T117.heap n0 Z117 f118 f119 f120 f121 f122 f123 Ac_floor117 Ac_startCell117 Ac_cell117 f124 f125 f126 (by decide) (by decide) (own_s1 (by decide) hr_ia_111.1 (by decide)) (own_s1 (by decide) hr_ia_111.1 (by decide)) (own_s1 (by decide) hr_ia_111.1 (by decide)) rfl rfl rfl) hZ (hw _ (List.mem_of_getElem? (i := 51) rfl)) (hw _ (List.mem_of_getElem? (i := 50) rfl)) (by decide) (by decide)) (g := (mkF m 64 #[iv p0, iv p1, iv p2, iv p3, iv p4, iv p5, iv (4 : Int32), iv ia_111, iv ib_112, iv tt_113, rv b115, .unset] [(.int (0 : Int32)), (.int (0 : Int32)), (.int (-1 : Int32)), (.int p3), (.int p2), (.int ia_111), (.int (4 : Int32)), (.int (0 : Int32)), (.ref b115)])) rfl (by rw [hml]; rfl) (argsL := [(.ref b115), (.int (0 : Int32)), (.int (4 : Int32)), (.int ia_111), (.int p2), (.int p3), (.int (-1 : Int32)), (.int (0 : Int32)), (.int (0 : Int32))]) (rest := []) (lenOf own_pd4 rfl) rfl (by show 2 * 0 + _ ≤ _; exact Nat.le_of_eq rfl) (Jvm.hb hby at_64) (fun _ _ => ⟨rfl, rfl, (by decide : 12 + 0 ≤ _), (by decide : 55 + 0 ≤ _)⟩)
    dsimp only [Pt.U, Pt.locs, Pt.cells, Pt.slots] at X127 l127 y127 z127 st127 hQ127
    subst l127 y127 z127
    obtain ⟨rfl, Nq127, eq127⟩ := hQ127
    have N127 := Fr.app N117 Nq127
    have e127 : T127.heap = T117.heap := eq127
    refine own_go st127 ?_
    show Gm p e below T127 m 67 #[iv p0, iv p1, iv p2, iv p3, iv p4, iv p5, iv (4 : Int32), iv ia_111, iv ib_112, iv tt_113, rv b115, .unset] [(.int (1 : Int32))] _
    refine own_go (fun t₀ k₀ => XS.ifNo X127.here hx rfl (Jvm.hb hby at_67) rfl (XT.i0_eq_f (by decide)) k₀) ?_
    show Gm p e below T127 m 70 #[iv p0, iv p1, iv p2, iv p3, iv p4, iv p5, iv (4 : Int32), iv ia_111, iv ib_112, iv tt_113, rv b115, .unset] [] _
    refine own_go (fun t₀ k₀ => XS.aload X127.here hx rfl (Jvm.hb hby at_70) rfl rfl k₀) ?_
    show Gm p e below T127 m 72 #[iv p0, iv p1, iv p2, iv p3, iv p4, iv p5, iv (4 : Int32), iv ia_111, iv ib_112, iv tt_113, rv b115, .unset] [(.ref b115)] _
    refine own_go (fun t₀ k₀ => XS.iconst X127.here hx rfl (Jvm.hb hby at_72) k₀) ?_
    show Gm p e below T127 m 73 #[iv p0, iv p1, iv p2, iv p3, iv p4, iv p5, iv (4 : Int32), iv ia_111, iv ib_112, iv tt_113, rv b115, .unset] [(.int (1 : Int32)), (.ref b115)] _
    refine own_go (fun t₀ k₀ => XS.iload X127.here hx rfl (Jvm.hb hby at_73) rfl k₀) ?_
    show Gm p e below T127 m 75 #[iv p0, iv p1, iv p2, iv p3, iv p4, iv p5, iv (4 : Int32), iv ia_111, iv ib_112, iv tt_113, rv b115, .unset] [(.int (4 : Int32)), (.int (1 : Int32)), (.ref b115)] _
    refine own_go (fun t₀ k₀ => XS.iload X127.here hx rfl (Jvm.hb hby at_75) rfl k₀) ?_
    show Gm p e below T127 m 77 #[iv p0, iv p1, iv p2, iv p3, iv p4, iv p5, iv (4 : Int32), iv ia_111, iv ib_112, iv tt_113, rv b115, .unset] [(.int ia_111), (.int (4 : Int32)), (.int (1 : Int32)), (.ref b115)] _
    refine own_go (fun t₀ k₀ => XS.iloadN X127.here hx rfl (Jvm.hb hby at_77) rfl k₀) ?_
    show Gm p e below T127 m 78 #[iv p0, iv p1, iv p2, iv p3, iv p4, iv p5, iv (4 : Int32), iv ia_111, iv ib_112, iv tt_113, rv b115, .unset] [(.int p2), (.int ia_111), (.int (4 : Int32)), (.int (1 : Int32)), (.ref b115)] _
    refine own_go (fun t₀ k₀ => XS.iloadN X127.here hx rfl (Jvm.hb hby at_78) rfl k₀) ?_
    show Gm p e below T127 m 79 #[iv p0, iv p1, iv p2, iv p3, iv p4, iv p5, iv (4 : Int32), iv ia_111, iv ib_112, iv tt_113, rv b115, .unset] [(.int p3), (.int p2), (.int ia_111), (.int (4 : Int32)), (.int (1 : Int32)), (.ref b115)] _
    refine own_go (fun t₀ k₀ => XS.iconst X127.here hx rfl (Jvm.hb hby at_79) k₀) ?_
    show Gm p e below T127 m 80 #[iv p0, iv p1, iv p2, iv p3, iv p4, iv p5, iv (4 : Int32), iv ia_111, iv ib_112, iv tt_113, rv b115, .unset] [(.int (-1 : Int32)), (.int p3), (.int p2), (.int ia_111), (.int (4 : Int32)), (.int (1 : Int32)), (.ref b115)] _
    refine own_go (fun t₀ k₀ => XS.iconst X127.here hx rfl (Jvm.hb hby at_80) k₀) ?_
    show Gm p e below T127 m 81 #[iv p0, iv p1, iv p2, iv p3, iv p4, iv p5, iv (4 : Int32), iv ia_111, iv ib_112, iv tt_113, rv b115, .unset] [(.int (0 : Int32)), (.int (-1 : Int32)), (.int p3), (.int p2), (.int ia_111), (.int (4 : Int32)), (.int (1 : Int32)), (.ref b115)] _
    refine own_go (fun t₀ k₀ => XS.iconst X127.here hx rfl (Jvm.hb hby at_81) k₀) ?_
    show Gm p e below T127 m 82 #[iv p0, iv p1, iv p2, iv p3, iv p4, iv p5, iv (4 : Int32), iv ia_111, iv ib_112, iv tt_113, rv b115, .unset] [(.int (0 : Int32)), (.int (0 : Int32)), (.int (-1 : Int32)), (.int p3), (.int p2), (.int ia_111), (.int (4 : Int32)), (.int (1 : Int32)), (.ref b115)] _
    obtain ⟨_, _, ⟨T128, L128, k128, n128⟩, -, X128, ⟨Lc128, hQ128, l128, y128, z128⟩, st128⟩ := Jvm.LawKit.callS X127 hx (y := (⟨"com/example/throughfare/throughfare/simulation/WalkersStartPinLaw", "slot", "(Lcom/example/throughfare/throughfare/simulation/Walkers;IIIIIIII)Z"⟩ : MethodName)) hown (mvT hZ (hw _ (List.mem_of_getElem? (i := 48) rfl))) (mvT hZ (hw _ (List.mem_of_getElem? (i := 49) rfl))) (mvT hZ (hw _ (List.mem_of_getElem? (i := 50) rfl))) (mvT hZ (hw _ (List.mem_of_getElem? (i := 51) rfl))) (by decide) (backOf (W := 0) (rm6 l Z a0 hw [] b115 (1 : Int32) (4 : Int32) ia_111 p2 p3 (-1 : Int32) (0 : Int32) (0 : Int32) floor116 startCell116 cell116 heading116 leaving116 exit116 4 (fun i => if i = ia_111.toNatClampNeg then p2 else (fun _ => (0 : Int32)) i) (fun i => if i = ia_111.toNatClampNeg then p3 else (fun _ => (0 : Int32)) i) (fun i => if i = ia_111.toNatClampNeg then p3 else (fun _ => (0 : Int32)) i) (fun _ => (0 : Int32)) (fun _ => (-1 : Int32)) (fun _ => (-1 : Int32)) T117.heap n0 Z117 f118 f119 f120 f121 f122 f123 Ac_floor117 Ac_startCell117 Ac_cell117 f124 f125 f126 (by decide) (by decide) (own_s1 (by decide) hr_ia_111.1 (by decide)) (own_s1 (by decide) hr_ia_111.1 (by decide)) (own_s1 (by decide) hr_ia_111.1 (by decide)) rfl rfl rfl) hZ (hw _ (List.mem_of_getElem? (i := 51) rfl)) (hw _ (List.mem_of_getElem? (i := 50) rfl)) (by decide) (by decide)) (g := (mkF m 82 #[iv p0, iv p1, iv p2, iv p3, iv p4, iv p5, iv (4 : Int32), iv ia_111, iv ib_112, iv tt_113, rv b115, .unset] [(.int (0 : Int32)), (.int (0 : Int32)), (.int (-1 : Int32)), (.int p3), (.int p2), (.int ia_111), (.int (4 : Int32)), (.int (1 : Int32)), (.ref b115)])) rfl (by rw [hml]; rfl) (argsL := [(.ref b115), (.int (1 : Int32)), (.int (4 : Int32)), (.int ia_111), (.int p2), (.int p3), (.int (-1 : Int32)), (.int (0 : Int32)), (.int (0 : Int32))]) (rest := []) (lenOf own_pd4 rfl) rfl (by show 2 * 0 + _ ≤ _; exact Nat.le_of_eq rfl) (Jvm.hb hby at_82) (fun _ _ => ⟨rfl, e127, (by decide : 12 + 0 ≤ _), (by decide : 55 + 0 ≤ _)⟩)
    dsimp only [Pt.U, Pt.locs, Pt.cells, Pt.slots] at X128 l128 y128 z128 st128 hQ128
    subst l128 y128 z128
    obtain ⟨rfl, Nq128, eq128⟩ := hQ128
    have N128 := Fr.app N127 Nq128
    have e128 : T128.heap = T117.heap := eq128
    refine own_go st128 ?_
    show Gm p e below T128 m 85 #[iv p0, iv p1, iv p2, iv p3, iv p4, iv p5, iv (4 : Int32), iv ia_111, iv ib_112, iv tt_113, rv b115, .unset] [(.int (1 : Int32))] _
    refine own_go (fun t₀ k₀ => XS.ifNo X128.here hx rfl (Jvm.hb hby at_85) rfl (XT.i0_eq_f (by decide)) k₀) ?_
    show Gm p e below T128 m 88 #[iv p0, iv p1, iv p2, iv p3, iv p4, iv p5, iv (4 : Int32), iv ia_111, iv ib_112, iv tt_113, rv b115, .unset] [] _
    refine own_go (fun t₀ k₀ => XS.aload X128.here hx rfl (Jvm.hb hby at_88) rfl rfl k₀) ?_
    show Gm p e below T128 m 90 #[iv p0, iv p1, iv p2, iv p3, iv p4, iv p5, iv (4 : Int32), iv ia_111, iv ib_112, iv tt_113, rv b115, .unset] [(.ref b115)] _
    refine own_go (fun t₀ k₀ => XS.iconst X128.here hx rfl (Jvm.hb hby at_90) k₀) ?_
    show Gm p e below T128 m 91 #[iv p0, iv p1, iv p2, iv p3, iv p4, iv p5, iv (4 : Int32), iv ia_111, iv ib_112, iv tt_113, rv b115, .unset] [(.int (2 : Int32)), (.ref b115)] _
    refine own_go (fun t₀ k₀ => XS.iload X128.here hx rfl (Jvm.hb hby at_91) rfl k₀) ?_
    show Gm p e below T128 m 93 #[iv p0, iv p1, iv p2, iv p3, iv p4, iv p5, iv (4 : Int32), iv ia_111, iv ib_112, iv tt_113, rv b115, .unset] [(.int (4 : Int32)), (.int (2 : Int32)), (.ref b115)] _
    refine own_go (fun t₀ k₀ => XS.iload X128.here hx rfl (Jvm.hb hby at_93) rfl k₀) ?_
    show Gm p e below T128 m 95 #[iv p0, iv p1, iv p2, iv p3, iv p4, iv p5, iv (4 : Int32), iv ia_111, iv ib_112, iv tt_113, rv b115, .unset] [(.int ia_111), (.int (4 : Int32)), (.int (2 : Int32)), (.ref b115)] _
    refine own_go (fun t₀ k₀ => XS.iloadN X128.here hx rfl (Jvm.hb hby at_95) rfl k₀) ?_
    show Gm p e below T128 m 96 #[iv p0, iv p1, iv p2, iv p3, iv p4, iv p5, iv (4 : Int32), iv ia_111, iv ib_112, iv tt_113, rv b115, .unset] [(.int p2), (.int ia_111), (.int (4 : Int32)), (.int (2 : Int32)), (.ref b115)] _
    refine own_go (fun t₀ k₀ => XS.iloadN X128.here hx rfl (Jvm.hb hby at_96) rfl k₀) ?_
    show Gm p e below T128 m 97 #[iv p0, iv p1, iv p2, iv p3, iv p4, iv p5, iv (4 : Int32), iv ia_111, iv ib_112, iv tt_113, rv b115, .unset] [(.int p3), (.int p2), (.int ia_111), (.int (4 : Int32)), (.int (2 : Int32)), (.ref b115)] _
    refine own_go (fun t₀ k₀ => XS.iconst X128.here hx rfl (Jvm.hb hby at_97) k₀) ?_
    show Gm p e below T128 m 98 #[iv p0, iv p1, iv p2, iv p3, iv p4, iv p5, iv (4 : Int32), iv ia_111, iv ib_112, iv tt_113, rv b115, .unset] [(.int (-1 : Int32)), (.int p3), (.int p2), (.int ia_111), (.int (4 : Int32)), (.int (2 : Int32)), (.ref b115)] _
    refine own_go (fun t₀ k₀ => XS.iconst X128.here hx rfl (Jvm.hb hby at_98) k₀) ?_
    show Gm p e below T128 m 99 #[iv p0, iv p1, iv p2, iv p3, iv p4, iv p5, iv (4 : Int32), iv ia_111, iv ib_112, iv tt_113, rv b115, .unset] [(.int (0 : Int32)), (.int (-1 : Int32)), (.int p3), (.int p2), (.int ia_111), (.int (4 : Int32)), (.int (2 : Int32)), (.ref b115)] _
    refine own_go (fun t₀ k₀ => XS.iconst X128.here hx rfl (Jvm.hb hby at_99) k₀) ?_
    show Gm p e below T128 m 100 #[iv p0, iv p1, iv p2, iv p3, iv p4, iv p5, iv (4 : Int32), iv ia_111, iv ib_112, iv tt_113, rv b115, .unset] [(.int (0 : Int32)), (.int (0 : Int32)), (.int (-1 : Int32)), (.int p3), (.int p2), (.int ia_111), (.int (4 : Int32)), (.int (2 : Int32)), (.ref b115)] _
    obtain ⟨_, _, ⟨T129, L129, k129, n129⟩, -, X129, ⟨Lc129, hQ129, l129, y129, z129⟩, st129⟩ := Jvm.LawKit.callS X128 hx (y := (⟨"com/example/throughfare/throughfare/simulation/WalkersStartPinLaw", "slot", "(Lcom/example/throughfare/throughfare/simulation/Walkers;IIIIIIII)Z"⟩ : MethodName)) hown (mvT hZ (hw _ (List.mem_of_getElem? (i := 48) rfl))) (mvT hZ (hw _ (List.mem_of_getElem? (i := 49) rfl))) (mvT hZ (hw _ (List.mem_of_getElem? (i := 50) rfl))) (mvT hZ (hw _ (List.mem_of_getElem? (i := 51) rfl))) (by decide) (backOf (W := 0) (rm6 l Z a0 hw [] b115 (2 : Int32) (4 : Int32) ia_111 p2 p3 (-1 : Int32) (0 : Int32) (0 : Int32) floor116 startCell116 cell116 heading116 leaving116 exit116 4 (fun i => if i = ia_111.toNatClampNeg then p2 else (fun _ => (0 : Int32)) i) (fun i => if i = ia_111.toNatClampNeg then p3 else (fun _ => (0 : Int32)) i) (fun i => if i = ia_111.toNatClampNeg then p3 else (fun _ => (0 : Int32)) i) (fun _ => (0 : Int32)) (fun _ => (-1 : Int32)) (fun _ => (-1 : Int32)) T117.heap n0 Z117 f118 f119 f120 f121 f122 f123 Ac_floor117 Ac_startCell117 Ac_cell117 f124 f125 f126 (by decide) (by decide) (own_s1 (by decide) hr_ia_111.1 (by decide)) (own_s1 (by decide) hr_ia_111.1 (by decide)) (own_s1 (by decide) hr_ia_111.1 (by decide)) rfl rfl rfl) hZ (hw _ (List.mem_of_getElem? (i := 51) rfl)) (hw _ (List.mem_of_getElem? (i := 50) rfl)) (by decide) (by decide)) (g := (mkF m 100 #[iv p0, iv p1, iv p2, iv p3, iv p4, iv p5, iv (4 : Int32), iv ia_111, iv ib_112, iv tt_113, rv b115, .unset] [(.int (0 : Int32)), (.int (0 : Int32)), (.int (-1 : Int32)), (.int p3), (.int p2), (.int ia_111), (.int (4 : Int32)), (.int (2 : Int32)), (.ref b115)])) rfl (by rw [hml]; rfl) (argsL := [(.ref b115), (.int (2 : Int32)), (.int (4 : Int32)), (.int ia_111), (.int p2), (.int p3), (.int (-1 : Int32)), (.int (0 : Int32)), (.int (0 : Int32))]) (rest := []) (lenOf own_pd4 rfl) rfl (by show 2 * 0 + _ ≤ _; exact Nat.le_of_eq rfl) (Jvm.hb hby at_100) (fun _ _ => ⟨rfl, e128, (by decide : 12 + 0 ≤ _), (by decide : 55 + 0 ≤ _)⟩)
    dsimp only [Pt.U, Pt.locs, Pt.cells, Pt.slots] at X129 l129 y129 z129 st129 hQ129
    subst l129 y129 z129
    obtain ⟨rfl, Nq129, eq129⟩ := hQ129
    have N129 := Fr.app N128 Nq129
    have e129 : T129.heap = T117.heap := eq129
    refine own_go st129 ?_
    show Gm p e below T129 m 103 #[iv p0, iv p1, iv p2, iv p3, iv p4, iv p5, iv (4 : Int32), iv ia_111, iv ib_112, iv tt_113, rv b115, .unset] [(.int (1 : Int32))] _
    refine own_go (fun t₀ k₀ => XS.ifNo X129.here hx rfl (Jvm.hb hby at_103) rfl (XT.i0_eq_f (by decide)) k₀) ?_
    show Gm p e below T129 m 106 #[iv p0, iv p1, iv p2, iv p3, iv p4, iv p5, iv (4 : Int32), iv ia_111, iv ib_112, iv tt_113, rv b115, .unset] [] _
    refine own_go (fun t₀ k₀ => XS.aload X129.here hx rfl (Jvm.hb hby at_106) rfl rfl k₀) ?_
    show Gm p e below T129 m 108 #[iv p0, iv p1, iv p2, iv p3, iv p4, iv p5, iv (4 : Int32), iv ia_111, iv ib_112, iv tt_113, rv b115, .unset] [(.ref b115)] _
    refine own_go (fun t₀ k₀ => XS.iconst X129.here hx rfl (Jvm.hb hby at_108) k₀) ?_
    show Gm p e below T129 m 109 #[iv p0, iv p1, iv p2, iv p3, iv p4, iv p5, iv (4 : Int32), iv ia_111, iv ib_112, iv tt_113, rv b115, .unset] [(.int (3 : Int32)), (.ref b115)] _
    refine own_go (fun t₀ k₀ => XS.iload X129.here hx rfl (Jvm.hb hby at_109) rfl k₀) ?_
    show Gm p e below T129 m 111 #[iv p0, iv p1, iv p2, iv p3, iv p4, iv p5, iv (4 : Int32), iv ia_111, iv ib_112, iv tt_113, rv b115, .unset] [(.int (4 : Int32)), (.int (3 : Int32)), (.ref b115)] _
    refine own_go (fun t₀ k₀ => XS.iload X129.here hx rfl (Jvm.hb hby at_111) rfl k₀) ?_
    show Gm p e below T129 m 113 #[iv p0, iv p1, iv p2, iv p3, iv p4, iv p5, iv (4 : Int32), iv ia_111, iv ib_112, iv tt_113, rv b115, .unset] [(.int ia_111), (.int (4 : Int32)), (.int (3 : Int32)), (.ref b115)] _
    refine own_go (fun t₀ k₀ => XS.iloadN X129.here hx rfl (Jvm.hb hby at_113) rfl k₀) ?_
    show Gm p e below T129 m 114 #[iv p0, iv p1, iv p2, iv p3, iv p4, iv p5, iv (4 : Int32), iv ia_111, iv ib_112, iv tt_113, rv b115, .unset] [(.int p2), (.int ia_111), (.int (4 : Int32)), (.int (3 : Int32)), (.ref b115)] _
    refine own_go (fun t₀ k₀ => XS.iloadN X129.here hx rfl (Jvm.hb hby at_114) rfl k₀) ?_
    show Gm p e below T129 m 115 #[iv p0, iv p1, iv p2, iv p3, iv p4, iv p5, iv (4 : Int32), iv ia_111, iv ib_112, iv tt_113, rv b115, .unset] [(.int p3), (.int p2), (.int ia_111), (.int (4 : Int32)), (.int (3 : Int32)), (.ref b115)] _
    refine own_go (fun t₀ k₀ => XS.iconst X129.here hx rfl (Jvm.hb hby at_115) k₀) ?_
    show Gm p e below T129 m 116 #[iv p0, iv p1, iv p2, iv p3, iv p4, iv p5, iv (4 : Int32), iv ia_111, iv ib_112, iv tt_113, rv b115, .unset] [(.int (-1 : Int32)), (.int p3), (.int p2), (.int ia_111), (.int (4 : Int32)), (.int (3 : Int32)), (.ref b115)] _
    refine own_go (fun t₀ k₀ => XS.iconst X129.here hx rfl (Jvm.hb hby at_116) k₀) ?_
    show Gm p e below T129 m 117 #[iv p0, iv p1, iv p2, iv p3, iv p4, iv p5, iv (4 : Int32), iv ia_111, iv ib_112, iv tt_113, rv b115, .unset] [(.int (0 : Int32)), (.int (-1 : Int32)), (.int p3), (.int p2), (.int ia_111), (.int (4 : Int32)), (.int (3 : Int32)), (.ref b115)] _
    refine own_go (fun t₀ k₀ => XS.iconst X129.here hx rfl (Jvm.hb hby at_117) k₀) ?_
    show Gm p e below T129 m 118 #[iv p0, iv p1, iv p2, iv p3, iv p4, iv p5, iv (4 : Int32), iv ia_111, iv ib_112, iv tt_113, rv b115, .unset] [(.int (0 : Int32)), (.int (0 : Int32)), (.int (-1 : Int32)), (.int p3), (.int p2), (.int ia_111), (.int (4 : Int32)), (.int (3 : Int32)), (.ref b115)] _
    obtain ⟨_, _, ⟨T130, L130, k130, n130⟩, -, X130, ⟨Lc130, hQ130, l130, y130, z130⟩, st130⟩ := Jvm.LawKit.callS X129 hx (y := (⟨"com/example/throughfare/throughfare/simulation/WalkersStartPinLaw", "slot", "(Lcom/example/throughfare/throughfare/simulation/Walkers;IIIIIIII)Z"⟩ : MethodName)) hown (mvT hZ (hw _ (List.mem_of_getElem? (i := 48) rfl))) (mvT hZ (hw _ (List.mem_of_getElem? (i := 49) rfl))) (mvT hZ (hw _ (List.mem_of_getElem? (i := 50) rfl))) (mvT hZ (hw _ (List.mem_of_getElem? (i := 51) rfl))) (by decide) (backOf (W := 0) (rm6 l Z a0 hw [] b115 (3 : Int32) (4 : Int32) ia_111 p2 p3 (-1 : Int32) (0 : Int32) (0 : Int32) floor116 startCell116 cell116 heading116 leaving116 exit116 4 (fun i => if i = ia_111.toNatClampNeg then p2 else (fun _ => (0 : Int32)) i) (fun i => if i = ia_111.toNatClampNeg then p3 else (fun _ => (0 : Int32)) i) (fun i => if i = ia_111.toNatClampNeg then p3 else (fun _ => (0 : Int32)) i) (fun _ => (0 : Int32)) (fun _ => (-1 : Int32)) (fun _ => (-1 : Int32)) T117.heap n0 Z117 f118 f119 f120 f121 f122 f123 Ac_floor117 Ac_startCell117 Ac_cell117 f124 f125 f126 (by decide) (by decide) (own_s1 (by decide) hr_ia_111.1 (by decide)) (own_s1 (by decide) hr_ia_111.1 (by decide)) (own_s1 (by decide) hr_ia_111.1 (by decide)) rfl rfl rfl) hZ (hw _ (List.mem_of_getElem? (i := 51) rfl)) (hw _ (List.mem_of_getElem? (i := 50) rfl)) (by decide) (by decide)) (g := (mkF m 118 #[iv p0, iv p1, iv p2, iv p3, iv p4, iv p5, iv (4 : Int32), iv ia_111, iv ib_112, iv tt_113, rv b115, .unset] [(.int (0 : Int32)), (.int (0 : Int32)), (.int (-1 : Int32)), (.int p3), (.int p2), (.int ia_111), (.int (4 : Int32)), (.int (3 : Int32)), (.ref b115)])) rfl (by rw [hml]; rfl) (argsL := [(.ref b115), (.int (3 : Int32)), (.int (4 : Int32)), (.int ia_111), (.int p2), (.int p3), (.int (-1 : Int32)), (.int (0 : Int32)), (.int (0 : Int32))]) (rest := []) (lenOf own_pd4 rfl) rfl (by show 2 * 0 + _ ≤ _; exact Nat.le_of_eq rfl) (Jvm.hb hby at_118) (fun _ _ => ⟨rfl, e129, (by decide : 12 + 0 ≤ _), (by decide : 55 + 0 ≤ _)⟩)
    dsimp only [Pt.U, Pt.locs, Pt.cells, Pt.slots] at X130 l130 y130 z130 st130 hQ130
    subst l130 y130 z130
    obtain ⟨rfl, Nq130, eq130⟩ := hQ130
    have N130 := Fr.app N129 Nq130
    have e130 : T130.heap = T117.heap := eq130
    refine own_go st130 ?_
    show Gm p e below T130 m 121 #[iv p0, iv p1, iv p2, iv p3, iv p4, iv p5, iv (4 : Int32), iv ia_111, iv ib_112, iv tt_113, rv b115, .unset] [(.int (1 : Int32))] _
    refine own_go (fun t₀ k₀ => XS.ifNo X130.here hx rfl (Jvm.hb hby at_121) rfl (XT.i0_eq_f (by decide)) k₀) ?_
    show Gm p e below T130 m 124 #[iv p0, iv p1, iv p2, iv p3, iv p4, iv p5, iv (4 : Int32), iv ia_111, iv ib_112, iv tt_113, rv b115, .unset] [] _
    refine own_go (fun t₀ k₀ => XS.iconst X130.here hx rfl (Jvm.hb hby at_124) k₀) ?_
    show Gm p e below T130 m 125 #[iv p0, iv p1, iv p2, iv p3, iv p4, iv p5, iv (4 : Int32), iv ia_111, iv ib_112, iv tt_113, rv b115, .unset] [(.int (1 : Int32))] _
    refine own_go (fun t₀ k₀ => XS.goto X130.here hx rfl (pc0 := 125) (pc' := 129) rfl (Jvm.hb hby at_125) (by decide) (by decide) k₀) ?_
    show Gm p e below T130 m 129 #[iv p0, iv p1, iv p2, iv p3, iv p4, iv p5, iv (4 : Int32), iv ia_111, iv ib_112, iv tt_113, rv b115, .unset] [(.int (1 : Int32))] _
    refine own_go (fun t₀ k₀ => XS.istore X130.here hx rfl (Jvm.hb hby at_129) rfl (l' := #[iv p0, iv p1, iv p2, iv p3, iv p4, iv p5, iv (4 : Int32), iv ia_111, iv ib_112, iv tt_113, rv b115, iv (1 : Int32)]) rfl k₀) ?_
    show Gm p e below T130 m 131 #[iv p0, iv p1, iv p2, iv p3, iv p4, iv p5, iv (4 : Int32), iv ia_111, iv ib_112, iv tt_113, rv b115, iv (1 : Int32)] [] _
    refine own_go (fun t₀ k₀ => XS.aload X130.here hx rfl (Jvm.hb hby at_131) rfl rfl k₀) ?_
    show Gm p e below T130 m 133 #[iv p0, iv p1, iv p2, iv p3, iv p4, iv p5, iv (4 : Int32), iv ia_111, iv ib_112, iv tt_113, rv b115, iv (1 : Int32)] [(.ref b115)] _
    refine own_go (fun t₀ k₀ => XS.iload X130.here hx rfl (Jvm.hb hby at_133) rfl k₀) ?_
    show Gm p e below T130 m 135 #[iv p0, iv p1, iv p2, iv p3, iv p4, iv p5, iv (4 : Int32), iv ia_111, iv ib_112, iv tt_113, rv b115, iv (1 : Int32)] [(.int ib_112), (.ref b115)] _
    refine own_go (fun t₀ k₀ => XS.iload X130.here hx rfl (Jvm.hb hby at_135) rfl k₀) ?_
    show Gm p e below T130 m 137 #[iv p0, iv p1, iv p2, iv p3, iv p4, iv p5, iv (4 : Int32), iv ia_111, iv ib_112, iv tt_113, rv b115, iv (1 : Int32)] [(.int p5), (.int ib_112), (.ref b115)] _
    refine own_go (fun t₀ k₀ => XS.iload X130.here hx rfl (Jvm.hb hby at_137) rfl k₀) ?_
    show Gm p e below T130 m 139 #[iv p0, iv p1, iv p2, iv p3, iv p4, iv p5, iv (4 : Int32), iv ia_111, iv ib_112, iv tt_113, rv b115, iv (1 : Int32)] [(.int tt_113), (.int p5), (.int ib_112), (.ref b115)] _
    have f132 := (Ec116.keep Kc117)
    obtain ⟨cq131, kq131, q131a, q131b, q131c⟩ := isOf hZ e130 f132
    obtain ⟨_, _, ⟨T131, L131, k131, n131⟩, -, X131, ⟨Lc131, hQ131, l131, y131, z131⟩, st131⟩ := X130.virtualBack hx (y := (⟨"com/example/throughfare/throughfare/simulation/Walkers", "start", "(III)V"⟩ : MethodName)) (z := (⟨"com/example/throughfare/throughfare/simulation/Walkers", "start", "(III)V"⟩ : MethodName)) hown (mvT hZ (hw _ (List.mem_of_getElem? (i := 43) rfl))) (mvT hZ (hw _ (List.mem_of_getElem? (i := 44) rfl))) (notFace_of_selects (args := #[]) (mvT hZ (hw _ (List.mem_of_getElem? (i := 46) rfl)))) (mvT hZ (hw _ (List.mem_of_getElem? (i := 46) rfl))) (mvT hZ (hw _ (List.mem_of_getElem? (i := 45) rfl))) (by decide) (backOf (W := 0) (rm5 l Z a0 hw [] b115 ib_112 p5 tt_113 floor116 startCell116 cell116 4 (fun i => if i = ia_111.toNatClampNeg then p2 else (fun _ => (0 : Int32)) i) (fun i => if i = ia_111.toNatClampNeg then p3 else (fun _ => (0 : Int32)) i) (fun i => if i = ia_111.toNatClampNeg then p3 else (fun _ => (0 : Int32)) i) T117.heap n0 Z117 f118 f119 f120 Ac_floor117 Ac_startCell117 Ac_cell117 ne_b115_floor116 ne_b115_startCell116 ne_b115_cell116 nn_floor_startCell116 nn_floor_cell116 nn_startCell_cell116 g_floor116 g_startCell116 g_cell116 hr_ib_112.1 hr_ib_112.2) hZ (hw _ (List.mem_of_getElem? (i := 47) rfl)) (hw _ (List.mem_of_getElem? (i := 3) rfl)) (by decide) (by decide)) q131a q131c (g := (mkF m 139 #[iv p0, iv p1, iv p2, iv p3, iv p4, iv p5, iv (4 : Int32), iv ia_111, iv ib_112, iv tt_113, rv b115, iv (1 : Int32)] [(.int tt_113), (.int p5), (.int ib_112), (.ref b115)])) rfl (by rw [hml]; rfl) (Steps.refl _) (argsL := [(.int ib_112), (.int p5), (.int tt_113)]) (rest := []) (lenOf own_pd3 rfl) rfl (by show 2 * 0 + _ ≤ _; exact Nat.le_of_eq rfl) (Jvm.hb hby at_139) (fun _ _ => ⟨rfl, e130, (by decide : 12 + 0 ≤ _), (by decide : 55 + 0 ≤ _)⟩)
    dsimp only [Pt.U, Pt.locs, Pt.cells, Pt.slots] at X131 l131 y131 z131 st131 hQ131
    subst l131 y131 z131
    obtain ⟨rfl, Nq131, Kc131, Ac_floor131, Ac_startCell131, Ac_cell131⟩ := hQ131
    have N131 := Fr.app N130 Nq131
    refine own_go (fun t k => st131.trans k) ?_
    have Z131 : n0 ≤ T131.heap.size := Nat.le_trans Z117 Kc131.1
    show Gm p e below T131 m 142 #[iv p0, iv p1, iv p2, iv p3, iv p4, iv p5, iv (4 : Int32), iv ia_111, iv ib_112, iv tt_113, rv b115, iv (1 : Int32)] [] _
    refine own_go (fun t₀ k₀ => XS.iload X131.here hx rfl (Jvm.hb hby at_142) rfl k₀) ?_
    show Gm p e below T131 m 144 #[iv p0, iv p1, iv p2, iv p3, iv p4, iv p5, iv (4 : Int32), iv ia_111, iv ib_112, iv tt_113, rv b115, iv (1 : Int32)] [(.int (1 : Int32))] _
    refine own_go (fun t₀ k₀ => XS.ifNo X131.here hx rfl (Jvm.hb hby at_144) rfl (XT.i0_eq_f (by decide)) k₀) ?_
    show Gm p e below T131 m 147 #[iv p0, iv p1, iv p2, iv p3, iv p4, iv p5, iv (4 : Int32), iv ia_111, iv ib_112, iv tt_113, rv b115, iv (1 : Int32)] [] _
    refine own_go (fun t₀ k₀ => XS.aload X131.here hx rfl (Jvm.hb hby at_147) rfl rfl k₀) ?_
    show Gm p e below T131 m 149 #[iv p0, iv p1, iv p2, iv p3, iv p4, iv p5, iv (4 : Int32), iv ia_111, iv ib_112, iv tt_113, rv b115, iv (1 : Int32)] [(.ref b115)] _
    refine own_go (fun t₀ k₀ => XS.iconst X131.here hx rfl (Jvm.hb hby at_149) k₀) ?_
    show Gm p e below T131 m 150 #[iv p0, iv p1, iv p2, iv p3, iv p4, iv p5, iv (4 : Int32), iv ia_111, iv ib_112, iv tt_113, rv b115, iv (1 : Int32)] [(.int (0 : Int32)), (.ref b115)] _
    refine own_go (fun t₀ k₀ => XS.iload X131.here hx rfl (Jvm.hb hby at_150) rfl k₀) ?_
    show Gm p e below T131 m 152 #[iv p0, iv p1, iv p2, iv p3, iv p4, iv p5, iv (4 : Int32), iv ia_111, iv ib_112, iv tt_113, rv b115, iv (1 : Int32)] [(.int (4 : Int32)), (.int (0 : Int32)), (.ref b115)] _
    refine own_go (fun t₀ k₀ => XS.iload X131.here hx rfl (Jvm.hb hby at_152) rfl k₀) ?_
    show Gm p e below T131 m 154 #[iv p0, iv p1, iv p2, iv p3, iv p4, iv p5, iv (4 : Int32), iv ia_111, iv ib_112, iv tt_113, rv b115, iv (1 : Int32)] [(.int ia_111), (.int (4 : Int32)), (.int (0 : Int32)), (.ref b115)] _
    refine own_go (fun t₀ k₀ => XS.iloadN X131.here hx rfl (Jvm.hb hby at_154) rfl k₀) ?_
    show Gm p e below T131 m 155 #[iv p0, iv p1, iv p2, iv p3, iv p4, iv p5, iv (4 : Int32), iv ia_111, iv ib_112, iv tt_113, rv b115, iv (1 : Int32)] [(.int p2), (.int ia_111), (.int (4 : Int32)), (.int (0 : Int32)), (.ref b115)] _
    refine own_go (fun t₀ k₀ => XS.iloadN X131.here hx rfl (Jvm.hb hby at_155) rfl k₀) ?_
    show Gm p e below T131 m 156 #[iv p0, iv p1, iv p2, iv p3, iv p4, iv p5, iv (4 : Int32), iv ia_111, iv ib_112, iv tt_113, rv b115, iv (1 : Int32)] [(.int p3), (.int p2), (.int ia_111), (.int (4 : Int32)), (.int (0 : Int32)), (.ref b115)] _
    refine own_go (fun t₀ k₀ => XS.iload X131.here hx rfl (Jvm.hb hby at_156) rfl k₀) ?_
    show Gm p e below T131 m 158 #[iv p0, iv p1, iv p2, iv p3, iv p4, iv p5, iv (4 : Int32), iv ia_111, iv ib_112, iv tt_113, rv b115, iv (1 : Int32)] [(.int ib_112), (.int p3), (.int p2), (.int ia_111), (.int (4 : Int32)), (.int (0 : Int32)), (.ref b115)] _
    refine own_go (fun t₀ k₀ => XS.iload X131.here hx rfl (Jvm.hb hby at_158) rfl k₀) ?_
    show Gm p e below T131 m 160 #[iv p0, iv p1, iv p2, iv p3, iv p4, iv p5, iv (4 : Int32), iv ia_111, iv ib_112, iv tt_113, rv b115, iv (1 : Int32)] [(.int p5), (.int ib_112), (.int p3), (.int p2), (.int ia_111), (.int (4 : Int32)), (.int (0 : Int32)), (.ref b115)] _
    refine own_go (fun t₀ k₀ => XS.iload X131.here hx rfl (Jvm.hb hby at_160) rfl k₀) ?_
    show Gm p e below T131 m 162 #[iv p0, iv p1, iv p2, iv p3, iv p4, iv p5, iv (4 : Int32), iv ia_111, iv ib_112, iv tt_113, rv b115, iv (1 : Int32)] [(.int tt_113), (.int p5), (.int ib_112), (.int p3), (.int p2), (.int ia_111), (.int (4 : Int32)), (.int (0 : Int32)), (.ref b115)] _
    have f133 := (f118.keep Kc131 (ninS ne_b115_floor116 (ninS ne_b115_startCell116 (ninS ne_b115_cell116 nin0))))
    have f134 := (f119.keep Kc131 (ninS ne_b115_floor116 (ninS ne_b115_startCell116 (ninS ne_b115_cell116 nin0))))
    have f135 := (f120.keep Kc131 (ninS ne_b115_floor116 (ninS ne_b115_startCell116 (ninS ne_b115_cell116 nin0))))
    have f136 := (f121.keep Kc131 (ninS ne_b115_floor116 (ninS ne_b115_startCell116 (ninS ne_b115_cell116 nin0))))
    have f137 := (f122.keep Kc131 (ninS ne_b115_floor116 (ninS ne_b115_startCell116 (ninS ne_b115_cell116 nin0))))
    have f138 := (f123.keep Kc131 (ninS ne_b115_floor116 (ninS ne_b115_startCell116 (ninS ne_b115_cell116 nin0))))
    have f139 := (f124.keep Kc131 (ninS (Ne.symm nn_floor_heading116) (ninS (Ne.symm nn_startCell_heading116) (ninS (Ne.symm nn_cell_heading116) nin0))))
    have f140 := (f125.keep Kc131 (ninS (Ne.symm nn_floor_leaving116) (ninS (Ne.symm nn_startCell_leaving116) (ninS (Ne.symm nn_cell_leaving116) nin0))))
    have f141 := (f126.keep Kc131 (ninS (Ne.symm nn_floor_exit116) (ninS (Ne.symm nn_startCell_exit116) (ninS (Ne.symm nn_cell_exit116) nin0))))
    obtain ⟨_, _, ⟨T142, L142, k142, n142⟩, -, X142, ⟨Lc142, hQ142, l142, y142, z142⟩, st142⟩ := Jvm.LawKit.callS X131 hx (y := (⟨"com/example/throughfare/throughfare/simulation/WalkersStartPinLaw", "slot", "(Lcom/example/throughfare/throughfare/simulation/Walkers;IIIIIIII)Z"⟩ : MethodName)) hown (mvT hZ (hw _ (List.mem_of_getElem? (i := 48) rfl))) (mvT hZ (hw _ (List.mem_of_getElem? (i := 49) rfl))) (mvT hZ (hw _ (List.mem_of_getElem? (i := 50) rfl))) (mvT hZ (hw _ (List.mem_of_getElem? (i := 51) rfl))) (by decide) (backOf (W := 0) (rm6 l Z a0 hw [] b115 (0 : Int32) (4 : Int32) ia_111 p2 p3 ib_112 p5 tt_113 floor116 startCell116 cell116 heading116 leaving116 exit116 4 (fun i => if i = ib_112.toNatClampNeg then p5 else (fun i => if i = ia_111.toNatClampNeg then p2 else (fun _ => (0 : Int32)) i) i) (fun i => if i = ib_112.toNatClampNeg then tt_113 else (fun i => if i = ia_111.toNatClampNeg then p3 else (fun _ => (0 : Int32)) i) i) (fun i => if i = ib_112.toNatClampNeg then tt_113 else (fun i => if i = ia_111.toNatClampNeg then p3 else (fun _ => (0 : Int32)) i) i) (fun _ => (0 : Int32)) (fun _ => (-1 : Int32)) (fun _ => (-1 : Int32)) T131.heap n0 Z131 f133 f134 f135 f136 f137 f138 Ac_floor131 Ac_startCell131 Ac_cell131 f139 f140 f141 (by decide) (by decide) (own_s2 (by decide) hr_ia_111.1 hr_ib_112.1) (own_s2 (by decide) hr_ia_111.1 hr_ib_112.1) (own_s2 (by decide) hr_ia_111.1 hr_ib_112.1) rfl rfl rfl) hZ (hw _ (List.mem_of_getElem? (i := 51) rfl)) (hw _ (List.mem_of_getElem? (i := 50) rfl)) (by decide) (by decide)) (g := (mkF m 162 #[iv p0, iv p1, iv p2, iv p3, iv p4, iv p5, iv (4 : Int32), iv ia_111, iv ib_112, iv tt_113, rv b115, iv (1 : Int32)] [(.int tt_113), (.int p5), (.int ib_112), (.int p3), (.int p2), (.int ia_111), (.int (4 : Int32)), (.int (0 : Int32)), (.ref b115)])) rfl (by rw [hml]; rfl) (argsL := [(.ref b115), (.int (0 : Int32)), (.int (4 : Int32)), (.int ia_111), (.int p2), (.int p3), (.int ib_112), (.int p5), (.int tt_113)]) (rest := []) (lenOf own_pd4 rfl) rfl (by show 2 * 0 + _ ≤ _; exact Nat.le_of_eq rfl) (Jvm.hb hby at_162) (fun _ _ => ⟨rfl, rfl, (by decide : 12 + 0 ≤ _), (by decide : 55 + 0 ≤ _)⟩)
    dsimp only [Pt.U, Pt.locs, Pt.cells, Pt.slots] at X142 l142 y142 z142 st142 hQ142
    subst l142 y142 z142
    obtain ⟨rfl, Nq142, eq142⟩ := hQ142
    have N142 := Fr.app N131 Nq142
    have e142 : T142.heap = T131.heap := eq142
    refine own_go st142 ?_
    show Gm p e below T142 m 165 #[iv p0, iv p1, iv p2, iv p3, iv p4, iv p5, iv (4 : Int32), iv ia_111, iv ib_112, iv tt_113, rv b115, iv (1 : Int32)] [(.int (1 : Int32))] _
    refine own_go (fun t₀ k₀ => XS.ifNo X142.here hx rfl (Jvm.hb hby at_165) rfl (XT.i0_eq_f (by decide)) k₀) ?_
    show Gm p e below T142 m 168 #[iv p0, iv p1, iv p2, iv p3, iv p4, iv p5, iv (4 : Int32), iv ia_111, iv ib_112, iv tt_113, rv b115, iv (1 : Int32)] [] _
    refine own_go (fun t₀ k₀ => XS.aload X142.here hx rfl (Jvm.hb hby at_168) rfl rfl k₀) ?_
    show Gm p e below T142 m 170 #[iv p0, iv p1, iv p2, iv p3, iv p4, iv p5, iv (4 : Int32), iv ia_111, iv ib_112, iv tt_113, rv b115, iv (1 : Int32)] [(.ref b115)] _
    refine own_go (fun t₀ k₀ => XS.iconst X142.here hx rfl (Jvm.hb hby at_170) k₀) ?_
    show Gm p e below T142 m 171 #[iv p0, iv p1, iv p2, iv p3, iv p4, iv p5, iv (4 : Int32), iv ia_111, iv ib_112, iv tt_113, rv b115, iv (1 : Int32)] [(.int (1 : Int32)), (.ref b115)] _
    refine own_go (fun t₀ k₀ => XS.iload X142.here hx rfl (Jvm.hb hby at_171) rfl k₀) ?_
    show Gm p e below T142 m 173 #[iv p0, iv p1, iv p2, iv p3, iv p4, iv p5, iv (4 : Int32), iv ia_111, iv ib_112, iv tt_113, rv b115, iv (1 : Int32)] [(.int (4 : Int32)), (.int (1 : Int32)), (.ref b115)] _
    refine own_go (fun t₀ k₀ => XS.iload X142.here hx rfl (Jvm.hb hby at_173) rfl k₀) ?_
    show Gm p e below T142 m 175 #[iv p0, iv p1, iv p2, iv p3, iv p4, iv p5, iv (4 : Int32), iv ia_111, iv ib_112, iv tt_113, rv b115, iv (1 : Int32)] [(.int ia_111), (.int (4 : Int32)), (.int (1 : Int32)), (.ref b115)] _
    refine own_go (fun t₀ k₀ => XS.iloadN X142.here hx rfl (Jvm.hb hby at_175) rfl k₀) ?_
    show Gm p e below T142 m 176 #[iv p0, iv p1, iv p2, iv p3, iv p4, iv p5, iv (4 : Int32), iv ia_111, iv ib_112, iv tt_113, rv b115, iv (1 : Int32)] [(.int p2), (.int ia_111), (.int (4 : Int32)), (.int (1 : Int32)), (.ref b115)] _
    refine own_go (fun t₀ k₀ => XS.iloadN X142.here hx rfl (Jvm.hb hby at_176) rfl k₀) ?_
    show Gm p e below T142 m 177 #[iv p0, iv p1, iv p2, iv p3, iv p4, iv p5, iv (4 : Int32), iv ia_111, iv ib_112, iv tt_113, rv b115, iv (1 : Int32)] [(.int p3), (.int p2), (.int ia_111), (.int (4 : Int32)), (.int (1 : Int32)), (.ref b115)] _
    refine own_go (fun t₀ k₀ => XS.iload X142.here hx rfl (Jvm.hb hby at_177) rfl k₀) ?_
    show Gm p e below T142 m 179 #[iv p0, iv p1, iv p2, iv p3, iv p4, iv p5, iv (4 : Int32), iv ia_111, iv ib_112, iv tt_113, rv b115, iv (1 : Int32)] [(.int ib_112), (.int p3), (.int p2), (.int ia_111), (.int (4 : Int32)), (.int (1 : Int32)), (.ref b115)] _
    refine own_go (fun t₀ k₀ => XS.iload X142.here hx rfl (Jvm.hb hby at_179) rfl k₀) ?_
    show Gm p e below T142 m 181 #[iv p0, iv p1, iv p2, iv p3, iv p4, iv p5, iv (4 : Int32), iv ia_111, iv ib_112, iv tt_113, rv b115, iv (1 : Int32)] [(.int p5), (.int ib_112), (.int p3), (.int p2), (.int ia_111), (.int (4 : Int32)), (.int (1 : Int32)), (.ref b115)] _
    refine own_go (fun t₀ k₀ => XS.iload X142.here hx rfl (Jvm.hb hby at_181) rfl k₀) ?_
    show Gm p e below T142 m 183 #[iv p0, iv p1, iv p2, iv p3, iv p4, iv p5, iv (4 : Int32), iv ia_111, iv ib_112, iv tt_113, rv b115, iv (1 : Int32)] [(.int tt_113), (.int p5), (.int ib_112), (.int p3), (.int p2), (.int ia_111), (.int (4 : Int32)), (.int (1 : Int32)), (.ref b115)] _
    obtain ⟨_, _, ⟨T143, L143, k143, n143⟩, -, X143, ⟨Lc143, hQ143, l143, y143, z143⟩, st143⟩ := Jvm.LawKit.callS X142 hx (y := (⟨"com/example/throughfare/throughfare/simulation/WalkersStartPinLaw", "slot", "(Lcom/example/throughfare/throughfare/simulation/Walkers;IIIIIIII)Z"⟩ : MethodName)) hown (mvT hZ (hw _ (List.mem_of_getElem? (i := 48) rfl))) (mvT hZ (hw _ (List.mem_of_getElem? (i := 49) rfl))) (mvT hZ (hw _ (List.mem_of_getElem? (i := 50) rfl))) (mvT hZ (hw _ (List.mem_of_getElem? (i := 51) rfl))) (by decide) (backOf (W := 0) (rm6 l Z a0 hw [] b115 (1 : Int32) (4 : Int32) ia_111 p2 p3 ib_112 p5 tt_113 floor116 startCell116 cell116 heading116 leaving116 exit116 4 (fun i => if i = ib_112.toNatClampNeg then p5 else (fun i => if i = ia_111.toNatClampNeg then p2 else (fun _ => (0 : Int32)) i) i) (fun i => if i = ib_112.toNatClampNeg then tt_113 else (fun i => if i = ia_111.toNatClampNeg then p3 else (fun _ => (0 : Int32)) i) i) (fun i => if i = ib_112.toNatClampNeg then tt_113 else (fun i => if i = ia_111.toNatClampNeg then p3 else (fun _ => (0 : Int32)) i) i) (fun _ => (0 : Int32)) (fun _ => (-1 : Int32)) (fun _ => (-1 : Int32)) T131.heap n0 Z131 f133 f134 f135 f136 f137 f138 Ac_floor131 Ac_startCell131 Ac_cell131 f139 f140 f141 (by decide) (by decide) (own_s2 (by decide) hr_ia_111.1 hr_ib_112.1) (own_s2 (by decide) hr_ia_111.1 hr_ib_112.1) (own_s2 (by decide) hr_ia_111.1 hr_ib_112.1) rfl rfl rfl) hZ (hw _ (List.mem_of_getElem? (i := 51) rfl)) (hw _ (List.mem_of_getElem? (i := 50) rfl)) (by decide) (by decide)) (g := (mkF m 183 #[iv p0, iv p1, iv p2, iv p3, iv p4, iv p5, iv (4 : Int32), iv ia_111, iv ib_112, iv tt_113, rv b115, iv (1 : Int32)] [(.int tt_113), (.int p5), (.int ib_112), (.int p3), (.int p2), (.int ia_111), (.int (4 : Int32)), (.int (1 : Int32)), (.ref b115)])) rfl (by rw [hml]; rfl) (argsL := [(.ref b115), (.int (1 : Int32)), (.int (4 : Int32)), (.int ia_111), (.int p2), (.int p3), (.int ib_112), (.int p5), (.int tt_113)]) (rest := []) (lenOf own_pd4 rfl) rfl (by show 2 * 0 + _ ≤ _; exact Nat.le_of_eq rfl) (Jvm.hb hby at_183) (fun _ _ => ⟨rfl, e142, (by decide : 12 + 0 ≤ _), (by decide : 55 + 0 ≤ _)⟩)
    dsimp only [Pt.U, Pt.locs, Pt.cells, Pt.slots] at X143 l143 y143 z143 st143 hQ143
    subst l143 y143 z143
    obtain ⟨rfl, Nq143, eq143⟩ := hQ143
    have N143 := Fr.app N142 Nq143
    have e143 : T143.heap = T131.heap := eq143
    refine own_go st143 ?_
    show Gm p e below T143 m 186 #[iv p0, iv p1, iv p2, iv p3, iv p4, iv p5, iv (4 : Int32), iv ia_111, iv ib_112, iv tt_113, rv b115, iv (1 : Int32)] [(.int (1 : Int32))] _
    refine own_go (fun t₀ k₀ => XS.ifNo X143.here hx rfl (Jvm.hb hby at_186) rfl (XT.i0_eq_f (by decide)) k₀) ?_
    show Gm p e below T143 m 189 #[iv p0, iv p1, iv p2, iv p3, iv p4, iv p5, iv (4 : Int32), iv ia_111, iv ib_112, iv tt_113, rv b115, iv (1 : Int32)] [] _
    refine own_go (fun t₀ k₀ => XS.aload X143.here hx rfl (Jvm.hb hby at_189) rfl rfl k₀) ?_
    show Gm p e below T143 m 191 #[iv p0, iv p1, iv p2, iv p3, iv p4, iv p5, iv (4 : Int32), iv ia_111, iv ib_112, iv tt_113, rv b115, iv (1 : Int32)] [(.ref b115)] _
    refine own_go (fun t₀ k₀ => XS.iconst X143.here hx rfl (Jvm.hb hby at_191) k₀) ?_
    show Gm p e below T143 m 192 #[iv p0, iv p1, iv p2, iv p3, iv p4, iv p5, iv (4 : Int32), iv ia_111, iv ib_112, iv tt_113, rv b115, iv (1 : Int32)] [(.int (2 : Int32)), (.ref b115)] _
    refine own_go (fun t₀ k₀ => XS.iload X143.here hx rfl (Jvm.hb hby at_192) rfl k₀) ?_
    show Gm p e below T143 m 194 #[iv p0, iv p1, iv p2, iv p3, iv p4, iv p5, iv (4 : Int32), iv ia_111, iv ib_112, iv tt_113, rv b115, iv (1 : Int32)] [(.int (4 : Int32)), (.int (2 : Int32)), (.ref b115)] _
    refine own_go (fun t₀ k₀ => XS.iload X143.here hx rfl (Jvm.hb hby at_194) rfl k₀) ?_
    show Gm p e below T143 m 196 #[iv p0, iv p1, iv p2, iv p3, iv p4, iv p5, iv (4 : Int32), iv ia_111, iv ib_112, iv tt_113, rv b115, iv (1 : Int32)] [(.int ia_111), (.int (4 : Int32)), (.int (2 : Int32)), (.ref b115)] _
    refine own_go (fun t₀ k₀ => XS.iloadN X143.here hx rfl (Jvm.hb hby at_196) rfl k₀) ?_
    show Gm p e below T143 m 197 #[iv p0, iv p1, iv p2, iv p3, iv p4, iv p5, iv (4 : Int32), iv ia_111, iv ib_112, iv tt_113, rv b115, iv (1 : Int32)] [(.int p2), (.int ia_111), (.int (4 : Int32)), (.int (2 : Int32)), (.ref b115)] _
    refine own_go (fun t₀ k₀ => XS.iloadN X143.here hx rfl (Jvm.hb hby at_197) rfl k₀) ?_
    show Gm p e below T143 m 198 #[iv p0, iv p1, iv p2, iv p3, iv p4, iv p5, iv (4 : Int32), iv ia_111, iv ib_112, iv tt_113, rv b115, iv (1 : Int32)] [(.int p3), (.int p2), (.int ia_111), (.int (4 : Int32)), (.int (2 : Int32)), (.ref b115)] _
    refine own_go (fun t₀ k₀ => XS.iload X143.here hx rfl (Jvm.hb hby at_198) rfl k₀) ?_
    show Gm p e below T143 m 200 #[iv p0, iv p1, iv p2, iv p3, iv p4, iv p5, iv (4 : Int32), iv ia_111, iv ib_112, iv tt_113, rv b115, iv (1 : Int32)] [(.int ib_112), (.int p3), (.int p2), (.int ia_111), (.int (4 : Int32)), (.int (2 : Int32)), (.ref b115)] _
    refine own_go (fun t₀ k₀ => XS.iload X143.here hx rfl (Jvm.hb hby at_200) rfl k₀) ?_
    show Gm p e below T143 m 202 #[iv p0, iv p1, iv p2, iv p3, iv p4, iv p5, iv (4 : Int32), iv ia_111, iv ib_112, iv tt_113, rv b115, iv (1 : Int32)] [(.int p5), (.int ib_112), (.int p3), (.int p2), (.int ia_111), (.int (4 : Int32)), (.int (2 : Int32)), (.ref b115)] _
    refine own_go (fun t₀ k₀ => XS.iload X143.here hx rfl (Jvm.hb hby at_202) rfl k₀) ?_
    show Gm p e below T143 m 204 #[iv p0, iv p1, iv p2, iv p3, iv p4, iv p5, iv (4 : Int32), iv ia_111, iv ib_112, iv tt_113, rv b115, iv (1 : Int32)] [(.int tt_113), (.int p5), (.int ib_112), (.int p3), (.int p2), (.int ia_111), (.int (4 : Int32)), (.int (2 : Int32)), (.ref b115)] _
    obtain ⟨_, _, ⟨T144, L144, k144, n144⟩, -, X144, ⟨Lc144, hQ144, l144, y144, z144⟩, st144⟩ := Jvm.LawKit.callS X143 hx (y := (⟨"com/example/throughfare/throughfare/simulation/WalkersStartPinLaw", "slot", "(Lcom/example/throughfare/throughfare/simulation/Walkers;IIIIIIII)Z"⟩ : MethodName)) hown (mvT hZ (hw _ (List.mem_of_getElem? (i := 48) rfl))) (mvT hZ (hw _ (List.mem_of_getElem? (i := 49) rfl))) (mvT hZ (hw _ (List.mem_of_getElem? (i := 50) rfl))) (mvT hZ (hw _ (List.mem_of_getElem? (i := 51) rfl))) (by decide) (backOf (W := 0) (rm6 l Z a0 hw [] b115 (2 : Int32) (4 : Int32) ia_111 p2 p3 ib_112 p5 tt_113 floor116 startCell116 cell116 heading116 leaving116 exit116 4 (fun i => if i = ib_112.toNatClampNeg then p5 else (fun i => if i = ia_111.toNatClampNeg then p2 else (fun _ => (0 : Int32)) i) i) (fun i => if i = ib_112.toNatClampNeg then tt_113 else (fun i => if i = ia_111.toNatClampNeg then p3 else (fun _ => (0 : Int32)) i) i) (fun i => if i = ib_112.toNatClampNeg then tt_113 else (fun i => if i = ia_111.toNatClampNeg then p3 else (fun _ => (0 : Int32)) i) i) (fun _ => (0 : Int32)) (fun _ => (-1 : Int32)) (fun _ => (-1 : Int32)) T131.heap n0 Z131 f133 f134 f135 f136 f137 f138 Ac_floor131 Ac_startCell131 Ac_cell131 f139 f140 f141 (by decide) (by decide) (own_s2 (by decide) hr_ia_111.1 hr_ib_112.1) (own_s2 (by decide) hr_ia_111.1 hr_ib_112.1) (own_s2 (by decide) hr_ia_111.1 hr_ib_112.1) rfl rfl rfl) hZ (hw _ (List.mem_of_getElem? (i := 51) rfl)) (hw _ (List.mem_of_getElem? (i := 50) rfl)) (by decide) (by decide)) (g := (mkF m 204 #[iv p0, iv p1, iv p2, iv p3, iv p4, iv p5, iv (4 : Int32), iv ia_111, iv ib_112, iv tt_113, rv b115, iv (1 : Int32)] [(.int tt_113), (.int p5), (.int ib_112), (.int p3), (.int p2), (.int ia_111), (.int (4 : Int32)), (.int (2 : Int32)), (.ref b115)])) rfl (by rw [hml]; rfl) (argsL := [(.ref b115), (.int (2 : Int32)), (.int (4 : Int32)), (.int ia_111), (.int p2), (.int p3), (.int ib_112), (.int p5), (.int tt_113)]) (rest := []) (lenOf own_pd4 rfl) rfl (by show 2 * 0 + _ ≤ _; exact Nat.le_of_eq rfl) (Jvm.hb hby at_204) (fun _ _ => ⟨rfl, e143, (by decide : 12 + 0 ≤ _), (by decide : 55 + 0 ≤ _)⟩)
    dsimp only [Pt.U, Pt.locs, Pt.cells, Pt.slots] at X144 l144 y144 z144 st144 hQ144
    subst l144 y144 z144
    obtain ⟨rfl, Nq144, eq144⟩ := hQ144
    have N144 := Fr.app N143 Nq144
    have e144 : T144.heap = T131.heap := eq144
    refine own_go st144 ?_
    show Gm p e below T144 m 207 #[iv p0, iv p1, iv p2, iv p3, iv p4, iv p5, iv (4 : Int32), iv ia_111, iv ib_112, iv tt_113, rv b115, iv (1 : Int32)] [(.int (1 : Int32))] _
    refine own_go (fun t₀ k₀ => XS.ifNo X144.here hx rfl (Jvm.hb hby at_207) rfl (XT.i0_eq_f (by decide)) k₀) ?_
    show Gm p e below T144 m 210 #[iv p0, iv p1, iv p2, iv p3, iv p4, iv p5, iv (4 : Int32), iv ia_111, iv ib_112, iv tt_113, rv b115, iv (1 : Int32)] [] _
    refine own_go (fun t₀ k₀ => XS.aload X144.here hx rfl (Jvm.hb hby at_210) rfl rfl k₀) ?_
    show Gm p e below T144 m 212 #[iv p0, iv p1, iv p2, iv p3, iv p4, iv p5, iv (4 : Int32), iv ia_111, iv ib_112, iv tt_113, rv b115, iv (1 : Int32)] [(.ref b115)] _
    refine own_go (fun t₀ k₀ => XS.iconst X144.here hx rfl (Jvm.hb hby at_212) k₀) ?_
    show Gm p e below T144 m 213 #[iv p0, iv p1, iv p2, iv p3, iv p4, iv p5, iv (4 : Int32), iv ia_111, iv ib_112, iv tt_113, rv b115, iv (1 : Int32)] [(.int (3 : Int32)), (.ref b115)] _
    refine own_go (fun t₀ k₀ => XS.iload X144.here hx rfl (Jvm.hb hby at_213) rfl k₀) ?_
    show Gm p e below T144 m 215 #[iv p0, iv p1, iv p2, iv p3, iv p4, iv p5, iv (4 : Int32), iv ia_111, iv ib_112, iv tt_113, rv b115, iv (1 : Int32)] [(.int (4 : Int32)), (.int (3 : Int32)), (.ref b115)] _
    refine own_go (fun t₀ k₀ => XS.iload X144.here hx rfl (Jvm.hb hby at_215) rfl k₀) ?_
    show Gm p e below T144 m 217 #[iv p0, iv p1, iv p2, iv p3, iv p4, iv p5, iv (4 : Int32), iv ia_111, iv ib_112, iv tt_113, rv b115, iv (1 : Int32)] [(.int ia_111), (.int (4 : Int32)), (.int (3 : Int32)), (.ref b115)] _
    refine own_go (fun t₀ k₀ => XS.iloadN X144.here hx rfl (Jvm.hb hby at_217) rfl k₀) ?_
    show Gm p e below T144 m 218 #[iv p0, iv p1, iv p2, iv p3, iv p4, iv p5, iv (4 : Int32), iv ia_111, iv ib_112, iv tt_113, rv b115, iv (1 : Int32)] [(.int p2), (.int ia_111), (.int (4 : Int32)), (.int (3 : Int32)), (.ref b115)] _
    refine own_go (fun t₀ k₀ => XS.iloadN X144.here hx rfl (Jvm.hb hby at_218) rfl k₀) ?_
    show Gm p e below T144 m 219 #[iv p0, iv p1, iv p2, iv p3, iv p4, iv p5, iv (4 : Int32), iv ia_111, iv ib_112, iv tt_113, rv b115, iv (1 : Int32)] [(.int p3), (.int p2), (.int ia_111), (.int (4 : Int32)), (.int (3 : Int32)), (.ref b115)] _
    refine own_go (fun t₀ k₀ => XS.iload X144.here hx rfl (Jvm.hb hby at_219) rfl k₀) ?_
    show Gm p e below T144 m 221 #[iv p0, iv p1, iv p2, iv p3, iv p4, iv p5, iv (4 : Int32), iv ia_111, iv ib_112, iv tt_113, rv b115, iv (1 : Int32)] [(.int ib_112), (.int p3), (.int p2), (.int ia_111), (.int (4 : Int32)), (.int (3 : Int32)), (.ref b115)] _
    refine own_go (fun t₀ k₀ => XS.iload X144.here hx rfl (Jvm.hb hby at_221) rfl k₀) ?_
    show Gm p e below T144 m 223 #[iv p0, iv p1, iv p2, iv p3, iv p4, iv p5, iv (4 : Int32), iv ia_111, iv ib_112, iv tt_113, rv b115, iv (1 : Int32)] [(.int p5), (.int ib_112), (.int p3), (.int p2), (.int ia_111), (.int (4 : Int32)), (.int (3 : Int32)), (.ref b115)] _
    refine own_go (fun t₀ k₀ => XS.iload X144.here hx rfl (Jvm.hb hby at_223) rfl k₀) ?_
    show Gm p e below T144 m 225 #[iv p0, iv p1, iv p2, iv p3, iv p4, iv p5, iv (4 : Int32), iv ia_111, iv ib_112, iv tt_113, rv b115, iv (1 : Int32)] [(.int tt_113), (.int p5), (.int ib_112), (.int p3), (.int p2), (.int ia_111), (.int (4 : Int32)), (.int (3 : Int32)), (.ref b115)] _
    obtain ⟨_, _, ⟨T145, L145, k145, n145⟩, -, X145, ⟨Lc145, hQ145, l145, y145, z145⟩, st145⟩ := Jvm.LawKit.callS X144 hx (y := (⟨"com/example/throughfare/throughfare/simulation/WalkersStartPinLaw", "slot", "(Lcom/example/throughfare/throughfare/simulation/Walkers;IIIIIIII)Z"⟩ : MethodName)) hown (mvT hZ (hw _ (List.mem_of_getElem? (i := 48) rfl))) (mvT hZ (hw _ (List.mem_of_getElem? (i := 49) rfl))) (mvT hZ (hw _ (List.mem_of_getElem? (i := 50) rfl))) (mvT hZ (hw _ (List.mem_of_getElem? (i := 51) rfl))) (by decide) (backOf (W := 0) (rm6 l Z a0 hw [] b115 (3 : Int32) (4 : Int32) ia_111 p2 p3 ib_112 p5 tt_113 floor116 startCell116 cell116 heading116 leaving116 exit116 4 (fun i => if i = ib_112.toNatClampNeg then p5 else (fun i => if i = ia_111.toNatClampNeg then p2 else (fun _ => (0 : Int32)) i) i) (fun i => if i = ib_112.toNatClampNeg then tt_113 else (fun i => if i = ia_111.toNatClampNeg then p3 else (fun _ => (0 : Int32)) i) i) (fun i => if i = ib_112.toNatClampNeg then tt_113 else (fun i => if i = ia_111.toNatClampNeg then p3 else (fun _ => (0 : Int32)) i) i) (fun _ => (0 : Int32)) (fun _ => (-1 : Int32)) (fun _ => (-1 : Int32)) T131.heap n0 Z131 f133 f134 f135 f136 f137 f138 Ac_floor131 Ac_startCell131 Ac_cell131 f139 f140 f141 (by decide) (by decide) (own_s2 (by decide) hr_ia_111.1 hr_ib_112.1) (own_s2 (by decide) hr_ia_111.1 hr_ib_112.1) (own_s2 (by decide) hr_ia_111.1 hr_ib_112.1) rfl rfl rfl) hZ (hw _ (List.mem_of_getElem? (i := 51) rfl)) (hw _ (List.mem_of_getElem? (i := 50) rfl)) (by decide) (by decide)) (g := (mkF m 225 #[iv p0, iv p1, iv p2, iv p3, iv p4, iv p5, iv (4 : Int32), iv ia_111, iv ib_112, iv tt_113, rv b115, iv (1 : Int32)] [(.int tt_113), (.int p5), (.int ib_112), (.int p3), (.int p2), (.int ia_111), (.int (4 : Int32)), (.int (3 : Int32)), (.ref b115)])) rfl (by rw [hml]; rfl) (argsL := [(.ref b115), (.int (3 : Int32)), (.int (4 : Int32)), (.int ia_111), (.int p2), (.int p3), (.int ib_112), (.int p5), (.int tt_113)]) (rest := []) (lenOf own_pd4 rfl) rfl (by show 2 * 0 + _ ≤ _; exact Nat.le_of_eq rfl) (Jvm.hb hby at_225) (fun _ _ => ⟨rfl, e144, (by decide : 12 + 0 ≤ _), (by decide : 55 + 0 ≤ _)⟩)
    dsimp only [Pt.U, Pt.locs, Pt.cells, Pt.slots] at X145 l145 y145 z145 st145 hQ145
    subst l145 y145 z145
    obtain ⟨rfl, Nq145, eq145⟩ := hQ145
    have N145 := Fr.app N144 Nq145
    have e145 : T145.heap = T131.heap := eq145
    refine own_go st145 ?_
    show Gm p e below T145 m 228 #[iv p0, iv p1, iv p2, iv p3, iv p4, iv p5, iv (4 : Int32), iv ia_111, iv ib_112, iv tt_113, rv b115, iv (1 : Int32)] [(.int (1 : Int32))] _
    refine own_go (fun t₀ k₀ => XS.ifNo X145.here hx rfl (Jvm.hb hby at_228) rfl (XT.i0_eq_f (by decide)) k₀) ?_
    show Gm p e below T145 m 231 #[iv p0, iv p1, iv p2, iv p3, iv p4, iv p5, iv (4 : Int32), iv ia_111, iv ib_112, iv tt_113, rv b115, iv (1 : Int32)] [] _
    refine own_go (fun t₀ k₀ => XS.iconst X145.here hx rfl (Jvm.hb hby at_231) k₀) ?_
    show Gm p e below T145 m 232 #[iv p0, iv p1, iv p2, iv p3, iv p4, iv p5, iv (4 : Int32), iv ia_111, iv ib_112, iv tt_113, rv b115, iv (1 : Int32)] [(.int (1 : Int32))] _
    refine own_go (fun t₀ k₀ => XS.goto X145.here hx rfl (pc0 := 232) (pc' := 236) rfl (Jvm.hb hby at_232) (by decide) (by decide) k₀) ?_
    show Gm p e below T145 m 236 #[iv p0, iv p1, iv p2, iv p3, iv p4, iv p5, iv (4 : Int32), iv ia_111, iv ib_112, iv tt_113, rv b115, iv (1 : Int32)] [(.int (1 : Int32))] _
    refine own_go (fun t₀ k₀ => XS.istore X145.here hx rfl (Jvm.hb hby at_236) rfl (l' := #[iv p0, iv p1, iv p2, iv p3, iv p4, iv p5, iv (4 : Int32), iv ia_111, iv ib_112, iv tt_113, rv b115, iv (1 : Int32)]) rfl k₀) ?_
    show Gm p e below T145 m 238 #[iv p0, iv p1, iv p2, iv p3, iv p4, iv p5, iv (4 : Int32), iv ia_111, iv ib_112, iv tt_113, rv b115, iv (1 : Int32)] [] _
    refine own_go (fun t₀ k₀ => XS.iload X145.here hx rfl (Jvm.hb hby at_238) rfl k₀) ?_
    show Gm p e below T145 m 240 #[iv p0, iv p1, iv p2, iv p3, iv p4, iv p5, iv (4 : Int32), iv ia_111, iv ib_112, iv tt_113, rv b115, iv (1 : Int32)] [(.int (1 : Int32))] _
    refine own_go (fun t₀ k₀ => XS.ifNo X145.here hx rfl (Jvm.hb hby at_240) rfl (XT.i0_eq_f (by decide)) k₀) ?_
    show Gm p e below T145 m 243 #[iv p0, iv p1, iv p2, iv p3, iv p4, iv p5, iv (4 : Int32), iv ia_111, iv ib_112, iv tt_113, rv b115, iv (1 : Int32)] [] _
    refine own_go (fun t₀ k₀ => XS.aload X145.here hx rfl (Jvm.hb hby at_243) rfl rfl k₀) ?_
    show Gm p e below T145 m 245 #[iv p0, iv p1, iv p2, iv p3, iv p4, iv p5, iv (4 : Int32), iv ia_111, iv ib_112, iv tt_113, rv b115, iv (1 : Int32)] [(.ref b115)] _
    have f147 := (f132.keep Kc131)
    obtain ⟨cq146, kq146, q146a, q146b, q146c⟩ := isOf hZ e145 f147
    obtain ⟨_, _, ⟨T146, L146, k146, n146⟩, -, X146, ⟨Lc146, hQ146, l146, y146, z146⟩, st146⟩ := X145.virtualBack hx (y := (⟨"com/example/throughfare/throughfare/simulation/Walkers", "count", "()I"⟩ : MethodName)) (z := (⟨"com/example/throughfare/throughfare/simulation/Walkers", "count", "()I"⟩ : MethodName)) hown (mvT hZ (hw _ (List.mem_of_getElem? (i := 58) rfl))) (mvT hZ (hw _ (List.mem_of_getElem? (i := 59) rfl))) (notFace_of_selects (args := #[]) (mvT hZ (hw _ (List.mem_of_getElem? (i := 61) rfl)))) (mvT hZ (hw _ (List.mem_of_getElem? (i := 61) rfl))) (mvT hZ (hw _ (List.mem_of_getElem? (i := 60) rfl))) (by decide) (backOf (W := 0) (rm7 l Z a0 hw [] b115 cell116 4 (fun i => .int (if i = ib_112.toNatClampNeg then tt_113 else (fun i => if i = ia_111.toNatClampNeg then p3 else (fun _ => (0 : Int32)) i) i)) T131.heap n0 Z131 f135 Ac_cell131) hZ (hw _ (List.mem_of_getElem? (i := 62) rfl)) (hw _ (List.mem_of_getElem? (i := 3) rfl)) (by decide) (by decide)) q146a q146c (g := (mkF m 245 #[iv p0, iv p1, iv p2, iv p3, iv p4, iv p5, iv (4 : Int32), iv ia_111, iv ib_112, iv tt_113, rv b115, iv (1 : Int32)] [(.ref b115)])) rfl (by rw [hml]; rfl) (Steps.refl _) (argsL := []) (rest := []) (lenOf own_pd5 rfl) rfl (by show 2 * 0 + _ ≤ _; exact Nat.le_of_eq rfl) (Jvm.hb hby at_245) (fun _ _ => ⟨rfl, e145, (by decide : 12 + 0 ≤ _), (by decide : 55 + 0 ≤ _)⟩)
    dsimp only [Pt.U, Pt.locs, Pt.cells, Pt.slots] at X146 l146 y146 z146 st146 hQ146
    subst l146 y146 z146
    obtain ⟨rfl, Nq146, eq146⟩ := hQ146
    have N146 := Fr.app N145 Nq146
    have e146 : T146.heap = T131.heap := eq146
    refine own_go (fun t k => st146.trans k) ?_
    show Gm p e below T146 m 248 #[iv p0, iv p1, iv p2, iv p3, iv p4, iv p5, iv (4 : Int32), iv ia_111, iv ib_112, iv tt_113, rv b115, iv (1 : Int32)] [(.int (4 : Int32))] _
    refine own_go (fun t₀ k₀ => XS.iload X146.here hx rfl (Jvm.hb hby at_248) rfl k₀) ?_
    show Gm p e below T146 m 250 #[iv p0, iv p1, iv p2, iv p3, iv p4, iv p5, iv (4 : Int32), iv ia_111, iv ib_112, iv tt_113, rv b115, iv (1 : Int32)] [(.int (4 : Int32)), (.int (4 : Int32))] _
    refine own_go (fun t₀ k₀ => XS.icmpNo X146.here hx rfl (Jvm.hb hby at_250) rfl (XT.ii_ne_f (by decide)) k₀) ?_
    show Gm p e below T146 m 253 #[iv p0, iv p1, iv p2, iv p3, iv p4, iv p5, iv (4 : Int32), iv ia_111, iv ib_112, iv tt_113, rv b115, iv (1 : Int32)] [] _
    refine own_go (fun t₀ k₀ => XS.aload X146.here hx rfl (Jvm.hb hby at_253) rfl rfl k₀) ?_
    show Gm p e below T146 m 255 #[iv p0, iv p1, iv p2, iv p3, iv p4, iv p5, iv (4 : Int32), iv ia_111, iv ib_112, iv tt_113, rv b115, iv (1 : Int32)] [(.ref b115)] _
    obtain ⟨cq148, kq148, q148a, q148b, q148c⟩ := isOf hZ e146 f147
    obtain ⟨_, _, ⟨T148, L148, k148, n148⟩, -, X148, ⟨Lc148, hQ148, l148, y148, z148⟩, st148⟩ := X146.virtualBack hx (y := (⟨"com/example/throughfare/throughfare/simulation/Walkers", "anyoneInside", "()Z"⟩ : MethodName)) (z := (⟨"com/example/throughfare/throughfare/simulation/Walkers", "anyoneInside", "()Z"⟩ : MethodName)) hown (mvT hZ (hw _ (List.mem_of_getElem? (i := 63) rfl))) (mvT hZ (hw _ (List.mem_of_getElem? (i := 64) rfl))) (notFace_of_selects (args := #[]) (mvT hZ (hw _ (List.mem_of_getElem? (i := 66) rfl)))) (mvT hZ (hw _ (List.mem_of_getElem? (i := 66) rfl))) (mvT hZ (hw _ (List.mem_of_getElem? (i := 65) rfl))) (by decide) (backOf (W := 0) (rm8 l Z a0 hw [] b115 exit116 4 (fun i => .int ((fun _ => (-1 : Int32)) i)) T131.heap n0 Z131 f138 f141 (by decide) (by decide) rfl) hZ (hw _ (List.mem_of_getElem? (i := 67) rfl)) (hw _ (List.mem_of_getElem? (i := 3) rfl)) (by decide) (by decide)) q148a q148c (g := (mkF m 255 #[iv p0, iv p1, iv p2, iv p3, iv p4, iv p5, iv (4 : Int32), iv ia_111, iv ib_112, iv tt_113, rv b115, iv (1 : Int32)] [(.ref b115)])) rfl (by rw [hml]; rfl) (Steps.refl _) (argsL := []) (rest := []) (lenOf own_pd6 rfl) rfl (by show 2 * 0 + _ ≤ _; exact Nat.le_of_eq rfl) (Jvm.hb hby at_255) (fun _ _ => ⟨rfl, e146, (by decide : 12 + 0 ≤ _), (by decide : 55 + 0 ≤ _)⟩)
    dsimp only [Pt.U, Pt.locs, Pt.cells, Pt.slots] at X148 l148 y148 z148 st148 hQ148
    subst l148 y148 z148
    obtain ⟨rfl, Nq148, eq148⟩ := hQ148
    have N148 := Fr.app N146 Nq148
    have e148 : T148.heap = T131.heap := eq148
    refine own_go (fun t k => st148.trans k) ?_
    show Gm p e below T148 m 258 #[iv p0, iv p1, iv p2, iv p3, iv p4, iv p5, iv (4 : Int32), iv ia_111, iv ib_112, iv tt_113, rv b115, iv (1 : Int32)] [(.int (1 : Int32))] _
    refine own_go (fun t₀ k₀ => XS.ifNo X148.here hx rfl (Jvm.hb hby at_258) rfl (XT.i0_eq_f (by decide)) k₀) ?_
    show Gm p e below T148 m 261 #[iv p0, iv p1, iv p2, iv p3, iv p4, iv p5, iv (4 : Int32), iv ia_111, iv ib_112, iv tt_113, rv b115, iv (1 : Int32)] [] _
    refine own_go (fun t₀ k₀ => XS.iconst X148.here hx rfl (Jvm.hb hby at_261) k₀) ?_
    show Gm p e below T148 m 262 #[iv p0, iv p1, iv p2, iv p3, iv p4, iv p5, iv (4 : Int32), iv ia_111, iv ib_112, iv tt_113, rv b115, iv (1 : Int32)] [(.int (1 : Int32))] _
    refine own_go (fun t₀ k₀ => XS.goto X148.here hx rfl (pc0 := 262) (pc' := 266) rfl (Jvm.hb hby at_262) (by decide) (by decide) k₀) ?_
    show Gm p e below T148 m 266 #[iv p0, iv p1, iv p2, iv p3, iv p4, iv p5, iv (4 : Int32), iv ia_111, iv ib_112, iv tt_113, rv b115, iv (1 : Int32)] [(.int (1 : Int32))] _
    refine own_go (fun t₀ k₀ => XS.istore X148.here hx rfl (Jvm.hb hby at_266) rfl (l' := #[iv p0, iv p1, iv p2, iv p3, iv p4, iv p5, iv (4 : Int32), iv ia_111, iv ib_112, iv tt_113, rv b115, iv (1 : Int32)]) rfl k₀) ?_
    show Gm p e below T148 m 268 #[iv p0, iv p1, iv p2, iv p3, iv p4, iv p5, iv (4 : Int32), iv ia_111, iv ib_112, iv tt_113, rv b115, iv (1 : Int32)] [] _
    refine own_go (fun t₀ k₀ => XS.iload X148.here hx rfl (Jvm.hb hby at_268) rfl k₀) ?_
    show Gm p e below T148 m 270 #[iv p0, iv p1, iv p2, iv p3, iv p4, iv p5, iv (4 : Int32), iv ia_111, iv ib_112, iv tt_113, rv b115, iv (1 : Int32)] [(.int (1 : Int32))] _
    exact own_retI X148 hx hlk (t := .boolean) Bd.returns rfl (by simp) (Jvm.hb hby at_270) e148 ⟨rfl, N148⟩ (by decide) (by decide)
set_option maxRecDepth 65536 in
set_option maxHeartbeats 40000000 in
theorem comes_1 {Post : Tables → Env → Array Value → State → Outcome → State → Prop} (hpost : ∀ tb e args s v u, (limb_1_1.after args s (.returned v) u = true ∧ limb_1_2.after args s (.returned v) u = true ∧ True) → FrameEnd s (.returned v) u (Jvm.fieldLocs frame_1_writes args s ++ Jvm.arrayLocs frame_1_arrays args s ++ Jvm.staticLocs frame_1_statics s) 32 192 → Post tb e args s (.returned v) u) :
    ArmFor flags0 classFile x code maxLocals ret World_1 tables_1 room_1 Calls_1 rest_1 Pre_1 Post := by
  intro l hfl _ _ p e ha hc hk s m args below hf hA hF happ hP
  obtain ⟨hcalls, hrest, hpre⟩ := hP
  obtain ⟨-, -, -, hnamed, -, -, -, hat⟩ := (Spec.applies_iff hf).mp happ
  obtain ⟨hg, hn⟩ := and_e (Cond.before_iff.mp (show (Jvm.Cond.and given_1 narrow_1).before args s = true from hpre))
  obtain ⟨g1, g2⟩ := and_e hg
  obtain ⟨g3, g4⟩ := and_e g2
  obtain ⟨g5, g6⟩ := and_e g4
  obtain ⟨g7, g8⟩ := and_e g6
  obtain ⟨g9, g10⟩ := and_e g8
  obtain ⟨g11, g12⟩ := and_e g10
  obtain ⟨w0, w1, w2, w3, w4, w5, rfl⟩ : ∃ w0 w1 w2 w3 w4 w5 : Value, args = #[w0, w1, w2, w3, w4, w5] := by
    have hs : args.size = 6 := by simpa [Cond.value, given_1] using g1
    obtain ⟨L⟩ := args
    match L, hs with
    | [w0, w1, w2, w3, w4, w5], _ => exact ⟨w0, w1, w2, w3, w4, w5, rfl⟩
  have hw := fun d (hd : d ∈ tables_1) => atoms_spec (ws := Jvm.Cond.code x code maxLocals ret :: tables_1) hat d (List.mem_cons_of_mem _ hd)
  have hfit : Fit s := fun {y c} hc i hi => by
    obtain ⟨ha, rfl⟩ := Array.getElem?_eq_some_iff.mp hc
    have q := List.all_eq_true.mp ((Array.all_eq_true_iff_forall_mem.mp hF) _ (Array.getElem_mem ha)) i (List.mem_range.mpr hi)
    simpa [Array.getElem?_eq_getElem hi] using q
  obtain ⟨i0, ei0⟩ := is_v g3
  obtain rfl : w0 = (.int i0) := Option.some.inj ei0
  obtain ⟨i1, ei1⟩ := is_v g5
  obtain rfl : w1 = (.int i1) := Option.some.inj ei1
  obtain ⟨i2, ei2⟩ := is_v g7
  obtain rfl : w2 = (.int i2) := Option.some.inj ei2
  obtain ⟨i3, ei3⟩ := is_v g9
  obtain rfl : w3 = (.int i3) := Option.some.inj ei3
  obtain ⟨i4, ei4⟩ := is_v g11
  obtain rfl : w4 = (.int i4) := Option.some.inj ei4
  obtain ⟨i5, ei5⟩ := is_v g12
  obtain rfl : w5 = (.int i5) := Option.some.inj ei5
  obtain ⟨n, o, h1, h2, h3, _, L, rfl, ⟨rfl, N⟩, hq⟩ := rm0 l s _ hw tables_1 i0 i1 i2 i3 i4 i5  s.heap s.heap.size (Nat.le_refl _)  p e ha hc hk s m _ below hf ((Spec.applies_iff_loose hf).mp happ).1 ⟨rfl, State.Warmed39.refl s, rfl⟩ trivial
  refine ⟨n, _, h1, h2, h3, hpost _ _ _ _ _ _ ⟨Cond.after_iff.mpr rfl, Cond.after_iff.mpr (eq_i res_at (Term.int_eval (1)) rfl), trivial⟩ ⟨hq.1, hq.2.1, (hq.2.2.sift fun y hy => Or.inr (N y hy)).mono (by decide) (by decide)⟩⟩
theorem main_1_1 : Claimed_1_1 := comes_1 fun _ _ _ _ _ _ h hF => ⟨h.1, hF⟩
theorem main_1_2 : Claimed_1_2 := comes_1 fun _ _ _ _ _ _ h hF => ⟨h.2.1, hF⟩
end Jvm.Pilot.@@N@@
namespace Jvm.Pilot.@@N@@
open Jvm Jvm.ClassFile Sem Op Lib Jvm.Free Jvm.Stand Jvm.Pilot.@@N@@.Jvm.D
/-! MADE BY PROGRAM (witnessworld.py) out of the Statement's table words and the real class files: 12 classes; the members and pool entries that the words name. The judged class is class 1, her method 1. -/
namespace start1
open Jvm.ClassFile
def u (s : String) : CpInfo := .utf8 (stringToUtf16 s)
/-- a pool by its gaps: so many unusable entries, then the entry; so many at the end -/
def gap : Nat → List CpInfo → List CpInfo
  | 0, r => r
  | n + 1, r => .unusable :: gap n r
def poolList (es : List (Nat × CpInfo)) (last : Nat) : List CpInfo := es.foldr (fun e r => gap e.1 (e.2 :: r)) (gap last [])
def pool (es : List (Nat × CpInfo)) (last : Nat) : Array CpInfo := ⟨poolList es last⟩
def fileOf (pool : Array CpInfo) (this : Nat) (attrs : Array Attribute := #[]) (ms : Array MethodInfo := #[]) (fl : Nat := 33) (sup : Nat := 0) (ifs : Array Nat := #[]) (fds : Array FieldInfo := #[]) : ClassFile where
  minorVersion := 0
  majorVersion := 65
  constantPool := pool
  accessFlags := fl
  thisClass := this
  superClass := sup
  interfaces := ifs
  fields := fds
  methods := ms
  attributes := attrs
def plain (name : String) (sup : Option ClassId) : Class where
  name := name
  kind := .ordinary
  loader := none
  accessFlags := 33
  super := sup
  interfaces := #[]
  cf := none
  fields := #[]
  methods := #[]
  instanceTypes := #[]
  staticTypes := #[]
  resolved := #[]
  callSites := []
  init := .initialized
  statics := none
  mirror := none

def pool0 : Array CpInfo := pool [(5, u "<init>"), (0, u "()V"), (1, .class_ 10), (1, u "java/lang/Object")] 113

def k0c0 : Code := { maxStack := 0, maxLocals := 1, code := object_method_1_code, exceptionTable := #[], attributes := #[] }
def k0m0 : Method := { name := "<init>", desc := "()V", sig := { parameters := [], returnType := none }, accessFlags := 1, code := some k0c0 }
/-- java/lang/Object -/
def k0 : Class := { plain "java/lang/Object" none with
  accessFlags := 33
  interfaces := #[]
  cf := some (fileOf pool0 8 #[] #[{ accessFlags := 1, nameIndex := 5, descriptorIndex := 6, attributes := #[] }] 33 0 #[] #[])
  fields := #[]
  methods := #[k0m0]
  instanceTypes := #[]
  staticTypes := #[]
  resolved := Array.replicate 124 none
  statics := none }

def pool1 : Array CpInfo := pool [(2, .class_ 4), (1, u "java/lang/Object"), (0, u "<init>"), (0, u "()V"), (0, .integer 2147483647), (0, .class_ 9), (0, u "com/example/throughfare/throughfare/simulation/Walkers"), (0, .methodref 8 11), (0, .nameAndType 5 12), (0, u "(I)V"), (0, .methodref 8 14), (0, .nameAndType 15 16), (0, u "start"), (0, u "(III)V"), (0, .methodref 18 19), (0, .class_ 20), (0, .nameAndType 21 22), (0, u "com/example/throughfare/throughfare/simulation/WalkersStartPinLaw"), (0, u "slot"), (0, u "(Lcom/example/throughfare/throughfare/simulation/Walkers;IIIIIIII)Z"), (0, .methodref 8 24), (0, .nameAndType 25 26), (0, u "count"), (0, u "()I"), (0, .methodref 8 28), (0, .nameAndType 29 30), (0, u "anyoneInside"), (0, u "()Z"), (0, .fieldref 8 32), (0, .nameAndType 33 34), (0, u "floor"), (0, u "[I"), (0, .fieldref 8 36), (0, .nameAndType 37 34), (0, u "startCell"), (0, .fieldref 8 39), (0, .nameAndType 40 34), (0, u "cell"), (0, .fieldref 8 42), (0, .nameAndType 43 34), (0, u "heading"), (0, .fieldref 8 45), (0, .nameAndType 46 34), (0, u "leaving"), (0, .fieldref 8 48), (0, .nameAndType 49 34), (0, u "exit"), (2, u "law"), (0, u "(IIIIII)Z")] 3

def k1m0 : Method := { name := "<init>", desc := "()V", sig := { parameters := [], returnType := none }, accessFlags := 1, code := none }
def k1c1 : Code := { maxStack := 9, maxLocals := 12, code := code, exceptionTable := #[], attributes := #[] }
def k1m1 : Method := { name := "law", desc := "(IIIIII)Z", sig := { parameters := [.int, .int, .int, .int, .int, .int], returnType := some .boolean }, accessFlags := 9, code := some k1c1 }
def k1c2 : Code := { maxStack := 2, maxLocals := 11, code := method_3_code, exceptionTable := #[], attributes := #[] }
def k1m2 : Method := { name := "slot", desc := "(Lcom/example/throughfare/throughfare/simulation/Walkers;IIIIIIII)Z", sig := { parameters := [(.object "com/example/throughfare/throughfare/simulation/Walkers"), .int, .int, .int, .int, .int, .int, .int, .int], returnType := some .boolean }, accessFlags := 10, code := some k1c2 }
/-- com/example/throughfare/throughfare/simulation/WalkersStartPinLaw -/
def k1 : Class := { plain "com/example/throughfare/throughfare/simulation/WalkersStartPinLaw" (some 0) with
  accessFlags := 49
  interfaces := #[]
  cf := some (fileOf pool1 18 #[] #[{ accessFlags := 1, nameIndex := 5, descriptorIndex := 6, attributes := #[] }, { accessFlags := 9, nameIndex := 52, descriptorIndex := 53, attributes := #[] }, { accessFlags := 10, nameIndex := 21, descriptorIndex := 22, attributes := #[] }] 49 2 #[] #[])
  fields := #[]
  methods := #[k1m0, k1m1, k1m2]
  instanceTypes := #[]
  staticTypes := #[]
  resolved := Array.replicate 57 none
  statics := none }

def pool2 : Array CpInfo := pool [(1, .methodref 2 3), (0, .class_ 4), (0, .nameAndType 5 6), (0, u "java/lang/Object"), (0, u "<init>"), (0, u "()V"), (0, .fieldref 8 9), (0, .class_ 10), (0, .nameAndType 11 12), (0, u "com/example/throughfare/throughfare/simulation/Walkers"), (0, u "floor"), (0, u "[I"), (0, .fieldref 8 14), (0, .nameAndType 15 12), (0, u "startCell"), (0, .fieldref 8 17), (0, .nameAndType 18 12), (0, u "cell"), (0, .fieldref 8 20), (0, .nameAndType 21 22), (0, u "speedMps"), (0, u "[D"), (0, .fieldref 8 24), (0, .nameAndType 25 22), (0, u "reactionS"), (0, .fieldref 8 27), (0, .nameAndType 28 12), (0, u "heading"), (0, .fieldref 8 30), (0, .nameAndType 31 22), (0, u "heldUpS"), (2, .double 18442240474082181120), (1, .methodref 37 38), (0, .class_ 39), (0, .nameAndType 40 41), (0, u "java/util/Arrays"), (0, u "fill"), (0, u "([DD)V"), (0, .fieldref 8 43), (0, .nameAndType 44 22), (0, u "exitTimeS"), (0, .double 9218868437227405312), (1, .fieldref 8 48), (0, .nameAndType 49 12), (0, u "leaving"), (0, .methodref 37 51), (0, .nameAndType 40 52), (0, u "([II)V"), (0, .fieldref 8 54), (0, .nameAndType 55 12), (0, u "exit"), (0, .fieldref 8 57), (0, .nameAndType 58 22), (0, u "distanceM"), (2, u "count"), (0, u "()I"), (0, u "(I)V"), (2, u "anyoneInside"), (0, u "()Z"), (3, u "start"), (0, u "(III)V")] 2

def k2c0 : Code := { maxStack := 3, maxLocals := 2, code := prog_63_method_1_code, exceptionTable := #[], attributes := #[] }
def k2m0 : Method := { name := "<init>", desc := "(I)V", sig := { parameters := [.int], returnType := none }, accessFlags := 0, code := some k2c0 }
def k2c1 : Code := { maxStack := 1, maxLocals := 1, code := prog_63_method_2_code, exceptionTable := #[], attributes := #[] }
def k2m1 : Method := { name := "count", desc := "()I", sig := { parameters := [], returnType := some .int }, accessFlags := 0, code := some k2c1 }
def k2c2 : Code := { maxStack := 2, maxLocals := 5, code := prog_63_method_3_code, exceptionTable := #[], attributes := #[] }
def k2m2 : Method := { name := "anyoneInside", desc := "()Z", sig := { parameters := [], returnType := some .boolean }, accessFlags := 0, code := some k2c2 }
def k2c3 : Code := { maxStack := 3, maxLocals := 4, code := prog_63_method_5_code, exceptionTable := #[], attributes := #[] }
def k2m3 : Method := { name := "start", desc := "(III)V", sig := { parameters := [.int, .int, .int], returnType := none }, accessFlags := 0, code := some k2c3 }
/-- com/example/throughfare/throughfare/simulation/Walkers -/
def k2 : Class := { plain "com/example/throughfare/throughfare/simulation/Walkers" (some 0) with
  accessFlags := 32
  interfaces := #[]
  cf := some (fileOf pool2 8 #[] #[{ accessFlags := 0, nameIndex := 5, descriptorIndex := 63, attributes := #[] }, { accessFlags := 0, nameIndex := 61, descriptorIndex := 62, attributes := #[] }, { accessFlags := 0, nameIndex := 66, descriptorIndex := 67, attributes := #[] }, { accessFlags := 0, nameIndex := 71, descriptorIndex := 72, attributes := #[] }] 32 2 #[] #[{ accessFlags := 16, nameIndex := 11, descriptorIndex := 12, attributes := #[] }, { accessFlags := 16, nameIndex := 15, descriptorIndex := 12, attributes := #[] }, { accessFlags := 16, nameIndex := 18, descriptorIndex := 12, attributes := #[] }, { accessFlags := 16, nameIndex := 21, descriptorIndex := 22, attributes := #[] }, { accessFlags := 16, nameIndex := 25, descriptorIndex := 22, attributes := #[] }, { accessFlags := 16, nameIndex := 28, descriptorIndex := 12, attributes := #[] }, { accessFlags := 16, nameIndex := 31, descriptorIndex := 22, attributes := #[] }, { accessFlags := 16, nameIndex := 44, descriptorIndex := 22, attributes := #[] }, { accessFlags := 16, nameIndex := 49, descriptorIndex := 12, attributes := #[] }, { accessFlags := 16, nameIndex := 55, descriptorIndex := 12, attributes := #[] }, { accessFlags := 16, nameIndex := 58, descriptorIndex := 22, attributes := #[] }])
  fields := #[{ name := "floor", type := (.array .int), accessFlags := 16, slot := 0, constantValue := 0 }, { name := "startCell", type := (.array .int), accessFlags := 16, slot := 1, constantValue := 0 }, { name := "cell", type := (.array .int), accessFlags := 16, slot := 2, constantValue := 0 }, { name := "speedMps", type := (.array .double), accessFlags := 16, slot := 3, constantValue := 0 }, { name := "reactionS", type := (.array .double), accessFlags := 16, slot := 4, constantValue := 0 }, { name := "heading", type := (.array .int), accessFlags := 16, slot := 5, constantValue := 0 }, { name := "heldUpS", type := (.array .double), accessFlags := 16, slot := 6, constantValue := 0 }, { name := "exitTimeS", type := (.array .double), accessFlags := 16, slot := 7, constantValue := 0 }, { name := "leaving", type := (.array .int), accessFlags := 16, slot := 8, constantValue := 0 }, { name := "exit", type := (.array .int), accessFlags := 16, slot := 9, constantValue := 0 }, { name := "distanceM", type := (.array .double), accessFlags := 16, slot := 10, constantValue := 0 }]
  methods := #[k2m0, k2m1, k2m2, k2m3]
  instanceTypes := #[(.array .int), (.array .int), (.array .int), (.array .double), (.array .double), (.array .int), (.array .double), (.array .double), (.array .int), (.array .int), (.array .double)]
  staticTypes := #[]
  resolved := Array.replicate 75 none
  statics := none }

def pool3 : Array CpInfo := pool [(2, .class_ 4), (1, u "java/lang/Object"), (0, u "<init>"), (0, u "()V"), (7, .class_ 16), (1, u "java/util/Arrays"), (57, .class_ 76), (1, u "java/util/Arrays$NaturalOrder"), (36, .class_ 115), (1, u "java/util/Arrays$LegacyMergeSort"), (1, u "Z"), (257, .class_ 376), (0, u "java/util/Arrays$ArrayList"), (68, u "$assertionsDisabled"), (269, u "MIN_ARRAY_SORT_GRAN"), (0, u "I"), (2, u "INSERTIONSORT_THRESHOLD"), (120, u "fill"), (4, u "([II)V"), (8, u "([DD)V"), (120, .class_ 976), (0, u "java/util/Arrays$ArrayItr")] 52

def k3m0 : Method := { name := "<init>", desc := "()V", sig := { parameters := [], returnType := none }, accessFlags := 2, code := none }
def k3c1 : Code := { maxStack := 3, maxLocals := 4, code := jdk_65_method_103_code, exceptionTable := #[], attributes := #[] }
def k3m1 : Method := { name := "fill", desc := "([II)V", sig := { parameters := [(.array .int), .int], returnType := none }, accessFlags := 9, code := some k3c1 }
def k3c2 : Code := { maxStack := 4, maxLocals := 5, code := jdk_65_method_113_code, exceptionTable := #[], attributes := #[] }
def k3m2 : Method := { name := "fill", desc := "([DD)V", sig := { parameters := [(.array .double), .double], returnType := none }, accessFlags := 9, code := some k3c2 }
/-- java/util/Arrays -/
def k3 : Class := { plain "java/util/Arrays" (some 0) with
  accessFlags := 49
  interfaces := #[]
  cf := some (fileOf pool3 14 #[.nestMembers #[975, 375, 113, 74]] #[{ accessFlags := 2, nameIndex := 5, descriptorIndex := 6, attributes := #[] }, { accessFlags := 9, nameIndex := 840, descriptorIndex := 845, attributes := #[] }, { accessFlags := 9, nameIndex := 840, descriptorIndex := 854, attributes := #[] }] 49 2 #[] #[{ accessFlags := 26, nameIndex := 715, descriptorIndex := 716, attributes := #[] }, { accessFlags := 26, nameIndex := 719, descriptorIndex := 716, attributes := #[] }, { accessFlags := 4120, nameIndex := 445, descriptorIndex := 117, attributes := #[] }])
  fields := #[{ name := "MIN_ARRAY_SORT_GRAN", type := .int, accessFlags := 26, slot := 0, constantValue := 0 }, { name := "INSERTIONSORT_THRESHOLD", type := .int, accessFlags := 26, slot := 1, constantValue := 0 }, { name := "$assertionsDisabled", type := .boolean, accessFlags := 4120, slot := 2, constantValue := 0 }]
  methods := #[k3m0, k3m1, k3m2]
  instanceTypes := #[]
  staticTypes := #[.int, .int, .boolean]
  resolved := Array.replicate 1029 none
  statics := none }

def pool4 : Array CpInfo := pool [(1, u "java/lang/Cloneable"), (0, .class_ 1), (0, u "java/lang/Object"), (0, .class_ 3)] 3

/-- java/lang/Cloneable -/
def k4 : Class := { plain "java/lang/Cloneable" (some 0) with
  accessFlags := 1537
  interfaces := #[]
  cf := some (fileOf pool4 2 #[] #[] 1537 4 #[] #[])
  fields := #[]
  methods := #[]
  instanceTypes := #[]
  staticTypes := #[]
  resolved := Array.replicate 8 none
  statics := none }

def pool5 : Array CpInfo := pool [(1, u "java/io/Serializable"), (0, .class_ 1), (0, u "java/lang/Object"), (0, .class_ 3)] 3

/-- java/io/Serializable -/
def k5 : Class := { plain "java/io/Serializable" (some 0) with
  accessFlags := 1537
  interfaces := #[]
  cf := some (fileOf pool5 2 #[] #[] 1537 4 #[] #[])
  fields := #[]
  methods := #[]
  instanceTypes := #[]
  staticTypes := #[]
  resolved := Array.replicate 8 none
  statics := none }

/-- the primitive byte -/
def k6 : Class := { plain "byte" none with kind := .primitive 'B', accessFlags := 0x411 }
/-- [B -/
def k7 : Class := { plain "[B" (some 0) with kind := .array 6 .byte, interfaces := #[4, 5], accessFlags := 1041 }

/-- the primitive double -/
def k8 : Class := { plain "double" none with kind := .primitive 'D', accessFlags := 0x411 }
/-- [D -/
def k9 : Class := { plain "[D" (some 0) with kind := .array 8 .double, interfaces := #[4, 5], accessFlags := 1041 }

/-- the primitive int -/
def k10 : Class := { plain "int" none with kind := .primitive 'I', accessFlags := 0x411 }
/-- [I -/
def k11 : Class := { plain "[I" (some 0) with kind := .array 10 .int, interfaces := #[4, 5], accessFlags := 1041 }

def heap : Heap := #[]
def classes : Array Class := #[k0, k1, k2, k3, k4, k5, k6, k7, k8, k9, k10, k11]
def interned : List (Array UInt16 × Addr) := []
def slotsUsed : Nat := 0
def theMethod : MethodId := ⟨1, 1⟩
def args0 : Array Value := #[.int 3, .int 5, .int 1, .int (-2), .int 7, .int 9]
def aboutOver (below : List Frame) : State where
  vm := { classes := classes, interned := interned.toArray }
  heap := heap
  slotsUsed := slotsUsed
  threads := #[{ frames := .invoking theMethod args0 :: below }]
def below0 : List Frame := [.native { method := ⟨0, 0⟩, args := #[] }]
def about1 : State := aboutOver below0
def p0 : Program := .bare "" "" ""
def e0 : Env := launch0.env 0 0 0
theorem w_frames : about1.frames = Frame.invoking theMethod args0 :: below0 := rfl
set_option maxRecDepth 65536 in
theorem w_args : argsFit about1.vm theMethod args0 = true := by decide +kernel
set_option maxRecDepth 65536 in
theorem w_heap : heapFits about1 = true := by decide +kernel
set_option maxRecDepth 65536 in
theorem w_runnable : about1.curStatus? = some .runnable := by decide +kernel
set_option maxRecDepth 65536 in
theorem w_alone : about1.alone = true := by decide +kernel
set_option maxRecDepth 65536 in
theorem w_named : about1.methodNamed? x = some theMethod := by decide +kernel
set_option maxRecDepth 65536 in
theorem w_hears : about1.hears theMethod below0 = true := by decide +kernel
set_option maxRecDepth 65536 in
theorem w_ripe : about1.ripe theMethod args0 below0 = true := by decide +kernel
theorem w_running : about1.status = .running := rfl
set_option maxRecDepth 65536 in
theorem w_room : about1.hasRoom e0.platform room_1 = true :=
  launch0.hasRoom_least _ room_1 (by decide +kernel) (by decide +kernel) (by decide +kernel) (by decide +kernel) (by decide +kernel) (by decide +kernel)
theorem allAtoms_all (ts : List Jvm.Cond) (a : Array Jvm.Value) (st : Jvm.State) : (allAtoms ts).before a st = ts.all (fun c => c.before a st) := by
  induction ts with
  | nil => rfl
  | cons c t ih =>
    show (Jvm.Cond.and c (allAtoms t)).before a st = _
    rw [Jvm.Cond.before_and, ih, List.all_cons]
def words1 : List Jvm.Cond := Jvm.Cond.code x code maxLocals ret :: tables_1
/-- a 'code' word, met by the world's own term for the bytes: nothing is compared byte by byte -/
theorem code_word {y : MethodName} {bytes : ByteArray} {mx : Nat} {rt : Option FieldType} {a : Array Value} {s : State} {m : MethodId} {meth : Method} {c : Code} (h1 : s.methodNamed? y = some m) (h2 : s.vm.method? m = some meth) (h3 : meth.code = some c) (h4 : c.code = bytes)
    (h5 : (c.maxLocals == mx && c.exceptionTable.isEmpty && decide (c.maxStack ≤ mostOperands) && decide (meth.sig.returnType = rt) && !meth.locks && decide (parseMethodDescriptor y.desc = some meth.sig)) = true) : (Jvm.Cond.code y bytes mx rt).before a s = true := by
  simp only [Bool.and_eq_true, beq_iff_eq, Bool.not_eq_true', decide_eq_true_eq] at h5
  obtain ⟨⟨⟨⟨⟨g1, g2⟩, g3⟩, g4⟩, g5⟩, g6⟩ := h5
  simp [Cond.before, Cond.holds, Cond.value, h1, h2, h3, h4, g1, g2, g3, g4, g5, g6]
def isCode : Jvm.Cond → Bool
  | .code _ _ _ _ => true
  | _ => false
theorem all_split {L : List Jvm.Cond} {P : Jvm.Cond → Bool} (h1 : L.all (fun c => isCode c || P c) = true) (h2 : ∀ c ∈ L.filter isCode, P c = true) : L.all P = true := by
  refine List.all_eq_true.mpr fun c hc => ?_
  have h := List.all_eq_true.mp h1 c hc
  rcases Bool.eq_false_or_eq_true (isCode c) with hi | hi
  · exact h2 c (List.mem_filter.mpr ⟨hc, hi⟩)
  · simpa [hi] using h
set_option maxRecDepth 65536 in
theorem w_c0 : (Jvm.Cond.code x code maxLocals ret).before args0 about1 = true := code_word (m := ⟨1, 1⟩) (meth := k1m1) (c := k1c1) (by decide +kernel) rfl rfl rfl (by decide +kernel)
set_option maxRecDepth 65536 in
theorem w_c1 : (Jvm.Cond.code ({ cls := "com/example/throughfare/throughfare/simulation/Walkers", name := "<init>", desc := "(I)V" } : Jvm.MethodName) prog_63_method_1_code (2 : Nat) (Option.none : Option Jvm.ClassFile.FieldType)).before args0 about1 = true := code_word (m := ⟨2, 0⟩) (meth := k2m0) (c := k2c0) (by decide +kernel) rfl rfl rfl (by decide +kernel)
set_option maxRecDepth 65536 in
theorem w_c2 : (Jvm.Cond.code ({ cls := "java/lang/Object", name := "<init>", desc := "()V" } : Jvm.MethodName) object_method_1_code (1 : Nat) (Option.none : Option Jvm.ClassFile.FieldType)).before args0 about1 = true := code_word (m := ⟨0, 0⟩) (meth := k0m0) (c := k0c0) (by decide +kernel) rfl rfl rfl (by decide +kernel)
set_option maxRecDepth 65536 in
theorem w_c3 : (Jvm.Cond.code ({ cls := "java/util/Arrays", name := "fill", desc := "([DD)V" } : Jvm.MethodName) jdk_65_method_113_code (5 : Nat) (Option.none : Option Jvm.ClassFile.FieldType)).before args0 about1 = true := code_word (m := ⟨3, 2⟩) (meth := k3m2) (c := k3c2) (by decide +kernel) rfl rfl rfl (by decide +kernel)
set_option maxRecDepth 65536 in
theorem w_c4 : (Jvm.Cond.code ({ cls := "java/util/Arrays", name := "fill", desc := "([II)V" } : Jvm.MethodName) jdk_65_method_103_code (4 : Nat) (Option.none : Option Jvm.ClassFile.FieldType)).before args0 about1 = true := code_word (m := ⟨3, 1⟩) (meth := k3m1) (c := k3c1) (by decide +kernel) rfl rfl rfl (by decide +kernel)
set_option maxRecDepth 65536 in
theorem w_c5 : (Jvm.Cond.code ({ cls := "com/example/throughfare/throughfare/simulation/Walkers", name := "start", desc := "(III)V" } : Jvm.MethodName) prog_63_method_5_code (4 : Nat) (Option.none : Option Jvm.ClassFile.FieldType)).before args0 about1 = true := code_word (m := ⟨2, 3⟩) (meth := k2m3) (c := k2c3) (by decide +kernel) rfl rfl rfl (by decide +kernel)
set_option maxRecDepth 65536 in
theorem w_c6 : (Jvm.Cond.code ({ cls := "com/example/throughfare/throughfare/simulation/WalkersStartPinLaw", name := "slot", desc := "(Lcom/example/throughfare/throughfare/simulation/Walkers;IIIIIIII)Z" } : Jvm.MethodName) method_3_code (11 : Nat) (Option.some Jvm.ClassFile.FieldType.boolean)).before args0 about1 = true := code_word (m := ⟨1, 2⟩) (meth := k1m2) (c := k1c2) (by decide +kernel) rfl rfl rfl (by decide +kernel)
set_option maxRecDepth 65536 in
theorem w_c7 : (Jvm.Cond.code ({ cls := "com/example/throughfare/throughfare/simulation/Walkers", name := "count", desc := "()I" } : Jvm.MethodName) prog_63_method_2_code (1 : Nat) (Option.some Jvm.ClassFile.FieldType.int)).before args0 about1 = true := code_word (m := ⟨2, 1⟩) (meth := k2m1) (c := k2c1) (by decide +kernel) rfl rfl rfl (by decide +kernel)
set_option maxRecDepth 65536 in
theorem w_c8 : (Jvm.Cond.code ({ cls := "com/example/throughfare/throughfare/simulation/Walkers", name := "anyoneInside", desc := "()Z" } : Jvm.MethodName) prog_63_method_3_code (5 : Nat) (Option.some Jvm.ClassFile.FieldType.boolean)).before args0 about1 = true := code_word (m := ⟨2, 2⟩) (meth := k2m2) (c := k2c2) (by decide +kernel) rfl rfl rfl (by decide +kernel)
def codes1 : List Jvm.Cond := [Jvm.Cond.code x code maxLocals ret, Jvm.Cond.code ({ cls := "com/example/throughfare/throughfare/simulation/Walkers", name := "<init>", desc := "(I)V" } : Jvm.MethodName) prog_63_method_1_code (2 : Nat) (Option.none : Option Jvm.ClassFile.FieldType), Jvm.Cond.code ({ cls := "java/lang/Object", name := "<init>", desc := "()V" } : Jvm.MethodName) object_method_1_code (1 : Nat) (Option.none : Option Jvm.ClassFile.FieldType), Jvm.Cond.code ({ cls := "java/util/Arrays", name := "fill", desc := "([DD)V" } : Jvm.MethodName) jdk_65_method_113_code (5 : Nat) (Option.none : Option Jvm.ClassFile.FieldType), Jvm.Cond.code ({ cls := "java/util/Arrays", name := "fill", desc := "([II)V" } : Jvm.MethodName) jdk_65_method_103_code (4 : Nat) (Option.none : Option Jvm.ClassFile.FieldType), Jvm.Cond.code ({ cls := "com/example/throughfare/throughfare/simulation/Walkers", name := "start", desc := "(III)V" } : Jvm.MethodName) prog_63_method_5_code (4 : Nat) (Option.none : Option Jvm.ClassFile.FieldType), Jvm.Cond.code ({ cls := "com/example/throughfare/throughfare/simulation/WalkersStartPinLaw", name := "slot", desc := "(Lcom/example/throughfare/throughfare/simulation/Walkers;IIIIIIII)Z" } : Jvm.MethodName) method_3_code (11 : Nat) (Option.some Jvm.ClassFile.FieldType.boolean), Jvm.Cond.code ({ cls := "com/example/throughfare/throughfare/simulation/Walkers", name := "count", desc := "()I" } : Jvm.MethodName) prog_63_method_2_code (1 : Nat) (Option.some Jvm.ClassFile.FieldType.int), Jvm.Cond.code ({ cls := "com/example/throughfare/throughfare/simulation/Walkers", name := "anyoneInside", desc := "()Z" } : Jvm.MethodName) prog_63_method_3_code (5 : Nat) (Option.some Jvm.ClassFile.FieldType.boolean)]
set_option maxRecDepth 65536 in
theorem codes_eq : words1.filter isCode = codes1 := rfl
theorem w_codes : ∀ c ∈ words1.filter isCode, c.before args0 about1 = true := by
  rw [codes_eq]
  intro c hc
  simp only [codes1, List.mem_cons, List.not_mem_nil, or_false] at hc
  rcases hc with rfl | rfl | rfl | rfl | rfl | rfl | rfl | rfl | rfl
  · exact w_c0
  · exact w_c1
  · exact w_c2
  · exact w_c3
  · exact w_c4
  · exact w_c5
  · exact w_c6
  · exact w_c7
  · exact w_c8
set_option maxRecDepth 65536 in
theorem w_t1 : (words1.take 24).all (fun c => isCode c || c.before args0 about1) = true := by decide +kernel
set_option maxRecDepth 65536 in
theorem w_t2 : ((words1.drop 24).take 24).all (fun c => isCode c || c.before args0 about1) = true := by decide +kernel
set_option maxRecDepth 65536 in
theorem w_t3 : ((words1.drop 24).drop 24).all (fun c => isCode c || c.before args0 about1) = true := by decide +kernel
theorem w_tables : (allAtoms (Jvm.Cond.code x code maxLocals ret :: tables_1)).before args0 about1 = true := by
  rw [allAtoms_all]
  show words1.all (fun c => c.before args0 about1) = true
  refine all_split ?_ w_codes
  rw [← List.take_append_drop 24 words1, List.all_append, w_t1, ← List.take_append_drop 24 (words1.drop 24), List.all_append, w_t2, w_t3]
  rfl
set_option maxRecDepth 65536 in
theorem w_case : (Jvm.Cond.and given_1 narrow_1).before args0 about1 = true := by decide +kernel
theorem w_applies : (headSpec (Jvm.Cond.code x code maxLocals ret :: tables_1) room_1).applies x e0.platform about1 = true :=
  (Spec.applies_iff w_frames).mpr ⟨w_running, w_runnable, w_alone, w_named, w_hears, w_ripe, w_room, w_tables⟩
theorem atStart : AtStart classFile x code maxLocals ret World_1 tables_1 room_1 Calls_1 rest_1 Pre_1 launch0 p0 e0 about1 theMethod args0 below0 :=
  ⟨lists_1, trivial, launch0.admits_env _ _ _, launch0.least_env, fairChoices_fair.cas, fairChoices_fair.clock, w_frames, w_args, w_heap, w_applies, trivial, trivial, w_case⟩
end start1
theorem witness_1 : WitnessClaimed_1 := ⟨start1.p0, start1.e0, start1.about1, start1.theMethod, start1.args0, start1.below0, start1.atStart⟩
end Jvm.Pilot.@@N@@
