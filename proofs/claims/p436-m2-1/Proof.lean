import JvmDerived
import JvmDerived.Pilot.@@N@@Statement
import JvmDerived.Pilot.@@N@@Code
set_option linter.unusedVariables false
set_option linter.unusedSimpArgs false
namespace Jvm.Pilot.@@N@@
open Jvm Jvm.ClassFile Sem Op Lib Jvm.Free Jvm.Stand Jvm.LawKit Jvm.RoadKit Bundle Jvm.Pilot.@@N@@.Jvm.D
def Go (p : Program) (e : Env) (below : List Frame) (S : State) (P : State → Outcome → Prop) : Prop := ∃ t o, Steps p.tables e below S t ∧ P t o
abbrev Gm (p : Program) (e : Env) (below : List Frame) (T : State) (m : MethodId) (pc : Nat) (ls : Array Slot) (st : List Value) (P : State → Outcome → Prop) : Prop := Go p e below (T.setTop (mkF m pc ls st)) P
abbrev lv (x : Int64) : Slot := .val (.long x)
theorem own_in {p : Program} {e : Env} {below : List Frame} {T : State} {g g' : JFrame} {P : State → Outcome → Prop} (q : g = g') (h : Go p e below (T.setTop g') P) : ∃ s₂ o, Steps p.tables e below (T.setTop g) s₂ ∧ P s₂ o := q ▸ h
theorem own_go {p : Program} {e : Env} {below : List Frame} {S S' : State} {P : State → Outcome → Prop} (k : ∀ t, Steps p.tables e below S' t → Steps p.tables e below S t) (h : Go p e below S' P) : Go p e below S P := by
  obtain ⟨t, o, h1, h2⟩ := h
  exact ⟨t, o, k t h1, h2⟩
section Rets
variable {p : Program} {l : Launch} {e : Env} {R : Room} {s : State} {m : MethodId} {args : Array Value} {below : List Frame} {meth : Method} {c : Code} {T : State} {locs : List Loc} {cells slots : Nat}
theorem own_retI (X : Stand p l e R s m args below meth c T locs cells slots) (hx : p.tables.exec = Jvm.exec) (hlk : meth.locks = false) {pc : Nat} {Ls : Array Slot} {z : Int32} {t : FieldType} {Q : Option Value → Heap → List Loc → Prop} {C N : Nat} (hret : meth.sig.returnType = some t) (hn : narrow t (.int z) = .int z) (ht : t = .int ∨ t = .boolean ∨ t = .byte ∨ t = .char ∨ t = .short)
    (hd : decode c.code pc = .ok (.ireturn, 1)) {h : Heap} (eh : T.heap = h) (hq : Q (some (.int z)) h locs) (hC : cells ≤ C) (hN : slots ≤ N) : Go p e below (T.setTop (mkF m pc Ls [.int z])) (fun t o => t.status = .running ∧ Ended t below o ∧ ∃ v L, o = .returned v ∧ Q v t.heap L ∧ FrameEnd s o t L C N) := by
  subst eh
  obtain ⟨fs, hr, hrun, hended, hW, hsame⟩ := X.leave (v := some (.int z)) (fun h => by rw [hret] at h; cases h) hlk
  exact ⟨_, _, X.ireturnOut hx hret hn ht hd hr, hrun, hended, _, _, rfl, hq, ⟨_, rfl⟩, hW, hsame.mono hC hN⟩
theorem own_retL (X : Stand p l e R s m args below meth c T locs cells slots) (hx : p.tables.exec = Jvm.exec) (hlk : meth.locks = false) {pc : Nat} {Ls : Array Slot} {z : Int64} {Q : Option Value → Heap → List Loc → Prop} {C N : Nat} (hret : meth.sig.returnType = some .long)
    (hd : decode c.code pc = .ok (.lreturn, 1)) {h : Heap} (eh : T.heap = h) (hq : Q (some (.long z)) h locs) (hC : cells ≤ C) (hN : slots ≤ N) : Go p e below (T.setTop (mkF m pc Ls [.long z])) (fun t o => t.status = .running ∧ Ended t below o ∧ ∃ v L, o = .returned v ∧ Q v t.heap L ∧ FrameEnd s o t L C N) := by
  subst eh
  obtain ⟨fs, hr, hrun, hended, hW, hsame⟩ := X.leave (v := some (.long z)) (fun h => by rw [hret] at h; cases h) hlk
  exact ⟨_, _, X.lreturnOut hx hret hd hr, hrun, hended, _, _, rfl, hq, ⟨_, rfl⟩, hW, hsame.mono hC hN⟩
theorem own_retA (X : Stand p l e R s m args below meth c T locs cells slots) (hx : p.tables.exec = Jvm.exec) (hlk : meth.locks = false) {pc : Nat} {Ls : Array Slot} {w : Value} {t : FieldType} {Q : Option Value → Heap → List Loc → Prop} {C N : Nat} (hw : w.isRef = true) (hret : meth.sig.returnType = some t) (ht : t.isReference = true)
    (hd : decode c.code pc = .ok (.areturn, 1)) {h : Heap} (eh : T.heap = h) (hq : Q (some w) h locs) (hC : cells ≤ C) (hN : slots ≤ N) : Go p e below (T.setTop (mkF m pc Ls [w])) (fun t o => t.status = .running ∧ Ended t below o ∧ ∃ v L, o = .returned v ∧ Q v t.heap L ∧ FrameEnd s o t L C N) := by
  subst eh
  obtain ⟨fs, hr, hrun, hended, hW, hsame⟩ := X.leave (v := some w) (fun h => by rw [hret] at h; cases h) hlk
  exact ⟨_, _, X.areturnOut hx hw hret ht hd hr, hrun, hended, _, _, rfl, hq, ⟨_, rfl⟩, hW, hsame.mono hC hN⟩
theorem own_retV (X : Stand p l e R s m args below meth c T locs cells slots) (hx : p.tables.exec = Jvm.exec) (hlk : meth.locks = false) {pc : Nat} {Ls : Array Slot} {Q : Option Value → Heap → List Loc → Prop} {C N : Nat} (hret : meth.sig.returnType = none)
    (hd : decode c.code pc = .ok (.return_, 1)) {h : Heap} (eh : T.heap = h) (hq : Q none h locs) (hC : cells ≤ C) (hN : slots ≤ N) : Go p e below (T.setTop (mkF m pc Ls [])) (fun t o => t.status = .running ∧ Ended t below o ∧ ∃ v L, o = .returned v ∧ Q v t.heap L ∧ FrameEnd s o t L C N) := by
  subst eh
  obtain ⟨fs, hr, hrun, hended, hW, hsame⟩ := X.leave (v := none) (fun _ => rfl) hlk
  exact ⟨_, _, X.returnOut hx hret hd hr, hrun, hended, _, _, rfl, hq, ⟨_, rfl⟩, hW, hsame.mono hC hN⟩
end Rets

def Af (Z : State) (h : Heap) (a : Addr) (ty : FieldType) (n : Nat) (f : Nat → Value) : Prop := n < 2 ^ 31 ∧ ∃ c : Cell, Arr Z h a c ty ∧ c.slots.size = n ∧ ∀ i, i < n → c.slots[i]? = some (f i) ∧ fits ty (f i) = true
section AfS
variable {Z : State} {h h' : Heap} {a b : Addr} {ty : FieldType} {n : Nat} {f : Nat → Value} {v : Value} {sl : Nat} {ws : List Addr}
theorem Af.lt (A : Af Z h a ty n f) : a < h.size := by obtain ⟨-, c, A, -⟩ := A; exact A.lt
theorem Af.ext (A : Af Z h a ty n f) (E : Ext h h') : Af Z h' a ty n f := by obtain ⟨q, c, A, r⟩ := A; exact ⟨q, c, A.ext E, r⟩
theorem Af.other (A : Af Z h b ty n f) (W : Wr h h' a sl v) (q : b ≠ a) : Af Z h' b ty n f := by obtain ⟨q', c, A, r⟩ := A; exact ⟨q', c, A.other W q, r⟩
theorem Af.keep (A : Af Z h a ty n f) (K : Keep h h' ws) (q : a ∉ ws) : Af Z h' a ty n f := by obtain ⟨q', c, A, r⟩ := A; exact ⟨q', c, ⟨K.2.1 a c A.1 q, A.2⟩, r⟩
theorem Af.congr (A : Af Z h a ty n f) {g : Nat → Value} (q : ∀ i, i < n → g i = f i) : Af Z h a ty n g := by obtain ⟨q', c, A, r1, r2⟩ := A; exact ⟨q', c, A, r1, fun i hi => by rw [q i hi]; exact r2 i hi⟩
theorem Af.set (A : Af Z h a ty n f) (W : Wr h h' a sl v) (hv : fits ty v = true) : Af Z h' a ty n (fun i => if i = sl then v else f i) := by
  obtain ⟨q, c, A, r1, r2⟩ := A
  refine ⟨q, c.setSlot sl v, A.same W, by rw [sz_set]; exact r1, fun i hi => ?_⟩
  by_cases e : i = sl
  · subst e
    show _ = some (if i = i then v else f i) ∧ fits ty (if i = i then v else f i) = true
    rw [if_pos rfl]
    refine ⟨?_, hv⟩
    show (c.slots.setIfInBounds i v)[i]? = _
    rw [Array.getElem?_setIfInBounds_self_of_lt (by omega)]
  · show _ = some (if i = sl then v else f i) ∧ fits ty (if i = sl then v else f i) = true
    rw [if_neg e]
    refine ⟨?_, (r2 i hi).2⟩
    show (c.slots.setIfInBounds sl v)[i]? = _
    rw [Array.getElem?_setIfInBounds_ne (Ne.symm e)]
    exact (r2 i hi).1
theorem Af.new {k : ClassId} {z : Int32} (A : Arr Z h a (newA k ty z) ty) (q : ¬ z < 0) {n : Nat} (hn : z.toNatClampNeg = n) (hd : fits ty (defaultValue ty) = true) : Af Z h a ty n (fun _ => defaultValue ty) := by
  subst hn
  refine ⟨(back32 q).2, _, A, sz_new _ _ _, fun i hi => ⟨?_, hd⟩⟩
  simp [newA, hi]
theorem Af.arv (A : Af Z h a ty n f) (dv : Value) : ∃ k, Arv Z h a k ty n.toInt32 ((List.range n).map f) dv := by
  obtain ⟨q, c, A, r1, r2⟩ := A
  have hz : n.toInt32.toNatClampNeg = n := by
    show n.toInt32.toInt.toNat = n
    rw [len_toInt q]; rfl
  have hg : ∀ i, i < n → ((List.range n).map f).getD i dv = f i := fun i hi => by
    rw [List.getD_eq_getElem?_getD]; simp [hi]
  refine ⟨_, c, A, rfl, by rw [hz]; exact r1, ?_, fun i hi => ?_, fun i hi => ?_⟩
  · rw [Int32.lt_iff_toInt_lt, len_toInt q]; simp
  · rw [hg i (r1 ▸ hi)]; exact (r2 i (r1 ▸ hi)).1
  · rw [hg i (r1 ▸ hi)]; exact (r2 i (r1 ▸ hi)).2
theorem Af.ofArv {k : ClassId} {z : Int32} {vs : List Value} {dv : Value} (F : Arv Z h a k ty z vs dv) (hz : z.toNatClampNeg = n) (hf : ∀ i, i < n → f i = vs.getD i dv) : Af Z h a ty n f := by
  obtain ⟨c, A, -, S, q, H, G⟩ := F
  subst hz
  refine ⟨(back32 q).2, c, A, S, fun i hi => ?_⟩
  rw [hf i hi]
  exact ⟨H i (S ▸ hi), G i (S ▸ hi)⟩
theorem nat32 {n : Nat} (q : n < 2 ^ 31) : n.toInt32.toNatClampNeg = n := by
  show n.toInt32.toInt.toNat = n
  rw [len_toInt q]; rfl
theorem nn32 {n : Nat} (q : n < 2 ^ 31) : ¬ n.toInt32 < 0 := by rw [Int32.lt_iff_toInt_lt, len_toInt q]; simp
end AfS
section AfX
variable {p : Program} {l : Launch} {e : Env} {R : Room} {s : State} {m : MethodId} {args : Array Value} {below : List Frame} {meth : Method} {c : Code} {T : State} {locs : List Loc} {cells slots : Nat} {Z : State} {a0 : Array Value} {h : Heap} {a : Addr} {ty : FieldType} {n : Nat} {f : Nat → Value}
theorem own_len (X : Stand p l e R s m args below meth c T locs cells slots) (hx : p.tables.exec = Jvm.exec) (hZ : Z.Warmed39 s.vm) (eT : T.heap = h) (A : Af Z h a ty n f) {z : Int32} (hz : n.toInt32 = z) {g : JFrame} (hg : g.method = m) {rest : List Value} (hs : g.stack = .ref a :: rest) (hd : decode c.code g.pc = .ok (.arraylength, 1)) {target : State}
    (hr : Steps p.tables e below (T.setTop { g with pc := g.pc + 1, stack := .int z :: rest }) target) : Steps p.tables e below (T.setTop g) target := by
  obtain ⟨q, cl, A, r1, r2⟩ := A
  refine X.arraylength hx (by rw [eT]; exact A.1) (State.isArrayOf_alike hZ.alike A.2.1) hg hs hd _ ?_
  rw [r1, hz]; exact hr
theorem own_inb {cl : Cell} {j : Int32} {k : Nat} (r : cl.slots.size = n) (hj : ¬ j < 0) (hk : j.toNatClampNeg = k) (hkn : k < n) : ¬ (j < 0 ∨ cl.slots.size ≤ j.toNatClampNeg) := by
  rw [r, hk]; rintro (q | q)
  · exact hj q
  · omega
theorem own_ldI (X : Stand p l e R s m args below meth c T locs cells slots) (hx : p.tables.exec = Jvm.exec) (hZ : Z.Warmed39 s.vm) (eT : T.heap = h) (A : Af Z h a .int n f) {j : Int32} {k : Nat} (hj : ¬ j < 0) (hk : j.toNatClampNeg = k) (hkn : k < n) {w : Value} (hv : f k = w) {g : JFrame} (hg : g.method = m) {rest : List Value} (hs : g.stack = .int j :: .ref a :: rest) (hd : decode c.code g.pc = .ok (.iaload, 1)) {target : State}
    (hr : Steps p.tables e below (T.setTop { g with pc := g.pc + 1, stack := w :: rest }) target) : Steps p.tables e below (T.setTop g) target := by
  obtain ⟨q, cl, A, r1, r2⟩ := A
  exact X.iaload hx (by rw [eT]; exact A.1) (State.isArrayOf_alike hZ.alike A.2.1) A.2.2 (own_inb r1 hj hk hkn) (by rw [hk, (r2 k hkn).1, hv]) hg hs hd _ hr
theorem own_ldJ (X : Stand p l e R s m args below meth c T locs cells slots) (hx : p.tables.exec = Jvm.exec) (hZ : Z.Warmed39 s.vm) (eT : T.heap = h) (A : Af Z h a .long n f) {j : Int32} {k : Nat} (hj : ¬ j < 0) (hk : j.toNatClampNeg = k) (hkn : k < n) {w : Value} (hv : f k = w) {g : JFrame} (hg : g.method = m) {rest : List Value} (hs : g.stack = .int j :: .ref a :: rest) (hd : decode c.code g.pc = .ok (.laload, 1)) {target : State}
    (hr : Steps p.tables e below (T.setTop { g with pc := g.pc + 1, stack := w :: rest }) target) : Steps p.tables e below (T.setTop g) target := by
  obtain ⟨q, cl, A, r1, r2⟩ := A
  exact X.laload hx (by rw [eT]; exact A.1) (State.isArrayOf_alike hZ.alike A.2.1) A.2.2 (own_inb r1 hj hk hkn) (by rw [hk, (r2 k hkn).1, hv]) hg hs hd _ hr
theorem own_ldB (X : Stand p l e R s m args below meth c T locs cells slots) (hx : p.tables.exec = Jvm.exec) (hZ : Z.Warmed39 s.vm) (eT : T.heap = h) (A : Af Z h a .byte n f) {j : Int32} {k : Nat} (hj : ¬ j < 0) (hk : j.toNatClampNeg = k) (hkn : k < n) {w : Value} (hv : f k = w) {g : JFrame} (hg : g.method = m) {rest : List Value} (hs : g.stack = .int j :: .ref a :: rest) (hd : decode c.code g.pc = .ok (.baload, 1)) {target : State}
    (hr : Steps p.tables e below (T.setTop { g with pc := g.pc + 1, stack := w :: rest }) target) : Steps p.tables e below (T.setTop g) target := by
  obtain ⟨q, cl, A, r1, r2⟩ := A
  exact X.baloadBytes hx (by rw [eT]; exact A.1) (State.isArrayOf_alike hZ.alike A.2.1) A.2.2 (own_inb r1 hj hk hkn) (by rw [hk, (r2 k hkn).1, hv]) hg hs hd _ hr
theorem own_ldZ (X : Stand p l e R s m args below meth c T locs cells slots) (hx : p.tables.exec = Jvm.exec) (hZ : Z.Warmed39 s.vm) (eT : T.heap = h) (A : Af Z h a .boolean n f) {j : Int32} {k : Nat} (hj : ¬ j < 0) (hk : j.toNatClampNeg = k) (hkn : k < n) {w : Value} (hv : f k = w) {g : JFrame} (hg : g.method = m) {rest : List Value} (hs : g.stack = .int j :: .ref a :: rest) (hd : decode c.code g.pc = .ok (.baload, 1)) {target : State}
    (hr : Steps p.tables e below (T.setTop { g with pc := g.pc + 1, stack := w :: rest }) target) : Steps p.tables e below (T.setTop g) target := by
  obtain ⟨q, cl, A, r1, r2⟩ := A
  exact X.baloadBooleans hx (by rw [eT]; exact A.1) (State.isArrayOf_alike hZ.alike A.2.1) A.2.2 (own_inb r1 hj hk hkn) (by rw [hk, (r2 k hkn).1, hv]) hg hs hd _ hr
theorem own_stI (X : Stand p l e R s m args below meth c T locs cells slots) (hx : p.tables.exec = Jvm.exec) (hZ : Z.Warmed39 s.vm) (eT : T.heap = h) (A : Af Z h a .int n f) {j x : Int32} {k : Nat} (hj : ¬ j < 0) (hk : j.toNatClampNeg = k) (hkn : k < n) {g : JFrame} (hg : g.method = m) {rest : List Value} (hs : g.stack = .int x :: .int j :: .ref a :: rest) (hd : decode c.code g.pc = .ok (.iastore, 1)) :
    ∃ T' h', Stand p l e R s m args below meth c T' (locs ++ [⟨a, k⟩]) cells slots ∧ T'.heap = h' ∧ Wr h h' a k (.int x) ∧ Af Z h' a .int n (fun i => if i = k then .int x else f i) ∧ ∀ target, Steps p.tables e below (T'.setTop { g with pc := g.pc + 1, stack := rest }) target → Steps p.tables e below (T.setTop g) target := by
  obtain ⟨q, cl, B, r1, r2⟩ := id A
  obtain ⟨T', h', X', e', W, st⟩ := stI X hx hZ eT B (own_inb r1 hj hk hkn) hg hs hd
  rw [hk] at X' W
  exact ⟨T', h', X', e', W, A.set W rfl, st⟩
theorem own_stJ (X : Stand p l e R s m args below meth c T locs cells slots) (hx : p.tables.exec = Jvm.exec) (hZ : Z.Warmed39 s.vm) (eT : T.heap = h) (A : Af Z h a .long n f) {j : Int32} {x : Int64} {k : Nat} (hj : ¬ j < 0) (hk : j.toNatClampNeg = k) (hkn : k < n) {g : JFrame} (hg : g.method = m) {rest : List Value} (hs : g.stack = .long x :: .int j :: .ref a :: rest) (hd : decode c.code g.pc = .ok (.lastore, 1)) :
    ∃ T' h', Stand p l e R s m args below meth c T' (locs ++ [⟨a, k⟩]) cells slots ∧ T'.heap = h' ∧ Wr h h' a k (.long x) ∧ Af Z h' a .long n (fun i => if i = k then .long x else f i) ∧ ∀ target, Steps p.tables e below (T'.setTop { g with pc := g.pc + 1, stack := rest }) target → Steps p.tables e below (T.setTop g) target := by
  obtain ⟨q, cl, B, r1, r2⟩ := id A
  obtain ⟨T', h', X', e', W, st⟩ := stJ X hx hZ eT B (own_inb r1 hj hk hkn) hg hs hd
  rw [hk] at X' W
  exact ⟨T', h', X', e', W, A.set W rfl, st⟩
theorem own_stD (X : Stand p l e R s m args below meth c T locs cells slots) (hx : p.tables.exec = Jvm.exec) (hZ : Z.Warmed39 s.vm) (eT : T.heap = h) (A : Af Z h a .double n f) {j : Int32} {x : UInt64} {k : Nat} (hj : ¬ j < 0) (hk : j.toNatClampNeg = k) (hkn : k < n) {g : JFrame} (hg : g.method = m) {rest : List Value} (hs : g.stack = .double x :: .int j :: .ref a :: rest) (hd : decode c.code g.pc = .ok (.dastore, 1)) :
    ∃ T' h', Stand p l e R s m args below meth c T' (locs ++ [⟨a, k⟩]) cells slots ∧ T'.heap = h' ∧ Wr h h' a k (.double x) ∧ Af Z h' a .double n (fun i => if i = k then .double x else f i) ∧ ∀ target, Steps p.tables e below (T'.setTop { g with pc := g.pc + 1, stack := rest }) target → Steps p.tables e below (T.setTop g) target := by
  obtain ⟨q, cl, B, r1, r2⟩ := id A
  obtain ⟨T', h', X', e', W, st⟩ := stD X hx hZ eT B (own_inb r1 hj hk hkn) hg hs hd
  rw [hk] at X' W
  exact ⟨T', h', X', e', W, A.set W rfl, st⟩
theorem own_stZ (X : Stand p l e R s m args below meth c T locs cells slots) (hx : p.tables.exec = Jvm.exec) (hZ : Z.Warmed39 s.vm) (eT : T.heap = h) (A : Af Z h a .boolean n f) {j x y : Int32} {k : Nat} (hj : ¬ j < 0) (hk : j.toNatClampNeg = k) (hkn : k < n) (hy : nar .boolean x = y) {g : JFrame} (hg : g.method = m) {rest : List Value} (hs : g.stack = .int x :: .int j :: .ref a :: rest) (hd : decode c.code g.pc = .ok (.bastore, 1)) :
    ∃ T' h', Stand p l e R s m args below meth c T' (locs ++ [⟨a, k⟩]) cells slots ∧ T'.heap = h' ∧ Wr h h' a k (.int y) ∧ Af Z h' a .boolean n (fun i => if i = k then .int y else f i) ∧ ∀ target, Steps p.tables e below (T'.setTop { g with pc := g.pc + 1, stack := rest }) target → Steps p.tables e below (T.setTop g) target := by
  obtain ⟨q, cl, B, r1, r2⟩ := id A
  obtain ⟨T', h', X', e', W, st⟩ := stZ X hx hZ eT B (own_inb r1 hj hk hkn) hg hs hd
  subst hk hy
  exact ⟨T', h', X', e', W, A.set W (fits_nar_bool x), st⟩
theorem own_stB (X : Stand p l e R s m args below meth c T locs cells slots) (hx : p.tables.exec = Jvm.exec) (hZ : Z.Warmed39 s.vm) (eT : T.heap = h) (A : Af Z h a .byte n f) {j x y : Int32} {k : Nat} (hj : ¬ j < 0) (hk : j.toNatClampNeg = k) (hkn : k < n) (hy : nar .byte x = y) {g : JFrame} (hg : g.method = m) {rest : List Value} (hs : g.stack = .int x :: .int j :: .ref a :: rest) (hd : decode c.code g.pc = .ok (.bastore, 1)) :
    ∃ T' h', Stand p l e R s m args below meth c T' (locs ++ [⟨a, k⟩]) cells slots ∧ T'.heap = h' ∧ Wr h h' a k (.int y) ∧ Af Z h' a .byte n (fun i => if i = k then .int y else f i) ∧ ∀ target, Steps p.tables e below (T'.setTop { g with pc := g.pc + 1, stack := rest }) target → Steps p.tables e below (T.setTop g) target := by
  obtain ⟨q, cl, B, r1, r2⟩ := id A
  obtain ⟨T', h', X', e', W, st⟩ := stB X hx hZ eT B (own_inb r1 hj hk hkn) hg hs hd
  subst hk hy
  exact ⟨T', h', X', e', W, A.set W (fits_nar_byte x), st⟩
end AfX

theorem own_clone {p : Program} {l : Launch} {e : Env} {R : Room} {s : State} {m : MethodId} {args : Array Value} {below : List Frame} {meth : Method} {c : Code} {T : State} {locs : List Loc} {cells slots : Nat} {Z : State} {a0 : Array Value} {h : Heap} {a : Addr} {ty : FieldType} {n : Nat} {f : Nat → Value}
    (X : Stand p l e R s m args below meth c T locs cells slots) (hx : p.tables.exec = Jvm.exec) (hZ : Z.Warmed39 s.vm) {own ad : String} {index : Nat} (hown : s.vm.findClass own = some m.cls)
    (w1 : (Jvm.Cond.methodLink own index ⟨ad, "clone", "()Ljava/lang/Object;"⟩).before a0 Z = true) (w2 : (Jvm.Cond.sameMethod ad "java/lang/Object" "clone" "()Ljava/lang/Object;").before a0 Z = true) (w3 : (Jvm.Cond.native ⟨"java/lang/Object", "clone", "()Ljava/lang/Object;"⟩).before a0 Z = true)
    (w4 : (Jvm.Cond.instanceMethod ⟨"java/lang/Object", "clone", "()Ljava/lang/Object;"⟩).before a0 Z = true) (w5 : (Jvm.Cond.selects ad ⟨ad, "clone", "()Ljava/lang/Object;"⟩ ⟨"java/lang/Object", "clone", "()Ljava/lang/Object;"⟩).before a0 Z = true) (w6 : (Jvm.Cond.castable ad "java/lang/Cloneable").before a0 Z = true)
    (eT : T.heap = h) (A : Af Z h a ty n f) (E : Exa Z h a ad) {g : JFrame} (hg : g.method = m) (hsize : g.locals.size = c.maxLocals) {rest : List Value} (hs : g.stack = .ref a :: rest) (hd : decode c.code g.pc = .ok (.invokevirtual index, 3))
    (hf : 1 ≤ R.frames) {W cap : Nat} (hW : 2 * g.monitorRoom + (rest.map fun v => v.category).sum ≤ W) (hl : W + 14 ≤ R.locals) (hcap : n ≤ cap) (hc : cells + 1 ≤ R.cells) (hsl : slots + cap ≤ R.slots) :
    ∃ T' h', Stand p l e R s m args below meth c T' locs (cells + 1) (slots + cap) ∧ T'.heap = h' ∧ Ext h h' ∧ Af Z h' h.size ty n f ∧ Exa Z h' h.size ad ∧
      ∀ target, Steps p.tables e below (T'.setTop { g with pc := g.pc + 3, stack := .ref h.size :: rest }) target → Steps p.tables e below (T.setTop g) target := by
  obtain ⟨q, cl, B, r1, r2⟩ := A
  have FC : FitC Z cl := fitC_of B fun i hi v hv => by
    have u := r2 i (r1 ▸ hi)
    rw [u.1] at hv; cases hv; exact u.2
  obtain ⟨T', h', X', e', ex, A', E', st⟩ := cloneA X hx hZ hown w1 w2 w3 w4 w5 w6 eT B E FC hg hsize hs hd hf hW hl (by rw [r1]; exact hcap) hc hsl
  exact ⟨T', h', X', e', ex, ⟨q, cloneOf cl, A', r1, r2⟩, E', st⟩
theorem d2_0 : decode prog_53_method_1_code 0 = .ok (.aload_n 0, 1) := by decide +kernel
theorem d2_1 : decode prog_53_method_1_code 1 = .ok (.invokespecial 1, 3) := by decide +kernel
theorem d2_4 : decode prog_53_method_1_code 4 = .ok (.aload_n 0, 1) := by decide +kernel
theorem d2_5 : decode prog_53_method_1_code 5 = .ok (.aload_n 1, 1) := by decide +kernel
theorem d2_6 : decode prog_53_method_1_code 6 = .ok (.putfield 7, 3) := by decide +kernel
theorem d2_9 : decode prog_53_method_1_code 9 = .ok (.aload_n 0, 1) := by decide +kernel
theorem d2_10 : decode prog_53_method_1_code 10 = .ok (.iload_n 2, 1) := by decide +kernel
theorem d2_11 : decode prog_53_method_1_code 11 = .ok (.putfield 13, 3) := by decide +kernel
theorem d2_14 : decode prog_53_method_1_code 14 = .ok (.return_, 1) := by decide +kernel
theorem own_pn_rm2 : plainName "com/example/gettone/gettone/solver/Decision" = true := by first | (simp [plainName, overriddenIn]; done) | decide +kernel
theorem own_ef_rm2 (m : MethodId) (r0 : Addr) (r1 : Addr) (p2 : Int32) : entryFrame m #[(.ref r0), (.ref r1), (.int p2)] 3 = mkF m 0 #[.val (.ref r0), .val (.ref r1), .val (.int p2)] [] := by first | (simp [entryFrame, mkF, argsToLocals, Value.category]; done) | rfl
def Q2 (Z : State) (r0 : Addr) (r1 : Addr) (p2 : Int32) (h0 : Heap) (n0 : Nat) (v : Option Value) (h : Heap) (L : List Loc) : Prop := v = none ∧ Fr n0 L ∧ Keep h0 h [r0] ∧ Exa Z h r0 "com/example/gettone/gettone/solver/Decision" ∧ Fld Z h r0 "com/example/gettone/gettone/solver/Decision" "values" "[Z" (.ref r1) ∧ Fld Z h r0 "com/example/gettone/gettone/solver/Decision" "candidateCount" "I" (.int p2)
set_option maxRecDepth 65536 in
set_option maxHeartbeats 40000000 in
theorem rm2 (l : Launch) (Z : State) (a0 : Array Value) (hw : ∀ d ∈ tables_1, d.before a0 Z = true) (ws : List Jvm.Cond) (r0 : Addr) (r1 : Addr) (p2 : Int32) (h0 : Heap) (n0 : Nat) (Z0 : n0 ≤ h0.size) (E_r0 : Exa Z h0 r0 "com/example/gettone/gettone/solver/Decision") (F_v : Fld Z h0 r0 "com/example/gettone/gettone/solver/Decision" "values" "[Z" .null) (F_c : Fld Z h0 r0 "com/example/gettone/gettone/solver/Decision" "candidateCount" "I" (.int (0 : Int32))) (g_r0 : n0 ≤ r0) :
    MetFree l (⟨"com/example/gettone/gettone/solver/Decision", "<init>", "([ZI)V"⟩ : MethodName) (head1 (Jvm.Cond.code (⟨"com/example/gettone/gettone/solver/Decision", "<init>", "([ZI)V"⟩ : MethodName) prog_53_method_1_code 3 none :: ws) ({ frames := 1, cells := 0, slots := 0, locals := 12 } : Room)) (fun a U => a = #[(.ref r0), (.ref r1), (.int p2)] ∧ Z.Warmed39 U.vm ∧ U.heap = h0) (fun _ _ _ _ _ => True) (fun _ U o U' => ∃ v L, o = .returned v ∧ Q2 Z r0 r1 p2 h0 n0 v U'.heap L ∧ FrameEnd U o U' L ({ frames := 1, cells := 0, slots := 0, locals := 12 } : Room).cells ({ frames := 1, cells := 0, slots := 0, locals := 12 } : Room).slots) := by
  refine MetFree.of_bodySF (plainFor_of_name own_pn_rm2) hisR ?_
  intro p e s m args below meth c s₁ Bd hml0 hP hK
  obtain ⟨rfl, hZ, hh⟩ := hP
  have hx := Bd.exec
  have hby := Bd.bytes
  have hml : c.maxLocals = 3 := hml0
  have hown : s.vm.findClass "com/example/gettone/gettone/solver/Decision" = some m.cls := findClass_of_methodNamed Bd.named
  have hnm := (name_of_methodNamed Bd.named Bd.method).1
  have hlk : meth.locks = false := BodyLoose.notSynchronized Bd
  have X0 : Stand p l e ({ frames := 1, cells := 0, slots := 0, locals := 12 } : Room) s m #[(.ref r0), (.ref r1), (.int p2)] below meth c s₁ [] 0 0 := Stand.of_body Bd
  have e0 : s₁.heap = h0 := by rw [← hh, Bd.state]; rfl
  have N0 := Fr.nil n0
  refine own_in (own_ef_rm2 m r0 r1 p2) ?_
  show Gm p e below s₁ m 0 #[rv r0, rv r1, iv p2] [] _
  refine own_go (fun t₀ k₀ => XS.aloadN X0.here hx rfl (Jvm.hb hby d2_0) rfl rfl k₀) ?_
  show Gm p e below s₁ m 1 #[rv r0, rv r1, iv p2] [(.ref r0)] _
  obtain ⟨T1, X1, e1, st1⟩ := initO X0 hx hZ hown (hw _ (List.mem_of_getElem? (i := 19) rfl)) (hw _ (List.mem_of_getElem? (i := 20) rfl)) (hw _ (List.mem_of_getElem? (i := 21) rfl)) e0 (g := (mkF m 1 #[rv r0, rv r1, iv p2] [(.ref r0)])) rfl (by rw [hml]; rfl) rfl (Jvm.hb hby d2_1) (by decide) (W := 0) (by show 2 * 0 + _ ≤ _; exact Nat.le_of_eq rfl) (by decide)
  refine own_go st1 ?_
  show Gm p e below T1 m 4 #[rv r0, rv r1, iv p2] [] _
  refine own_go (fun t₀ k₀ => XS.aloadN X1.here hx rfl (Jvm.hb hby d2_4) rfl rfl k₀) ?_
  show Gm p e below T1 m 5 #[rv r0, rv r1, iv p2] [(.ref r0)] _
  refine own_go (fun t₀ k₀ => XS.aloadN X1.here hx rfl (Jvm.hb hby d2_5) rfl rfl k₀) ?_
  show Gm p e below T1 m 6 #[rv r0, rv r1, iv p2] [(.ref r1), (.ref r0)] _
  obtain ⟨T2, h2, X2, e2, W2, st2⟩ := putF X1 hx hZ hown (host := "") (Or.inl (hw _ (List.mem_of_getElem? (i := 22) rfl))) Via.refl e1 F_v E_r0 (Or.inr ⟨(hw _ (List.mem_of_getElem? (i := 23) rfl)), rfl, hnm⟩) (hw _ (List.mem_of_getElem? (i := 6) rfl)) (ty := (.array .boolean)) (by decide) rfl rfl (g := (mkF m 6 #[rv r0, rv r1, iv p2] [(.ref r1), (.ref r0)])) rfl rfl (Jvm.hb hby d2_6)
  have Fw2 := Fld.same W2 F_v
  have N2 := Fr.snoc X2 N0 g_r0
  have Z2 : n0 ≤ h2.size := W2.size ▸ Z0
  have K2 : Keep h0 h2 [r0] := Keep.wr (Keep.refl h0 [r0]) W2 (Or.inl (List.mem_of_getElem? (i := 0) rfl))
  refine own_go st2 ?_
  show Gm p e below T2 m 9 #[rv r0, rv r1, iv p2] [] _
  refine own_go (fun t₀ k₀ => XS.aloadN X2.here hx rfl (Jvm.hb hby d2_9) rfl rfl k₀) ?_
  show Gm p e below T2 m 10 #[rv r0, rv r1, iv p2] [(.ref r0)] _
  refine own_go (fun t₀ k₀ => XS.iloadN X2.here hx rfl (Jvm.hb hby d2_10) rfl k₀) ?_
  show Gm p e below T2 m 11 #[rv r0, rv r1, iv p2] [(.int p2), (.ref r0)] _
  have f3 := (E_r0.wr W2)
  have f4 := (Fld.other W2 F_c (Or.inr (slot_ne (Or.inr (hw _ (List.mem_of_getElem? (i := 25) rfl))) (Or.inr (hw _ (List.mem_of_getElem? (i := 23) rfl))) (by decide) (t := .int) (t' := (.array .boolean)) (by decide) (by decide))))
  obtain ⟨T5, h5, X5, e5, W5, st5⟩ := putF X2 hx hZ hown (host := "") (Or.inl (hw _ (List.mem_of_getElem? (i := 24) rfl))) Via.refl e2 f4 f3 (Or.inr ⟨(hw _ (List.mem_of_getElem? (i := 25) rfl)), rfl, hnm⟩) (hw _ (List.mem_of_getElem? (i := 6) rfl)) (ty := .int) (by decide) rfl rfl (g := (mkF m 11 #[rv r0, rv r1, iv p2] [(.int p2), (.ref r0)])) rfl rfl (Jvm.hb hby d2_11)
  have Fw5 := Fld.same W5 f4
  have N5 := Fr.snoc X5 N2 g_r0
  have Z5 : n0 ≤ h5.size := W5.size ▸ Z2
  have K5 : Keep h0 h5 [r0] := Keep.wr K2 W5 (Or.inl (List.mem_of_getElem? (i := 0) rfl))
  refine own_go st5 ?_
  show Gm p e below T5 m 14 #[rv r0, rv r1, iv p2] [] _
  have f6 := (f3.wr W5)
  have f7 := (Fld.other W5 Fw2 (Or.inr (slot_ne (Or.inr (hw _ (List.mem_of_getElem? (i := 23) rfl))) (Or.inr (hw _ (List.mem_of_getElem? (i := 25) rfl))) (by decide) (t := (.array .boolean)) (t' := .int) (by decide) (by decide))))
  exact own_retV X5 hx hlk Bd.returns (Jvm.hb hby d2_14) e5 ⟨rfl, N5, K5, f6, f7, Fw5⟩ (by decide) (by decide)
theorem d1_0 : decode prog_53_method_2_code 0 = .ok (.new 8, 3) := by decide +kernel
theorem d1_3 : decode prog_53_method_2_code 3 = .ok (.dup, 1) := by decide +kernel
theorem d1_4 : decode prog_53_method_2_code 4 = .ok (.aload_n 0, 1) := by decide +kernel
theorem d1_5 : decode prog_53_method_2_code 5 = .ok (.invokevirtual 17, 3) := by decide +kernel
theorem d1_8 : decode prog_53_method_2_code 8 = .ok (.checkcast 18, 3) := by decide +kernel
theorem d1_11 : decode prog_53_method_2_code 11 = .ok (.iload_n 1, 1) := by decide +kernel
theorem d1_12 : decode prog_53_method_2_code 12 = .ok (.invokespecial 22, 3) := by decide +kernel
theorem d1_15 : decode prog_53_method_2_code 15 = .ok (.areturn, 1) := by decide +kernel
theorem own_pd0 : parseMethodDescriptor "([ZI)V" = some ⟨[(.array .boolean), .int], none⟩ := by decide +kernel
theorem own_pn_rm1 : plainName "com/example/gettone/gettone/solver/Decision" = true := by first | (simp [plainName, overriddenIn]; done) | decide +kernel
theorem own_ef_rm1 (m : MethodId) (r0 : Addr) (p1 : Int32) : entryFrame m #[(.ref r0), (.int p1)] 2 = mkF m 0 #[.val (.ref r0), .val (.int p1)] [] := by first | (simp [entryFrame, mkF, argsToLocals, Value.category]; done) | rfl
def Q1 (Z : State) (r0 : Addr) (p1 : Int32) (f : Nat → Value) (h0 : Heap) (n0 : Nat) (v : Option Value) (h : Heap) (L : List Loc) : Prop := ∃ d c : Addr, v = some (.ref d) ∧ Fr n0 L ∧ Keep h0 h [] ∧ h0.size ≤ d ∧ h0.size ≤ c ∧ Exa Z h d "com/example/gettone/gettone/solver/Decision" ∧ Fld Z h d "com/example/gettone/gettone/solver/Decision" "values" "[Z" (.ref c) ∧ Fld Z h d "com/example/gettone/gettone/solver/Decision" "candidateCount" "I" (.int p1) ∧ Af Z h c .boolean 4 f
set_option maxRecDepth 65536 in
set_option maxHeartbeats 40000000 in
theorem rm1 (l : Launch) (Z : State) (a0 : Array Value) (hw : ∀ d ∈ tables_1, d.before a0 Z = true) (ws : List Jvm.Cond) (r0 : Addr) (p1 : Int32) (f : Nat → Value) (h0 : Heap) (n0 : Nat) (Z0 : n0 ≤ h0.size) (A : Af Z h0 r0 .boolean 4 f) (E : Exa Z h0 r0 "[Z") :
    MetFree l (⟨"com/example/gettone/gettone/solver/Decision", "trueWith", "([ZI)Lcom/example/gettone/gettone/solver/Decision;"⟩ : MethodName) (head1 (Jvm.Cond.code (⟨"com/example/gettone/gettone/solver/Decision", "trueWith", "([ZI)Lcom/example/gettone/gettone/solver/Decision;"⟩ : MethodName) prog_53_method_2_code 2 (some (.object "com/example/gettone/gettone/solver/Decision")) :: ws) ({ frames := 2, cells := 2, slots := 6, locals := 27 } : Room)) (fun a U => a = #[(.ref r0), (.int p1)] ∧ Z.Warmed39 U.vm ∧ U.heap = h0) (fun _ _ _ _ _ => True) (fun _ U o U' => ∃ v L, o = .returned v ∧ Q1 Z r0 p1 f h0 n0 v U'.heap L ∧ FrameEnd U o U' L ({ frames := 2, cells := 2, slots := 6, locals := 27 } : Room).cells ({ frames := 2, cells := 2, slots := 6, locals := 27 } : Room).slots) := by
  refine MetFree.of_bodySF (plainFor_of_name own_pn_rm1) hisR ?_
  intro p e s m args below meth c s₁ Bd hml0 hP hK
  obtain ⟨rfl, hZ, hh⟩ := hP
  have hx := Bd.exec
  have hby := Bd.bytes
  have hml : c.maxLocals = 2 := hml0
  have hown : s.vm.findClass "com/example/gettone/gettone/solver/Decision" = some m.cls := findClass_of_methodNamed Bd.named
  have hnm := (name_of_methodNamed Bd.named Bd.method).1
  have hlk : meth.locks = false := BodyLoose.notSynchronized Bd
  have X0 : Stand p l e ({ frames := 2, cells := 2, slots := 6, locals := 27 } : Room) s m #[(.ref r0), (.int p1)] below meth c s₁ [] 0 0 := Stand.of_body Bd
  have e0 : s₁.heap = h0 := by rw [← hh, Bd.state]; rfl
  have N0 := Fr.nil n0
  refine own_in (own_ef_rm1 m r0 p1) ?_
  show Gm p e below s₁ m 0 #[rv r0, iv p1] [] _
  obtain ⟨T1, h1, X1, e1, E1, A1, D1, -, st1⟩ := newO X0 hx hZ hown (hw _ (List.mem_of_getElem? (i := 5) rfl)) (hw _ (List.mem_of_getElem? (i := 6) rfl)) (hw _ (List.mem_of_getElem? (i := 3) rfl)) e0 (g := (mkF m 0 #[rv r0, iv p1] [])) rfl (Jvm.hb hby d1_0) (by decide) (by decide)
  obtain ⟨b1, g1⟩ : ∃ z, z = h0.size := ⟨_, rfl⟩
  rw [← g1] at A1 D1 st1
  have g_b1 : n0 ≤ b1 := Nat.le_trans Z0 (Nat.le_of_eq g1.symm)
  have ne_r0_b1 : r0 ≠ b1 := Nat.ne_of_lt (Nat.lt_of_lt_of_le A.lt (Nat.le_of_eq g1.symm))
  have sz_b1 : h0.size ≤ b1 := Nat.le_trans (Keep.refl h0 []).1 (Nat.le_of_eq g1.symm)
  have K1 : Keep h0 h1 [] := Keep.ext (Keep.refl h0 []) E1
  have Z1 : n0 ≤ h1.size := Nat.le_trans Z0 E1.1
  have F_values_b1 : Fld Z h1 b1 "com/example/gettone/gettone/solver/Decision" "values" "[Z" .null := D1 (Or.inr (hw _ (List.mem_of_getElem? (i := 23) rfl))) (ty := (.array .boolean)) (by decide)
  have F_candidateCount_b1 : Fld Z h1 b1 "com/example/gettone/gettone/solver/Decision" "candidateCount" "I" (.int (0 : Int32)) := D1 (Or.inr (hw _ (List.mem_of_getElem? (i := 25) rfl))) (ty := .int) (by decide)
  refine own_go st1 ?_
  show Gm p e below T1 m 3 #[rv r0, iv p1] [(.ref b1)] _
  refine own_go (fun t₀ k₀ => XS.dup X1.here hx rfl (Jvm.hb hby d1_3) rfl rfl k₀) ?_
  show Gm p e below T1 m 4 #[rv r0, iv p1] [(.ref b1), (.ref b1)] _
  refine own_go (fun t₀ k₀ => XS.aloadN X1.here hx rfl (Jvm.hb hby d1_4) rfl rfl k₀) ?_
  show Gm p e below T1 m 5 #[rv r0, iv p1] [(.ref r0), (.ref b1), (.ref b1)] _
  have f2 := (A.ext E1)
  have f3 := (E.ext E1)
  obtain ⟨T4, h4, X4, e4, E4, A4, Y4, st4⟩ := own_clone X1 hx hZ hown (hw _ (List.mem_of_getElem? (i := 7) rfl)) (hw _ (List.mem_of_getElem? (i := 8) rfl)) (hw _ (List.mem_of_getElem? (i := 12) rfl)) (hw _ (List.mem_of_getElem? (i := 10) rfl)) (hw _ (List.mem_of_getElem? (i := 11) rfl)) (hw _ (List.mem_of_getElem? (i := 13) rfl)) e1 f2 f3 (g := (mkF m 5 #[rv r0, iv p1] [(.ref r0), (.ref b1), (.ref b1)])) rfl (by rw [hml]; rfl) rfl (Jvm.hb hby d1_5) (by decide) (W := 2) (cap := 4) (by show 2 * 0 + _ ≤ _; exact Nat.le_of_eq rfl) (by decide) (by decide) (by decide) (by decide)
  obtain ⟨b4, g4⟩ : ∃ z, z = h1.size := ⟨_, rfl⟩
  rw [← g4] at A4 Y4 st4
  have g_b4 : n0 ≤ b4 := Nat.le_trans Z1 (Nat.le_of_eq g4.symm)
  have ne_r0_b4 : r0 ≠ b4 := Nat.ne_of_lt (Nat.lt_of_lt_of_le f2.lt (Nat.le_of_eq g4.symm))
  have ne_b1_b4 : b1 ≠ b4 := Nat.ne_of_lt (Nat.lt_of_lt_of_le A1.lt (Nat.le_of_eq g4.symm))
  have sz_b4 : h0.size ≤ b4 := Nat.le_trans K1.1 (Nat.le_of_eq g4.symm)
  have K4 : Keep h0 h4 [] := Keep.ext K1 E4
  have Z4 : n0 ≤ h4.size := Nat.le_trans Z1 E4.1
  refine own_go st4 ?_
  show Gm p e below T4 m 8 #[rv r0, iv p1] [(.ref b4), (.ref b1), (.ref b1)] _
  obtain ⟨T5, X5, e5, st5⟩ := castY X4 hx hZ hown (hw _ (List.mem_of_getElem? (i := 14) rfl)) e4 (Ins.self Y4) (g := (mkF m 8 #[rv r0, iv p1] [(.ref b4), (.ref b1), (.ref b1)])) rfl rfl (Jvm.hb hby d1_8)
  refine own_go st5 ?_
  show Gm p e below T5 m 11 #[rv r0, iv p1] [(.ref b4), (.ref b1), (.ref b1)] _
  refine own_go (fun t₀ k₀ => XS.iloadN X5.here hx rfl (Jvm.hb hby d1_11) rfl k₀) ?_
  show Gm p e below T5 m 12 #[rv r0, iv p1] [(.int p1), (.ref b4), (.ref b1), (.ref b1)] _
  have f6 := (A1.ext E4)
  have f7 := (F_values_b1.ext E4)
  have f8 := (F_candidateCount_b1.ext E4)
  obtain ⟨_, _, ⟨T9, L9, k9, n9⟩, -, X9, ⟨Lc9, hQ9, l9, y9, z9⟩, st9⟩ := X5.specialBack hx (y := (⟨"com/example/gettone/gettone/solver/Decision", "<init>", "([ZI)V"⟩ : MethodName)) rfl hown (mvT hZ (hw _ (List.mem_of_getElem? (i := 16) rfl))) (mvT hZ (hw _ (List.mem_of_getElem? (i := 17) rfl))) (mvT hZ (hw _ (List.mem_of_getElem? (i := 18) rfl))) (by decide) (backOf (W := 1) (rm2 l Z a0 hw [] b1 b4 p1 h4 n0 Z4 f6 f7 f8 g_b1) hZ (hw _ (List.mem_of_getElem? (i := 18) rfl)) (hw _ (List.mem_of_getElem? (i := 3) rfl)) (by decide) (by decide)) (g := (mkF m 12 #[rv r0, iv p1] [(.int p1), (.ref b4), (.ref b1), (.ref b1)])) rfl (by rw [hml]; rfl) (Steps.refl _) (a := b1) (argsL := [(.ref b4), (.int p1)]) (rest := [(.ref b1)]) (lenOf own_pd0 rfl) rfl (by show 2 * 0 + _ ≤ _; exact Nat.le_of_eq rfl) (Jvm.hb hby d1_12) (fun _ _ => ⟨rfl, e5, (by decide : 2 + 0 ≤ _), (by decide : 6 + 0 ≤ _)⟩)
  dsimp only [Pt.U, Pt.locs, Pt.cells, Pt.slots] at X9 l9 y9 z9 st9 hQ9
  subst l9 y9 z9
  obtain ⟨rfl, Nq9, Kc9, Ec9, Fv9, Fc9⟩ := hQ9
  have N9 := Fr.app N0 Nq9
  refine own_go (fun t k => st9.trans k) ?_
  have Z9 : n0 ≤ T9.heap.size := Nat.le_trans Z4 Kc9.1
  have K9 : Keep h0 T9.heap [] := Keep.trans K4 Kc9 (allS (Or.inr sz_b1) all0)
  show Gm p e below T9 m 15 #[rv r0, iv p1] [(.ref b1)] _
  have f10 := (A4.keep Kc9 (ninS (Ne.symm ne_b1_b4) nin0))
  exact own_retA X9 hx hlk rfl Bd.returns rfl (Jvm.hb hby d1_15) rfl ⟨b1, b4, rfl, N9, K9, sz_b1, sz_b4, Ec9, Fv9, Fc9, f10⟩ (by decide) (by decide)
theorem d4_0 : decode prog_53_method_4_code 0 = .ok (.aload_n 0, 1) := by decide +kernel
theorem d4_1 : decode prog_53_method_4_code 1 = .ok (.getfield 7, 3) := by decide +kernel
theorem d4_4 : decode prog_53_method_4_code 4 = .ok (.ifnull 7, 3) := by decide +kernel
theorem d4_7 : decode prog_53_method_4_code 7 = .ok (.iconst 1, 1) := by decide +kernel
theorem d4_8 : decode prog_53_method_4_code 8 = .ok (.goto 4, 3) := by decide +kernel
theorem d4_12 : decode prog_53_method_4_code 12 = .ok (.ireturn, 1) := by decide +kernel
theorem own_pn_rm4 : plainName "com/example/gettone/gettone/solver/Decision" = true := by first | (simp [plainName, overriddenIn]; done) | decide +kernel
theorem own_ef_rm4 (m : MethodId) (r0 : Addr) : entryFrame m #[(.ref r0)] 1 = mkF m 0 #[.val (.ref r0)] [] := by first | (simp [entryFrame, mkF, argsToLocals, Value.category]; done) | rfl
def Q4 (Z : State) (r0 : Addr) (c1 : Addr) (h0 : Heap) (n0 : Nat) (v : Option Value) (h : Heap) (L : List Loc) : Prop := v = some (.int 1) ∧ Fr n0 L ∧ h = h0
set_option maxRecDepth 65536 in
set_option maxHeartbeats 40000000 in
theorem rm4 (l : Launch) (Z : State) (a0 : Array Value) (hw : ∀ d ∈ tables_1, d.before a0 Z = true) (ws : List Jvm.Cond) (r0 : Addr) (c1 : Addr) (h0 : Heap) (n0 : Nat) (Z0 : n0 ≤ h0.size) (F_v : Fld Z h0 r0 "com/example/gettone/gettone/solver/Decision" "values" "[Z" (.ref c1)) :
    MetFree l (⟨"com/example/gettone/gettone/solver/Decision", "isTrue", "()Z"⟩ : MethodName) (head1 (Jvm.Cond.code (⟨"com/example/gettone/gettone/solver/Decision", "isTrue", "()Z"⟩ : MethodName) prog_53_method_4_code 1 (some .boolean) :: ws) ({ frames := 0, cells := 0, slots := 0, locals := 0 } : Room)) (fun a U => a = #[(.ref r0)] ∧ Z.Warmed39 U.vm ∧ U.heap = h0) (fun _ _ _ _ _ => True) (fun _ U o U' => ∃ v L, o = .returned v ∧ Q4 Z r0 c1 h0 n0 v U'.heap L ∧ FrameEnd U o U' L ({ frames := 0, cells := 0, slots := 0, locals := 0 } : Room).cells ({ frames := 0, cells := 0, slots := 0, locals := 0 } : Room).slots) := by
  refine MetFree.of_bodySF (plainFor_of_name own_pn_rm4) hisR ?_
  intro p e s m args below meth c s₁ Bd hml0 hP hK
  obtain ⟨rfl, hZ, hh⟩ := hP
  have hx := Bd.exec
  have hby := Bd.bytes
  have hml : c.maxLocals = 1 := hml0
  have hown : s.vm.findClass "com/example/gettone/gettone/solver/Decision" = some m.cls := findClass_of_methodNamed Bd.named
  have hnm := (name_of_methodNamed Bd.named Bd.method).1
  have hlk : meth.locks = false := BodyLoose.notSynchronized Bd
  have X0 : Stand p l e ({ frames := 0, cells := 0, slots := 0, locals := 0 } : Room) s m #[(.ref r0)] below meth c s₁ [] 0 0 := Stand.of_body Bd
  have e0 : s₁.heap = h0 := by rw [← hh, Bd.state]; rfl
  have N0 := Fr.nil n0
  refine own_in (own_ef_rm4 m r0) ?_
  show Gm p e below s₁ m 0 #[rv r0] [] _
  refine own_go (fun t₀ k₀ => XS.aloadN X0.here hx rfl (Jvm.hb hby d4_0) rfl rfl k₀) ?_
  show Gm p e below s₁ m 1 #[rv r0] [(.ref r0)] _
  obtain ⟨T1, X1, e1, st1⟩ := getF X0 hx hZ hown (host := "") (Or.inl (hw _ (List.mem_of_getElem? (i := 22) rfl))) Via.refl e0 F_v (g := (mkF m 1 #[rv r0] [(.ref r0)])) rfl rfl (Jvm.hb hby d4_1)
  refine own_go st1 ?_
  show Gm p e below T1 m 4 #[rv r0] [(.ref c1)] _
  refine own_go (fun t₀ k₀ => XS.ifnullNo X1.here hx rfl (Jvm.hb hby d4_4) rfl k₀) ?_
  show Gm p e below T1 m 7 #[rv r0] [] _
  refine own_go (fun t₀ k₀ => XS.iconst X1.here hx rfl (Jvm.hb hby d4_7) k₀) ?_
  show Gm p e below T1 m 8 #[rv r0] [(.int (1 : Int32))] _
  refine own_go (fun t₀ k₀ => XS.goto X1.here hx rfl (pc0 := 8) (pc' := 12) rfl (Jvm.hb hby d4_8) (by decide) (by decide) k₀) ?_
  show Gm p e below T1 m 12 #[rv r0] [(.int (1 : Int32))] _
  exact own_retI X1 hx hlk (t := .boolean) Bd.returns rfl (by simp) (Jvm.hb hby d4_12) e1 ⟨rfl, N0, rfl⟩ (by decide) (by decide)
theorem d5_0 : decode prog_53_method_6_code 0 = .ok (.aload_n 0, 1) := by decide +kernel
theorem d5_1 : decode prog_53_method_6_code 1 = .ok (.getfield 13, 3) := by decide +kernel
theorem d5_4 : decode prog_53_method_6_code 4 = .ok (.ireturn, 1) := by decide +kernel
theorem own_pn_rm5 : plainName "com/example/gettone/gettone/solver/Decision" = true := by first | (simp [plainName, overriddenIn]; done) | decide +kernel
theorem own_ef_rm5 (m : MethodId) (r0 : Addr) : entryFrame m #[(.ref r0)] 1 = mkF m 0 #[.val (.ref r0)] [] := by first | (simp [entryFrame, mkF, argsToLocals, Value.category]; done) | rfl
def Q5 (Z : State) (r0 : Addr) (x : Int32) (h0 : Heap) (n0 : Nat) (v : Option Value) (h : Heap) (L : List Loc) : Prop := v = some (.int x) ∧ Fr n0 L ∧ h = h0
set_option maxRecDepth 65536 in
set_option maxHeartbeats 40000000 in
theorem rm5 (l : Launch) (Z : State) (a0 : Array Value) (hw : ∀ d ∈ tables_1, d.before a0 Z = true) (ws : List Jvm.Cond) (r0 : Addr) (x : Int32) (h0 : Heap) (n0 : Nat) (Z0 : n0 ≤ h0.size) (F_c : Fld Z h0 r0 "com/example/gettone/gettone/solver/Decision" "candidateCount" "I" (.int x)) :
    MetFree l (⟨"com/example/gettone/gettone/solver/Decision", "candidateCount", "()I"⟩ : MethodName) (head1 (Jvm.Cond.code (⟨"com/example/gettone/gettone/solver/Decision", "candidateCount", "()I"⟩ : MethodName) prog_53_method_6_code 1 (some .int) :: ws) ({ frames := 0, cells := 0, slots := 0, locals := 0 } : Room)) (fun a U => a = #[(.ref r0)] ∧ Z.Warmed39 U.vm ∧ U.heap = h0) (fun _ _ _ _ _ => True) (fun _ U o U' => ∃ v L, o = .returned v ∧ Q5 Z r0 x h0 n0 v U'.heap L ∧ FrameEnd U o U' L ({ frames := 0, cells := 0, slots := 0, locals := 0 } : Room).cells ({ frames := 0, cells := 0, slots := 0, locals := 0 } : Room).slots) := by
  refine MetFree.of_bodySF (plainFor_of_name own_pn_rm5) hisR ?_
  intro p e s m args below meth c s₁ Bd hml0 hP hK
  obtain ⟨rfl, hZ, hh⟩ := hP
  have hx := Bd.exec
  have hby := Bd.bytes
  have hml : c.maxLocals = 1 := hml0
  have hown : s.vm.findClass "com/example/gettone/gettone/solver/Decision" = some m.cls := findClass_of_methodNamed Bd.named
  have hnm := (name_of_methodNamed Bd.named Bd.method).1
  have hlk : meth.locks = false := BodyLoose.notSynchronized Bd
  have X0 : Stand p l e ({ frames := 0, cells := 0, slots := 0, locals := 0 } : Room) s m #[(.ref r0)] below meth c s₁ [] 0 0 := Stand.of_body Bd
  have e0 : s₁.heap = h0 := by rw [← hh, Bd.state]; rfl
  have N0 := Fr.nil n0
  refine own_in (own_ef_rm5 m r0) ?_
  show Gm p e below s₁ m 0 #[rv r0] [] _
  refine own_go (fun t₀ k₀ => XS.aloadN X0.here hx rfl (Jvm.hb hby d5_0) rfl rfl k₀) ?_
  show Gm p e below s₁ m 1 #[rv r0] [(.ref r0)] _
  obtain ⟨T1, X1, e1, st1⟩ := getF X0 hx hZ hown (host := "") (Or.inl (hw _ (List.mem_of_getElem? (i := 24) rfl))) Via.refl e0 F_c (g := (mkF m 1 #[rv r0] [(.ref r0)])) rfl rfl (Jvm.hb hby d5_1)
  refine own_go st1 ?_
  show Gm p e below T1 m 4 #[rv r0] [(.int x)] _
  exact own_retI X1 hx hlk (t := .int) Bd.returns rfl (by simp) (Jvm.hb hby d5_4) e1 ⟨rfl, N0, rfl⟩ (by decide) (by decide)
theorem d6_0 : decode prog_53_method_5_code 0 = .ok (.aload_n 0, 1) := by decide +kernel
theorem d6_1 : decode prog_53_method_5_code 1 = .ok (.getfield 7, 3) := by decide +kernel
theorem d6_4 : decode prog_53_method_5_code 4 = .ok (.ifnonnull 13, 3) := by decide +kernel
theorem d6_17 : decode prog_53_method_5_code 17 = .ok (.iload_n 1, 1) := by decide +kernel
theorem d6_18 : decode prog_53_method_5_code 18 = .ok (.iconst 1, 1) := by decide +kernel
theorem d6_19 : decode prog_53_method_5_code 19 = .ok (.if_icmp .lt 12, 3) := by decide +kernel
theorem d6_22 : decode prog_53_method_5_code 22 = .ok (.iload_n 1, 1) := by decide +kernel
theorem d6_23 : decode prog_53_method_5_code 23 = .ok (.aload_n 0, 1) := by decide +kernel
theorem d6_24 : decode prog_53_method_5_code 24 = .ok (.getfield 7, 3) := by decide +kernel
theorem d6_27 : decode prog_53_method_5_code 27 = .ok (.arraylength, 1) := by decide +kernel
theorem d6_28 : decode prog_53_method_5_code 28 = .ok (.if_icmp .lt 17, 3) := by decide +kernel
theorem d6_45 : decode prog_53_method_5_code 45 = .ok (.aload_n 0, 1) := by decide +kernel
theorem d6_46 : decode prog_53_method_5_code 46 = .ok (.getfield 7, 3) := by decide +kernel
theorem d6_49 : decode prog_53_method_5_code 49 = .ok (.iload_n 1, 1) := by decide +kernel
theorem d6_50 : decode prog_53_method_5_code 50 = .ok (.baload, 1) := by decide +kernel
theorem d6_51 : decode prog_53_method_5_code 51 = .ok (.ireturn, 1) := by decide +kernel
theorem own_pn_rm6 : plainName "com/example/gettone/gettone/solver/Decision" = true := by first | (simp [plainName, overriddenIn]; done) | decide +kernel
theorem own_ef_rm6 (m : MethodId) (r0 : Addr) (p1 : Int32) : entryFrame m #[(.ref r0), (.int p1)] 2 = mkF m 0 #[.val (.ref r0), .val (.int p1)] [] := by first | (simp [entryFrame, mkF, argsToLocals, Value.category]; done) | rfl
def Q6 (Z : State) (r0 : Addr) (p1 : Int32) (c1 : Addr) (f : Nat → Value) (b : Int32) (h0 : Heap) (n0 : Nat) (v : Option Value) (h : Heap) (L : List Loc) : Prop := v = some (.int b) ∧ Fr n0 L ∧ h = h0
set_option maxRecDepth 65536 in
set_option maxHeartbeats 40000000 in
theorem rm6 (l : Launch) (Z : State) (a0 : Array Value) (hw : ∀ d ∈ tables_1, d.before a0 Z = true) (ws : List Jvm.Cond) (r0 : Addr) (p1 : Int32) (c1 : Addr) (f : Nat → Value) (b : Int32) (h0 : Heap) (n0 : Nat) (Z0 : n0 ≤ h0.size) (F_v : Fld Z h0 r0 "com/example/gettone/gettone/solver/Decision" "values" "[Z" (.ref c1)) (A : Af Z h0 c1 .boolean 4 f) (hlo : ¬ p1 < 1) (hhi : p1 < 4) (hj : ¬ p1 < 0) (hk : p1.toNatClampNeg < 4) (hb : f p1.toNatClampNeg = .int b) (hn : narrow .boolean (.int b) = .int b) :
    MetFree l (⟨"com/example/gettone/gettone/solver/Decision", "value", "(I)Z"⟩ : MethodName) (head1 (Jvm.Cond.code (⟨"com/example/gettone/gettone/solver/Decision", "value", "(I)Z"⟩ : MethodName) prog_53_method_5_code 2 (some .boolean) :: ws) ({ frames := 0, cells := 0, slots := 0, locals := 0 } : Room)) (fun a U => a = #[(.ref r0), (.int p1)] ∧ Z.Warmed39 U.vm ∧ U.heap = h0) (fun _ _ _ _ _ => True) (fun _ U o U' => ∃ v L, o = .returned v ∧ Q6 Z r0 p1 c1 f b h0 n0 v U'.heap L ∧ FrameEnd U o U' L ({ frames := 0, cells := 0, slots := 0, locals := 0 } : Room).cells ({ frames := 0, cells := 0, slots := 0, locals := 0 } : Room).slots) := by
  refine MetFree.of_bodySF (plainFor_of_name own_pn_rm6) hisR ?_
  intro p e s m args below meth c s₁ Bd hml0 hP hK
  obtain ⟨rfl, hZ, hh⟩ := hP
  have hx := Bd.exec
  have hby := Bd.bytes
  have hml : c.maxLocals = 2 := hml0
  have hown : s.vm.findClass "com/example/gettone/gettone/solver/Decision" = some m.cls := findClass_of_methodNamed Bd.named
  have hnm := (name_of_methodNamed Bd.named Bd.method).1
  have hlk : meth.locks = false := BodyLoose.notSynchronized Bd
  have X0 : Stand p l e ({ frames := 0, cells := 0, slots := 0, locals := 0 } : Room) s m #[(.ref r0), (.int p1)] below meth c s₁ [] 0 0 := Stand.of_body Bd
  have e0 : s₁.heap = h0 := by rw [← hh, Bd.state]; rfl
  have N0 := Fr.nil n0
  refine own_in (own_ef_rm6 m r0 p1) ?_
  show Gm p e below s₁ m 0 #[rv r0, iv p1] [] _
  refine own_go (fun t₀ k₀ => XS.aloadN X0.here hx rfl (Jvm.hb hby d6_0) rfl rfl k₀) ?_
  show Gm p e below s₁ m 1 #[rv r0, iv p1] [(.ref r0)] _
  obtain ⟨T1, X1, e1, st1⟩ := getF X0 hx hZ hown (host := "") (Or.inl (hw _ (List.mem_of_getElem? (i := 22) rfl))) Via.refl e0 F_v (g := (mkF m 1 #[rv r0, iv p1] [(.ref r0)])) rfl rfl (Jvm.hb hby d6_1)
  refine own_go st1 ?_
  show Gm p e below T1 m 4 #[rv r0, iv p1] [(.ref c1)] _
  refine own_go (fun t₀ k₀ => XS.ifnonnullYes X1.here hx rfl (pc0 := 4) (pc' := 17) rfl (Jvm.hb hby d6_4) rfl (by decide) (by decide) k₀) ?_
  show Gm p e below T1 m 17 #[rv r0, iv p1] [] _
  refine own_go (fun t₀ k₀ => XS.iloadN X1.here hx rfl (Jvm.hb hby d6_17) rfl k₀) ?_
  show Gm p e below T1 m 18 #[rv r0, iv p1] [(.int p1)] _
  refine own_go (fun t₀ k₀ => XS.iconst X1.here hx rfl (Jvm.hb hby d6_18) k₀) ?_
  show Gm p e below T1 m 19 #[rv r0, iv p1] [(.int (1 : Int32)), (.int p1)] _
  refine own_go (fun t₀ k₀ => XS.icmpNo X1.here hx rfl (Jvm.hb hby d6_19) rfl (XT.ii_lt_f hlo) k₀) ?_
  show Gm p e below T1 m 22 #[rv r0, iv p1] [] _
  refine own_go (fun t₀ k₀ => XS.iloadN X1.here hx rfl (Jvm.hb hby d6_22) rfl k₀) ?_
  show Gm p e below T1 m 23 #[rv r0, iv p1] [(.int p1)] _
  refine own_go (fun t₀ k₀ => XS.aloadN X1.here hx rfl (Jvm.hb hby d6_23) rfl rfl k₀) ?_
  show Gm p e below T1 m 24 #[rv r0, iv p1] [(.ref r0), (.int p1)] _
  obtain ⟨T2, X2, e2, st2⟩ := getF X1 hx hZ hown (host := "") (Or.inl (hw _ (List.mem_of_getElem? (i := 22) rfl))) Via.refl e1 F_v (g := (mkF m 24 #[rv r0, iv p1] [(.ref r0), (.int p1)])) rfl rfl (Jvm.hb hby d6_24)
  refine own_go st2 ?_
  show Gm p e below T2 m 27 #[rv r0, iv p1] [(.ref c1), (.int p1)] _
  refine own_go (fun t₀ k₀ => own_len X2 hx hZ e2 A (z := (4 : Int32)) rfl (g := (mkF m 27 #[rv r0, iv p1] [(.ref c1), (.int p1)])) rfl rfl (Jvm.hb hby d6_27) k₀) ?_
  show Gm p e below T2 m 28 #[rv r0, iv p1] [(.int (4 : Int32)), (.int p1)] _
  refine own_go (fun t₀ k₀ => XS.icmpYes X2.here hx rfl (pc0 := 28) (pc' := 45) rfl (Jvm.hb hby d6_28) rfl (XT.ii_lt_t hhi) (by decide) (by decide) k₀) ?_
  show Gm p e below T2 m 45 #[rv r0, iv p1] [] _
  refine own_go (fun t₀ k₀ => XS.aloadN X2.here hx rfl (Jvm.hb hby d6_45) rfl rfl k₀) ?_
  show Gm p e below T2 m 46 #[rv r0, iv p1] [(.ref r0)] _
  obtain ⟨T3, X3, e3, st3⟩ := getF X2 hx hZ hown (host := "") (Or.inl (hw _ (List.mem_of_getElem? (i := 22) rfl))) Via.refl e2 F_v (g := (mkF m 46 #[rv r0, iv p1] [(.ref r0)])) rfl rfl (Jvm.hb hby d6_46)
  refine own_go st3 ?_
  show Gm p e below T3 m 49 #[rv r0, iv p1] [(.ref c1)] _
  refine own_go (fun t₀ k₀ => XS.iloadN X3.here hx rfl (Jvm.hb hby d6_49) rfl k₀) ?_
  show Gm p e below T3 m 50 #[rv r0, iv p1] [(.int p1), (.ref c1)] _
  refine own_go (fun t₀ k₀ => own_ldZ X3 hx hZ e3 A (j := p1) (k := p1.toNatClampNeg) hj rfl hk (w := (.int b)) hb (g := (mkF m 50 #[rv r0, iv p1] [(.int p1), (.ref c1)])) rfl rfl (Jvm.hb hby d6_50) k₀) ?_
  show Gm p e below T3 m 51 #[rv r0, iv p1] [(.int b)] _
  exact own_retI X3 hx hlk (t := .boolean) Bd.returns hn (by simp) (Jvm.hb hby d6_51) e3 ⟨rfl, N0, rfl⟩ (by decide) (by decide)
theorem own_pd1 : parseMethodDescriptor "([ZI)Lcom/example/gettone/gettone/solver/Decision;" = some ⟨[(.array .boolean), .int], some (.object "com/example/gettone/gettone/solver/Decision")⟩ := by decide +kernel
theorem own_pd2 : parseMethodDescriptor "()Z" = some ⟨[], some .boolean⟩ := by decide +kernel
theorem own_pd3 : parseMethodDescriptor "()I" = some ⟨[], some .int⟩ := by decide +kernel
theorem own_pd4 : parseMethodDescriptor "(I)Z" = some ⟨[.int], some .boolean⟩ := by decide +kernel
theorem own_pn_rm0 : plainName "com/example/gettone/gettone/solver/DecisionTrueWithPinLaw" = true := by first | (simp [plainName, overriddenIn]; done) | decide +kernel
theorem own_ef_rm0 (m : MethodId) (p0 : Int32) (p1 : Int32) : entryFrame m #[(.int p0), (.int p1)] maxLocals = mkF m 0 #[.val (.int p0), .val (.int p1), .unset, .unset, .unset, .unset, .unset] [] := by first | (simp [entryFrame, mkF, argsToLocals, Value.category, maxLocals]; done) | rfl
def Q0 (Z : State) (p0 : Int32) (p1 : Int32) (h0 : Heap) (n0 : Nat) (v : Option Value) (h : Heap) (L : List Loc) : Prop := v = some (.int 1) ∧ Fr n0 L
set_option maxRecDepth 65536 in
set_option maxHeartbeats 40000000 in
theorem rm0 (l : Launch) (Z : State) (a0 : Array Value) (hw : ∀ d ∈ tables_1, d.before a0 Z = true) (ws : List Jvm.Cond) (p0 : Int32) (p1 : Int32) (h0 : Heap) (n0 : Nat) (Z0 : n0 ≤ h0.size) :
    MetFree l x (head1 (Jvm.Cond.code x code maxLocals ret :: ws) room_1) (fun a U => a = #[(.int p0), (.int p1)] ∧ Z.Warmed39 U.vm ∧ U.heap = h0) (fun _ _ _ _ _ => True) (fun _ U o U' => ∃ v L, o = .returned v ∧ Q0 Z p0 p1 h0 n0 v U'.heap L ∧ FrameEnd U o U' L room_1.cells room_1.slots) := by
  refine MetFree.of_bodySF (plainFor_of_name own_pn_rm0) hisR ?_
  intro p e s m args below meth c s₁ Bd hml0 hP hK
  obtain ⟨rfl, hZ, hh⟩ := hP
  have hx := Bd.exec
  have hby := Bd.bytes
  have hml : c.maxLocals = 7 := hml0
  have hown : s.vm.findClass "com/example/gettone/gettone/solver/DecisionTrueWithPinLaw" = some m.cls := findClass_of_methodNamed Bd.named
  have hnm := (name_of_methodNamed Bd.named Bd.method).1
  have hlk : meth.locks = false := BodyLoose.notSynchronized Bd
  have X0 : Stand p l e room_1 s m #[(.int p0), (.int p1)] below meth c s₁ [] 0 0 := Stand.of_body Bd
  have e0 : s₁.heap = h0 := by rw [← hh, Bd.state]; rfl
  have N0 := Fr.nil n0
  refine own_in (own_ef_rm0 m p0 p1) ?_
  show Gm p e below s₁ m 0 #[iv p0, iv p1, .unset, .unset, .unset, .unset, .unset] [] _
  refine own_go (fun t₀ k₀ => XS.iconst X0.here hx rfl (Jvm.hb hby at_0) k₀) ?_
  show Gm p e below s₁ m 1 #[iv p0, iv p1, .unset, .unset, .unset, .unset, .unset] [(.int (4 : Int32))] _
  obtain ⟨T1, h1, k1, X1, e1, E1, A1, Y1, st1⟩ := newPE X0 hx hZ (hw _ (List.mem_of_getElem? (i := 0) rfl)) e0 (g := (mkF m 1 #[iv p0, iv p1, .unset, .unset, .unset, .unset, .unset] [(.int (4 : Int32))])) rfl (Jvm.hb hby at_1) rfl (by decide) (cap := 4) (by decide) (by decide) (by decide) (by decide) (ad := "[Z") (by decide)
  obtain ⟨b1, g1⟩ : ∃ z, z = h0.size := ⟨_, rfl⟩
  rw [← g1] at A1 st1 Y1
  have g_b1 : n0 ≤ b1 := Nat.le_trans Z0 (Nat.le_of_eq g1.symm)
  have Z1 : n0 ≤ h1.size := Nat.le_trans Z0 E1.1
  have V1 : Af Z h1 b1 .boolean 4 (fun _ => defaultValue .boolean) := Af.new A1 (by decide) rfl rfl
  refine own_go st1 ?_
  show Gm p e below T1 m 3 #[iv p0, iv p1, .unset, .unset, .unset, .unset, .unset] [(.ref b1)] _
  refine own_go (fun t₀ k₀ => XS.astoreN X1.here hx rfl (Jvm.hb hby at_3) rfl rfl (l' := #[iv p0, iv p1, rv b1, .unset, .unset, .unset, .unset]) rfl k₀) ?_
  show Gm p e below T1 m 4 #[iv p0, iv p1, rv b1, .unset, .unset, .unset, .unset] [] _
  refine own_go (fun t₀ k₀ => XS.aloadN X1.here hx rfl (Jvm.hb hby at_4) rfl rfl k₀) ?_
  show Gm p e below T1 m 5 #[iv p0, iv p1, rv b1, .unset, .unset, .unset, .unset] [(.ref b1)] _
  refine own_go (fun t₀ k₀ => XS.iconst X1.here hx rfl (Jvm.hb hby at_5) k₀) ?_
  show Gm p e below T1 m 6 #[iv p0, iv p1, rv b1, .unset, .unset, .unset, .unset] [(.int (0 : Int32)), (.ref b1)] _
  refine own_go (fun t₀ k₀ => XS.iloadN X1.here hx rfl (Jvm.hb hby at_6) rfl k₀) ?_
  show Gm p e below T1 m 7 #[iv p0, iv p1, rv b1, .unset, .unset, .unset, .unset] [(.int p0), (.int (0 : Int32)), (.ref b1)] _
  refine own_go (fun t₀ k₀ => XS.iconst X1.here hx rfl (Jvm.hb hby at_7) k₀) ?_
  show Gm p e below T1 m 8 #[iv p0, iv p1, rv b1, .unset, .unset, .unset, .unset] [(.int (1 : Int32)), (.int p0), (.int (0 : Int32)), (.ref b1)] _
  refine own_go (fun t₀ k₀ => XS.iand X1.here hx rfl (Jvm.hb hby at_8) rfl k₀) ?_
  show Gm p e below T1 m 9 #[iv p0, iv p1, rv b1, .unset, .unset, .unset, .unset] [(.int (p0 &&& (1 : Int32))), (.int (0 : Int32)), (.ref b1)] _
  obtain ⟨b2, hb2, k2⟩ : ∃ z : Int32, z = (if (p0 &&& (1 : Int32)) = (0 : Int32) then (0 : Int32) else (1 : Int32)) ∧ ∀ t, Steps p.tables e below (T1.setTop (mkF m 17 #[iv p0, iv p1, rv b1, .unset, .unset, .unset, .unset] [(.int z), (.int (0 : Int32)), (.ref b1)])) t → Steps p.tables e below (T1.setTop (mkF m 9 #[iv p0, iv p1, rv b1, .unset, .unset, .unset, .unset] [(.int (p0 &&& (1 : Int32))), (.int (0 : Int32)), (.ref b1)])) t := by
    by_cases hq : (p0 &&& (1 : Int32)) = (0 : Int32)
    · refine ⟨(0 : Int32), by rw [if_pos hq], fun t₀ k₀ => ?_⟩
      refine XS.ifYes X1.here hx rfl (pc0 := 9) (pc' := 16) rfl (Jvm.hb hby at_9) rfl (XT.i0_eq_t hq) (by decide) (by decide) ?_
      refine XS.iconst X1.here hx rfl (Jvm.hb hby at_16) ?_
      exact k₀
    · refine ⟨(1 : Int32), by rw [if_neg hq], fun t₀ k₀ => ?_⟩
      refine XS.ifNo X1.here hx rfl (Jvm.hb hby at_9) rfl (XT.i0_eq_f hq) ?_
      refine XS.iconst X1.here hx rfl (Jvm.hb hby at_12) ?_
      refine XS.goto X1.here hx rfl (pc0 := 13) (pc' := 17) rfl (Jvm.hb hby at_13) (by decide) (by decide) ?_
      exact k₀
  refine own_go k2 ?_
  show Gm p e below T1 m 17 #[iv p0, iv p1, rv b1, .unset, .unset, .unset, .unset] [(.int b2), (.int (0 : Int32)), (.ref b1)] _
  obtain ⟨T3, h3, X3, e3, W3, A3, st3⟩ := own_stZ X1 hx hZ e1 V1 (j := (0 : Int32)) (k := 0) (by decide) rfl (by decide) (y := b2) (by rw [hb2]; split <;> decide) (g := (mkF m 17 #[iv p0, iv p1, rv b1, .unset, .unset, .unset, .unset] [(.int b2), (.int (0 : Int32)), (.ref b1)])) rfl rfl (Jvm.hb hby at_17)
  have N3 := Fr.snoc X3 N0 g_b1
  have Z3 : n0 ≤ h3.size := W3.size ▸ Z1
  refine own_go st3 ?_
  show Gm p e below T3 m 18 #[iv p0, iv p1, rv b1, .unset, .unset, .unset, .unset] [] _
  refine own_go (fun t₀ k₀ => XS.aloadN X3.here hx rfl (Jvm.hb hby at_18) rfl rfl k₀) ?_
  show Gm p e below T3 m 19 #[iv p0, iv p1, rv b1, .unset, .unset, .unset, .unset] [(.ref b1)] _
  refine own_go (fun t₀ k₀ => XS.iconst X3.here hx rfl (Jvm.hb hby at_19) k₀) ?_
  show Gm p e below T3 m 20 #[iv p0, iv p1, rv b1, .unset, .unset, .unset, .unset] [(.int (1 : Int32)), (.ref b1)] _
  refine own_go (fun t₀ k₀ => XS.iloadN X3.here hx rfl (Jvm.hb hby at_20) rfl k₀) ?_
  show Gm p e below T3 m 21 #[iv p0, iv p1, rv b1, .unset, .unset, .unset, .unset] [(.int p0), (.int (1 : Int32)), (.ref b1)] _
  refine own_go (fun t₀ k₀ => XS.iconst X3.here hx rfl (Jvm.hb hby at_21) k₀) ?_
  show Gm p e below T3 m 22 #[iv p0, iv p1, rv b1, .unset, .unset, .unset, .unset] [(.int (2 : Int32)), (.int p0), (.int (1 : Int32)), (.ref b1)] _
  refine own_go (fun t₀ k₀ => XS.iand X3.here hx rfl (Jvm.hb hby at_22) rfl k₀) ?_
  show Gm p e below T3 m 23 #[iv p0, iv p1, rv b1, .unset, .unset, .unset, .unset] [(.int (p0 &&& (2 : Int32))), (.int (1 : Int32)), (.ref b1)] _
  obtain ⟨b4, hb4, k4⟩ : ∃ z : Int32, z = (if (p0 &&& (2 : Int32)) = (0 : Int32) then (0 : Int32) else (1 : Int32)) ∧ ∀ t, Steps p.tables e below (T3.setTop (mkF m 31 #[iv p0, iv p1, rv b1, .unset, .unset, .unset, .unset] [(.int z), (.int (1 : Int32)), (.ref b1)])) t → Steps p.tables e below (T3.setTop (mkF m 23 #[iv p0, iv p1, rv b1, .unset, .unset, .unset, .unset] [(.int (p0 &&& (2 : Int32))), (.int (1 : Int32)), (.ref b1)])) t := by
    by_cases hq : (p0 &&& (2 : Int32)) = (0 : Int32)
    · refine ⟨(0 : Int32), by rw [if_pos hq], fun t₀ k₀ => ?_⟩
      refine XS.ifYes X3.here hx rfl (pc0 := 23) (pc' := 30) rfl (Jvm.hb hby at_23) rfl (XT.i0_eq_t hq) (by decide) (by decide) ?_
      refine XS.iconst X3.here hx rfl (Jvm.hb hby at_30) ?_
      exact k₀
    · refine ⟨(1 : Int32), by rw [if_neg hq], fun t₀ k₀ => ?_⟩
      refine XS.ifNo X3.here hx rfl (Jvm.hb hby at_23) rfl (XT.i0_eq_f hq) ?_
      refine XS.iconst X3.here hx rfl (Jvm.hb hby at_26) ?_
      refine XS.goto X3.here hx rfl (pc0 := 27) (pc' := 31) rfl (Jvm.hb hby at_27) (by decide) (by decide) ?_
      exact k₀
  refine own_go k4 ?_
  show Gm p e below T3 m 31 #[iv p0, iv p1, rv b1, .unset, .unset, .unset, .unset] [(.int b4), (.int (1 : Int32)), (.ref b1)] _
  obtain ⟨T5, h5, X5, e5, W5, A5, st5⟩ := own_stZ X3 hx hZ e3 A3 (j := (1 : Int32)) (k := 1) (by decide) rfl (by decide) (y := b4) (by rw [hb4]; split <;> decide) (g := (mkF m 31 #[iv p0, iv p1, rv b1, .unset, .unset, .unset, .unset] [(.int b4), (.int (1 : Int32)), (.ref b1)])) rfl rfl (Jvm.hb hby at_31)
  have N5 := Fr.snoc X5 N3 g_b1
  have Z5 : n0 ≤ h5.size := W5.size ▸ Z3
  refine own_go st5 ?_
  show Gm p e below T5 m 32 #[iv p0, iv p1, rv b1, .unset, .unset, .unset, .unset] [] _
  refine own_go (fun t₀ k₀ => XS.aloadN X5.here hx rfl (Jvm.hb hby at_32) rfl rfl k₀) ?_
  show Gm p e below T5 m 33 #[iv p0, iv p1, rv b1, .unset, .unset, .unset, .unset] [(.ref b1)] _
  refine own_go (fun t₀ k₀ => XS.iconst X5.here hx rfl (Jvm.hb hby at_33) k₀) ?_
  show Gm p e below T5 m 34 #[iv p0, iv p1, rv b1, .unset, .unset, .unset, .unset] [(.int (2 : Int32)), (.ref b1)] _
  refine own_go (fun t₀ k₀ => XS.iloadN X5.here hx rfl (Jvm.hb hby at_34) rfl k₀) ?_
  show Gm p e below T5 m 35 #[iv p0, iv p1, rv b1, .unset, .unset, .unset, .unset] [(.int p0), (.int (2 : Int32)), (.ref b1)] _
  refine own_go (fun t₀ k₀ => XS.iconst X5.here hx rfl (Jvm.hb hby at_35) k₀) ?_
  show Gm p e below T5 m 36 #[iv p0, iv p1, rv b1, .unset, .unset, .unset, .unset] [(.int (4 : Int32)), (.int p0), (.int (2 : Int32)), (.ref b1)] _
  refine own_go (fun t₀ k₀ => XS.iand X5.here hx rfl (Jvm.hb hby at_36) rfl k₀) ?_
  show Gm p e below T5 m 37 #[iv p0, iv p1, rv b1, .unset, .unset, .unset, .unset] [(.int (p0 &&& (4 : Int32))), (.int (2 : Int32)), (.ref b1)] _
  obtain ⟨b6, hb6, k6⟩ : ∃ z : Int32, z = (if (p0 &&& (4 : Int32)) = (0 : Int32) then (0 : Int32) else (1 : Int32)) ∧ ∀ t, Steps p.tables e below (T5.setTop (mkF m 45 #[iv p0, iv p1, rv b1, .unset, .unset, .unset, .unset] [(.int z), (.int (2 : Int32)), (.ref b1)])) t → Steps p.tables e below (T5.setTop (mkF m 37 #[iv p0, iv p1, rv b1, .unset, .unset, .unset, .unset] [(.int (p0 &&& (4 : Int32))), (.int (2 : Int32)), (.ref b1)])) t := by
    by_cases hq : (p0 &&& (4 : Int32)) = (0 : Int32)
    · refine ⟨(0 : Int32), by rw [if_pos hq], fun t₀ k₀ => ?_⟩
      refine XS.ifYes X5.here hx rfl (pc0 := 37) (pc' := 44) rfl (Jvm.hb hby at_37) rfl (XT.i0_eq_t hq) (by decide) (by decide) ?_
      refine XS.iconst X5.here hx rfl (Jvm.hb hby at_44) ?_
      exact k₀
    · refine ⟨(1 : Int32), by rw [if_neg hq], fun t₀ k₀ => ?_⟩
      refine XS.ifNo X5.here hx rfl (Jvm.hb hby at_37) rfl (XT.i0_eq_f hq) ?_
      refine XS.iconst X5.here hx rfl (Jvm.hb hby at_40) ?_
      refine XS.goto X5.here hx rfl (pc0 := 41) (pc' := 45) rfl (Jvm.hb hby at_41) (by decide) (by decide) ?_
      exact k₀
  refine own_go k6 ?_
  show Gm p e below T5 m 45 #[iv p0, iv p1, rv b1, .unset, .unset, .unset, .unset] [(.int b6), (.int (2 : Int32)), (.ref b1)] _
  obtain ⟨T7, h7, X7, e7, W7, A7, st7⟩ := own_stZ X5 hx hZ e5 A5 (j := (2 : Int32)) (k := 2) (by decide) rfl (by decide) (y := b6) (by rw [hb6]; split <;> decide) (g := (mkF m 45 #[iv p0, iv p1, rv b1, .unset, .unset, .unset, .unset] [(.int b6), (.int (2 : Int32)), (.ref b1)])) rfl rfl (Jvm.hb hby at_45)
  have N7 := Fr.snoc X7 N5 g_b1
  have Z7 : n0 ≤ h7.size := W7.size ▸ Z5
  refine own_go st7 ?_
  show Gm p e below T7 m 46 #[iv p0, iv p1, rv b1, .unset, .unset, .unset, .unset] [] _
  refine own_go (fun t₀ k₀ => XS.aloadN X7.here hx rfl (Jvm.hb hby at_46) rfl rfl k₀) ?_
  show Gm p e below T7 m 47 #[iv p0, iv p1, rv b1, .unset, .unset, .unset, .unset] [(.ref b1)] _
  refine own_go (fun t₀ k₀ => XS.iconst X7.here hx rfl (Jvm.hb hby at_47) k₀) ?_
  show Gm p e below T7 m 48 #[iv p0, iv p1, rv b1, .unset, .unset, .unset, .unset] [(.int (3 : Int32)), (.ref b1)] _
  refine own_go (fun t₀ k₀ => XS.iloadN X7.here hx rfl (Jvm.hb hby at_48) rfl k₀) ?_
  show Gm p e below T7 m 49 #[iv p0, iv p1, rv b1, .unset, .unset, .unset, .unset] [(.int p0), (.int (3 : Int32)), (.ref b1)] _
  refine own_go (fun t₀ k₀ => XS.bipush X7.here hx rfl (Jvm.hb hby at_49) k₀) ?_
  show Gm p e below T7 m 51 #[iv p0, iv p1, rv b1, .unset, .unset, .unset, .unset] [(.int (8 : Int32)), (.int p0), (.int (3 : Int32)), (.ref b1)] _
  refine own_go (fun t₀ k₀ => XS.iand X7.here hx rfl (Jvm.hb hby at_51) rfl k₀) ?_
  show Gm p e below T7 m 52 #[iv p0, iv p1, rv b1, .unset, .unset, .unset, .unset] [(.int (p0 &&& (8 : Int32))), (.int (3 : Int32)), (.ref b1)] _
  obtain ⟨b8, hb8, k8⟩ : ∃ z : Int32, z = (if (p0 &&& (8 : Int32)) = (0 : Int32) then (0 : Int32) else (1 : Int32)) ∧ ∀ t, Steps p.tables e below (T7.setTop (mkF m 60 #[iv p0, iv p1, rv b1, .unset, .unset, .unset, .unset] [(.int z), (.int (3 : Int32)), (.ref b1)])) t → Steps p.tables e below (T7.setTop (mkF m 52 #[iv p0, iv p1, rv b1, .unset, .unset, .unset, .unset] [(.int (p0 &&& (8 : Int32))), (.int (3 : Int32)), (.ref b1)])) t := by
    by_cases hq : (p0 &&& (8 : Int32)) = (0 : Int32)
    · refine ⟨(0 : Int32), by rw [if_pos hq], fun t₀ k₀ => ?_⟩
      refine XS.ifYes X7.here hx rfl (pc0 := 52) (pc' := 59) rfl (Jvm.hb hby at_52) rfl (XT.i0_eq_t hq) (by decide) (by decide) ?_
      refine XS.iconst X7.here hx rfl (Jvm.hb hby at_59) ?_
      exact k₀
    · refine ⟨(1 : Int32), by rw [if_neg hq], fun t₀ k₀ => ?_⟩
      refine XS.ifNo X7.here hx rfl (Jvm.hb hby at_52) rfl (XT.i0_eq_f hq) ?_
      refine XS.iconst X7.here hx rfl (Jvm.hb hby at_55) ?_
      refine XS.goto X7.here hx rfl (pc0 := 56) (pc' := 60) rfl (Jvm.hb hby at_56) (by decide) (by decide) ?_
      exact k₀
  refine own_go k8 ?_
  show Gm p e below T7 m 60 #[iv p0, iv p1, rv b1, .unset, .unset, .unset, .unset] [(.int b8), (.int (3 : Int32)), (.ref b1)] _
  obtain ⟨T9, h9, X9, e9, W9, A9, st9⟩ := own_stZ X7 hx hZ e7 A7 (j := (3 : Int32)) (k := 3) (by decide) rfl (by decide) (y := b8) (by rw [hb8]; split <;> decide) (g := (mkF m 60 #[iv p0, iv p1, rv b1, .unset, .unset, .unset, .unset] [(.int b8), (.int (3 : Int32)), (.ref b1)])) rfl rfl (Jvm.hb hby at_60)
  have N9 := Fr.snoc X9 N7 g_b1
  have Z9 : n0 ≤ h9.size := W9.size ▸ Z7
  refine own_go st9 ?_
  show Gm p e below T9 m 61 #[iv p0, iv p1, rv b1, .unset, .unset, .unset, .unset] [] _
  refine own_go (fun t₀ k₀ => XS.aloadN X9.here hx rfl (Jvm.hb hby at_61) rfl rfl k₀) ?_
  show Gm p e below T9 m 62 #[iv p0, iv p1, rv b1, .unset, .unset, .unset, .unset] [(.ref b1)] _
  refine own_go (fun t₀ k₀ => XS.iconst X9.here hx rfl (Jvm.hb hby at_62) k₀) ?_
  show Gm p e below T9 m 63 #[iv p0, iv p1, rv b1, .unset, .unset, .unset, .unset] [(.int (1 : Int32)), (.ref b1)] _
  refine own_go (fun t₀ k₀ => own_ldZ X9 hx hZ e9 A9 (j := (1 : Int32)) (k := 1) (by decide) rfl (by decide) (w := (.int b4)) rfl (g := (mkF m 63 #[iv p0, iv p1, rv b1, .unset, .unset, .unset, .unset] [(.int (1 : Int32)), (.ref b1)])) rfl rfl (Jvm.hb hby at_63) k₀) ?_
  show Gm p e below T9 m 64 #[iv p0, iv p1, rv b1, .unset, .unset, .unset, .unset] [(.int b4)] _
  refine own_go (fun t₀ k₀ => XS.istoreN X9.here hx rfl (Jvm.hb hby at_64) rfl (l' := #[iv p0, iv p1, rv b1, iv b4, .unset, .unset, .unset]) rfl k₀) ?_
  show Gm p e below T9 m 65 #[iv p0, iv p1, rv b1, iv b4, .unset, .unset, .unset] [] _
  refine own_go (fun t₀ k₀ => XS.aloadN X9.here hx rfl (Jvm.hb hby at_65) rfl rfl k₀) ?_
  show Gm p e below T9 m 66 #[iv p0, iv p1, rv b1, iv b4, .unset, .unset, .unset] [(.ref b1)] _
  refine own_go (fun t₀ k₀ => XS.iconst X9.here hx rfl (Jvm.hb hby at_66) k₀) ?_
  show Gm p e below T9 m 67 #[iv p0, iv p1, rv b1, iv b4, .unset, .unset, .unset] [(.int (2 : Int32)), (.ref b1)] _
  refine own_go (fun t₀ k₀ => own_ldZ X9 hx hZ e9 A9 (j := (2 : Int32)) (k := 2) (by decide) rfl (by decide) (w := (.int b6)) rfl (g := (mkF m 67 #[iv p0, iv p1, rv b1, iv b4, .unset, .unset, .unset] [(.int (2 : Int32)), (.ref b1)])) rfl rfl (Jvm.hb hby at_67) k₀) ?_
  show Gm p e below T9 m 68 #[iv p0, iv p1, rv b1, iv b4, .unset, .unset, .unset] [(.int b6)] _
  refine own_go (fun t₀ k₀ => XS.istore X9.here hx rfl (Jvm.hb hby at_68) rfl (l' := #[iv p0, iv p1, rv b1, iv b4, iv b6, .unset, .unset]) rfl k₀) ?_
  show Gm p e below T9 m 70 #[iv p0, iv p1, rv b1, iv b4, iv b6, .unset, .unset] [] _
  refine own_go (fun t₀ k₀ => XS.aloadN X9.here hx rfl (Jvm.hb hby at_70) rfl rfl k₀) ?_
  show Gm p e below T9 m 71 #[iv p0, iv p1, rv b1, iv b4, iv b6, .unset, .unset] [(.ref b1)] _
  refine own_go (fun t₀ k₀ => XS.iconst X9.here hx rfl (Jvm.hb hby at_71) k₀) ?_
  show Gm p e below T9 m 72 #[iv p0, iv p1, rv b1, iv b4, iv b6, .unset, .unset] [(.int (3 : Int32)), (.ref b1)] _
  refine own_go (fun t₀ k₀ => own_ldZ X9 hx hZ e9 A9 (j := (3 : Int32)) (k := 3) (by decide) rfl (by decide) (w := (.int b8)) rfl (g := (mkF m 72 #[iv p0, iv p1, rv b1, iv b4, iv b6, .unset, .unset] [(.int (3 : Int32)), (.ref b1)])) rfl rfl (Jvm.hb hby at_72) k₀) ?_
  show Gm p e below T9 m 73 #[iv p0, iv p1, rv b1, iv b4, iv b6, .unset, .unset] [(.int b8)] _
  refine own_go (fun t₀ k₀ => XS.istore X9.here hx rfl (Jvm.hb hby at_73) rfl (l' := #[iv p0, iv p1, rv b1, iv b4, iv b6, iv b8, .unset]) rfl k₀) ?_
  show Gm p e below T9 m 75 #[iv p0, iv p1, rv b1, iv b4, iv b6, iv b8, .unset] [] _
  refine own_go (fun t₀ k₀ => XS.aloadN X9.here hx rfl (Jvm.hb hby at_75) rfl rfl k₀) ?_
  show Gm p e below T9 m 76 #[iv p0, iv p1, rv b1, iv b4, iv b6, iv b8, .unset] [(.ref b1)] _
  refine own_go (fun t₀ k₀ => XS.iloadN X9.here hx rfl (Jvm.hb hby at_76) rfl k₀) ?_
  show Gm p e below T9 m 77 #[iv p0, iv p1, rv b1, iv b4, iv b6, iv b8, .unset] [(.int p1), (.ref b1)] _
  have f10 := ((((Y1.wr W3).wr W5).wr W7).wr W9)
  obtain ⟨_, _, ⟨T11, L11, k11, n11⟩, -, X11, ⟨Lc11, hQ11, l11, y11, z11⟩, st11⟩ := Jvm.LawKit.callS X9 hx (y := (⟨"com/example/gettone/gettone/solver/Decision", "trueWith", "([ZI)Lcom/example/gettone/gettone/solver/Decision;"⟩ : MethodName)) hown (mvT hZ (hw _ (List.mem_of_getElem? (i := 1) rfl))) (mvT hZ (hw _ (List.mem_of_getElem? (i := 2) rfl))) (mvT hZ (hw _ (List.mem_of_getElem? (i := 3) rfl))) (mvT hZ (hw _ (List.mem_of_getElem? (i := 4) rfl))) (by decide) (backOf (W := 0) (rm1 l Z a0 hw [] b1 p1 (fun i => if i = 3 then (.int b8) else (fun i => if i = 2 then (.int b6) else (fun i => if i = 1 then (.int b4) else (fun i => if i = 0 then (.int b2) else (fun _ => defaultValue .boolean) i) i) i) i) h9 n0 Z9 A9 f10) hZ (hw _ (List.mem_of_getElem? (i := 4) rfl)) (hw _ (List.mem_of_getElem? (i := 3) rfl)) (by decide) (by decide)) (g := (mkF m 77 #[iv p0, iv p1, rv b1, iv b4, iv b6, iv b8, .unset] [(.int p1), (.ref b1)])) rfl (by rw [hml]; rfl) (argsL := [(.ref b1), (.int p1)]) (rest := []) (lenOf own_pd1 rfl) rfl (by show 2 * 0 + _ ≤ _; exact Nat.le_of_eq rfl) (Jvm.hb hby at_77) (fun _ _ => ⟨rfl, e9, (by decide : 1 + 2 ≤ _), (by decide : 4 + 6 ≤ _)⟩)
  dsimp only [Pt.U, Pt.locs, Pt.cells, Pt.slots] at X11 l11 y11 z11 st11 hQ11
  subst l11 y11 z11
  obtain ⟨d11, c11, rfl, Nq11, Kc11, hd11, hc11, Ec11, Fv11, Fc11, Ac11⟩ := hQ11
  have N11 := Fr.app N9 Nq11
  refine own_go st11 ?_
  have ne_b1_d11 : b1 ≠ d11 := Nat.ne_of_lt (Nat.lt_of_lt_of_le A9.lt hd11)
  have ne_b1_c11 : b1 ≠ c11 := Nat.ne_of_lt (Nat.lt_of_lt_of_le A9.lt hc11)
  have Z11 : n0 ≤ T11.heap.size := Nat.le_trans Z9 Kc11.1
  show Gm p e below T11 m 80 #[iv p0, iv p1, rv b1, iv b4, iv b6, iv b8, .unset] [(.ref d11)] _
  refine own_go (fun t₀ k₀ => XS.astore X11.here hx rfl (Jvm.hb hby at_80) rfl rfl (l' := #[iv p0, iv p1, rv b1, iv b4, iv b6, iv b8, rv d11]) rfl k₀) ?_
  show Gm p e below T11 m 82 #[iv p0, iv p1, rv b1, iv b4, iv b6, iv b8, rv d11] [] _
  refine own_go (fun t₀ k₀ => XS.aloadN X11.here hx rfl (Jvm.hb hby at_82) rfl rfl k₀) ?_
  show Gm p e below T11 m 83 #[iv p0, iv p1, rv b1, iv b4, iv b6, iv b8, rv d11] [(.ref b1)] _
  refine own_go (fun t₀ k₀ => XS.iconst X11.here hx rfl (Jvm.hb hby at_83) k₀) ?_
  show Gm p e below T11 m 84 #[iv p0, iv p1, rv b1, iv b4, iv b6, iv b8, rv d11] [(.int (0 : Int32)), (.ref b1)] _
  refine own_go (fun t₀ k₀ => XS.aloadN X11.here hx rfl (Jvm.hb hby at_84) rfl rfl k₀) ?_
  show Gm p e below T11 m 85 #[iv p0, iv p1, rv b1, iv b4, iv b6, iv b8, rv d11] [(.ref b1), (.int (0 : Int32)), (.ref b1)] _
  refine own_go (fun t₀ k₀ => XS.iconst X11.here hx rfl (Jvm.hb hby at_85) k₀) ?_
  show Gm p e below T11 m 86 #[iv p0, iv p1, rv b1, iv b4, iv b6, iv b8, rv d11] [(.int (0 : Int32)), (.ref b1), (.int (0 : Int32)), (.ref b1)] _
  have f12 := (A9.keep Kc11 nin0)
  refine own_go (fun t₀ k₀ => own_ldZ X11 hx hZ rfl f12 (j := (0 : Int32)) (k := 0) (by decide) rfl (by decide) (w := (.int b2)) rfl (g := (mkF m 86 #[iv p0, iv p1, rv b1, iv b4, iv b6, iv b8, rv d11] [(.int (0 : Int32)), (.ref b1), (.int (0 : Int32)), (.ref b1)])) rfl rfl (Jvm.hb hby at_86) k₀) ?_
  show Gm p e below T11 m 87 #[iv p0, iv p1, rv b1, iv b4, iv b6, iv b8, rv d11] [(.int b2), (.int (0 : Int32)), (.ref b1)] _
  obtain ⟨b13, hb13, k13⟩ : ∃ z : Int32, z = (if b2 = (0 : Int32) then (1 : Int32) else (0 : Int32)) ∧ ∀ t, Steps p.tables e below (T11.setTop (mkF m 95 #[iv p0, iv p1, rv b1, iv b4, iv b6, iv b8, rv d11] [(.int z), (.int (0 : Int32)), (.ref b1)])) t → Steps p.tables e below (T11.setTop (mkF m 87 #[iv p0, iv p1, rv b1, iv b4, iv b6, iv b8, rv d11] [(.int b2), (.int (0 : Int32)), (.ref b1)])) t := by
    by_cases hq : b2 = (0 : Int32)
    · refine ⟨(1 : Int32), by rw [if_pos hq], fun t₀ k₀ => ?_⟩
      refine XS.ifNo X11.here hx rfl (Jvm.hb hby at_87) rfl (XT.i0_ne_f hq) ?_
      refine XS.iconst X11.here hx rfl (Jvm.hb hby at_90) ?_
      refine XS.goto X11.here hx rfl (pc0 := 91) (pc' := 95) rfl (Jvm.hb hby at_91) (by decide) (by decide) ?_
      exact k₀
    · refine ⟨(0 : Int32), by rw [if_neg hq], fun t₀ k₀ => ?_⟩
      refine XS.ifYes X11.here hx rfl (pc0 := 87) (pc' := 94) rfl (Jvm.hb hby at_87) rfl (XT.i0_ne_t hq) (by decide) (by decide) ?_
      refine XS.iconst X11.here hx rfl (Jvm.hb hby at_94) ?_
      exact k₀
  refine own_go k13 ?_
  show Gm p e below T11 m 95 #[iv p0, iv p1, rv b1, iv b4, iv b6, iv b8, rv d11] [(.int b13), (.int (0 : Int32)), (.ref b1)] _
  obtain ⟨T14, h14, X14, e14, W14, A14, st14⟩ := own_stZ X11 hx hZ rfl f12 (j := (0 : Int32)) (k := 0) (by decide) rfl (by decide) (y := b13) (by rw [hb13]; split <;> decide) (g := (mkF m 95 #[iv p0, iv p1, rv b1, iv b4, iv b6, iv b8, rv d11] [(.int b13), (.int (0 : Int32)), (.ref b1)])) rfl rfl (Jvm.hb hby at_95)
  have N14 := Fr.snoc X14 N11 g_b1
  have Z14 : n0 ≤ h14.size := W14.size ▸ Z11
  refine own_go st14 ?_
  show Gm p e below T14 m 96 #[iv p0, iv p1, rv b1, iv b4, iv b6, iv b8, rv d11] [] _
  refine own_go (fun t₀ k₀ => XS.aloadN X14.here hx rfl (Jvm.hb hby at_96) rfl rfl k₀) ?_
  show Gm p e below T14 m 97 #[iv p0, iv p1, rv b1, iv b4, iv b6, iv b8, rv d11] [(.ref b1)] _
  refine own_go (fun t₀ k₀ => XS.iconst X14.here hx rfl (Jvm.hb hby at_97) k₀) ?_
  show Gm p e below T14 m 98 #[iv p0, iv p1, rv b1, iv b4, iv b6, iv b8, rv d11] [(.int (1 : Int32)), (.ref b1)] _
  refine own_go (fun t₀ k₀ => XS.iloadN X14.here hx rfl (Jvm.hb hby at_98) rfl k₀) ?_
  show Gm p e below T14 m 99 #[iv p0, iv p1, rv b1, iv b4, iv b6, iv b8, rv d11] [(.int b4), (.int (1 : Int32)), (.ref b1)] _
  obtain ⟨b15, hb15, k15⟩ : ∃ z : Int32, z = (if b4 = (0 : Int32) then (1 : Int32) else (0 : Int32)) ∧ ∀ t, Steps p.tables e below (T14.setTop (mkF m 107 #[iv p0, iv p1, rv b1, iv b4, iv b6, iv b8, rv d11] [(.int z), (.int (1 : Int32)), (.ref b1)])) t → Steps p.tables e below (T14.setTop (mkF m 99 #[iv p0, iv p1, rv b1, iv b4, iv b6, iv b8, rv d11] [(.int b4), (.int (1 : Int32)), (.ref b1)])) t := by
    by_cases hq : b4 = (0 : Int32)
    · refine ⟨(1 : Int32), by rw [if_pos hq], fun t₀ k₀ => ?_⟩
      refine XS.ifNo X14.here hx rfl (Jvm.hb hby at_99) rfl (XT.i0_ne_f hq) ?_
      refine XS.iconst X14.here hx rfl (Jvm.hb hby at_102) ?_
      refine XS.goto X14.here hx rfl (pc0 := 103) (pc' := 107) rfl (Jvm.hb hby at_103) (by decide) (by decide) ?_
      exact k₀
    · refine ⟨(0 : Int32), by rw [if_neg hq], fun t₀ k₀ => ?_⟩
      refine XS.ifYes X14.here hx rfl (pc0 := 99) (pc' := 106) rfl (Jvm.hb hby at_99) rfl (XT.i0_ne_t hq) (by decide) (by decide) ?_
      refine XS.iconst X14.here hx rfl (Jvm.hb hby at_106) ?_
      exact k₀
  refine own_go k15 ?_
  show Gm p e below T14 m 107 #[iv p0, iv p1, rv b1, iv b4, iv b6, iv b8, rv d11] [(.int b15), (.int (1 : Int32)), (.ref b1)] _
  obtain ⟨T16, h16, X16, e16, W16, A16, st16⟩ := own_stZ X14 hx hZ e14 A14 (j := (1 : Int32)) (k := 1) (by decide) rfl (by decide) (y := b15) (by rw [hb15]; split <;> decide) (g := (mkF m 107 #[iv p0, iv p1, rv b1, iv b4, iv b6, iv b8, rv d11] [(.int b15), (.int (1 : Int32)), (.ref b1)])) rfl rfl (Jvm.hb hby at_107)
  have N16 := Fr.snoc X16 N14 g_b1
  have Z16 : n0 ≤ h16.size := W16.size ▸ Z14
  refine own_go st16 ?_
  show Gm p e below T16 m 108 #[iv p0, iv p1, rv b1, iv b4, iv b6, iv b8, rv d11] [] _
  refine own_go (fun t₀ k₀ => XS.aloadN X16.here hx rfl (Jvm.hb hby at_108) rfl rfl k₀) ?_
  show Gm p e below T16 m 109 #[iv p0, iv p1, rv b1, iv b4, iv b6, iv b8, rv d11] [(.ref b1)] _
  refine own_go (fun t₀ k₀ => XS.iconst X16.here hx rfl (Jvm.hb hby at_109) k₀) ?_
  show Gm p e below T16 m 110 #[iv p0, iv p1, rv b1, iv b4, iv b6, iv b8, rv d11] [(.int (2 : Int32)), (.ref b1)] _
  refine own_go (fun t₀ k₀ => XS.iload X16.here hx rfl (Jvm.hb hby at_110) rfl k₀) ?_
  show Gm p e below T16 m 112 #[iv p0, iv p1, rv b1, iv b4, iv b6, iv b8, rv d11] [(.int b6), (.int (2 : Int32)), (.ref b1)] _
  obtain ⟨b17, hb17, k17⟩ : ∃ z : Int32, z = (if b6 = (0 : Int32) then (1 : Int32) else (0 : Int32)) ∧ ∀ t, Steps p.tables e below (T16.setTop (mkF m 120 #[iv p0, iv p1, rv b1, iv b4, iv b6, iv b8, rv d11] [(.int z), (.int (2 : Int32)), (.ref b1)])) t → Steps p.tables e below (T16.setTop (mkF m 112 #[iv p0, iv p1, rv b1, iv b4, iv b6, iv b8, rv d11] [(.int b6), (.int (2 : Int32)), (.ref b1)])) t := by
    by_cases hq : b6 = (0 : Int32)
    · refine ⟨(1 : Int32), by rw [if_pos hq], fun t₀ k₀ => ?_⟩
      refine XS.ifNo X16.here hx rfl (Jvm.hb hby at_112) rfl (XT.i0_ne_f hq) ?_
      refine XS.iconst X16.here hx rfl (Jvm.hb hby at_115) ?_
      refine XS.goto X16.here hx rfl (pc0 := 116) (pc' := 120) rfl (Jvm.hb hby at_116) (by decide) (by decide) ?_
      exact k₀
    · refine ⟨(0 : Int32), by rw [if_neg hq], fun t₀ k₀ => ?_⟩
      refine XS.ifYes X16.here hx rfl (pc0 := 112) (pc' := 119) rfl (Jvm.hb hby at_112) rfl (XT.i0_ne_t hq) (by decide) (by decide) ?_
      refine XS.iconst X16.here hx rfl (Jvm.hb hby at_119) ?_
      exact k₀
  refine own_go k17 ?_
  show Gm p e below T16 m 120 #[iv p0, iv p1, rv b1, iv b4, iv b6, iv b8, rv d11] [(.int b17), (.int (2 : Int32)), (.ref b1)] _
  obtain ⟨T18, h18, X18, e18, W18, A18, st18⟩ := own_stZ X16 hx hZ e16 A16 (j := (2 : Int32)) (k := 2) (by decide) rfl (by decide) (y := b17) (by rw [hb17]; split <;> decide) (g := (mkF m 120 #[iv p0, iv p1, rv b1, iv b4, iv b6, iv b8, rv d11] [(.int b17), (.int (2 : Int32)), (.ref b1)])) rfl rfl (Jvm.hb hby at_120)
  have N18 := Fr.snoc X18 N16 g_b1
  have Z18 : n0 ≤ h18.size := W18.size ▸ Z16
  refine own_go st18 ?_
  show Gm p e below T18 m 121 #[iv p0, iv p1, rv b1, iv b4, iv b6, iv b8, rv d11] [] _
  refine own_go (fun t₀ k₀ => XS.aloadN X18.here hx rfl (Jvm.hb hby at_121) rfl rfl k₀) ?_
  show Gm p e below T18 m 122 #[iv p0, iv p1, rv b1, iv b4, iv b6, iv b8, rv d11] [(.ref b1)] _
  refine own_go (fun t₀ k₀ => XS.iconst X18.here hx rfl (Jvm.hb hby at_122) k₀) ?_
  show Gm p e below T18 m 123 #[iv p0, iv p1, rv b1, iv b4, iv b6, iv b8, rv d11] [(.int (3 : Int32)), (.ref b1)] _
  refine own_go (fun t₀ k₀ => XS.iload X18.here hx rfl (Jvm.hb hby at_123) rfl k₀) ?_
  show Gm p e below T18 m 125 #[iv p0, iv p1, rv b1, iv b4, iv b6, iv b8, rv d11] [(.int b8), (.int (3 : Int32)), (.ref b1)] _
  obtain ⟨b19, hb19, k19⟩ : ∃ z : Int32, z = (if b8 = (0 : Int32) then (1 : Int32) else (0 : Int32)) ∧ ∀ t, Steps p.tables e below (T18.setTop (mkF m 133 #[iv p0, iv p1, rv b1, iv b4, iv b6, iv b8, rv d11] [(.int z), (.int (3 : Int32)), (.ref b1)])) t → Steps p.tables e below (T18.setTop (mkF m 125 #[iv p0, iv p1, rv b1, iv b4, iv b6, iv b8, rv d11] [(.int b8), (.int (3 : Int32)), (.ref b1)])) t := by
    by_cases hq : b8 = (0 : Int32)
    · refine ⟨(1 : Int32), by rw [if_pos hq], fun t₀ k₀ => ?_⟩
      refine XS.ifNo X18.here hx rfl (Jvm.hb hby at_125) rfl (XT.i0_ne_f hq) ?_
      refine XS.iconst X18.here hx rfl (Jvm.hb hby at_128) ?_
      refine XS.goto X18.here hx rfl (pc0 := 129) (pc' := 133) rfl (Jvm.hb hby at_129) (by decide) (by decide) ?_
      exact k₀
    · refine ⟨(0 : Int32), by rw [if_neg hq], fun t₀ k₀ => ?_⟩
      refine XS.ifYes X18.here hx rfl (pc0 := 125) (pc' := 132) rfl (Jvm.hb hby at_125) rfl (XT.i0_ne_t hq) (by decide) (by decide) ?_
      refine XS.iconst X18.here hx rfl (Jvm.hb hby at_132) ?_
      exact k₀
  refine own_go k19 ?_
  show Gm p e below T18 m 133 #[iv p0, iv p1, rv b1, iv b4, iv b6, iv b8, rv d11] [(.int b19), (.int (3 : Int32)), (.ref b1)] _
  obtain ⟨T20, h20, X20, e20, W20, A20, st20⟩ := own_stZ X18 hx hZ e18 A18 (j := (3 : Int32)) (k := 3) (by decide) rfl (by decide) (y := b19) (by rw [hb19]; split <;> decide) (g := (mkF m 133 #[iv p0, iv p1, rv b1, iv b4, iv b6, iv b8, rv d11] [(.int b19), (.int (3 : Int32)), (.ref b1)])) rfl rfl (Jvm.hb hby at_133)
  have N20 := Fr.snoc X20 N18 g_b1
  have Z20 : n0 ≤ h20.size := W20.size ▸ Z18
  refine own_go st20 ?_
  show Gm p e below T20 m 134 #[iv p0, iv p1, rv b1, iv b4, iv b6, iv b8, rv d11] [] _
  refine own_go (fun t₀ k₀ => XS.aload X20.here hx rfl (Jvm.hb hby at_134) rfl rfl k₀) ?_
  show Gm p e below T20 m 136 #[iv p0, iv p1, rv b1, iv b4, iv b6, iv b8, rv d11] [(.ref d11)] _
  have f21 := (Fld.other W20 (Fld.other W18 (Fld.other W16 (Fld.other W14 Fv11 (Or.inl (Ne.symm ne_b1_d11))) (Or.inl (Ne.symm ne_b1_d11))) (Or.inl (Ne.symm ne_b1_d11))) (Or.inl (Ne.symm ne_b1_d11)))
  have f23 := ((((Ec11.wr W14).wr W16).wr W18).wr W20)
  obtain ⟨cq22, kq22, q22a, q22b, q22c⟩ := isOf hZ e20 f23
  obtain ⟨_, _, ⟨T22, L22, k22, n22⟩, -, X22, ⟨Lc22, hQ22, l22, y22, z22⟩, st22⟩ := X20.virtualBack hx (y := (⟨"com/example/gettone/gettone/solver/Decision", "isTrue", "()Z"⟩ : MethodName)) (z := (⟨"com/example/gettone/gettone/solver/Decision", "isTrue", "()Z"⟩ : MethodName)) hown (mvT hZ (hw _ (List.mem_of_getElem? (i := 26) rfl))) (mvT hZ (hw _ (List.mem_of_getElem? (i := 27) rfl))) (notFace_of_selects (args := #[]) (mvT hZ (hw _ (List.mem_of_getElem? (i := 29) rfl)))) (mvT hZ (hw _ (List.mem_of_getElem? (i := 29) rfl))) (mvT hZ (hw _ (List.mem_of_getElem? (i := 28) rfl))) (by decide) (backOf (W := 0) (rm4 l Z a0 hw [] d11 c11 h20 n0 Z20 f21) hZ (hw _ (List.mem_of_getElem? (i := 30) rfl)) (hw _ (List.mem_of_getElem? (i := 3) rfl)) (by decide) (by decide)) q22a q22c (g := (mkF m 136 #[iv p0, iv p1, rv b1, iv b4, iv b6, iv b8, rv d11] [(.ref d11)])) rfl (by rw [hml]; rfl) (Steps.refl _) (argsL := []) (rest := []) (lenOf own_pd2 rfl) rfl (by show 2 * 0 + _ ≤ _; exact Nat.le_of_eq rfl) (Jvm.hb hby at_136) (fun _ _ => ⟨rfl, e20, (by decide : 3 + 0 ≤ _), (by decide : 10 + 0 ≤ _)⟩)
  dsimp only [Pt.U, Pt.locs, Pt.cells, Pt.slots] at X22 l22 y22 z22 st22 hQ22
  subst l22 y22 z22
  obtain ⟨rfl, Nq22, eq22⟩ := hQ22
  have N22 := Fr.app N20 Nq22
  have e22 : T22.heap = h20 := eq22
  refine own_go (fun t k => st22.trans k) ?_
  show Gm p e below T22 m 139 #[iv p0, iv p1, rv b1, iv b4, iv b6, iv b8, rv d11] [(.int (1 : Int32))] _
  refine own_go (fun t₀ k₀ => XS.ifNo X22.here hx rfl (Jvm.hb hby at_139) rfl (XT.i0_eq_f (by decide)) k₀) ?_
  show Gm p e below T22 m 142 #[iv p0, iv p1, rv b1, iv b4, iv b6, iv b8, rv d11] [] _
  refine own_go (fun t₀ k₀ => XS.aload X22.here hx rfl (Jvm.hb hby at_142) rfl rfl k₀) ?_
  show Gm p e below T22 m 144 #[iv p0, iv p1, rv b1, iv b4, iv b6, iv b8, rv d11] [(.ref d11)] _
  have f24 := (Fld.other W20 (Fld.other W18 (Fld.other W16 (Fld.other W14 Fc11 (Or.inl (Ne.symm ne_b1_d11))) (Or.inl (Ne.symm ne_b1_d11))) (Or.inl (Ne.symm ne_b1_d11))) (Or.inl (Ne.symm ne_b1_d11)))
  obtain ⟨cq25, kq25, q25a, q25b, q25c⟩ := isOf hZ e22 f23
  obtain ⟨_, _, ⟨T25, L25, k25, n25⟩, -, X25, ⟨Lc25, hQ25, l25, y25, z25⟩, st25⟩ := X22.virtualBack hx (y := (⟨"com/example/gettone/gettone/solver/Decision", "candidateCount", "()I"⟩ : MethodName)) (z := (⟨"com/example/gettone/gettone/solver/Decision", "candidateCount", "()I"⟩ : MethodName)) hown (mvT hZ (hw _ (List.mem_of_getElem? (i := 31) rfl))) (mvT hZ (hw _ (List.mem_of_getElem? (i := 32) rfl))) (notFace_of_selects (args := #[]) (mvT hZ (hw _ (List.mem_of_getElem? (i := 34) rfl)))) (mvT hZ (hw _ (List.mem_of_getElem? (i := 34) rfl))) (mvT hZ (hw _ (List.mem_of_getElem? (i := 33) rfl))) (by decide) (backOf (W := 0) (rm5 l Z a0 hw [] d11 p1 h20 n0 Z20 f24) hZ (hw _ (List.mem_of_getElem? (i := 35) rfl)) (hw _ (List.mem_of_getElem? (i := 3) rfl)) (by decide) (by decide)) q25a q25c (g := (mkF m 144 #[iv p0, iv p1, rv b1, iv b4, iv b6, iv b8, rv d11] [(.ref d11)])) rfl (by rw [hml]; rfl) (Steps.refl _) (argsL := []) (rest := []) (lenOf own_pd3 rfl) rfl (by show 2 * 0 + _ ≤ _; exact Nat.le_of_eq rfl) (Jvm.hb hby at_144) (fun _ _ => ⟨rfl, e22, (by decide : 3 + 0 ≤ _), (by decide : 10 + 0 ≤ _)⟩)
  dsimp only [Pt.U, Pt.locs, Pt.cells, Pt.slots] at X25 l25 y25 z25 st25 hQ25
  subst l25 y25 z25
  obtain ⟨rfl, Nq25, eq25⟩ := hQ25
  have N25 := Fr.app N22 Nq25
  have e25 : T25.heap = h20 := eq25
  refine own_go (fun t k => st25.trans k) ?_
  show Gm p e below T25 m 147 #[iv p0, iv p1, rv b1, iv b4, iv b6, iv b8, rv d11] [(.int p1)] _
  refine own_go (fun t₀ k₀ => XS.iloadN X25.here hx rfl (Jvm.hb hby at_147) rfl k₀) ?_
  show Gm p e below T25 m 148 #[iv p0, iv p1, rv b1, iv b4, iv b6, iv b8, rv d11] [(.int p1), (.int p1)] _
  refine own_go (fun t₀ k₀ => XS.icmpNo X25.here hx rfl (Jvm.hb hby at_148) rfl (XT.ii_ne_f rfl) k₀) ?_
  show Gm p e below T25 m 151 #[iv p0, iv p1, rv b1, iv b4, iv b6, iv b8, rv d11] [] _
  refine own_go (fun t₀ k₀ => XS.aload X25.here hx rfl (Jvm.hb hby at_151) rfl rfl k₀) ?_
  show Gm p e below T25 m 153 #[iv p0, iv p1, rv b1, iv b4, iv b6, iv b8, rv d11] [(.ref d11)] _
  refine own_go (fun t₀ k₀ => XS.iconst X25.here hx rfl (Jvm.hb hby at_153) k₀) ?_
  show Gm p e below T25 m 154 #[iv p0, iv p1, rv b1, iv b4, iv b6, iv b8, rv d11] [(.int (1 : Int32)), (.ref d11)] _
  have f26 := ((((Ac11.other W14 (Ne.symm ne_b1_c11)).other W16 (Ne.symm ne_b1_c11)).other W18 (Ne.symm ne_b1_c11)).other W20 (Ne.symm ne_b1_c11))
  obtain ⟨cq27, kq27, q27a, q27b, q27c⟩ := isOf hZ e25 f23
  obtain ⟨_, _, ⟨T27, L27, k27, n27⟩, -, X27, ⟨Lc27, hQ27, l27, y27, z27⟩, st27⟩ := X25.virtualBack hx (y := (⟨"com/example/gettone/gettone/solver/Decision", "value", "(I)Z"⟩ : MethodName)) (z := (⟨"com/example/gettone/gettone/solver/Decision", "value", "(I)Z"⟩ : MethodName)) hown (mvT hZ (hw _ (List.mem_of_getElem? (i := 36) rfl))) (mvT hZ (hw _ (List.mem_of_getElem? (i := 37) rfl))) (notFace_of_selects (args := #[]) (mvT hZ (hw _ (List.mem_of_getElem? (i := 39) rfl)))) (mvT hZ (hw _ (List.mem_of_getElem? (i := 39) rfl))) (mvT hZ (hw _ (List.mem_of_getElem? (i := 38) rfl))) (by decide) (backOf (W := 0) (rm6 l Z a0 hw [] d11 (1 : Int32) c11 (fun i => if i = 3 then (.int b8) else (fun i => if i = 2 then (.int b6) else (fun i => if i = 1 then (.int b4) else (fun i => if i = 0 then (.int b2) else (fun _ => defaultValue .boolean) i) i) i) i) b4 h20 n0 Z20 f21 f26 (by decide) (by decide) (by decide) (by decide) rfl (by rw [hb4]; split <;> rfl)) hZ (hw _ (List.mem_of_getElem? (i := 40) rfl)) (hw _ (List.mem_of_getElem? (i := 3) rfl)) (by decide) (by decide)) q27a q27c (g := (mkF m 154 #[iv p0, iv p1, rv b1, iv b4, iv b6, iv b8, rv d11] [(.int (1 : Int32)), (.ref d11)])) rfl (by rw [hml]; rfl) (Steps.refl _) (argsL := [(.int (1 : Int32))]) (rest := []) (lenOf own_pd4 rfl) rfl (by show 2 * 0 + _ ≤ _; exact Nat.le_of_eq rfl) (Jvm.hb hby at_154) (fun _ _ => ⟨rfl, e25, (by decide : 3 + 0 ≤ _), (by decide : 10 + 0 ≤ _)⟩)
  dsimp only [Pt.U, Pt.locs, Pt.cells, Pt.slots] at X27 l27 y27 z27 st27 hQ27
  subst l27 y27 z27
  obtain ⟨rfl, Nq27, eq27⟩ := hQ27
  have N27 := Fr.app N25 Nq27
  have e27 : T27.heap = h20 := eq27
  refine own_go (fun t k => st27.trans k) ?_
  show Gm p e below T27 m 157 #[iv p0, iv p1, rv b1, iv b4, iv b6, iv b8, rv d11] [(.int b4)] _
  refine own_go (fun t₀ k₀ => XS.iloadN X27.here hx rfl (Jvm.hb hby at_157) rfl k₀) ?_
  show Gm p e below T27 m 158 #[iv p0, iv p1, rv b1, iv b4, iv b6, iv b8, rv d11] [(.int b4), (.int b4)] _
  refine own_go (fun t₀ k₀ => XS.icmpNo X27.here hx rfl (Jvm.hb hby at_158) rfl (XT.ii_ne_f rfl) k₀) ?_
  show Gm p e below T27 m 161 #[iv p0, iv p1, rv b1, iv b4, iv b6, iv b8, rv d11] [] _
  refine own_go (fun t₀ k₀ => XS.aload X27.here hx rfl (Jvm.hb hby at_161) rfl rfl k₀) ?_
  show Gm p e below T27 m 163 #[iv p0, iv p1, rv b1, iv b4, iv b6, iv b8, rv d11] [(.ref d11)] _
  refine own_go (fun t₀ k₀ => XS.iconst X27.here hx rfl (Jvm.hb hby at_163) k₀) ?_
  show Gm p e below T27 m 164 #[iv p0, iv p1, rv b1, iv b4, iv b6, iv b8, rv d11] [(.int (2 : Int32)), (.ref d11)] _
  obtain ⟨cq28, kq28, q28a, q28b, q28c⟩ := isOf hZ e27 f23
  obtain ⟨_, _, ⟨T28, L28, k28, n28⟩, -, X28, ⟨Lc28, hQ28, l28, y28, z28⟩, st28⟩ := X27.virtualBack hx (y := (⟨"com/example/gettone/gettone/solver/Decision", "value", "(I)Z"⟩ : MethodName)) (z := (⟨"com/example/gettone/gettone/solver/Decision", "value", "(I)Z"⟩ : MethodName)) hown (mvT hZ (hw _ (List.mem_of_getElem? (i := 36) rfl))) (mvT hZ (hw _ (List.mem_of_getElem? (i := 37) rfl))) (notFace_of_selects (args := #[]) (mvT hZ (hw _ (List.mem_of_getElem? (i := 39) rfl)))) (mvT hZ (hw _ (List.mem_of_getElem? (i := 39) rfl))) (mvT hZ (hw _ (List.mem_of_getElem? (i := 38) rfl))) (by decide) (backOf (W := 0) (rm6 l Z a0 hw [] d11 (2 : Int32) c11 (fun i => if i = 3 then (.int b8) else (fun i => if i = 2 then (.int b6) else (fun i => if i = 1 then (.int b4) else (fun i => if i = 0 then (.int b2) else (fun _ => defaultValue .boolean) i) i) i) i) b6 h20 n0 Z20 f21 f26 (by decide) (by decide) (by decide) (by decide) rfl (by rw [hb6]; split <;> rfl)) hZ (hw _ (List.mem_of_getElem? (i := 40) rfl)) (hw _ (List.mem_of_getElem? (i := 3) rfl)) (by decide) (by decide)) q28a q28c (g := (mkF m 164 #[iv p0, iv p1, rv b1, iv b4, iv b6, iv b8, rv d11] [(.int (2 : Int32)), (.ref d11)])) rfl (by rw [hml]; rfl) (Steps.refl _) (argsL := [(.int (2 : Int32))]) (rest := []) (lenOf own_pd4 rfl) rfl (by show 2 * 0 + _ ≤ _; exact Nat.le_of_eq rfl) (Jvm.hb hby at_164) (fun _ _ => ⟨rfl, e27, (by decide : 3 + 0 ≤ _), (by decide : 10 + 0 ≤ _)⟩)
  dsimp only [Pt.U, Pt.locs, Pt.cells, Pt.slots] at X28 l28 y28 z28 st28 hQ28
  subst l28 y28 z28
  obtain ⟨rfl, Nq28, eq28⟩ := hQ28
  have N28 := Fr.app N27 Nq28
  have e28 : T28.heap = h20 := eq28
  refine own_go (fun t k => st28.trans k) ?_
  show Gm p e below T28 m 167 #[iv p0, iv p1, rv b1, iv b4, iv b6, iv b8, rv d11] [(.int b6)] _
  refine own_go (fun t₀ k₀ => XS.iload X28.here hx rfl (Jvm.hb hby at_167) rfl k₀) ?_
  show Gm p e below T28 m 169 #[iv p0, iv p1, rv b1, iv b4, iv b6, iv b8, rv d11] [(.int b6), (.int b6)] _
  refine own_go (fun t₀ k₀ => XS.icmpNo X28.here hx rfl (Jvm.hb hby at_169) rfl (XT.ii_ne_f rfl) k₀) ?_
  show Gm p e below T28 m 172 #[iv p0, iv p1, rv b1, iv b4, iv b6, iv b8, rv d11] [] _
  refine own_go (fun t₀ k₀ => XS.aload X28.here hx rfl (Jvm.hb hby at_172) rfl rfl k₀) ?_
  show Gm p e below T28 m 174 #[iv p0, iv p1, rv b1, iv b4, iv b6, iv b8, rv d11] [(.ref d11)] _
  refine own_go (fun t₀ k₀ => XS.iconst X28.here hx rfl (Jvm.hb hby at_174) k₀) ?_
  show Gm p e below T28 m 175 #[iv p0, iv p1, rv b1, iv b4, iv b6, iv b8, rv d11] [(.int (3 : Int32)), (.ref d11)] _
  obtain ⟨cq29, kq29, q29a, q29b, q29c⟩ := isOf hZ e28 f23
  obtain ⟨_, _, ⟨T29, L29, k29, n29⟩, -, X29, ⟨Lc29, hQ29, l29, y29, z29⟩, st29⟩ := X28.virtualBack hx (y := (⟨"com/example/gettone/gettone/solver/Decision", "value", "(I)Z"⟩ : MethodName)) (z := (⟨"com/example/gettone/gettone/solver/Decision", "value", "(I)Z"⟩ : MethodName)) hown (mvT hZ (hw _ (List.mem_of_getElem? (i := 36) rfl))) (mvT hZ (hw _ (List.mem_of_getElem? (i := 37) rfl))) (notFace_of_selects (args := #[]) (mvT hZ (hw _ (List.mem_of_getElem? (i := 39) rfl)))) (mvT hZ (hw _ (List.mem_of_getElem? (i := 39) rfl))) (mvT hZ (hw _ (List.mem_of_getElem? (i := 38) rfl))) (by decide) (backOf (W := 0) (rm6 l Z a0 hw [] d11 (3 : Int32) c11 (fun i => if i = 3 then (.int b8) else (fun i => if i = 2 then (.int b6) else (fun i => if i = 1 then (.int b4) else (fun i => if i = 0 then (.int b2) else (fun _ => defaultValue .boolean) i) i) i) i) b8 h20 n0 Z20 f21 f26 (by decide) (by decide) (by decide) (by decide) rfl (by rw [hb8]; split <;> rfl)) hZ (hw _ (List.mem_of_getElem? (i := 40) rfl)) (hw _ (List.mem_of_getElem? (i := 3) rfl)) (by decide) (by decide)) q29a q29c (g := (mkF m 175 #[iv p0, iv p1, rv b1, iv b4, iv b6, iv b8, rv d11] [(.int (3 : Int32)), (.ref d11)])) rfl (by rw [hml]; rfl) (Steps.refl _) (argsL := [(.int (3 : Int32))]) (rest := []) (lenOf own_pd4 rfl) rfl (by show 2 * 0 + _ ≤ _; exact Nat.le_of_eq rfl) (Jvm.hb hby at_175) (fun _ _ => ⟨rfl, e28, (by decide : 3 + 0 ≤ _), (by decide : 10 + 0 ≤ _)⟩)
  dsimp only [Pt.U, Pt.locs, Pt.cells, Pt.slots] at X29 l29 y29 z29 st29 hQ29
  subst l29 y29 z29
  obtain ⟨rfl, Nq29, eq29⟩ := hQ29
  have N29 := Fr.app N28 Nq29
  have e29 : T29.heap = h20 := eq29
  refine own_go (fun t k => st29.trans k) ?_
  show Gm p e below T29 m 178 #[iv p0, iv p1, rv b1, iv b4, iv b6, iv b8, rv d11] [(.int b8)] _
  refine own_go (fun t₀ k₀ => XS.iload X29.here hx rfl (Jvm.hb hby at_178) rfl k₀) ?_
  show Gm p e below T29 m 180 #[iv p0, iv p1, rv b1, iv b4, iv b6, iv b8, rv d11] [(.int b8), (.int b8)] _
  refine own_go (fun t₀ k₀ => XS.icmpNo X29.here hx rfl (Jvm.hb hby at_180) rfl (XT.ii_ne_f rfl) k₀) ?_
  show Gm p e below T29 m 183 #[iv p0, iv p1, rv b1, iv b4, iv b6, iv b8, rv d11] [] _
  refine own_go (fun t₀ k₀ => XS.iconst X29.here hx rfl (Jvm.hb hby at_183) k₀) ?_
  show Gm p e below T29 m 184 #[iv p0, iv p1, rv b1, iv b4, iv b6, iv b8, rv d11] [(.int (1 : Int32))] _
  refine own_go (fun t₀ k₀ => XS.goto X29.here hx rfl (pc0 := 184) (pc' := 188) rfl (Jvm.hb hby at_184) (by decide) (by decide) k₀) ?_
  show Gm p e below T29 m 188 #[iv p0, iv p1, rv b1, iv b4, iv b6, iv b8, rv d11] [(.int (1 : Int32))] _
  exact own_retI X29 hx hlk (t := .boolean) Bd.returns rfl (by simp) (Jvm.hb hby at_188) e29 ⟨rfl, N29⟩ (by decide) (by decide)
set_option maxRecDepth 65536 in
set_option maxHeartbeats 40000000 in
theorem comes_1 {Post : Tables → Env → Array Value → State → Outcome → State → Prop} (hpost : ∀ tb e args s v u, (limb_1_1.after args s (.returned v) u = true ∧ limb_1_2.after args s (.returned v) u = true ∧ True) → FrameEnd s (.returned v) u (Jvm.fieldLocs frame_1_writes args s ++ Jvm.arrayLocs frame_1_arrays args s ++ Jvm.staticLocs frame_1_statics s) 16 128 → Post tb e args s (.returned v) u) :
    ArmFor flags0 classFile x code maxLocals ret World_1 tables_1 room_1 Calls_1 rest_1 Pre_1 Post := by
  intro l hfl _ _ p e ha hc hk s m args below hf hA hF happ hP
  obtain ⟨hcalls, hrest, hpre⟩ := hP
  obtain ⟨-, -, -, hnamed, -, -, -, hat⟩ := (Spec.applies_iff hf).mp happ
  obtain ⟨hg, hn⟩ := and_e (Cond.before_iff.mp (show (Jvm.Cond.and given_1 narrow_1).before args s = true from hpre))
  obtain ⟨g1, g2⟩ := and_e hg
  obtain ⟨g3, g4⟩ := and_e g2
  obtain ⟨w0, w1, rfl⟩ : ∃ w0 w1 : Value, args = #[w0, w1] := by
    have hs : args.size = 2 := by simpa [Cond.value, given_1] using g1
    obtain ⟨L⟩ := args
    match L, hs with
    | [w0, w1], _ => exact ⟨w0, w1, rfl⟩
  have hw := fun d (hd : d ∈ tables_1) => atoms_spec (ws := Jvm.Cond.code x code maxLocals ret :: tables_1) hat d (List.mem_cons_of_mem _ hd)
  have hfit : Fit s := fun {y c} hc i hi => by
    obtain ⟨ha, rfl⟩ := Array.getElem?_eq_some_iff.mp hc
    have q := List.all_eq_true.mp ((Array.all_eq_true_iff_forall_mem.mp hF) _ (Array.getElem_mem ha)) i (List.mem_range.mpr hi)
    simpa [Array.getElem?_eq_getElem hi] using q
  obtain ⟨i0, ei0⟩ := is_v g3
  obtain rfl : w0 = (.int i0) := Option.some.inj ei0
  obtain ⟨i1, ei1⟩ := is_v g4
  obtain rfl : w1 = (.int i1) := Option.some.inj ei1
  obtain ⟨n, o, h1, h2, h3, _, L, rfl, ⟨rfl, N⟩, hq⟩ := rm0 l s _ hw tables_1 i0 i1  s.heap s.heap.size (Nat.le_refl _)  p e ha hc hk s m _ below hf ((Spec.applies_iff_loose hf).mp happ).1 ⟨rfl, State.Warmed39.refl s, rfl⟩ trivial
  refine ⟨n, _, h1, h2, h3, hpost _ _ _ _ _ _ ⟨Cond.after_iff.mpr rfl, Cond.after_iff.mpr (eq_i res_at (Term.int_eval (1)) rfl), trivial⟩ ⟨hq.1, hq.2.1, (hq.2.2.sift fun y hy => Or.inr (N y hy)).mono (by decide) (by decide)⟩⟩
theorem main_1_1 : Claimed_1_1 := comes_1 fun _ _ _ _ _ _ h hF => ⟨h.1, hF⟩
theorem main_1_2 : Claimed_1_2 := comes_1 fun _ _ _ _ _ _ h hF => ⟨h.2.1, hF⟩
end Jvm.Pilot.@@N@@
namespace Jvm.Pilot.@@N@@
open Jvm Jvm.ClassFile Sem Op Lib Jvm.Free Jvm.Stand Jvm.Pilot.@@N@@.Jvm.D
/-! MADE BY PROGRAM (witnessworld.py) out of the Statement's table words and the real class files: 11 classes; the members and pool entries that the words name. The judged class is class 1, her method 1. -/
namespace start1
open Jvm.ClassFile
def u (s : String) : CpInfo := .utf8 (stringToUtf16 s)
/-- a pool by its gaps: so many unusable entries, then the entry; so many at the end -/
def gap : Nat → List CpInfo → List CpInfo
  | 0, r => r
  | n + 1, r => .unusable :: gap n r
def poolList (es : List (Nat × CpInfo)) (last : Nat) : List CpInfo := es.foldr (fun e r => gap e.1 (e.2 :: r)) (gap last [])
def pool (es : List (Nat × CpInfo)) (last : Nat) : Array CpInfo := ⟨poolList es last⟩
def fileOf (pool : Array CpInfo) (this : Nat) (attrs : Array Attribute := #[]) (ms : Array MethodInfo := #[]) (fl : Nat := 33) (sup : Nat := 0) (ifs : Array Nat := #[]) (fds : Array FieldInfo := #[]) : ClassFile where
  minorVersion := 0
  majorVersion := 65
  constantPool := pool
  accessFlags := fl
  thisClass := this
  superClass := sup
  interfaces := ifs
  fields := fds
  methods := ms
  attributes := attrs
def plain (name : String) (sup : Option ClassId) : Class where
  name := name
  kind := .ordinary
  loader := none
  accessFlags := 33
  super := sup
  interfaces := #[]
  cf := none
  fields := #[]
  methods := #[]
  instanceTypes := #[]
  staticTypes := #[]
  resolved := #[]
  callSites := []
  init := .initialized
  statics := none
  mirror := none

def pool0 : Array CpInfo := pool [(5, u "<init>"), (0, u "()V"), (1, .class_ 10), (1, u "java/lang/Object"), (85, u "clone"), (0, u "()Ljava/lang/Object;")] 26

def k0c0 : Code := { maxStack := 0, maxLocals := 1, code := object_method_1_code, exceptionTable := #[], attributes := #[] }
def k0m0 : Method := { name := "<init>", desc := "()V", sig := { parameters := [], returnType := none }, accessFlags := 1, code := some k0c0 }
def k0m1 : Method := { name := "clone", desc := "()Ljava/lang/Object;", sig := { parameters := [], returnType := some (.object "java/lang/Object") }, accessFlags := 260, code := none }
/-- java/lang/Object -/
def k0 : Class := { plain "java/lang/Object" none with
  accessFlags := 33
  interfaces := #[]
  cf := some (fileOf pool0 8 #[] #[{ accessFlags := 1, nameIndex := 5, descriptorIndex := 6, attributes := #[] }, { accessFlags := 260, nameIndex := 96, descriptorIndex := 97, attributes := #[] }] 33 0 #[] #[])
  fields := #[]
  methods := #[k0m0, k0m1]
  instanceTypes := #[]
  staticTypes := #[]
  resolved := Array.replicate 124 none
  statics := none }

def pool1 : Array CpInfo := pool [(2, .class_ 4), (1, u "java/lang/Object"), (0, u "<init>"), (0, u "()V"), (0, .methodref 8 9), (0, .class_ 10), (0, .nameAndType 11 12), (0, u "com/example/gettone/gettone/solver/Decision"), (0, u "trueWith"), (0, u "([ZI)Lcom/example/gettone/gettone/solver/Decision;"), (0, .methodref 8 14), (0, .nameAndType 15 16), (0, u "isTrue"), (0, u "()Z"), (0, .methodref 8 18), (0, .nameAndType 19 20), (0, u "candidateCount"), (0, u "()I"), (0, .methodref 8 22), (0, .nameAndType 23 24), (0, u "value"), (0, u "(I)Z"), (0, .class_ 26), (0, u "com/example/gettone/gettone/solver/DecisionTrueWithPinLaw"), (2, u "law"), (0, u "(II)Z")] 5

def k1m0 : Method := { name := "<init>", desc := "()V", sig := { parameters := [], returnType := none }, accessFlags := 1, code := none }
def k1c1 : Code := { maxStack := 4, maxLocals := 7, code := code, exceptionTable := #[], attributes := #[] }
def k1m1 : Method := { name := "law", desc := "(II)Z", sig := { parameters := [.int, .int], returnType := some .boolean }, accessFlags := 9, code := some k1c1 }
/-- com/example/gettone/gettone/solver/DecisionTrueWithPinLaw -/
def k1 : Class := { plain "com/example/gettone/gettone/solver/DecisionTrueWithPinLaw" (some 0) with
  accessFlags := 49
  interfaces := #[]
  cf := some (fileOf pool1 25 #[] #[{ accessFlags := 1, nameIndex := 5, descriptorIndex := 6, attributes := #[] }, { accessFlags := 9, nameIndex := 29, descriptorIndex := 30, attributes := #[] }] 49 2 #[] #[])
  fields := #[]
  methods := #[k1m0, k1m1]
  instanceTypes := #[]
  staticTypes := #[]
  resolved := Array.replicate 36 none
  statics := none }

def pool2 : Array CpInfo := pool [(1, .methodref 2 3), (0, .class_ 4), (0, .nameAndType 5 6), (0, u "java/lang/Object"), (0, u "<init>"), (0, u "()V"), (0, .fieldref 8 9), (0, .class_ 10), (0, .nameAndType 11 12), (0, u "com/example/gettone/gettone/solver/Decision"), (0, u "values"), (0, u "[Z"), (0, .fieldref 8 14), (0, .nameAndType 15 16), (0, u "candidateCount"), (0, u "I"), (0, .methodref 18 19), (0, .class_ 12), (0, .nameAndType 20 21), (0, u "clone"), (0, u "()Ljava/lang/Object;"), (0, .methodref 8 23), (0, .nameAndType 5 24), (0, u "([ZI)V"), (16, u "trueWith"), (0, u "([ZI)Lcom/example/gettone/gettone/solver/Decision;"), (2, u "isTrue"), (0, u "()Z"), (1, u "value"), (0, u "(I)Z"), (0, u "()I")] 17

def k2c0 : Code := { maxStack := 2, maxLocals := 3, code := prog_53_method_1_code, exceptionTable := #[], attributes := #[] }
def k2m0 : Method := { name := "<init>", desc := "([ZI)V", sig := { parameters := [(.array .boolean), .int], returnType := none }, accessFlags := 2, code := some k2c0 }
def k2c1 : Code := { maxStack := 4, maxLocals := 2, code := prog_53_method_2_code, exceptionTable := #[], attributes := #[] }
def k2m1 : Method := { name := "trueWith", desc := "([ZI)Lcom/example/gettone/gettone/solver/Decision;", sig := { parameters := [(.array .boolean), .int], returnType := some (.object "com/example/gettone/gettone/solver/Decision") }, accessFlags := 8, code := some k2c1 }
def k2c2 : Code := { maxStack := 1, maxLocals := 1, code := prog_53_method_4_code, exceptionTable := #[], attributes := #[] }
def k2m2 : Method := { name := "isTrue", desc := "()Z", sig := { parameters := [], returnType := some .boolean }, accessFlags := 1, code := some k2c2 }
def k2c3 : Code := { maxStack := 3, maxLocals := 2, code := prog_53_method_5_code, exceptionTable := #[], attributes := #[] }
def k2m3 : Method := { name := "value", desc := "(I)Z", sig := { parameters := [.int], returnType := some .boolean }, accessFlags := 1, code := some k2c3 }
def k2c4 : Code := { maxStack := 1, maxLocals := 1, code := prog_53_method_6_code, exceptionTable := #[], attributes := #[] }
def k2m4 : Method := { name := "candidateCount", desc := "()I", sig := { parameters := [], returnType := some .int }, accessFlags := 1, code := some k2c4 }
/-- com/example/gettone/gettone/solver/Decision -/
def k2 : Class := { plain "com/example/gettone/gettone/solver/Decision" (some 0) with
  accessFlags := 49
  interfaces := #[]
  cf := some (fileOf pool2 8 #[] #[{ accessFlags := 2, nameIndex := 5, descriptorIndex := 24, attributes := #[] }, { accessFlags := 8, nameIndex := 41, descriptorIndex := 42, attributes := #[] }, { accessFlags := 1, nameIndex := 45, descriptorIndex := 46, attributes := #[] }, { accessFlags := 1, nameIndex := 48, descriptorIndex := 49, attributes := #[] }, { accessFlags := 1, nameIndex := 15, descriptorIndex := 50, attributes := #[] }] 49 2 #[] #[{ accessFlags := 18, nameIndex := 11, descriptorIndex := 12, attributes := #[] }, { accessFlags := 18, nameIndex := 15, descriptorIndex := 16, attributes := #[] }])
  fields := #[{ name := "values", type := (.array .boolean), accessFlags := 18, slot := 0, constantValue := 0 }, { name := "candidateCount", type := .int, accessFlags := 18, slot := 1, constantValue := 0 }]
  methods := #[k2m0, k2m1, k2m2, k2m3, k2m4]
  instanceTypes := #[(.array .boolean), .int]
  staticTypes := #[]
  resolved := Array.replicate 68 none
  statics := none }

def pool3 : Array CpInfo := pool [(1, .class_ 2), (0, u "java/lang/Cloneable"), (0, .class_ 4), (0, u "java/lang/Object")] 2

/-- java/lang/Cloneable -/
def k3 : Class := { plain "java/lang/Cloneable" (some 0) with
  accessFlags := 1537
  interfaces := #[]
  cf := some (fileOf pool3 1 #[] #[] 1537 3 #[] #[])
  fields := #[]
  methods := #[]
  instanceTypes := #[]
  staticTypes := #[]
  resolved := Array.replicate 7 none
  statics := none }

def pool4 : Array CpInfo := pool [(1, u "java/io/Serializable"), (0, .class_ 1), (0, u "java/lang/Object"), (0, .class_ 3)] 3

/-- java/io/Serializable -/
def k4 : Class := { plain "java/io/Serializable" (some 0) with
  accessFlags := 1537
  interfaces := #[]
  cf := some (fileOf pool4 2 #[] #[] 1537 4 #[] #[])
  fields := #[]
  methods := #[]
  instanceTypes := #[]
  staticTypes := #[]
  resolved := Array.replicate 8 none
  statics := none }

/-- the primitive boolean -/
def k5 : Class := { plain "boolean" none with kind := .primitive 'Z', accessFlags := 0x411 }
/-- [Z -/
def k6 : Class := { plain "[Z" (some 0) with kind := .array 5 .boolean, interfaces := #[3, 4], accessFlags := 1041 }

/-- the primitive byte -/
def k7 : Class := { plain "byte" none with kind := .primitive 'B', accessFlags := 0x411 }
/-- [B -/
def k8 : Class := { plain "[B" (some 0) with kind := .array 7 .byte, interfaces := #[3, 4], accessFlags := 1041 }

/-- the primitive int -/
def k9 : Class := { plain "int" none with kind := .primitive 'I', accessFlags := 0x411 }
/-- [I -/
def k10 : Class := { plain "[I" (some 0) with kind := .array 9 .int, interfaces := #[3, 4], accessFlags := 1041 }

def heap : Heap := #[]
def classes : Array Class := #[k0, k1, k2, k3, k4, k5, k6, k7, k8, k9, k10]
def interned : List (Array UInt16 × Addr) := []
def slotsUsed : Nat := 0
def theMethod : MethodId := ⟨1, 1⟩
def args0 : Array Value := #[.int 5, .int 3]
def aboutOver (below : List Frame) : State where
  vm := { classes := classes, interned := interned.toArray }
  heap := heap
  slotsUsed := slotsUsed
  threads := #[{ frames := .invoking theMethod args0 :: below }]
def below0 : List Frame := [.native { method := ⟨0, 0⟩, args := #[] }]
def about1 : State := aboutOver below0
def p0 : Program := .bare "" "" ""
def e0 : Env := launch0.env 0 0 0
theorem w_frames : about1.frames = Frame.invoking theMethod args0 :: below0 := rfl
set_option maxRecDepth 65536 in
theorem w_args : argsFit about1.vm theMethod args0 = true := by decide +kernel
set_option maxRecDepth 65536 in
theorem w_heap : heapFits about1 = true := by decide +kernel
set_option maxRecDepth 65536 in
theorem w_runnable : about1.curStatus? = some .runnable := by decide +kernel
set_option maxRecDepth 65536 in
theorem w_alone : about1.alone = true := by decide +kernel
set_option maxRecDepth 65536 in
theorem w_named : about1.methodNamed? x = some theMethod := by decide +kernel
set_option maxRecDepth 65536 in
theorem w_hears : about1.hears theMethod below0 = true := by decide +kernel
set_option maxRecDepth 65536 in
theorem w_ripe : about1.ripe theMethod args0 below0 = true := by decide +kernel
theorem w_running : about1.status = .running := rfl
set_option maxRecDepth 65536 in
theorem w_room : about1.hasRoom e0.platform room_1 = true :=
  launch0.hasRoom_least _ room_1 (by decide +kernel) (by decide +kernel) (by decide +kernel) (by decide +kernel) (by decide +kernel) (by decide +kernel)
theorem allAtoms_all (ts : List Jvm.Cond) (a : Array Jvm.Value) (st : Jvm.State) : (allAtoms ts).before a st = ts.all (fun c => c.before a st) := by
  induction ts with
  | nil => rfl
  | cons c t ih =>
    show (Jvm.Cond.and c (allAtoms t)).before a st = _
    rw [Jvm.Cond.before_and, ih, List.all_cons]
def words1 : List Jvm.Cond := Jvm.Cond.code x code maxLocals ret :: tables_1
/-- a 'code' word, met by the world's own term for the bytes: nothing is compared byte by byte -/
theorem code_word {y : MethodName} {bytes : ByteArray} {mx : Nat} {rt : Option FieldType} {a : Array Value} {s : State} {m : MethodId} {meth : Method} {c : Code} (h1 : s.methodNamed? y = some m) (h2 : s.vm.method? m = some meth) (h3 : meth.code = some c) (h4 : c.code = bytes)
    (h5 : (c.maxLocals == mx && c.exceptionTable.isEmpty && decide (c.maxStack ≤ mostOperands) && decide (meth.sig.returnType = rt) && !meth.locks && decide (parseMethodDescriptor y.desc = some meth.sig)) = true) : (Jvm.Cond.code y bytes mx rt).before a s = true := by
  simp only [Bool.and_eq_true, beq_iff_eq, Bool.not_eq_true', decide_eq_true_eq] at h5
  obtain ⟨⟨⟨⟨⟨g1, g2⟩, g3⟩, g4⟩, g5⟩, g6⟩ := h5
  simp [Cond.before, Cond.holds, Cond.value, h1, h2, h3, h4, g1, g2, g3, g4, g5, g6]
def isCode : Jvm.Cond → Bool
  | .code _ _ _ _ => true
  | _ => false
theorem all_split {L : List Jvm.Cond} {P : Jvm.Cond → Bool} (h1 : L.all (fun c => isCode c || P c) = true) (h2 : ∀ c ∈ L.filter isCode, P c = true) : L.all P = true := by
  refine List.all_eq_true.mpr fun c hc => ?_
  have h := List.all_eq_true.mp h1 c hc
  rcases Bool.eq_false_or_eq_true (isCode c) with hi | hi
  · exact h2 c (List.mem_filter.mpr ⟨hc, hi⟩)
  · simpa [hi] using h
set_option maxRecDepth 65536 in
theorem w_c0 : (Jvm.Cond.code x code maxLocals ret).before args0 about1 = true := code_word (m := ⟨1, 1⟩) (meth := k1m1) (c := k1c1) (by decide +kernel) rfl rfl rfl (by decide +kernel)
set_option maxRecDepth 65536 in
theorem w_c1 : (Jvm.Cond.code ({ cls := "com/example/gettone/gettone/solver/Decision", name := "trueWith", desc := "([ZI)Lcom/example/gettone/gettone/solver/Decision;" } : Jvm.MethodName) prog_53_method_2_code (2 : Nat) (Option.some (Jvm.ClassFile.FieldType.object "com/example/gettone/gettone/solver/Decision"))).before args0 about1 = true := code_word (m := ⟨2, 1⟩) (meth := k2m1) (c := k2c1) (by decide +kernel) rfl rfl rfl (by decide +kernel)
set_option maxRecDepth 65536 in
theorem w_c2 : (Jvm.Cond.code ({ cls := "com/example/gettone/gettone/solver/Decision", name := "<init>", desc := "([ZI)V" } : Jvm.MethodName) prog_53_method_1_code (3 : Nat) (Option.none : Option Jvm.ClassFile.FieldType)).before args0 about1 = true := code_word (m := ⟨2, 0⟩) (meth := k2m0) (c := k2c0) (by decide +kernel) rfl rfl rfl (by decide +kernel)
set_option maxRecDepth 65536 in
theorem w_c3 : (Jvm.Cond.code ({ cls := "java/lang/Object", name := "<init>", desc := "()V" } : Jvm.MethodName) object_method_1_code (1 : Nat) (Option.none : Option Jvm.ClassFile.FieldType)).before args0 about1 = true := code_word (m := ⟨0, 0⟩) (meth := k0m0) (c := k0c0) (by decide +kernel) rfl rfl rfl (by decide +kernel)
set_option maxRecDepth 65536 in
theorem w_c4 : (Jvm.Cond.code ({ cls := "com/example/gettone/gettone/solver/Decision", name := "isTrue", desc := "()Z" } : Jvm.MethodName) prog_53_method_4_code (1 : Nat) (Option.some Jvm.ClassFile.FieldType.boolean)).before args0 about1 = true := code_word (m := ⟨2, 2⟩) (meth := k2m2) (c := k2c2) (by decide +kernel) rfl rfl rfl (by decide +kernel)
set_option maxRecDepth 65536 in
theorem w_c5 : (Jvm.Cond.code ({ cls := "com/example/gettone/gettone/solver/Decision", name := "candidateCount", desc := "()I" } : Jvm.MethodName) prog_53_method_6_code (1 : Nat) (Option.some Jvm.ClassFile.FieldType.int)).before args0 about1 = true := code_word (m := ⟨2, 4⟩) (meth := k2m4) (c := k2c4) (by decide +kernel) rfl rfl rfl (by decide +kernel)
set_option maxRecDepth 65536 in
theorem w_c6 : (Jvm.Cond.code ({ cls := "com/example/gettone/gettone/solver/Decision", name := "value", desc := "(I)Z" } : Jvm.MethodName) prog_53_method_5_code (2 : Nat) (Option.some Jvm.ClassFile.FieldType.boolean)).before args0 about1 = true := code_word (m := ⟨2, 3⟩) (meth := k2m3) (c := k2c3) (by decide +kernel) rfl rfl rfl (by decide +kernel)
def codes1 : List Jvm.Cond := [Jvm.Cond.code x code maxLocals ret, Jvm.Cond.code ({ cls := "com/example/gettone/gettone/solver/Decision", name := "trueWith", desc := "([ZI)Lcom/example/gettone/gettone/solver/Decision;" } : Jvm.MethodName) prog_53_method_2_code (2 : Nat) (Option.some (Jvm.ClassFile.FieldType.object "com/example/gettone/gettone/solver/Decision")), Jvm.Cond.code ({ cls := "com/example/gettone/gettone/solver/Decision", name := "<init>", desc := "([ZI)V" } : Jvm.MethodName) prog_53_method_1_code (3 : Nat) (Option.none : Option Jvm.ClassFile.FieldType), Jvm.Cond.code ({ cls := "java/lang/Object", name := "<init>", desc := "()V" } : Jvm.MethodName) object_method_1_code (1 : Nat) (Option.none : Option Jvm.ClassFile.FieldType), Jvm.Cond.code ({ cls := "com/example/gettone/gettone/solver/Decision", name := "isTrue", desc := "()Z" } : Jvm.MethodName) prog_53_method_4_code (1 : Nat) (Option.some Jvm.ClassFile.FieldType.boolean), Jvm.Cond.code ({ cls := "com/example/gettone/gettone/solver/Decision", name := "candidateCount", desc := "()I" } : Jvm.MethodName) prog_53_method_6_code (1 : Nat) (Option.some Jvm.ClassFile.FieldType.int), Jvm.Cond.code ({ cls := "com/example/gettone/gettone/solver/Decision", name := "value", desc := "(I)Z" } : Jvm.MethodName) prog_53_method_5_code (2 : Nat) (Option.some Jvm.ClassFile.FieldType.boolean)]
set_option maxRecDepth 65536 in
theorem codes_eq : words1.filter isCode = codes1 := rfl
theorem w_codes : ∀ c ∈ words1.filter isCode, c.before args0 about1 = true := by
  rw [codes_eq]
  intro c hc
  simp only [codes1, List.mem_cons, List.not_mem_nil, or_false] at hc
  rcases hc with rfl | rfl | rfl | rfl | rfl | rfl | rfl
  · exact w_c0
  · exact w_c1
  · exact w_c2
  · exact w_c3
  · exact w_c4
  · exact w_c5
  · exact w_c6
set_option maxRecDepth 65536 in
theorem w_t1 : (words1.take 24).all (fun c => isCode c || c.before args0 about1) = true := by decide +kernel
set_option maxRecDepth 65536 in
theorem w_t2 : (words1.drop 24).all (fun c => isCode c || c.before args0 about1) = true := by decide +kernel
theorem w_tables : (allAtoms (Jvm.Cond.code x code maxLocals ret :: tables_1)).before args0 about1 = true := by
  rw [allAtoms_all]
  show words1.all (fun c => c.before args0 about1) = true
  refine all_split ?_ w_codes
  rw [← List.take_append_drop 24 words1, List.all_append, w_t1, w_t2]
  rfl
set_option maxRecDepth 65536 in
theorem w_case : (Jvm.Cond.and given_1 narrow_1).before args0 about1 = true := by decide +kernel
theorem w_applies : (headSpec (Jvm.Cond.code x code maxLocals ret :: tables_1) room_1).applies x e0.platform about1 = true :=
  (Spec.applies_iff w_frames).mpr ⟨w_running, w_runnable, w_alone, w_named, w_hears, w_ripe, w_room, w_tables⟩
theorem atStart : AtStart classFile x code maxLocals ret World_1 tables_1 room_1 Calls_1 rest_1 Pre_1 launch0 p0 e0 about1 theMethod args0 below0 :=
  ⟨lists_1, trivial, launch0.admits_env _ _ _, launch0.least_env, fairChoices_fair.cas, fairChoices_fair.clock, w_frames, w_args, w_heap, w_applies, trivial, trivial, w_case⟩
end start1
theorem witness_1 : WitnessClaimed_1 := ⟨start1.p0, start1.e0, start1.about1, start1.theMethod, start1.args0, start1.below0, start1.atStart⟩
end Jvm.Pilot.@@N@@
