import JvmDerived
import JvmDerived.Pilot.@@N@@Statement
import JvmDerived.Pilot.@@N@@Code
set_option linter.unusedVariables false
set_option linter.unusedSimpArgs false
namespace Jvm.Pilot.@@N@@
open Jvm Jvm.ClassFile Sem Op Lib Jvm.Free Jvm.Stand Jvm.LawKit Jvm.RoadKit Bundle Jvm.Pilot.@@N@@.Jvm.D
def Go (p : Program) (e : Env) (below : List Frame) (S : State) (P : State → Outcome → Prop) : Prop := ∃ t o, Steps p.tables e below S t ∧ P t o
abbrev Gm (p : Program) (e : Env) (below : List Frame) (T : State) (m : MethodId) (pc : Nat) (ls : Array Slot) (st : List Value) (P : State → Outcome → Prop) : Prop := Go p e below (T.setTop (mkF m pc ls st)) P
abbrev lv (x : Int64) : Slot := .val (.long x)
theorem own_in {p : Program} {e : Env} {below : List Frame} {T : State} {g g' : JFrame} {P : State → Outcome → Prop} (q : g = g') (h : Go p e below (T.setTop g') P) : ∃ s₂ o, Steps p.tables e below (T.setTop g) s₂ ∧ P s₂ o := q ▸ h
theorem own_go {p : Program} {e : Env} {below : List Frame} {S S' : State} {P : State → Outcome → Prop} (k : ∀ t, Steps p.tables e below S' t → Steps p.tables e below S t) (h : Go p e below S' P) : Go p e below S P := by
  obtain ⟨t, o, h1, h2⟩ := h
  exact ⟨t, o, k t h1, h2⟩
section Rets
variable {p : Program} {l : Launch} {e : Env} {R : Room} {s : State} {m : MethodId} {args : Array Value} {below : List Frame} {meth : Method} {c : Code} {T : State} {locs : List Loc} {cells slots : Nat}
theorem own_retI (X : Stand p l e R s m args below meth c T locs cells slots) (hx : p.tables.exec = Jvm.exec) (hlk : meth.locks = false) {pc : Nat} {Ls : Array Slot} {z : Int32} {t : FieldType} {Q : Option Value → Heap → List Loc → Prop} {C N : Nat} (hret : meth.sig.returnType = some t) (hn : narrow t (.int z) = .int z) (ht : t = .int ∨ t = .boolean ∨ t = .byte ∨ t = .char ∨ t = .short)
    (hd : decode c.code pc = .ok (.ireturn, 1)) {h : Heap} (eh : T.heap = h) (hq : Q (some (.int z)) h locs) (hC : cells ≤ C) (hN : slots ≤ N) : Go p e below (T.setTop (mkF m pc Ls [.int z])) (fun t o => t.status = .running ∧ Ended t below o ∧ ∃ v L, o = .returned v ∧ Q v t.heap L ∧ FrameEnd s o t L C N) := by
  subst eh
  obtain ⟨fs, hr, hrun, hended, hW, hsame⟩ := X.leave (v := some (.int z)) (fun h => by rw [hret] at h; cases h) hlk
  exact ⟨_, _, X.ireturnOut hx hret hn ht hd hr, hrun, hended, _, _, rfl, hq, ⟨_, rfl⟩, hW, hsame.mono hC hN⟩
theorem own_retL (X : Stand p l e R s m args below meth c T locs cells slots) (hx : p.tables.exec = Jvm.exec) (hlk : meth.locks = false) {pc : Nat} {Ls : Array Slot} {z : Int64} {Q : Option Value → Heap → List Loc → Prop} {C N : Nat} (hret : meth.sig.returnType = some .long)
    (hd : decode c.code pc = .ok (.lreturn, 1)) {h : Heap} (eh : T.heap = h) (hq : Q (some (.long z)) h locs) (hC : cells ≤ C) (hN : slots ≤ N) : Go p e below (T.setTop (mkF m pc Ls [.long z])) (fun t o => t.status = .running ∧ Ended t below o ∧ ∃ v L, o = .returned v ∧ Q v t.heap L ∧ FrameEnd s o t L C N) := by
  subst eh
  obtain ⟨fs, hr, hrun, hended, hW, hsame⟩ := X.leave (v := some (.long z)) (fun h => by rw [hret] at h; cases h) hlk
  exact ⟨_, _, X.lreturnOut hx hret hd hr, hrun, hended, _, _, rfl, hq, ⟨_, rfl⟩, hW, hsame.mono hC hN⟩
theorem own_retA (X : Stand p l e R s m args below meth c T locs cells slots) (hx : p.tables.exec = Jvm.exec) (hlk : meth.locks = false) {pc : Nat} {Ls : Array Slot} {w : Value} {t : FieldType} {Q : Option Value → Heap → List Loc → Prop} {C N : Nat} (hw : w.isRef = true) (hret : meth.sig.returnType = some t) (ht : t.isReference = true)
    (hd : decode c.code pc = .ok (.areturn, 1)) {h : Heap} (eh : T.heap = h) (hq : Q (some w) h locs) (hC : cells ≤ C) (hN : slots ≤ N) : Go p e below (T.setTop (mkF m pc Ls [w])) (fun t o => t.status = .running ∧ Ended t below o ∧ ∃ v L, o = .returned v ∧ Q v t.heap L ∧ FrameEnd s o t L C N) := by
  subst eh
  obtain ⟨fs, hr, hrun, hended, hW, hsame⟩ := X.leave (v := some w) (fun h => by rw [hret] at h; cases h) hlk
  exact ⟨_, _, X.areturnOut hx hw hret ht hd hr, hrun, hended, _, _, rfl, hq, ⟨_, rfl⟩, hW, hsame.mono hC hN⟩
theorem own_retV (X : Stand p l e R s m args below meth c T locs cells slots) (hx : p.tables.exec = Jvm.exec) (hlk : meth.locks = false) {pc : Nat} {Ls : Array Slot} {Q : Option Value → Heap → List Loc → Prop} {C N : Nat} (hret : meth.sig.returnType = none)
    (hd : decode c.code pc = .ok (.return_, 1)) {h : Heap} (eh : T.heap = h) (hq : Q none h locs) (hC : cells ≤ C) (hN : slots ≤ N) : Go p e below (T.setTop (mkF m pc Ls [])) (fun t o => t.status = .running ∧ Ended t below o ∧ ∃ v L, o = .returned v ∧ Q v t.heap L ∧ FrameEnd s o t L C N) := by
  subst eh
  obtain ⟨fs, hr, hrun, hended, hW, hsame⟩ := X.leave (v := none) (fun _ => rfl) hlk
  exact ⟨_, _, X.returnOut hx hret hd hr, hrun, hended, _, _, rfl, hq, ⟨_, rfl⟩, hW, hsame.mono hC hN⟩
end Rets

def Af (Z : State) (h : Heap) (a : Addr) (ty : FieldType) (n : Nat) (f : Nat → Value) : Prop := n < 2 ^ 31 ∧ ∃ c : Cell, Arr Z h a c ty ∧ c.slots.size = n ∧ ∀ i, i < n → c.slots[i]? = some (f i) ∧ fits ty (f i) = true
section AfS
variable {Z : State} {h h' : Heap} {a b : Addr} {ty : FieldType} {n : Nat} {f : Nat → Value} {v : Value} {sl : Nat} {ws : List Addr}
theorem Af.lt (A : Af Z h a ty n f) : a < h.size := by obtain ⟨-, c, A, -⟩ := A; exact A.lt
theorem Af.ext (A : Af Z h a ty n f) (E : Ext h h') : Af Z h' a ty n f := by obtain ⟨q, c, A, r⟩ := A; exact ⟨q, c, A.ext E, r⟩
theorem Af.other (A : Af Z h b ty n f) (W : Wr h h' a sl v) (q : b ≠ a) : Af Z h' b ty n f := by obtain ⟨q', c, A, r⟩ := A; exact ⟨q', c, A.other W q, r⟩
theorem Af.keep (A : Af Z h a ty n f) (K : Keep h h' ws) (q : a ∉ ws) : Af Z h' a ty n f := by obtain ⟨q', c, A, r⟩ := A; exact ⟨q', c, ⟨K.2.1 a c A.1 q, A.2⟩, r⟩
theorem Af.congr (A : Af Z h a ty n f) {g : Nat → Value} (q : ∀ i, i < n → g i = f i) : Af Z h a ty n g := by obtain ⟨q', c, A, r1, r2⟩ := A; exact ⟨q', c, A, r1, fun i hi => by rw [q i hi]; exact r2 i hi⟩
theorem Af.set (A : Af Z h a ty n f) (W : Wr h h' a sl v) (hv : fits ty v = true) : Af Z h' a ty n (fun i => if i = sl then v else f i) := by
  obtain ⟨q, c, A, r1, r2⟩ := A
  refine ⟨q, c.setSlot sl v, A.same W, by rw [sz_set]; exact r1, fun i hi => ?_⟩
  by_cases e : i = sl
  · subst e
    show _ = some (if i = i then v else f i) ∧ fits ty (if i = i then v else f i) = true
    rw [if_pos rfl]
    refine ⟨?_, hv⟩
    show (c.slots.setIfInBounds i v)[i]? = _
    rw [Array.getElem?_setIfInBounds_self_of_lt (by omega)]
  · show _ = some (if i = sl then v else f i) ∧ fits ty (if i = sl then v else f i) = true
    rw [if_neg e]
    refine ⟨?_, (r2 i hi).2⟩
    show (c.slots.setIfInBounds sl v)[i]? = _
    rw [Array.getElem?_setIfInBounds_ne (Ne.symm e)]
    exact (r2 i hi).1
theorem Af.new {k : ClassId} {z : Int32} (A : Arr Z h a (newA k ty z) ty) (q : ¬ z < 0) {n : Nat} (hn : z.toNatClampNeg = n) (hd : fits ty (defaultValue ty) = true) : Af Z h a ty n (fun _ => defaultValue ty) := by
  subst hn
  refine ⟨(back32 q).2, _, A, sz_new _ _ _, fun i hi => ⟨?_, hd⟩⟩
  simp [newA, hi]
theorem Af.arv (A : Af Z h a ty n f) (dv : Value) : ∃ k, Arv Z h a k ty n.toInt32 ((List.range n).map f) dv := by
  obtain ⟨q, c, A, r1, r2⟩ := A
  have hz : n.toInt32.toNatClampNeg = n := by
    show n.toInt32.toInt.toNat = n
    rw [len_toInt q]; rfl
  have hg : ∀ i, i < n → ((List.range n).map f).getD i dv = f i := fun i hi => by
    rw [List.getD_eq_getElem?_getD]; simp [hi]
  refine ⟨_, c, A, rfl, by rw [hz]; exact r1, ?_, fun i hi => ?_, fun i hi => ?_⟩
  · rw [Int32.lt_iff_toInt_lt, len_toInt q]; simp
  · rw [hg i (r1 ▸ hi)]; exact (r2 i (r1 ▸ hi)).1
  · rw [hg i (r1 ▸ hi)]; exact (r2 i (r1 ▸ hi)).2
theorem Af.ofArv {k : ClassId} {z : Int32} {vs : List Value} {dv : Value} (F : Arv Z h a k ty z vs dv) (hz : z.toNatClampNeg = n) (hf : ∀ i, i < n → f i = vs.getD i dv) : Af Z h a ty n f := by
  obtain ⟨c, A, -, S, q, H, G⟩ := F
  subst hz
  refine ⟨(back32 q).2, c, A, S, fun i hi => ?_⟩
  rw [hf i hi]
  exact ⟨H i (S ▸ hi), G i (S ▸ hi)⟩
theorem nat32 {n : Nat} (q : n < 2 ^ 31) : n.toInt32.toNatClampNeg = n := by
  show n.toInt32.toInt.toNat = n
  rw [len_toInt q]; rfl
theorem nn32 {n : Nat} (q : n < 2 ^ 31) : ¬ n.toInt32 < 0 := by rw [Int32.lt_iff_toInt_lt, len_toInt q]; simp
end AfS
section AfX
variable {p : Program} {l : Launch} {e : Env} {R : Room} {s : State} {m : MethodId} {args : Array Value} {below : List Frame} {meth : Method} {c : Code} {T : State} {locs : List Loc} {cells slots : Nat} {Z : State} {a0 : Array Value} {h : Heap} {a : Addr} {ty : FieldType} {n : Nat} {f : Nat → Value}
theorem own_len (X : Stand p l e R s m args below meth c T locs cells slots) (hx : p.tables.exec = Jvm.exec) (hZ : Z.Warmed39 s.vm) (eT : T.heap = h) (A : Af Z h a ty n f) {z : Int32} (hz : n.toInt32 = z) {g : JFrame} (hg : g.method = m) {rest : List Value} (hs : g.stack = .ref a :: rest) (hd : decode c.code g.pc = .ok (.arraylength, 1)) {target : State}
    (hr : Steps p.tables e below (T.setTop { g with pc := g.pc + 1, stack := .int z :: rest }) target) : Steps p.tables e below (T.setTop g) target := by
  obtain ⟨q, cl, A, r1, r2⟩ := A
  refine X.arraylength hx (by rw [eT]; exact A.1) (State.isArrayOf_alike hZ.alike A.2.1) hg hs hd _ ?_
  rw [r1, hz]; exact hr
theorem own_inb {cl : Cell} {j : Int32} {k : Nat} (r : cl.slots.size = n) (hj : ¬ j < 0) (hk : j.toNatClampNeg = k) (hkn : k < n) : ¬ (j < 0 ∨ cl.slots.size ≤ j.toNatClampNeg) := by
  rw [r, hk]; rintro (q | q)
  · exact hj q
  · omega
theorem own_ldI (X : Stand p l e R s m args below meth c T locs cells slots) (hx : p.tables.exec = Jvm.exec) (hZ : Z.Warmed39 s.vm) (eT : T.heap = h) (A : Af Z h a .int n f) {j : Int32} {k : Nat} (hj : ¬ j < 0) (hk : j.toNatClampNeg = k) (hkn : k < n) {w : Value} (hv : f k = w) {g : JFrame} (hg : g.method = m) {rest : List Value} (hs : g.stack = .int j :: .ref a :: rest) (hd : decode c.code g.pc = .ok (.iaload, 1)) {target : State}
    (hr : Steps p.tables e below (T.setTop { g with pc := g.pc + 1, stack := w :: rest }) target) : Steps p.tables e below (T.setTop g) target := by
  obtain ⟨q, cl, A, r1, r2⟩ := A
  exact X.iaload hx (by rw [eT]; exact A.1) (State.isArrayOf_alike hZ.alike A.2.1) A.2.2 (own_inb r1 hj hk hkn) (by rw [hk, (r2 k hkn).1, hv]) hg hs hd _ hr
theorem own_ldJ (X : Stand p l e R s m args below meth c T locs cells slots) (hx : p.tables.exec = Jvm.exec) (hZ : Z.Warmed39 s.vm) (eT : T.heap = h) (A : Af Z h a .long n f) {j : Int32} {k : Nat} (hj : ¬ j < 0) (hk : j.toNatClampNeg = k) (hkn : k < n) {w : Value} (hv : f k = w) {g : JFrame} (hg : g.method = m) {rest : List Value} (hs : g.stack = .int j :: .ref a :: rest) (hd : decode c.code g.pc = .ok (.laload, 1)) {target : State}
    (hr : Steps p.tables e below (T.setTop { g with pc := g.pc + 1, stack := w :: rest }) target) : Steps p.tables e below (T.setTop g) target := by
  obtain ⟨q, cl, A, r1, r2⟩ := A
  exact X.laload hx (by rw [eT]; exact A.1) (State.isArrayOf_alike hZ.alike A.2.1) A.2.2 (own_inb r1 hj hk hkn) (by rw [hk, (r2 k hkn).1, hv]) hg hs hd _ hr
theorem own_ldB (X : Stand p l e R s m args below meth c T locs cells slots) (hx : p.tables.exec = Jvm.exec) (hZ : Z.Warmed39 s.vm) (eT : T.heap = h) (A : Af Z h a .byte n f) {j : Int32} {k : Nat} (hj : ¬ j < 0) (hk : j.toNatClampNeg = k) (hkn : k < n) {w : Value} (hv : f k = w) {g : JFrame} (hg : g.method = m) {rest : List Value} (hs : g.stack = .int j :: .ref a :: rest) (hd : decode c.code g.pc = .ok (.baload, 1)) {target : State}
    (hr : Steps p.tables e below (T.setTop { g with pc := g.pc + 1, stack := w :: rest }) target) : Steps p.tables e below (T.setTop g) target := by
  obtain ⟨q, cl, A, r1, r2⟩ := A
  exact X.baloadBytes hx (by rw [eT]; exact A.1) (State.isArrayOf_alike hZ.alike A.2.1) A.2.2 (own_inb r1 hj hk hkn) (by rw [hk, (r2 k hkn).1, hv]) hg hs hd _ hr
theorem own_ldZ (X : Stand p l e R s m args below meth c T locs cells slots) (hx : p.tables.exec = Jvm.exec) (hZ : Z.Warmed39 s.vm) (eT : T.heap = h) (A : Af Z h a .boolean n f) {j : Int32} {k : Nat} (hj : ¬ j < 0) (hk : j.toNatClampNeg = k) (hkn : k < n) {w : Value} (hv : f k = w) {g : JFrame} (hg : g.method = m) {rest : List Value} (hs : g.stack = .int j :: .ref a :: rest) (hd : decode c.code g.pc = .ok (.baload, 1)) {target : State}
    (hr : Steps p.tables e below (T.setTop { g with pc := g.pc + 1, stack := w :: rest }) target) : Steps p.tables e below (T.setTop g) target := by
  obtain ⟨q, cl, A, r1, r2⟩ := A
  exact X.baloadBooleans hx (by rw [eT]; exact A.1) (State.isArrayOf_alike hZ.alike A.2.1) A.2.2 (own_inb r1 hj hk hkn) (by rw [hk, (r2 k hkn).1, hv]) hg hs hd _ hr
theorem own_stI (X : Stand p l e R s m args below meth c T locs cells slots) (hx : p.tables.exec = Jvm.exec) (hZ : Z.Warmed39 s.vm) (eT : T.heap = h) (A : Af Z h a .int n f) {j x : Int32} {k : Nat} (hj : ¬ j < 0) (hk : j.toNatClampNeg = k) (hkn : k < n) {g : JFrame} (hg : g.method = m) {rest : List Value} (hs : g.stack = .int x :: .int j :: .ref a :: rest) (hd : decode c.code g.pc = .ok (.iastore, 1)) :
    ∃ T' h', Stand p l e R s m args below meth c T' (locs ++ [⟨a, k⟩]) cells slots ∧ T'.heap = h' ∧ Wr h h' a k (.int x) ∧ Af Z h' a .int n (fun i => if i = k then .int x else f i) ∧ ∀ target, Steps p.tables e below (T'.setTop { g with pc := g.pc + 1, stack := rest }) target → Steps p.tables e below (T.setTop g) target := by
  obtain ⟨q, cl, B, r1, r2⟩ := id A
  obtain ⟨T', h', X', e', W, st⟩ := stI X hx hZ eT B (own_inb r1 hj hk hkn) hg hs hd
  rw [hk] at X' W
  exact ⟨T', h', X', e', W, A.set W rfl, st⟩
theorem own_stJ (X : Stand p l e R s m args below meth c T locs cells slots) (hx : p.tables.exec = Jvm.exec) (hZ : Z.Warmed39 s.vm) (eT : T.heap = h) (A : Af Z h a .long n f) {j : Int32} {x : Int64} {k : Nat} (hj : ¬ j < 0) (hk : j.toNatClampNeg = k) (hkn : k < n) {g : JFrame} (hg : g.method = m) {rest : List Value} (hs : g.stack = .long x :: .int j :: .ref a :: rest) (hd : decode c.code g.pc = .ok (.lastore, 1)) :
    ∃ T' h', Stand p l e R s m args below meth c T' (locs ++ [⟨a, k⟩]) cells slots ∧ T'.heap = h' ∧ Wr h h' a k (.long x) ∧ Af Z h' a .long n (fun i => if i = k then .long x else f i) ∧ ∀ target, Steps p.tables e below (T'.setTop { g with pc := g.pc + 1, stack := rest }) target → Steps p.tables e below (T.setTop g) target := by
  obtain ⟨q, cl, B, r1, r2⟩ := id A
  obtain ⟨T', h', X', e', W, st⟩ := stJ X hx hZ eT B (own_inb r1 hj hk hkn) hg hs hd
  rw [hk] at X' W
  exact ⟨T', h', X', e', W, A.set W rfl, st⟩
theorem own_stD (X : Stand p l e R s m args below meth c T locs cells slots) (hx : p.tables.exec = Jvm.exec) (hZ : Z.Warmed39 s.vm) (eT : T.heap = h) (A : Af Z h a .double n f) {j : Int32} {x : UInt64} {k : Nat} (hj : ¬ j < 0) (hk : j.toNatClampNeg = k) (hkn : k < n) {g : JFrame} (hg : g.method = m) {rest : List Value} (hs : g.stack = .double x :: .int j :: .ref a :: rest) (hd : decode c.code g.pc = .ok (.dastore, 1)) :
    ∃ T' h', Stand p l e R s m args below meth c T' (locs ++ [⟨a, k⟩]) cells slots ∧ T'.heap = h' ∧ Wr h h' a k (.double x) ∧ Af Z h' a .double n (fun i => if i = k then .double x else f i) ∧ ∀ target, Steps p.tables e below (T'.setTop { g with pc := g.pc + 1, stack := rest }) target → Steps p.tables e below (T.setTop g) target := by
  obtain ⟨q, cl, B, r1, r2⟩ := id A
  obtain ⟨T', h', X', e', W, st⟩ := stD X hx hZ eT B (own_inb r1 hj hk hkn) hg hs hd
  rw [hk] at X' W
  exact ⟨T', h', X', e', W, A.set W rfl, st⟩
theorem own_stZ (X : Stand p l e R s m args below meth c T locs cells slots) (hx : p.tables.exec = Jvm.exec) (hZ : Z.Warmed39 s.vm) (eT : T.heap = h) (A : Af Z h a .boolean n f) {j x y : Int32} {k : Nat} (hj : ¬ j < 0) (hk : j.toNatClampNeg = k) (hkn : k < n) (hy : nar .boolean x = y) {g : JFrame} (hg : g.method = m) {rest : List Value} (hs : g.stack = .int x :: .int j :: .ref a :: rest) (hd : decode c.code g.pc = .ok (.bastore, 1)) :
    ∃ T' h', Stand p l e R s m args below meth c T' (locs ++ [⟨a, k⟩]) cells slots ∧ T'.heap = h' ∧ Wr h h' a k (.int y) ∧ Af Z h' a .boolean n (fun i => if i = k then .int y else f i) ∧ ∀ target, Steps p.tables e below (T'.setTop { g with pc := g.pc + 1, stack := rest }) target → Steps p.tables e below (T.setTop g) target := by
  obtain ⟨q, cl, B, r1, r2⟩ := id A
  obtain ⟨T', h', X', e', W, st⟩ := stZ X hx hZ eT B (own_inb r1 hj hk hkn) hg hs hd
  subst hk hy
  exact ⟨T', h', X', e', W, A.set W (fits_nar_bool x), st⟩
theorem own_stB (X : Stand p l e R s m args below meth c T locs cells slots) (hx : p.tables.exec = Jvm.exec) (hZ : Z.Warmed39 s.vm) (eT : T.heap = h) (A : Af Z h a .byte n f) {j x y : Int32} {k : Nat} (hj : ¬ j < 0) (hk : j.toNatClampNeg = k) (hkn : k < n) (hy : nar .byte x = y) {g : JFrame} (hg : g.method = m) {rest : List Value} (hs : g.stack = .int x :: .int j :: .ref a :: rest) (hd : decode c.code g.pc = .ok (.bastore, 1)) :
    ∃ T' h', Stand p l e R s m args below meth c T' (locs ++ [⟨a, k⟩]) cells slots ∧ T'.heap = h' ∧ Wr h h' a k (.int y) ∧ Af Z h' a .byte n (fun i => if i = k then .int y else f i) ∧ ∀ target, Steps p.tables e below (T'.setTop { g with pc := g.pc + 1, stack := rest }) target → Steps p.tables e below (T.setTop g) target := by
  obtain ⟨q, cl, B, r1, r2⟩ := id A
  obtain ⟨T', h', X', e', W, st⟩ := stB X hx hZ eT B (own_inb r1 hj hk hkn) hg hs hd
  subst hk hy
  exact ⟨T', h', X', e', W, A.set W (fits_nar_byte x), st⟩
end AfX
section Warm
variable {p : Program} {l : Launch} {e : Env} {R : Room} {s : State} {m : MethodId} {args : Array Value} {below : List Frame} {meth : Method} {c : Code} {T : State} {locs : List Loc} {cells slots : Nat} {Z : State} {a0 : Array Value} {EL : List (String × Nat)} {h : Heap} {vm0 : Vm}
theorem own_endW {o : Outcome} {t : State} {L : List Loc} {k n C N : Nat} (h : ReturnedEndW s o t L k n) (hC : k ≤ C) (hN : n ≤ N) : ReturnedEndW s o t L C N := ⟨h.1, h.2.1, h.2.2.1, h.2.2.2.mono hC hN⟩
theorem own_retIW (X : Stand p l e R (s.setVm vm0) m args below meth c T locs cells slots) (hx : p.tables.exec = Jvm.exec) (hlk : meth.locks = false) (hZ : Z.Warmed39 vm0) (hEL : EW Z a0 EL) {k0 : Nat} (hS : s.Since vm0 k0) (hk : k0 ≤ h.size) (hC : CHr Z EL s.vm s.heap vm0 h) {pc : Nat} {Ls : Array Slot} {z : Int32} {t : FieldType} {Q : Option Value → Heap → List Loc → Prop} {C N : Nat} (hret : meth.sig.returnType = some t) (hn : narrow t (.int z) = .int z) (ht : t = .int ∨ t = .boolean ∨ t = .byte ∨ t = .char ∨ t = .short)
    (hd : decode c.code pc = .ok (.ireturn, 1)) (eh : T.heap = h) (hq : Q (some (.int z)) h locs) (hCC : cells ≤ C) (hN : slots ≤ N) : Go p e below (T.setTop (mkF m pc Ls [.int z])) (fun t o => t.status = .running ∧ Ended t below o ∧ ∃ v L, o = .returned v ∧ Q v t.heap L ∧ CHr Z EL s.vm s.heap t.vm t.heap ∧ ReturnedEndW s o t L C N) := by
  subst eh
  obtain ⟨fs, hr, hrun, hended, hW⟩ := X.leaveW hS hk (v := some (.int z)) (fun h => by rw [hret] at h; cases h) hlk
  have hA := hC.trans (CHv.at X hZ hEL hC.1)
  exact ⟨_, _, X.ireturnOut hx hret hn ht hd hr, hrun, hended, _, _, rfl, hq, hA, own_endW hW hCC hN⟩
theorem own_retAW (X : Stand p l e R (s.setVm vm0) m args below meth c T locs cells slots) (hx : p.tables.exec = Jvm.exec) (hlk : meth.locks = false) (hZ : Z.Warmed39 vm0) (hEL : EW Z a0 EL) {k0 : Nat} (hS : s.Since vm0 k0) (hk : k0 ≤ h.size) (hC : CHr Z EL s.vm s.heap vm0 h) {pc : Nat} {Ls : Array Slot} {w : Value} {t : FieldType} {Q : Option Value → Heap → List Loc → Prop} {C N : Nat} (hw : w.isRef = true) (hret : meth.sig.returnType = some t) (ht : t.isReference = true)
    (hd : decode c.code pc = .ok (.areturn, 1)) (eh : T.heap = h) (hq : Q (some w) h locs) (hCC : cells ≤ C) (hN : slots ≤ N) : Go p e below (T.setTop (mkF m pc Ls [w])) (fun t o => t.status = .running ∧ Ended t below o ∧ ∃ v L, o = .returned v ∧ Q v t.heap L ∧ CHr Z EL s.vm s.heap t.vm t.heap ∧ ReturnedEndW s o t L C N) := by
  subst eh
  obtain ⟨fs, hr, hrun, hended, hW⟩ := X.leaveW hS hk (v := some w) (fun h => by rw [hret] at h; cases h) hlk
  have hA := hC.trans (CHv.at X hZ hEL hC.1)
  exact ⟨_, _, X.areturnOut hx hw hret ht hd hr, hrun, hended, _, _, rfl, hq, hA, own_endW hW hCC hN⟩
theorem own_retVW (X : Stand p l e R (s.setVm vm0) m args below meth c T locs cells slots) (hx : p.tables.exec = Jvm.exec) (hlk : meth.locks = false) (hZ : Z.Warmed39 vm0) (hEL : EW Z a0 EL) {k0 : Nat} (hS : s.Since vm0 k0) (hk : k0 ≤ h.size) (hC : CHr Z EL s.vm s.heap vm0 h) {pc : Nat} {Ls : Array Slot} {Q : Option Value → Heap → List Loc → Prop} {C N : Nat} (hret : meth.sig.returnType = none)
    (hd : decode c.code pc = .ok (.return_, 1)) (eh : T.heap = h) (hq : Q none h locs) (hCC : cells ≤ C) (hN : slots ≤ N) : Go p e below (T.setTop (mkF m pc Ls [])) (fun t o => t.status = .running ∧ Ended t below o ∧ ∃ v L, o = .returned v ∧ Q v t.heap L ∧ CHr Z EL s.vm s.heap t.vm t.heap ∧ ReturnedEndW s o t L C N) := by
  subst eh
  obtain ⟨fs, hr, hrun, hended, hW⟩ := X.leaveW hS hk (v := none) (fun _ => rfl) hlk
  have hA := hC.trans (CHv.at X hZ hEL hC.1)
  exact ⟨_, _, X.returnOut hx hret hd hr, hrun, hended, _, _, rfl, hq, hA, own_endW hW hCC hN⟩
theorem own_backW {y : MethodName} {bytes : ByteArray} {maxL : Nat} {ret : Option FieldType} {rm : Room} {len W : Nat} {as' : Array Value} {xs : List Addr} {Q : Option Value → Heap → List Loc → Prop}
    (hM : MetFree l y (head1 [Cond.code y bytes maxL ret] rm) (fun a U => a = as' ∧ Z.Warmed39 U.vm ∧ U.heap = h ∧ CHv Z EL U.vm h ∧ ∀ x ∈ xs, Safe Z EL U.vm h x) (fun _ _ _ _ _ => True) (fun _ U o U' => ∃ v L, o = .returned v ∧ Q v U'.heap L ∧ CHr Z EL U.vm U.heap U'.vm U'.heap ∧ ReturnedEndW U o U' L rm.cells rm.slots))
    (hZ : Z.Warmed39 vm0) (wc : (Cond.code y bytes maxL ret).before a0 Z = true) (wz : (Cond.initialized y.cls).before a0 Z = true) (hf : rm.frames + 1 ≤ R.frames) (hl : W + (maxL + 11) + rm.locals ≤ R.locals) (hEL : EW Z a0 EL) (H : CHv Z EL vm0 h) (hs : ∀ x ∈ xs, x < h.size ∧ Safe Z EL vm0 h x) :
    BackS l R p e below (s.setVm vm0) args y len W (fun A a => a = as' ∧ A.U.heap = h ∧ A.cells + rm.cells ≤ R.cells ∧ A.slots + rm.slots ≤ R.slots)
      (fun A _ v B => ∃ L, Q v B.U.heap L ∧ B.locs = A.locs ++ L ∧ B.cells = A.cells + rm.cells ∧ B.slots = A.slots + rm.slots ∧ CHr Z EL vm0 h B.U.vm B.U.heap) :=
  BackS.of_freeW (bytes := bytes) (maxL := maxL) (ret := ret) (E := fun _ first o t L k n => k = rm.cells ∧ n = rm.slots ∧ (∃ v, o = .returned v ∧ Q v t.heap L) ∧ CHr Z EL first.vm first.heap t.vm t.heap) hM hf hl
    (fun m meth c A a Y hp => have hU : Z.Warmed39 A.U.vm := wtrans (s := s.setVm vm0) hZ Y.warmed
      ⟨by show (Cond.and _ .tt).before a A.U = true; rw [Cond.before_and, mv hU wc]; rfl, mv hU wc, mv hU wz, hp.2.2.1, hp.2.2.2⟩)
    (fun m meth c A a g mk Y hp => ⟨hp.1, wtrans (s := s.setVm vm0) hZ Y.warmed, hp.2.1, (CHv.at Y hZ hEL H).1, fun x hx => (CHv.at Y hZ hEL H).safe (hs x hx).1 (hs x hx).2⟩) (fun _ _ _ _ _ _ _ _ _ => trivial)
    (fun _ _ _ _ ⟨v, L, h1, h2, h3, h4⟩ => ⟨L, _, _, h4, rfl, rfl, ⟨v, h1, h2⟩, h3⟩)
    (fun m meth c A a g mk v t L k n Y hp _ _ ⟨e1, e2, ⟨v', e3, e4⟩, e5⟩ => by
      cases e3; subst e1 e2
      refine ⟨L, e4, rfl, rfl, rfl, (CHv.at Y hZ hEL H).trans ?_⟩
      rw [← hp.2.1]; exact e5)
theorem own_hs0 : ∀ x ∈ ([] : List Addr), x < h.size ∧ Safe Z EL vm0 h x := fun _ q => nomatch q
theorem own_hsS {a : Addr} {ws : List Addr} (n : a < h.size ∧ Safe Z EL vm0 h a) (r : ∀ y ∈ ws, y < h.size ∧ Safe Z EL vm0 h y) : ∀ y ∈ a :: ws, y < h.size ∧ Safe Z EL vm0 h y := fun y q => by
  rcases List.mem_cons.mp q with rfl | q
  · exact n
  · exact r y q
theorem own_af0 {b : Addr} {k : ClassId} {ty : FieldType} {vs : List Value} {d : Value} (A : Arv Z h b k ty 0 vs d) {f : Nat → Value} : Af Z h b ty 0 f := by
  obtain ⟨cl, B, -, sz, -⟩ := A
  exact ⟨by decide, cl, B, sz, fun i hi => absurd hi (Nat.not_lt_zero _)⟩
theorem own_ldC {a : Addr} {n : Nat} {f : Nat → Value} {target : State} (X : Stand p l e R s m args below meth c T locs cells slots) (hx : p.tables.exec = Jvm.exec) (hZ : Z.Warmed39 s.vm) (eT : T.heap = h) (A : Af Z h a .char n f) {j : Int32} {k : Nat} (hj : ¬ j < 0) (hk : j.toNatClampNeg = k) (hkn : k < n) {w : Value} (hv : f k = w) {g : JFrame} (hg : g.method = m) {rest : List Value} (hs : g.stack = .int j :: .ref a :: rest) (hd : decode c.code g.pc = .ok (.caload, 1))
    (hr : Steps p.tables e below (T.setTop { g with pc := g.pc + 1, stack := w :: rest }) target) : Steps p.tables e below (T.setTop g) target := by
  obtain ⟨q, cl, A, r1, r2⟩ := A
  exact X.caload hx (by rw [eT]; exact A.1) (State.isArrayOf_alike hZ.alike A.2.1) A.2.2 (own_inb r1 hj hk hkn) (by rw [hk, (r2 k hkn).1, hv]) hg hs hd _ hr
theorem own_stC {a : Addr} {n : Nat} {f : Nat → Value} (X : Stand p l e R s m args below meth c T locs cells slots) (hx : p.tables.exec = Jvm.exec) (hZ : Z.Warmed39 s.vm) (eT : T.heap = h) (A : Af Z h a .char n f) {j x y : Int32} {k : Nat} (hj : ¬ j < 0) (hk : j.toNatClampNeg = k) (hkn : k < n) (hy : nar .char x = y) {g : JFrame} (hg : g.method = m) {rest : List Value} (hs : g.stack = .int x :: .int j :: .ref a :: rest) (hd : decode c.code g.pc = .ok (.castore, 1)) :
    ∃ T' h', Stand p l e R s m args below meth c T' (locs ++ [⟨a, k⟩]) cells slots ∧ T'.heap = h' ∧ Wr h h' a k (.int y) ∧ Af Z h' a .char n (fun i => if i = k then .int y else f i) ∧ ∀ target, Steps p.tables e below (T'.setTop { g with pc := g.pc + 1, stack := rest }) target → Steps p.tables e below (T.setTop g) target := by
  obtain ⟨q, cl, B, r1, r2⟩ := id A
  obtain ⟨T', h', X', e', W, st⟩ := stC X hx hZ eT B (own_inb r1 hj hk hkn) hg hs hd
  subst hk hy
  exact ⟨T', h', X', e', W, A.set W (fits_nar_char x), st⟩
end Warm
theorem own_eqI {args : Array Value} {first s : State} {o : Option Outcome} {idx : List Nat} {a : Term} {k : Int32} (h : (Jvm.Cond.eq a (.int k)).value args first o s idx = some true) : a.eval args first o idx s = some (.int k) := by
  cases ha : a.eval args first o idx s with
  | none => simp [Cond.value, ha, Term.eval] at h
  | some v => cases v <;> simp [Cond.value, ha, Term.eval] at h <;> first | (subst h; rfl) | (rw [h])
theorem own_neq0 {args : Array Value} {first s : State} {o : Option Outcome} {idx : List Nat} {a : Term} (h : (Jvm.Cond.eq a (.int 0)).value args first o s idx = some false) (e : a.eval args first o idx s = some (.int 0)) : False := by
  simp [Cond.value, e, Term.int_eval] at h
theorem own_wS {Z : State} {a0 : Array Value} (hw : ∀ d ∈ tables_1, d.before a0 Z = true) : ∀ a ∈ Bundle.stringAtoms, a.before a0 Z = true := fun d hd => by
  simp only [Bundle.stringAtoms, List.mem_cons, List.not_mem_nil, or_false] at hd
  rcases hd with rfl | rfl | rfl | rfl | rfl | rfl | rfl
  · exact (hw _ (List.mem_of_getElem? (i := 7) rfl))
  · exact (hw _ (List.mem_of_getElem? (i := 6) rfl))
  · exact (hw _ (List.mem_of_getElem? (i := 20) rfl))
  · exact (hw _ (List.mem_of_getElem? (i := 21) rfl))
  · exact (hw _ (List.mem_of_getElem? (i := 22) rfl))
  · exact (hw _ (List.mem_of_getElem? (i := 23) rfl))
  · exact (hw _ (List.mem_of_getElem? (i := 24) rfl))
def own_EL : List (String × Nat) := [("java/lang/String", 7)]
theorem own_ew {Z : State} {a0 : Array Value} (hw : ∀ d ∈ tables_1, d.before a0 Z = true) : EW Z a0 own_EL := (EW.cons (hw _ (List.mem_of_getElem? (i := 19) rfl)) (by simp) EW.nil)

def own_by (c : Int32) : Int32 := c.toInt8.toInt32.toInt8.toInt32
def own_ch (a : Int32) : Int32 := (a &&& (255 : Int32)).toUInt32.toUInt16.toUInt32.toInt32.toUInt32.toUInt16.toUInt32.toInt32
theorem own_ch_le (a : Int32) : ¬ (255 : Int32) < own_ch a := by
  have h := c_mask a 255 8 (by decide) (by decide)
  have h1 := Int.emod_nonneg a.toInt (by decide : ((2 ^ 8 : Nat) : Int) ≠ 0)
  have h2 := Int.emod_lt_of_pos a.toInt (by decide : (0 : Int) < ((2 ^ 8 : Nat) : Int))
  rw [← h] at h1 h2
  have h3 : (a &&& (255 : Int32)).toInt < 256 := h2
  obtain ⟨k, hk, e⟩ : ∃ k : Nat, k < 256 ∧ (a &&& (255 : Int32)) = Int32.ofNat k := by
    refine ⟨(a &&& (255 : Int32)).toInt.toNat, by omega, Int32.toInt_inj.mp ?_⟩
    rw [Int32.toInt_ofNat_small (by omega)]
    omega
  unfold own_ch
  rw [e]
  have g : ∀ k : Fin 256, ¬ (255 : Int32) < (Int32.ofNat k.val).toUInt32.toUInt16.toUInt32.toInt32.toUInt32.toUInt16.toUInt32.toInt32 := by decide +kernel
  exact g ⟨k, hk⟩
def lenS (p : Int32) : Nat := if p = 0 then 0 else if p = 1 then 1 else if p = 2 then 2 else if p = 3 then 3 else 4
theorem lenS_le (p : Int32) : lenS p ≤ 4 := by
  unfold lenS
  (repeat' split) <;> omega
def chS (a b c d : Int32) (i : Nat) : Int32 := own_by (own_ch (if i = 0 then a else if i = 1 then b else if i = 2 then c else d))
theorem own_stX {Z : State} {h h' : Heap} (K : Keep h h' []) : Ext h h' := ⟨K.1, fun a c q => K.2.1 a c q (fun m => nomatch m)⟩
theorem d19_0 : decode jdk_52_method_21_code 0 = .ok (.iconst 0, 1) := by decide +kernel
theorem d19_1 : decode jdk_52_method_21_code 1 = .ok (.istore 5, 2) := by decide +kernel
theorem d19_3 : decode jdk_52_method_21_code 3 = .ok (.iload 5, 2) := by decide +kernel
theorem d19_5 : decode jdk_52_method_21_code 5 = .ok (.iload 4, 2) := by decide +kernel
theorem d19_7 : decode jdk_52_method_21_code 7 = .ok (.if_icmp .ge 37, 3) := by decide +kernel
theorem d19_10 : decode jdk_52_method_21_code 10 = .ok (.aload_n 0, 1) := by decide +kernel
theorem d19_11 : decode jdk_52_method_21_code 11 = .ok (.iload_n 1, 1) := by decide +kernel
theorem d19_12 : decode jdk_52_method_21_code 12 = .ok (.caload, 1) := by decide +kernel
theorem d19_13 : decode jdk_52_method_21_code 13 = .ok (.istore 6, 2) := by decide +kernel
theorem d19_15 : decode jdk_52_method_21_code 15 = .ok (.iload 6, 2) := by decide +kernel
theorem d19_17 : decode jdk_52_method_21_code 17 = .ok (.sipush 255, 3) := by decide +kernel
theorem d19_20 : decode jdk_52_method_21_code 20 = .ok (.if_icmp .le 6, 3) := by decide +kernel
theorem d19_26 : decode jdk_52_method_21_code 26 = .ok (.aload_n 2, 1) := by decide +kernel
theorem d19_27 : decode jdk_52_method_21_code 27 = .ok (.iload_n 3, 1) := by decide +kernel
theorem d19_28 : decode jdk_52_method_21_code 28 = .ok (.iload 6, 2) := by decide +kernel
theorem d19_30 : decode jdk_52_method_21_code 30 = .ok (.i2b, 1) := by decide +kernel
theorem d19_31 : decode jdk_52_method_21_code 31 = .ok (.bastore, 1) := by decide +kernel
theorem d19_32 : decode jdk_52_method_21_code 32 = .ok (.iinc 1 1, 3) := by decide +kernel
theorem d19_35 : decode jdk_52_method_21_code 35 = .ok (.iinc 3 1, 3) := by decide +kernel
theorem d19_38 : decode jdk_52_method_21_code 38 = .ok (.iinc 5 1, 3) := by decide +kernel
theorem d19_41 : decode jdk_52_method_21_code 41 = .ok (.goto (-38), 3) := by decide +kernel
theorem d19_44 : decode jdk_52_method_21_code 44 = .ok (.iload 4, 2) := by decide +kernel
theorem d19_46 : decode jdk_52_method_21_code 46 = .ok (.ireturn, 1) := by decide +kernel
theorem own_pn_rmK_1 : plainName "java/lang/StringUTF16" = true := by first | (simp [plainName, overriddenIn]; done) | decide +kernel
theorem own_ef_rmK_1 (m : MethodId) (r0 : Addr) (r2 : Addr) : entryFrame m #[(.ref r0), (.int (0 : Int32)), (.ref r2), (.int (0 : Int32)), (.int (1 : Int32))] 7 = mkF m 0 #[.val (.ref r0), .val (.int (0 : Int32)), .val (.ref r2), .val (.int (0 : Int32)), .val (.int (1 : Int32)), .unset, .unset] [] := by first | (simp [entryFrame, mkF, argsToLocals, Value.category]; done) | rfl
def QK_1 (Z : State) (r0 : Addr) (r2 : Addr) (f : Nat → Value) (g : Nat → Value) (c0 : Int32) (h0 : Heap) (n0 : Nat) (v : Option Value) (h : Heap) (L : List Loc) : Prop := v = some (.int (1 : Int32)) ∧ Fr n0 L ∧ Keep h0 h [r2] ∧ ∃ f' : Nat → Value, Af Z h r2 .byte 1 f' ∧ f' 0 = .int (own_by c0)
set_option maxRecDepth 65536 in
set_option maxHeartbeats 40000000 in
theorem rmK_1 (l : Launch) (Z : State) (a0 : Array Value) (hw : ∀ d ∈ tables_1, d.before a0 Z = true) (ws : List Jvm.Cond) (r0 : Addr) (r2 : Addr) (f : Nat → Value) (g : Nat → Value) (c0 : Int32) (h0 : Heap) (n0 : Nat) (Z0 : n0 ≤ h0.size) (A : Af Z h0 r0 .char 1 f) (B : Af Z h0 r2 .byte 1 g) (hf_0 : f 0 = .int c0) (hc_0 : ¬ (255 : Int32) < c0) (g_r2 : n0 ≤ r2) (ne : r0 ≠ r2) :
    MetFree l (⟨"java/lang/StringUTF16", "compress", "([CI[BII)I"⟩ : MethodName) (head1 (Jvm.Cond.code (⟨"java/lang/StringUTF16", "compress", "([CI[BII)I"⟩ : MethodName) jdk_52_method_21_code 7 (some .int) :: ws) ({ frames := 0, cells := 0, slots := 0, locals := 0 } : Room)) (fun a U => a = #[(.ref r0), (.int (0 : Int32)), (.ref r2), (.int (0 : Int32)), (.int (1 : Int32))] ∧ Z.Warmed39 U.vm ∧ U.heap = h0) (fun _ _ _ _ _ => True) (fun _ U o U' => ∃ v L, o = .returned v ∧ QK_1 Z r0 r2 f g c0 h0 n0 v U'.heap L ∧ FrameEnd U o U' L ({ frames := 0, cells := 0, slots := 0, locals := 0 } : Room).cells ({ frames := 0, cells := 0, slots := 0, locals := 0 } : Room).slots) := by
  refine MetFree.of_bodySF (plainFor_of_name own_pn_rmK_1) hisR ?_
  intro p e s m args below meth cO s₁ Bd hml0 hP hK
  obtain ⟨rfl, hZ, hh⟩ := hP
  have hx := Bd.exec
  have hby := Bd.bytes
  have hml : cO.maxLocals = 7 := hml0
  have hown : s.vm.findClass "java/lang/StringUTF16" = some m.cls := findClass_of_methodNamed Bd.named
  have hnm := (name_of_methodNamed Bd.named Bd.method).1
  have hlk : meth.locks = false := BodyLoose.notSynchronized Bd
  have X0 : Stand p l e ({ frames := 0, cells := 0, slots := 0, locals := 0 } : Room) s m #[(.ref r0), (.int (0 : Int32)), (.ref r2), (.int (0 : Int32)), (.int (1 : Int32))] below meth cO s₁ [] 0 0 := Stand.of_body Bd
  have e0 : s₁.heap = h0 := by rw [← hh, Bd.state]; rfl
  have N0 := Fr.nil n0
  refine own_in (own_ef_rmK_1 m r0 r2) ?_
  show Gm p e below s₁ m 0 #[rv r0, iv (0 : Int32), rv r2, iv (0 : Int32), iv (1 : Int32), .unset, .unset] [] _
  refine own_go (fun t₀ k₀ => XS.iconst X0.here hx rfl (Jvm.hb hby d19_0) k₀) ?_
  show Gm p e below s₁ m 1 #[rv r0, iv (0 : Int32), rv r2, iv (0 : Int32), iv (1 : Int32), .unset, .unset] [(.int (0 : Int32))] _
  refine own_go (fun t₀ k₀ => XS.istore X0.here hx rfl (Jvm.hb hby d19_1) rfl (l' := #[rv r0, iv (0 : Int32), rv r2, iv (0 : Int32), iv (1 : Int32), iv (0 : Int32), .unset]) rfl k₀) ?_
  show Gm p e below s₁ m 3 #[rv r0, iv (0 : Int32), rv r2, iv (0 : Int32), iv (1 : Int32), iv (0 : Int32), .unset] [] _
  refine own_go (fun t₀ k₀ => XS.iload X0.here hx rfl (Jvm.hb hby d19_3) rfl k₀) ?_
  show Gm p e below s₁ m 5 #[rv r0, iv (0 : Int32), rv r2, iv (0 : Int32), iv (1 : Int32), iv (0 : Int32), .unset] [(.int (0 : Int32))] _
  refine own_go (fun t₀ k₀ => XS.iload X0.here hx rfl (Jvm.hb hby d19_5) rfl k₀) ?_
  show Gm p e below s₁ m 7 #[rv r0, iv (0 : Int32), rv r2, iv (0 : Int32), iv (1 : Int32), iv (0 : Int32), .unset] [(.int (1 : Int32)), (.int (0 : Int32))] _
  refine own_go (fun t₀ k₀ => XS.icmpNo X0.here hx rfl (Jvm.hb hby d19_7) rfl (XT.ii_ge_f (by decide)) k₀) ?_
  show Gm p e below s₁ m 10 #[rv r0, iv (0 : Int32), rv r2, iv (0 : Int32), iv (1 : Int32), iv (0 : Int32), .unset] [] _
  refine own_go (fun t₀ k₀ => XS.aloadN X0.here hx rfl (Jvm.hb hby d19_10) rfl rfl k₀) ?_
  show Gm p e below s₁ m 11 #[rv r0, iv (0 : Int32), rv r2, iv (0 : Int32), iv (1 : Int32), iv (0 : Int32), .unset] [(.ref r0)] _
  refine own_go (fun t₀ k₀ => XS.iloadN X0.here hx rfl (Jvm.hb hby d19_11) rfl k₀) ?_
  show Gm p e below s₁ m 12 #[rv r0, iv (0 : Int32), rv r2, iv (0 : Int32), iv (1 : Int32), iv (0 : Int32), .unset] [(.int (0 : Int32)), (.ref r0)] _
  refine own_go (fun t₀ k₀ => own_ldC X0 hx hZ e0 A (j := (0 : Int32)) (k := 0) (by decide) rfl (by decide) (w := (.int c0)) hf_0 (g := (mkF m 12 #[rv r0, iv (0 : Int32), rv r2, iv (0 : Int32), iv (1 : Int32), iv (0 : Int32), .unset] [(.int (0 : Int32)), (.ref r0)])) rfl rfl (Jvm.hb hby d19_12) k₀) ?_
  show Gm p e below s₁ m 13 #[rv r0, iv (0 : Int32), rv r2, iv (0 : Int32), iv (1 : Int32), iv (0 : Int32), .unset] [(.int c0)] _
  refine own_go (fun t₀ k₀ => XS.istore X0.here hx rfl (Jvm.hb hby d19_13) rfl (l' := #[rv r0, iv (0 : Int32), rv r2, iv (0 : Int32), iv (1 : Int32), iv (0 : Int32), iv c0]) rfl k₀) ?_
  show Gm p e below s₁ m 15 #[rv r0, iv (0 : Int32), rv r2, iv (0 : Int32), iv (1 : Int32), iv (0 : Int32), iv c0] [] _
  refine own_go (fun t₀ k₀ => XS.iload X0.here hx rfl (Jvm.hb hby d19_15) rfl k₀) ?_
  show Gm p e below s₁ m 17 #[rv r0, iv (0 : Int32), rv r2, iv (0 : Int32), iv (1 : Int32), iv (0 : Int32), iv c0] [(.int c0)] _
  refine own_go (fun t₀ k₀ => XS.sipush X0.here hx rfl (Jvm.hb hby d19_17) k₀) ?_
  show Gm p e below s₁ m 20 #[rv r0, iv (0 : Int32), rv r2, iv (0 : Int32), iv (1 : Int32), iv (0 : Int32), iv c0] [(.int (255 : Int32)), (.int c0)] _
  refine own_go (fun t₀ k₀ => XS.icmpYes X0.here hx rfl (pc0 := 20) (pc' := 26) rfl (Jvm.hb hby d19_20) rfl (XT.ii_le_t hc_0) (by decide) (by decide) k₀) ?_
  show Gm p e below s₁ m 26 #[rv r0, iv (0 : Int32), rv r2, iv (0 : Int32), iv (1 : Int32), iv (0 : Int32), iv c0] [] _
  refine own_go (fun t₀ k₀ => XS.aloadN X0.here hx rfl (Jvm.hb hby d19_26) rfl rfl k₀) ?_
  show Gm p e below s₁ m 27 #[rv r0, iv (0 : Int32), rv r2, iv (0 : Int32), iv (1 : Int32), iv (0 : Int32), iv c0] [(.ref r2)] _
  refine own_go (fun t₀ k₀ => XS.iloadN X0.here hx rfl (Jvm.hb hby d19_27) rfl k₀) ?_
  show Gm p e below s₁ m 28 #[rv r0, iv (0 : Int32), rv r2, iv (0 : Int32), iv (1 : Int32), iv (0 : Int32), iv c0] [(.int (0 : Int32)), (.ref r2)] _
  refine own_go (fun t₀ k₀ => XS.iload X0.here hx rfl (Jvm.hb hby d19_28) rfl k₀) ?_
  show Gm p e below s₁ m 30 #[rv r0, iv (0 : Int32), rv r2, iv (0 : Int32), iv (1 : Int32), iv (0 : Int32), iv c0] [(.int c0), (.int (0 : Int32)), (.ref r2)] _
  refine own_go (fun t₀ k₀ => XS.i2b X0.here hx rfl (Jvm.hb hby d19_30) rfl k₀) ?_
  show Gm p e below s₁ m 31 #[rv r0, iv (0 : Int32), rv r2, iv (0 : Int32), iv (1 : Int32), iv (0 : Int32), iv c0] [(.int (c0.toInt8.toInt32)), (.int (0 : Int32)), (.ref r2)] _
  obtain ⟨T1, h1, X1, e1, W1, A1, st1⟩ := own_stB X0 hx hZ e0 B (j := (0 : Int32)) (k := 0) (by decide) rfl (by decide) (y := (own_by c0)) rfl (g := (mkF m 31 #[rv r0, iv (0 : Int32), rv r2, iv (0 : Int32), iv (1 : Int32), iv (0 : Int32), iv c0] [(.int (c0.toInt8.toInt32)), (.int (0 : Int32)), (.ref r2)])) rfl rfl (Jvm.hb hby d19_31)
  have N1 := Fr.snoc X1 N0 g_r2
  have Z1 : n0 ≤ h1.size := W1.size ▸ Z0
  have K1 : Keep h0 h1 [r2] := Keep.wr (Keep.refl h0 [r2]) W1 (Or.inl (List.mem_of_getElem? (i := 0) rfl))
  refine own_go st1 ?_
  show Gm p e below T1 m 32 #[rv r0, iv (0 : Int32), rv r2, iv (0 : Int32), iv (1 : Int32), iv (0 : Int32), iv c0] [] _
  refine own_go (fun t₀ k₀ => XS.iinc X1.here hx rfl (Jvm.hb hby d19_32) rfl (l' := #[rv r0, iv (1 : Int32), rv r2, iv (0 : Int32), iv (1 : Int32), iv (0 : Int32), iv c0]) rfl k₀) ?_
  show Gm p e below T1 m 35 #[rv r0, iv (1 : Int32), rv r2, iv (0 : Int32), iv (1 : Int32), iv (0 : Int32), iv c0] [] _
  refine own_go (fun t₀ k₀ => XS.iinc X1.here hx rfl (Jvm.hb hby d19_35) rfl (l' := #[rv r0, iv (1 : Int32), rv r2, iv (1 : Int32), iv (1 : Int32), iv (0 : Int32), iv c0]) rfl k₀) ?_
  show Gm p e below T1 m 38 #[rv r0, iv (1 : Int32), rv r2, iv (1 : Int32), iv (1 : Int32), iv (0 : Int32), iv c0] [] _
  refine own_go (fun t₀ k₀ => XS.iinc X1.here hx rfl (Jvm.hb hby d19_38) rfl (l' := #[rv r0, iv (1 : Int32), rv r2, iv (1 : Int32), iv (1 : Int32), iv (1 : Int32), iv c0]) rfl k₀) ?_
  show Gm p e below T1 m 41 #[rv r0, iv (1 : Int32), rv r2, iv (1 : Int32), iv (1 : Int32), iv (1 : Int32), iv c0] [] _
  refine own_go (fun t₀ k₀ => XS.goto X1.here hx rfl (pc0 := 41) (pc' := 3) rfl (Jvm.hb hby d19_41) (by decide) (by decide) k₀) ?_
  show Gm p e below T1 m 3 #[rv r0, iv (1 : Int32), rv r2, iv (1 : Int32), iv (1 : Int32), iv (1 : Int32), iv c0] [] _
  refine own_go (fun t₀ k₀ => XS.iload X1.here hx rfl (Jvm.hb hby d19_3) rfl k₀) ?_
  show Gm p e below T1 m 5 #[rv r0, iv (1 : Int32), rv r2, iv (1 : Int32), iv (1 : Int32), iv (1 : Int32), iv c0] [(.int (1 : Int32))] _
  refine own_go (fun t₀ k₀ => XS.iload X1.here hx rfl (Jvm.hb hby d19_5) rfl k₀) ?_
  show Gm p e below T1 m 7 #[rv r0, iv (1 : Int32), rv r2, iv (1 : Int32), iv (1 : Int32), iv (1 : Int32), iv c0] [(.int (1 : Int32)), (.int (1 : Int32))] _
  refine own_go (fun t₀ k₀ => XS.icmpYes X1.here hx rfl (pc0 := 7) (pc' := 44) rfl (Jvm.hb hby d19_7) rfl (XT.ii_ge_t (by decide)) (by decide) (by decide) k₀) ?_
  show Gm p e below T1 m 44 #[rv r0, iv (1 : Int32), rv r2, iv (1 : Int32), iv (1 : Int32), iv (1 : Int32), iv c0] [] _
  refine own_go (fun t₀ k₀ => XS.iload X1.here hx rfl (Jvm.hb hby d19_44) rfl k₀) ?_
  show Gm p e below T1 m 46 #[rv r0, iv (1 : Int32), rv r2, iv (1 : Int32), iv (1 : Int32), iv (1 : Int32), iv c0] [(.int (1 : Int32))] _
  exact own_retI X1 hx hlk (t := .int) Bd.returns rfl (by simp) (Jvm.hb hby d19_46) e1 ⟨rfl, N1, K1, (fun i => if i = 0 then (.int (own_by c0)) else g i), A1, rfl⟩ (by decide) (by decide)
theorem d18_0 : decode jdk_52_method_16_code 0 = .ok (.iload_n 2, 1) := by decide +kernel
theorem d18_1 : decode jdk_52_method_16_code 1 = .ok (.newarray .byte, 2) := by decide +kernel
theorem d18_3 : decode jdk_52_method_16_code 3 = .ok (.astore_n 3, 1) := by decide +kernel
theorem d18_4 : decode jdk_52_method_16_code 4 = .ok (.aload_n 0, 1) := by decide +kernel
theorem d18_5 : decode jdk_52_method_16_code 5 = .ok (.iload_n 1, 1) := by decide +kernel
theorem d18_6 : decode jdk_52_method_16_code 6 = .ok (.aload_n 3, 1) := by decide +kernel
theorem d18_7 : decode jdk_52_method_16_code 7 = .ok (.iconst 0, 1) := by decide +kernel
theorem d18_8 : decode jdk_52_method_16_code 8 = .ok (.iload_n 2, 1) := by decide +kernel
theorem d18_9 : decode jdk_52_method_16_code 9 = .ok (.invokestatic 115, 3) := by decide +kernel
theorem d18_12 : decode jdk_52_method_16_code 12 = .ok (.istore 4, 2) := by decide +kernel
theorem d18_14 : decode jdk_52_method_16_code 14 = .ok (.iload 4, 2) := by decide +kernel
theorem d18_16 : decode jdk_52_method_16_code 16 = .ok (.iload_n 2, 1) := by decide +kernel
theorem d18_17 : decode jdk_52_method_16_code 17 = .ok (.if_icmp .eq 40, 3) := by decide +kernel
theorem d18_57 : decode jdk_52_method_16_code 57 = .ok (.aload_n 3, 1) := by decide +kernel
theorem d18_58 : decode jdk_52_method_16_code 58 = .ok (.areturn, 1) := by decide +kernel
theorem own_pd0 : parseMethodDescriptor "([CI[BII)I" = some ⟨[(.array .char), .int, (.array .byte), .int, .int], some .int⟩ := by decide +kernel
theorem own_pn_rmP_1 : plainName "java/lang/StringUTF16" = true := by first | (simp [plainName, overriddenIn]; done) | decide +kernel
theorem own_ef_rmP_1 (m : MethodId) (r0 : Addr) : entryFrame m #[(.ref r0), (.int (0 : Int32)), (.int (1 : Int32))] 6 = mkF m 0 #[.val (.ref r0), .val (.int (0 : Int32)), .val (.int (1 : Int32)), .unset, .unset, .unset] [] := by first | (simp [entryFrame, mkF, argsToLocals, Value.category]; done) | rfl
def QP_1 (Z : State) (r0 : Addr) (f : Nat → Value) (c0 : Int32) (h0 : Heap) (n0 : Nat) (v : Option Value) (h : Heap) (L : List Loc) : Prop := ∃ (b : Addr) (f' : Nat → Value), v = some (.ref b) ∧ Fr n0 L ∧ Keep h0 h [] ∧ h0.size ≤ b ∧ Af Z h b .byte 1 f' ∧ f' 0 = .int (own_by c0)
set_option maxRecDepth 65536 in
set_option maxHeartbeats 40000000 in
theorem rmP_1 (l : Launch) (Z : State) (a0 : Array Value) (hw : ∀ d ∈ tables_1, d.before a0 Z = true) (ws : List Jvm.Cond) (r0 : Addr) (f : Nat → Value) (c0 : Int32) (h0 : Heap) (n0 : Nat) (Z0 : n0 ≤ h0.size) (A : Af Z h0 r0 .char 1 f) (hf_0 : f 0 = .int c0) (hc_0 : ¬ (255 : Int32) < c0) :
    MetFree l (⟨"java/lang/StringUTF16", "compress", "([CII)[B"⟩ : MethodName) (head1 (Jvm.Cond.code (⟨"java/lang/StringUTF16", "compress", "([CII)[B"⟩ : MethodName) jdk_52_method_16_code 6 (some (.array .byte)) :: ws) ({ frames := 1, cells := 1, slots := 1, locals := 18 } : Room)) (fun a U => a = #[(.ref r0), (.int (0 : Int32)), (.int (1 : Int32))] ∧ Z.Warmed39 U.vm ∧ U.heap = h0) (fun _ _ _ _ _ => True) (fun _ U o U' => ∃ v L, o = .returned v ∧ QP_1 Z r0 f c0 h0 n0 v U'.heap L ∧ FrameEnd U o U' L ({ frames := 1, cells := 1, slots := 1, locals := 18 } : Room).cells ({ frames := 1, cells := 1, slots := 1, locals := 18 } : Room).slots) := by
  refine MetFree.of_bodySF (plainFor_of_name own_pn_rmP_1) hisR ?_
  intro p e s m args below meth cO s₁ Bd hml0 hP hK
  obtain ⟨rfl, hZ, hh⟩ := hP
  have hx := Bd.exec
  have hby := Bd.bytes
  have hml : cO.maxLocals = 6 := hml0
  have hown : s.vm.findClass "java/lang/StringUTF16" = some m.cls := findClass_of_methodNamed Bd.named
  have hnm := (name_of_methodNamed Bd.named Bd.method).1
  have hlk : meth.locks = false := BodyLoose.notSynchronized Bd
  have X0 : Stand p l e ({ frames := 1, cells := 1, slots := 1, locals := 18 } : Room) s m #[(.ref r0), (.int (0 : Int32)), (.int (1 : Int32))] below meth cO s₁ [] 0 0 := Stand.of_body Bd
  have e0 : s₁.heap = h0 := by rw [← hh, Bd.state]; rfl
  have N0 := Fr.nil n0
  refine own_in (own_ef_rmP_1 m r0) ?_
  show Gm p e below s₁ m 0 #[rv r0, iv (0 : Int32), iv (1 : Int32), .unset, .unset, .unset] [] _
  refine own_go (fun t₀ k₀ => XS.iloadN X0.here hx rfl (Jvm.hb hby d18_0) rfl k₀) ?_
  show Gm p e below s₁ m 1 #[rv r0, iv (0 : Int32), iv (1 : Int32), .unset, .unset, .unset] [(.int (1 : Int32))] _
  obtain ⟨T1, h1, k1, X1, e1, E1, A1, st1⟩ := newP X0 hx hZ (hw _ (List.mem_of_getElem? (i := 20) rfl)) e0 (g := (mkF m 1 #[rv r0, iv (0 : Int32), iv (1 : Int32), .unset, .unset, .unset] [(.int (1 : Int32))])) rfl (Jvm.hb hby d18_1) rfl (by decide) (cap := 1) (by decide) (by decide) (by decide) (by decide)
  obtain ⟨b1, g1⟩ : ∃ z, z = h0.size := ⟨_, rfl⟩
  rw [← g1] at A1 st1
  have g_b1 : n0 ≤ b1 := Nat.le_trans Z0 (Nat.le_of_eq g1.symm)
  have ne_r0_b1 : r0 ≠ b1 := Nat.ne_of_lt (Nat.lt_of_lt_of_le A.lt (Nat.le_of_eq g1.symm))
  have sz_b1 : h0.size ≤ b1 := Nat.le_trans (Keep.refl h0 []).1 (Nat.le_of_eq g1.symm)
  have K1 : Keep h0 h1 [] := Keep.ext (Keep.refl h0 []) E1
  have Z1 : n0 ≤ h1.size := Nat.le_trans Z0 E1.1
  have V1 : Af Z h1 b1 .byte 1 (fun _ => defaultValue .byte) := Af.new A1 (by decide) rfl rfl
  refine own_go st1 ?_
  show Gm p e below T1 m 3 #[rv r0, iv (0 : Int32), iv (1 : Int32), .unset, .unset, .unset] [(.ref b1)] _
  refine own_go (fun t₀ k₀ => XS.astoreN X1.here hx rfl (Jvm.hb hby d18_3) rfl rfl (l' := #[rv r0, iv (0 : Int32), iv (1 : Int32), rv b1, .unset, .unset]) rfl k₀) ?_
  show Gm p e below T1 m 4 #[rv r0, iv (0 : Int32), iv (1 : Int32), rv b1, .unset, .unset] [] _
  refine own_go (fun t₀ k₀ => XS.aloadN X1.here hx rfl (Jvm.hb hby d18_4) rfl rfl k₀) ?_
  show Gm p e below T1 m 5 #[rv r0, iv (0 : Int32), iv (1 : Int32), rv b1, .unset, .unset] [(.ref r0)] _
  refine own_go (fun t₀ k₀ => XS.iloadN X1.here hx rfl (Jvm.hb hby d18_5) rfl k₀) ?_
  show Gm p e below T1 m 6 #[rv r0, iv (0 : Int32), iv (1 : Int32), rv b1, .unset, .unset] [(.int (0 : Int32)), (.ref r0)] _
  refine own_go (fun t₀ k₀ => XS.aloadN X1.here hx rfl (Jvm.hb hby d18_6) rfl rfl k₀) ?_
  show Gm p e below T1 m 7 #[rv r0, iv (0 : Int32), iv (1 : Int32), rv b1, .unset, .unset] [(.ref b1), (.int (0 : Int32)), (.ref r0)] _
  refine own_go (fun t₀ k₀ => XS.iconst X1.here hx rfl (Jvm.hb hby d18_7) k₀) ?_
  show Gm p e below T1 m 8 #[rv r0, iv (0 : Int32), iv (1 : Int32), rv b1, .unset, .unset] [(.int (0 : Int32)), (.ref b1), (.int (0 : Int32)), (.ref r0)] _
  refine own_go (fun t₀ k₀ => XS.iloadN X1.here hx rfl (Jvm.hb hby d18_8) rfl k₀) ?_
  show Gm p e below T1 m 9 #[rv r0, iv (0 : Int32), iv (1 : Int32), rv b1, .unset, .unset] [(.int (1 : Int32)), (.int (0 : Int32)), (.ref b1), (.int (0 : Int32)), (.ref r0)] _
  have f2 := (A.ext E1)
  obtain ⟨_, _, ⟨T3, L3, k3, n3⟩, -, X3, ⟨Lc3, hQ3, l3, y3, z3⟩, st3⟩ := Jvm.LawKit.callS X1 hx (y := (⟨"java/lang/StringUTF16", "compress", "([CI[BII)I"⟩ : MethodName)) hown (mvT hZ (hw _ (List.mem_of_getElem? (i := 110) rfl))) (mvT hZ (hw _ (List.mem_of_getElem? (i := 111) rfl))) (mvT hZ (hw _ (List.mem_of_getElem? (i := 108) rfl))) (mvT hZ (hw _ (List.mem_of_getElem? (i := 112) rfl))) (by decide) (backOf (W := 0) (rmK_1 l Z a0 hw [] r0 b1 f (fun _ => defaultValue .byte) c0 h1 n0 Z1 f2 V1 hf_0 hc_0 g_b1 ne_r0_b1) hZ (hw _ (List.mem_of_getElem? (i := 112) rfl)) (hw _ (List.mem_of_getElem? (i := 108) rfl)) (by decide) (by decide)) (g := (mkF m 9 #[rv r0, iv (0 : Int32), iv (1 : Int32), rv b1, .unset, .unset] [(.int (1 : Int32)), (.int (0 : Int32)), (.ref b1), (.int (0 : Int32)), (.ref r0)])) rfl (by rw [hml]; rfl) (argsL := [(.ref r0), (.int (0 : Int32)), (.ref b1), (.int (0 : Int32)), (.int (1 : Int32))]) (rest := []) (lenOf own_pd0 rfl) rfl (by show 2 * 0 + _ ≤ _; exact Nat.le_of_eq rfl) (Jvm.hb hby d18_9) (fun _ _ => ⟨rfl, e1, (by decide : 1 + 0 ≤ _), (by decide : 1 + 0 ≤ _)⟩)
  dsimp only [Pt.U, Pt.locs, Pt.cells, Pt.slots] at X3 l3 y3 z3 st3 hQ3
  subst l3 y3 z3
  obtain ⟨rfl, Nq3, Kc3, fk3, Ak3, hk3_0⟩ := hQ3
  have N3 := Fr.app N0 Nq3
  refine own_go st3 ?_
  have Z3 : n0 ≤ T3.heap.size := Nat.le_trans Z1 Kc3.1
  have K3 : Keep h0 T3.heap [] := Keep.trans K1 Kc3 (allS (Or.inr sz_b1) all0)
  show Gm p e below T3 m 12 #[rv r0, iv (0 : Int32), iv (1 : Int32), rv b1, .unset, .unset] [(.int (1 : Int32))] _
  refine own_go (fun t₀ k₀ => XS.istore X3.here hx rfl (Jvm.hb hby d18_12) rfl (l' := #[rv r0, iv (0 : Int32), iv (1 : Int32), rv b1, iv (1 : Int32), .unset]) rfl k₀) ?_
  show Gm p e below T3 m 14 #[rv r0, iv (0 : Int32), iv (1 : Int32), rv b1, iv (1 : Int32), .unset] [] _
  refine own_go (fun t₀ k₀ => XS.iload X3.here hx rfl (Jvm.hb hby d18_14) rfl k₀) ?_
  show Gm p e below T3 m 16 #[rv r0, iv (0 : Int32), iv (1 : Int32), rv b1, iv (1 : Int32), .unset] [(.int (1 : Int32))] _
  refine own_go (fun t₀ k₀ => XS.iloadN X3.here hx rfl (Jvm.hb hby d18_16) rfl k₀) ?_
  show Gm p e below T3 m 17 #[rv r0, iv (0 : Int32), iv (1 : Int32), rv b1, iv (1 : Int32), .unset] [(.int (1 : Int32)), (.int (1 : Int32))] _
  refine own_go (fun t₀ k₀ => XS.icmpYes X3.here hx rfl (pc0 := 17) (pc' := 57) rfl (Jvm.hb hby d18_17) rfl (XT.ii_eq_t (by decide)) (by decide) (by decide) k₀) ?_
  show Gm p e below T3 m 57 #[rv r0, iv (0 : Int32), iv (1 : Int32), rv b1, iv (1 : Int32), .unset] [] _
  refine own_go (fun t₀ k₀ => XS.aloadN X3.here hx rfl (Jvm.hb hby d18_57) rfl rfl k₀) ?_
  show Gm p e below T3 m 58 #[rv r0, iv (0 : Int32), iv (1 : Int32), rv b1, iv (1 : Int32), .unset] [(.ref b1)] _
  exact own_retA X3 hx hlk rfl Bd.returns rfl (Jvm.hb hby d18_58) rfl ⟨b1, fk3, rfl, N3, K3, sz_b1, Ak3, hk3_0⟩ (by decide) (by decide)
theorem d20_0 : decode jdk_52_method_15_code 0 = .ok (.iload_n 1, 1) := by decide +kernel
theorem d20_1 : decode jdk_52_method_15_code 1 = .ok (.aload_n 0, 1) := by decide +kernel
theorem d20_2 : decode jdk_52_method_15_code 2 = .ok (.arraylength, 1) := by decide +kernel
theorem d20_3 : decode jdk_52_method_15_code 3 = .ok (.isub, 1) := by decide +kernel
theorem d20_4 : decode jdk_52_method_15_code 4 = .ok (.bipush 31, 2) := by decide +kernel
theorem d20_6 : decode jdk_52_method_15_code 6 = .ok (.iushr, 1) := by decide +kernel
theorem d20_7 : decode jdk_52_method_15_code 7 = .ok (.i2b, 1) := by decide +kernel
theorem d20_8 : decode jdk_52_method_15_code 8 = .ok (.ireturn, 1) := by decide +kernel
theorem own_pn_rmD_1 : plainName "java/lang/StringUTF16" = true := by first | (simp [plainName, overriddenIn]; done) | decide +kernel
theorem own_ef_rmD_1 (m : MethodId) (r0 : Addr) : entryFrame m #[(.ref r0), (.int (1 : Int32))] 2 = mkF m 0 #[.val (.ref r0), .val (.int (1 : Int32))] [] := by first | (simp [entryFrame, mkF, argsToLocals, Value.category]; done) | rfl
def QD_1 (Z : State) (r0 : Addr) (f : Nat → Value) (h0 : Heap) (n0 : Nat) (v : Option Value) (h : Heap) (L : List Loc) : Prop := v = some (.int (0 : Int32)) ∧ Fr n0 L ∧ h = h0
set_option maxRecDepth 65536 in
set_option maxHeartbeats 40000000 in
theorem rmD_1 (l : Launch) (Z : State) (a0 : Array Value) (hw : ∀ d ∈ tables_1, d.before a0 Z = true) (ws : List Jvm.Cond) (r0 : Addr) (f : Nat → Value) (h0 : Heap) (n0 : Nat) (Z0 : n0 ≤ h0.size) (A : Af Z h0 r0 .byte 1 f) :
    MetFree l (⟨"java/lang/StringUTF16", "coderFromArrayLen", "([BI)B"⟩ : MethodName) (head1 (Jvm.Cond.code (⟨"java/lang/StringUTF16", "coderFromArrayLen", "([BI)B"⟩ : MethodName) jdk_52_method_15_code 2 (some .byte) :: ws) ({ frames := 0, cells := 0, slots := 0, locals := 0 } : Room)) (fun a U => a = #[(.ref r0), (.int (1 : Int32))] ∧ Z.Warmed39 U.vm ∧ U.heap = h0) (fun _ _ _ _ _ => True) (fun _ U o U' => ∃ v L, o = .returned v ∧ QD_1 Z r0 f h0 n0 v U'.heap L ∧ FrameEnd U o U' L ({ frames := 0, cells := 0, slots := 0, locals := 0 } : Room).cells ({ frames := 0, cells := 0, slots := 0, locals := 0 } : Room).slots) := by
  refine MetFree.of_bodySF (plainFor_of_name own_pn_rmD_1) hisR ?_
  intro p e s m args below meth cO s₁ Bd hml0 hP hK
  obtain ⟨rfl, hZ, hh⟩ := hP
  have hx := Bd.exec
  have hby := Bd.bytes
  have hml : cO.maxLocals = 2 := hml0
  have hown : s.vm.findClass "java/lang/StringUTF16" = some m.cls := findClass_of_methodNamed Bd.named
  have hnm := (name_of_methodNamed Bd.named Bd.method).1
  have hlk : meth.locks = false := BodyLoose.notSynchronized Bd
  have X0 : Stand p l e ({ frames := 0, cells := 0, slots := 0, locals := 0 } : Room) s m #[(.ref r0), (.int (1 : Int32))] below meth cO s₁ [] 0 0 := Stand.of_body Bd
  have e0 : s₁.heap = h0 := by rw [← hh, Bd.state]; rfl
  have N0 := Fr.nil n0
  refine own_in (own_ef_rmD_1 m r0) ?_
  show Gm p e below s₁ m 0 #[rv r0, iv (1 : Int32)] [] _
  refine own_go (fun t₀ k₀ => XS.iloadN X0.here hx rfl (Jvm.hb hby d20_0) rfl k₀) ?_
  show Gm p e below s₁ m 1 #[rv r0, iv (1 : Int32)] [(.int (1 : Int32))] _
  refine own_go (fun t₀ k₀ => XS.aloadN X0.here hx rfl (Jvm.hb hby d20_1) rfl rfl k₀) ?_
  show Gm p e below s₁ m 2 #[rv r0, iv (1 : Int32)] [(.ref r0), (.int (1 : Int32))] _
  refine own_go (fun t₀ k₀ => own_len X0 hx hZ e0 A (z := (1 : Int32)) rfl (g := (mkF m 2 #[rv r0, iv (1 : Int32)] [(.ref r0), (.int (1 : Int32))])) rfl rfl (Jvm.hb hby d20_2) k₀) ?_
  show Gm p e below s₁ m 3 #[rv r0, iv (1 : Int32)] [(.int (1 : Int32)), (.int (1 : Int32))] _
  refine own_go (fun t₀ k₀ => XS.isub X0.here hx rfl (Jvm.hb hby d20_3) rfl k₀) ?_
  show Gm p e below s₁ m 4 #[rv r0, iv (1 : Int32)] [(.int (0 : Int32))] _
  refine own_go (fun t₀ k₀ => XS.bipush X0.here hx rfl (Jvm.hb hby d20_4) k₀) ?_
  show Gm p e below s₁ m 6 #[rv r0, iv (1 : Int32)] [(.int (31 : Int32)), (.int (0 : Int32))] _
  refine own_go (fun t₀ k₀ => XS.iushr X0.here hx rfl (Jvm.hb hby d20_6) rfl k₀) ?_
  show Gm p e below s₁ m 7 #[rv r0, iv (1 : Int32)] [(.int (((0 : Int32).toUInt32 >>> ((31 : Int32) &&& 31).toUInt32).toInt32))] _
  refine own_go (fun t₀ k₀ => XS.i2b X0.here hx rfl (Jvm.hb hby d20_7) rfl k₀) ?_
  show Gm p e below s₁ m 8 #[rv r0, iv (1 : Int32)] [(.int ((((0 : Int32).toUInt32 >>> ((31 : Int32) &&& 31).toUInt32).toInt32).toInt8.toInt32))] _
  exact own_retI X0 hx hlk (t := .byte) Bd.returns (by decide +kernel) (by simp) (Jvm.hb hby d20_8) e0 ⟨(by decide +kernel), N0, rfl⟩ (by decide) (by decide)
theorem d3_0 : decode jdk_42_method_149_code 0 = .ok (.aload_n 0, 1) := by decide +kernel
theorem d3_1 : decode jdk_42_method_149_code 1 = .ok (.invokespecial 1, 3) := by decide +kernel
theorem d3_4 : decode jdk_42_method_149_code 4 = .ok (.iload_n 3, 1) := by decide +kernel
theorem d3_5 : decode jdk_42_method_149_code 5 = .ok (.ifCond .ne 22, 3) := by decide +kernel
theorem d3_27 : decode jdk_42_method_149_code 27 = .ok (.getstatic 38, 3) := by decide +kernel
theorem d3_30 : decode jdk_42_method_149_code 30 = .ok (.ifCond .eq 28, 3) := by decide +kernel
theorem d3_33 : decode jdk_42_method_149_code 33 = .ok (.aload_n 1, 1) := by decide +kernel
theorem d3_34 : decode jdk_42_method_149_code 34 = .ok (.iload_n 2, 1) := by decide +kernel
theorem d3_35 : decode jdk_42_method_149_code 35 = .ok (.iload_n 3, 1) := by decide +kernel
theorem d3_36 : decode jdk_42_method_149_code 36 = .ok (.invokestatic 177, 3) := by decide +kernel
theorem d3_39 : decode jdk_42_method_149_code 39 = .ok (.astore 5, 2) := by decide +kernel
theorem d3_41 : decode jdk_42_method_149_code 41 = .ok (.aload_n 0, 1) := by decide +kernel
theorem d3_42 : decode jdk_42_method_149_code 42 = .ok (.aload 5, 2) := by decide +kernel
theorem d3_44 : decode jdk_42_method_149_code 44 = .ok (.iload_n 3, 1) := by decide +kernel
theorem d3_45 : decode jdk_42_method_149_code 45 = .ok (.invokestatic 47, 3) := by decide +kernel
theorem d3_48 : decode jdk_42_method_149_code 48 = .ok (.putfield 15, 3) := by decide +kernel
theorem d3_51 : decode jdk_42_method_149_code 51 = .ok (.aload_n 0, 1) := by decide +kernel
theorem d3_52 : decode jdk_42_method_149_code 52 = .ok (.aload 5, 2) := by decide +kernel
theorem d3_54 : decode jdk_42_method_149_code 54 = .ok (.putfield 9, 3) := by decide +kernel
theorem d3_57 : decode jdk_42_method_149_code 57 = .ok (.return_, 1) := by decide +kernel
theorem own_pd1 : parseMethodDescriptor "([CII)[B" = some ⟨[(.array .char), .int, .int], some (.array .byte)⟩ := by decide +kernel
theorem own_pd2 : parseMethodDescriptor "([BI)B" = some ⟨[(.array .byte), .int], some .byte⟩ := by decide +kernel
theorem own_pn_rmV_1 : plainName "java/lang/String" = true := by first | (simp [plainName, overriddenIn]; done) | decide +kernel
theorem own_ef_rmV_1 (m : MethodId) (r0 : Addr) (r1 : Addr) : entryFrame m #[(.ref r0), (.ref r1), (.int (0 : Int32)), (.int (1 : Int32)), .null] 6 = mkF m 0 #[.val (.ref r0), .val (.ref r1), .val (.int (0 : Int32)), .val (.int (1 : Int32)), .val .null, .unset] [] := by first | (simp [entryFrame, mkF, argsToLocals, Value.category]; done) | rfl
def QV_1 (Z : State) (r0 : Addr) (r1 : Addr) (f : Nat → Value) (c0 : Int32) (cs : Int32) (h0 : Heap) (n0 : Nat) (v : Option Value) (h : Heap) (L : List Loc) : Prop := ∃ (b : Addr) (f' : Nat → Value), v = none ∧ Fr n0 L ∧ Keep h0 h [r0] ∧ Exa Z h r0 "java/lang/String" ∧ Fld Z h r0 "java/lang/String" "coder" "B" (.int (0 : Int32)) ∧ Fld Z h r0 "java/lang/String" "value" "[B" (.ref b) ∧ Af Z h b .byte 1 f' ∧ f' 0 = .int (own_by c0)
set_option maxRecDepth 65536 in
set_option maxHeartbeats 40000000 in
theorem rmV_1 (l : Launch) (Z : State) (a0 : Array Value) (hw : ∀ d ∈ tables_1, d.before a0 Z = true) (ws : List Jvm.Cond) (r0 : Addr) (r1 : Addr) (f : Nat → Value) (c0 : Int32) (cs : Int32) (h0 : Heap) (n0 : Nat) (Z0 : n0 ≤ h0.size) (E_r0 : Exa Z h0 r0 "java/lang/String") (F_v : Fld Z h0 r0 "java/lang/String" "value" "[B" .null) (F_c : Fld Z h0 r0 "java/lang/String" "coder" "B" (.int (0 : Int32))) (A : Af Z h0 r1 .char 1 f) (hf_0 : f 0 = .int c0) (hc_0 : ¬ (255 : Int32) < c0) (S_c : Sta Z h0 "java/lang/String" "COMPACT_STRINGS" "Z" (.int cs)) (hcs : ¬ cs = 0) (g_r0 : n0 ≤ r0) :
    MetFree l (⟨"java/lang/String", "<init>", "([CIILjava/lang/Void;)V"⟩ : MethodName) (head1 (Jvm.Cond.code (⟨"java/lang/String", "<init>", "([CIILjava/lang/Void;)V"⟩ : MethodName) jdk_42_method_149_code 6 none :: ws) ({ frames := 2, cells := 1, slots := 1, locals := 35 } : Room)) (fun a U => a = #[(.ref r0), (.ref r1), (.int (0 : Int32)), (.int (1 : Int32)), .null] ∧ Z.Warmed39 U.vm ∧ U.heap = h0) (fun _ _ _ _ _ => True) (fun _ U o U' => ∃ v L, o = .returned v ∧ QV_1 Z r0 r1 f c0 cs h0 n0 v U'.heap L ∧ FrameEnd U o U' L ({ frames := 2, cells := 1, slots := 1, locals := 35 } : Room).cells ({ frames := 2, cells := 1, slots := 1, locals := 35 } : Room).slots) := by
  refine MetFree.of_bodySF (plainFor_of_name own_pn_rmV_1) hisR ?_
  intro p e s m args below meth cO s₁ Bd hml0 hP hK
  obtain ⟨rfl, hZ, hh⟩ := hP
  have hx := Bd.exec
  have hby := Bd.bytes
  have hml : cO.maxLocals = 6 := hml0
  have hown : s.vm.findClass "java/lang/String" = some m.cls := findClass_of_methodNamed Bd.named
  have hnm := (name_of_methodNamed Bd.named Bd.method).1
  have hlk : meth.locks = false := BodyLoose.notSynchronized Bd
  have X0 : Stand p l e ({ frames := 2, cells := 1, slots := 1, locals := 35 } : Room) s m #[(.ref r0), (.ref r1), (.int (0 : Int32)), (.int (1 : Int32)), .null] below meth cO s₁ [] 0 0 := Stand.of_body Bd
  have e0 : s₁.heap = h0 := by rw [← hh, Bd.state]; rfl
  have N0 := Fr.nil n0
  refine own_in (own_ef_rmV_1 m r0 r1) ?_
  show Gm p e below s₁ m 0 #[rv r0, rv r1, iv (0 : Int32), iv (1 : Int32), .val .null, .unset] [] _
  refine own_go (fun t₀ k₀ => XS.aloadN X0.here hx rfl (Jvm.hb hby d3_0) rfl rfl k₀) ?_
  show Gm p e below s₁ m 1 #[rv r0, rv r1, iv (0 : Int32), iv (1 : Int32), .val .null, .unset] [(.ref r0)] _
  obtain ⟨T1, X1, e1, st1⟩ := initO X0 hx hZ hown (hw _ (List.mem_of_getElem? (i := 16) rfl)) (hw _ (List.mem_of_getElem? (i := 17) rfl)) (hw _ (List.mem_of_getElem? (i := 18) rfl)) e0 (g := (mkF m 1 #[rv r0, rv r1, iv (0 : Int32), iv (1 : Int32), .val .null, .unset] [(.ref r0)])) rfl (by rw [hml]; rfl) rfl (Jvm.hb hby d3_1) (by decide) (W := 0) (by show 2 * 0 + _ ≤ _; exact Nat.le_of_eq rfl) (by decide)
  refine own_go st1 ?_
  show Gm p e below T1 m 4 #[rv r0, rv r1, iv (0 : Int32), iv (1 : Int32), .val .null, .unset] [] _
  refine own_go (fun t₀ k₀ => XS.iloadN X1.here hx rfl (Jvm.hb hby d3_4) rfl k₀) ?_
  show Gm p e below T1 m 5 #[rv r0, rv r1, iv (0 : Int32), iv (1 : Int32), .val .null, .unset] [(.int (1 : Int32))] _
  refine own_go (fun t₀ k₀ => XS.ifYes X1.here hx rfl (pc0 := 5) (pc' := 27) rfl (Jvm.hb hby d3_5) rfl (XT.i0_ne_t (by decide)) (by decide) (by decide) k₀) ?_
  show Gm p e below T1 m 27 #[rv r0, rv r1, iv (0 : Int32), iv (1 : Int32), .val .null, .unset] [] _
  obtain ⟨T2, X2, e2, st2⟩ := getS2 X1 hx hZ hown (host := "") (Or.inl (hw _ (List.mem_of_getElem? (i := 64) rfl))) Via.refl e1 S_c (g := (mkF m 27 #[rv r0, rv r1, iv (0 : Int32), iv (1 : Int32), .val .null, .unset] [])) rfl (Jvm.hb hby d3_27)
  refine own_go st2 ?_
  show Gm p e below T2 m 30 #[rv r0, rv r1, iv (0 : Int32), iv (1 : Int32), .val .null, .unset] [(.int cs)] _
  refine own_go (fun t₀ k₀ => XS.ifNo X2.here hx rfl (Jvm.hb hby d3_30) rfl (XT.i0_eq_f hcs) k₀) ?_
  show Gm p e below T2 m 33 #[rv r0, rv r1, iv (0 : Int32), iv (1 : Int32), .val .null, .unset] [] _
  refine own_go (fun t₀ k₀ => XS.aloadN X2.here hx rfl (Jvm.hb hby d3_33) rfl rfl k₀) ?_
  show Gm p e below T2 m 34 #[rv r0, rv r1, iv (0 : Int32), iv (1 : Int32), .val .null, .unset] [(.ref r1)] _
  refine own_go (fun t₀ k₀ => XS.iloadN X2.here hx rfl (Jvm.hb hby d3_34) rfl k₀) ?_
  show Gm p e below T2 m 35 #[rv r0, rv r1, iv (0 : Int32), iv (1 : Int32), .val .null, .unset] [(.int (0 : Int32)), (.ref r1)] _
  refine own_go (fun t₀ k₀ => XS.iloadN X2.here hx rfl (Jvm.hb hby d3_35) rfl k₀) ?_
  show Gm p e below T2 m 36 #[rv r0, rv r1, iv (0 : Int32), iv (1 : Int32), .val .null, .unset] [(.int (1 : Int32)), (.int (0 : Int32)), (.ref r1)] _
  obtain ⟨_, _, ⟨T3, L3, k3, n3⟩, -, X3, ⟨Lc3, hQ3, l3, y3, z3⟩, st3⟩ := Jvm.LawKit.callS X2 hx (y := (⟨"java/lang/StringUTF16", "compress", "([CII)[B"⟩ : MethodName)) hown (mvT hZ (hw _ (List.mem_of_getElem? (i := 106) rfl))) (mvT hZ (hw _ (List.mem_of_getElem? (i := 107) rfl))) (mvT hZ (hw _ (List.mem_of_getElem? (i := 108) rfl))) (mvT hZ (hw _ (List.mem_of_getElem? (i := 109) rfl))) (by decide) (backOf (W := 0) (rmP_1 l Z a0 hw [] r1 f c0 h0 n0 Z0 A hf_0 hc_0) hZ (hw _ (List.mem_of_getElem? (i := 109) rfl)) (hw _ (List.mem_of_getElem? (i := 108) rfl)) (by decide) (by decide)) (g := (mkF m 36 #[rv r0, rv r1, iv (0 : Int32), iv (1 : Int32), .val .null, .unset] [(.int (1 : Int32)), (.int (0 : Int32)), (.ref r1)])) rfl (by rw [hml]; rfl) (argsL := [(.ref r1), (.int (0 : Int32)), (.int (1 : Int32))]) (rest := []) (lenOf own_pd1 rfl) rfl (by show 2 * 0 + _ ≤ _; exact Nat.le_of_eq rfl) (Jvm.hb hby d3_36) (fun _ _ => ⟨rfl, e2, (by decide : 0 + 1 ≤ _), (by decide : 0 + 1 ≤ _)⟩)
  dsimp only [Pt.U, Pt.locs, Pt.cells, Pt.slots] at X3 l3 y3 z3 st3 hQ3
  subst l3 y3 z3
  obtain ⟨bp3, fp3, rfl, Nq3, Kc3, sz3, Ap3, hp3_0⟩ := hQ3
  have N3 := Fr.app N0 Nq3
  refine own_go st3 ?_
  have g_bp3 : n0 ≤ bp3 := Nat.le_trans Z0 sz3
  have Z3 : n0 ≤ T3.heap.size := Nat.le_trans Z0 Kc3.1
  have K3 : Keep h0 T3.heap [r0] := Keep.trans (Keep.refl h0 [r0]) Kc3 all0
  have sz_bp3 : h0.size ≤ bp3 := Nat.le_trans (Keep.refl h0 [r0]).1 sz3
  show Gm p e below T3 m 39 #[rv r0, rv r1, iv (0 : Int32), iv (1 : Int32), .val .null, .unset] [(.ref bp3)] _
  refine own_go (fun t₀ k₀ => XS.astore X3.here hx rfl (Jvm.hb hby d3_39) rfl rfl (l' := #[rv r0, rv r1, iv (0 : Int32), iv (1 : Int32), .val .null, rv bp3]) rfl k₀) ?_
  show Gm p e below T3 m 41 #[rv r0, rv r1, iv (0 : Int32), iv (1 : Int32), .val .null, rv bp3] [] _
  refine own_go (fun t₀ k₀ => XS.aloadN X3.here hx rfl (Jvm.hb hby d3_41) rfl rfl k₀) ?_
  show Gm p e below T3 m 42 #[rv r0, rv r1, iv (0 : Int32), iv (1 : Int32), .val .null, rv bp3] [(.ref r0)] _
  refine own_go (fun t₀ k₀ => XS.aload X3.here hx rfl (Jvm.hb hby d3_42) rfl rfl k₀) ?_
  show Gm p e below T3 m 44 #[rv r0, rv r1, iv (0 : Int32), iv (1 : Int32), .val .null, rv bp3] [(.ref bp3), (.ref r0)] _
  refine own_go (fun t₀ k₀ => XS.iloadN X3.here hx rfl (Jvm.hb hby d3_44) rfl k₀) ?_
  show Gm p e below T3 m 45 #[rv r0, rv r1, iv (0 : Int32), iv (1 : Int32), .val .null, rv bp3] [(.int (1 : Int32)), (.ref bp3), (.ref r0)] _
  obtain ⟨_, _, ⟨T4, L4, k4, n4⟩, -, X4, ⟨Lc4, hQ4, l4, y4, z4⟩, st4⟩ := Jvm.LawKit.callS X3 hx (y := (⟨"java/lang/StringUTF16", "coderFromArrayLen", "([BI)B"⟩ : MethodName)) hown (mvT hZ (hw _ (List.mem_of_getElem? (i := 113) rfl))) (mvT hZ (hw _ (List.mem_of_getElem? (i := 114) rfl))) (mvT hZ (hw _ (List.mem_of_getElem? (i := 108) rfl))) (mvT hZ (hw _ (List.mem_of_getElem? (i := 115) rfl))) (by decide) (backOf (W := 1) (rmD_1 l Z a0 hw [] bp3 fp3 T3.heap n0 Z3 Ap3) hZ (hw _ (List.mem_of_getElem? (i := 115) rfl)) (hw _ (List.mem_of_getElem? (i := 108) rfl)) (by decide) (by decide)) (g := (mkF m 45 #[rv r0, rv r1, iv (0 : Int32), iv (1 : Int32), .val .null, rv bp3] [(.int (1 : Int32)), (.ref bp3), (.ref r0)])) rfl (by rw [hml]; rfl) (argsL := [(.ref bp3), (.int (1 : Int32))]) (rest := [(.ref r0)]) (lenOf own_pd2 rfl) rfl (by show 2 * 0 + _ ≤ _; exact Nat.le_of_eq rfl) (Jvm.hb hby d3_45) (fun _ _ => ⟨rfl, rfl, (by decide : 1 + 0 ≤ _), (by decide : 1 + 0 ≤ _)⟩)
  dsimp only [Pt.U, Pt.locs, Pt.cells, Pt.slots] at X4 l4 y4 z4 st4 hQ4
  subst l4 y4 z4
  obtain ⟨rfl, Nq4, eq4⟩ := hQ4
  have N4 := Fr.app N3 Nq4
  have e4 : T4.heap = T3.heap := eq4
  refine own_go st4 ?_
  show Gm p e below T4 m 48 #[rv r0, rv r1, iv (0 : Int32), iv (1 : Int32), .val .null, rv bp3] [(.int (0 : Int32)), (.ref r0)] _
  have f5 := (E_r0.keep Kc3)
  have f6 := (F_c.keep Kc3 nin0)
  obtain ⟨T7, h7, X7, e7, W7, st7⟩ := putFN X4 hx hZ hown (hw _ (List.mem_of_getElem? (i := 26) rfl)) Via.refl e4 f6 f5 (Or.inr ⟨(hw _ (List.mem_of_getElem? (i := 22) rfl)), rfl, hnm⟩) (hw _ (List.mem_of_getElem? (i := 6) rfl)) (ty := .byte) (v' := (.int (0 : Int32))) (by decide) rfl rfl (g := (mkF m 48 #[rv r0, rv r1, iv (0 : Int32), iv (1 : Int32), .val .null, rv bp3] [(.int (0 : Int32)), (.ref r0)])) rfl rfl (Jvm.hb hby d3_48)
  have Fw7 := Fld.same W7 f6
  have N7 := Fr.snoc X7 N4 g_r0
  have Z7 : n0 ≤ h7.size := W7.size ▸ Z3
  have K7 : Keep h0 h7 [r0] := Keep.wr K3 W7 (Or.inl (List.mem_of_getElem? (i := 0) rfl))
  refine own_go st7 ?_
  show Gm p e below T7 m 51 #[rv r0, rv r1, iv (0 : Int32), iv (1 : Int32), .val .null, rv bp3] [] _
  refine own_go (fun t₀ k₀ => XS.aloadN X7.here hx rfl (Jvm.hb hby d3_51) rfl rfl k₀) ?_
  show Gm p e below T7 m 52 #[rv r0, rv r1, iv (0 : Int32), iv (1 : Int32), .val .null, rv bp3] [(.ref r0)] _
  refine own_go (fun t₀ k₀ => XS.aload X7.here hx rfl (Jvm.hb hby d3_52) rfl rfl k₀) ?_
  show Gm p e below T7 m 54 #[rv r0, rv r1, iv (0 : Int32), iv (1 : Int32), .val .null, rv bp3] [(.ref bp3), (.ref r0)] _
  have f8 := (f5.wr W7)
  have f9 := (Fld.other W7 (F_v.keep Kc3 nin0) (Or.inr (slot_ne (Or.inr (hw _ (List.mem_of_getElem? (i := 21) rfl))) (Or.inr (hw _ (List.mem_of_getElem? (i := 22) rfl))) (by decide) (t := (.array .byte)) (t' := .byte) (by decide) (by decide))))
  obtain ⟨T10, h10, X10, e10, W10, st10⟩ := putF X7 hx hZ hown (host := "") (Or.inl (hw _ (List.mem_of_getElem? (i := 25) rfl))) Via.refl e7 f9 f8 (Or.inr ⟨(hw _ (List.mem_of_getElem? (i := 21) rfl)), rfl, hnm⟩) (hw _ (List.mem_of_getElem? (i := 6) rfl)) (ty := (.array .byte)) (by decide) rfl rfl (g := (mkF m 54 #[rv r0, rv r1, iv (0 : Int32), iv (1 : Int32), .val .null, rv bp3] [(.ref bp3), (.ref r0)])) rfl rfl (Jvm.hb hby d3_54)
  have Fw10 := Fld.same W10 f9
  have N10 := Fr.snoc X10 N7 g_r0
  have Z10 : n0 ≤ h10.size := W10.size ▸ Z7
  have K10 : Keep h0 h10 [r0] := Keep.wr K7 W10 (Or.inl (List.mem_of_getElem? (i := 0) rfl))
  refine own_go st10 ?_
  show Gm p e below T10 m 57 #[rv r0, rv r1, iv (0 : Int32), iv (1 : Int32), .val .null, rv bp3] [] _
  have f11 := ((Ap3.other W7 (Ne.symm (Nat.ne_of_lt (Nat.lt_of_lt_of_le E_r0.lt sz3)))).other W10 (Ne.symm (Nat.ne_of_lt (Nat.lt_of_lt_of_le E_r0.lt sz3))))
  have f12 := (f8.wr W10)
  have f13 := (Fld.other W10 Fw7 (Or.inr (slot_ne (Or.inr (hw _ (List.mem_of_getElem? (i := 22) rfl))) (Or.inr (hw _ (List.mem_of_getElem? (i := 21) rfl))) (by decide) (t := .byte) (t' := (.array .byte)) (by decide) (by decide))))
  exact own_retV X10 hx hlk Bd.returns (Jvm.hb hby d3_57) e10 ⟨bp3, fp3, rfl, N10, K10, f12, f13, Fw10, f11, hp3_0⟩ (by decide) (by decide)
theorem d2_0 : decode jdk_42_method_3_code 0 = .ok (.aload_n 0, 1) := by decide +kernel
theorem d2_1 : decode jdk_42_method_3_code 1 = .ok (.aload_n 1, 1) := by decide +kernel
theorem d2_2 : decode jdk_42_method_3_code 2 = .ok (.iconst 0, 1) := by decide +kernel
theorem d2_3 : decode jdk_42_method_3_code 3 = .ok (.aload_n 1, 1) := by decide +kernel
theorem d2_4 : decode jdk_42_method_3_code 4 = .ok (.arraylength, 1) := by decide +kernel
theorem d2_5 : decode jdk_42_method_3_code 5 = .ok (.aconst_null, 1) := by decide +kernel
theorem d2_6 : decode jdk_42_method_3_code 6 = .ok (.invokespecial 27, 3) := by decide +kernel
theorem d2_9 : decode jdk_42_method_3_code 9 = .ok (.return_, 1) := by decide +kernel
theorem own_pd3 : parseMethodDescriptor "([CIILjava/lang/Void;)V" = some ⟨[(.array .char), .int, .int, (.object "java/lang/Void")], none⟩ := by decide +kernel
theorem own_pn_rmC_1 : plainName "java/lang/String" = true := by first | (simp [plainName, overriddenIn]; done) | decide +kernel
theorem own_ef_rmC_1 (m : MethodId) (r0 : Addr) (r1 : Addr) : entryFrame m #[(.ref r0), (.ref r1)] 2 = mkF m 0 #[.val (.ref r0), .val (.ref r1)] [] := by first | (simp [entryFrame, mkF, argsToLocals, Value.category]; done) | rfl
def QC_1 (Z : State) (r0 : Addr) (r1 : Addr) (f : Nat → Value) (c0 : Int32) (cs : Int32) (h0 : Heap) (n0 : Nat) (v : Option Value) (h : Heap) (L : List Loc) : Prop := ∃ (b : Addr) (f' : Nat → Value), v = none ∧ Fr n0 L ∧ Keep h0 h [r0] ∧ Exa Z h r0 "java/lang/String" ∧ Fld Z h r0 "java/lang/String" "coder" "B" (.int (0 : Int32)) ∧ Fld Z h r0 "java/lang/String" "value" "[B" (.ref b) ∧ Af Z h b .byte 1 f' ∧ f' 0 = .int (own_by c0)
set_option maxRecDepth 65536 in
set_option maxHeartbeats 40000000 in
theorem rmC_1 (l : Launch) (Z : State) (a0 : Array Value) (hw : ∀ d ∈ tables_1, d.before a0 Z = true) (ws : List Jvm.Cond) (r0 : Addr) (r1 : Addr) (f : Nat → Value) (c0 : Int32) (cs : Int32) (h0 : Heap) (n0 : Nat) (Z0 : n0 ≤ h0.size) (E_r0 : Exa Z h0 r0 "java/lang/String") (F_v : Fld Z h0 r0 "java/lang/String" "value" "[B" .null) (F_c : Fld Z h0 r0 "java/lang/String" "coder" "B" (.int (0 : Int32))) (A : Af Z h0 r1 .char 1 f) (hf_0 : f 0 = .int c0) (hc_0 : ¬ (255 : Int32) < c0) (S_c : Sta Z h0 "java/lang/String" "COMPACT_STRINGS" "Z" (.int cs)) (hcs : ¬ cs = 0) (g_r0 : n0 ≤ r0) :
    MetFree l (⟨"java/lang/String", "<init>", "([C)V"⟩ : MethodName) (head1 (Jvm.Cond.code (⟨"java/lang/String", "<init>", "([C)V"⟩ : MethodName) jdk_42_method_3_code 2 none :: ws) ({ frames := 3, cells := 1, slots := 1, locals := 52 } : Room)) (fun a U => a = #[(.ref r0), (.ref r1)] ∧ Z.Warmed39 U.vm ∧ U.heap = h0) (fun _ _ _ _ _ => True) (fun _ U o U' => ∃ v L, o = .returned v ∧ QC_1 Z r0 r1 f c0 cs h0 n0 v U'.heap L ∧ FrameEnd U o U' L ({ frames := 3, cells := 1, slots := 1, locals := 52 } : Room).cells ({ frames := 3, cells := 1, slots := 1, locals := 52 } : Room).slots) := by
  refine MetFree.of_bodySF (plainFor_of_name own_pn_rmC_1) hisR ?_
  intro p e s m args below meth cO s₁ Bd hml0 hP hK
  obtain ⟨rfl, hZ, hh⟩ := hP
  have hx := Bd.exec
  have hby := Bd.bytes
  have hml : cO.maxLocals = 2 := hml0
  have hown : s.vm.findClass "java/lang/String" = some m.cls := findClass_of_methodNamed Bd.named
  have hnm := (name_of_methodNamed Bd.named Bd.method).1
  have hlk : meth.locks = false := BodyLoose.notSynchronized Bd
  have X0 : Stand p l e ({ frames := 3, cells := 1, slots := 1, locals := 52 } : Room) s m #[(.ref r0), (.ref r1)] below meth cO s₁ [] 0 0 := Stand.of_body Bd
  have e0 : s₁.heap = h0 := by rw [← hh, Bd.state]; rfl
  have N0 := Fr.nil n0
  refine own_in (own_ef_rmC_1 m r0 r1) ?_
  show Gm p e below s₁ m 0 #[rv r0, rv r1] [] _
  refine own_go (fun t₀ k₀ => XS.aloadN X0.here hx rfl (Jvm.hb hby d2_0) rfl rfl k₀) ?_
  show Gm p e below s₁ m 1 #[rv r0, rv r1] [(.ref r0)] _
  refine own_go (fun t₀ k₀ => XS.aloadN X0.here hx rfl (Jvm.hb hby d2_1) rfl rfl k₀) ?_
  show Gm p e below s₁ m 2 #[rv r0, rv r1] [(.ref r1), (.ref r0)] _
  refine own_go (fun t₀ k₀ => XS.iconst X0.here hx rfl (Jvm.hb hby d2_2) k₀) ?_
  show Gm p e below s₁ m 3 #[rv r0, rv r1] [(.int (0 : Int32)), (.ref r1), (.ref r0)] _
  refine own_go (fun t₀ k₀ => XS.aloadN X0.here hx rfl (Jvm.hb hby d2_3) rfl rfl k₀) ?_
  show Gm p e below s₁ m 4 #[rv r0, rv r1] [(.ref r1), (.int (0 : Int32)), (.ref r1), (.ref r0)] _
  refine own_go (fun t₀ k₀ => own_len X0 hx hZ e0 A (z := (1 : Int32)) rfl (g := (mkF m 4 #[rv r0, rv r1] [(.ref r1), (.int (0 : Int32)), (.ref r1), (.ref r0)])) rfl rfl (Jvm.hb hby d2_4) k₀) ?_
  show Gm p e below s₁ m 5 #[rv r0, rv r1] [(.int (1 : Int32)), (.int (0 : Int32)), (.ref r1), (.ref r0)] _
  refine own_go (fun t₀ k₀ => XS.aconstNull X0.here hx rfl (Jvm.hb hby d2_5) k₀) ?_
  show Gm p e below s₁ m 6 #[rv r0, rv r1] [.null, (.int (1 : Int32)), (.int (0 : Int32)), (.ref r1), (.ref r0)] _
  obtain ⟨_, _, ⟨T1, L1, k1, n1⟩, -, X1, ⟨Lc1, hQ1, l1, y1, z1⟩, st1⟩ := X0.specialBack hx (y := (⟨"java/lang/String", "<init>", "([CIILjava/lang/Void;)V"⟩ : MethodName)) rfl hown (mvT hZ (hw _ (List.mem_of_getElem? (i := 12) rfl))) (mvT hZ (hw _ (List.mem_of_getElem? (i := 13) rfl))) (mvT hZ (hw _ (List.mem_of_getElem? (i := 15) rfl))) (by decide) (backOf (W := 0) (rmV_1 l Z a0 hw [] r0 r1 f c0 cs h0 n0 Z0 E_r0 F_v F_c A hf_0 hc_0 S_c hcs g_r0) hZ (hw _ (List.mem_of_getElem? (i := 15) rfl)) (hw _ (List.mem_of_getElem? (i := 7) rfl)) (by decide) (by decide)) (g := (mkF m 6 #[rv r0, rv r1] [.null, (.int (1 : Int32)), (.int (0 : Int32)), (.ref r1), (.ref r0)])) rfl (by rw [hml]; rfl) (Steps.refl _) (a := r0) (argsL := [(.ref r1), (.int (0 : Int32)), (.int (1 : Int32)), .null]) (rest := []) (lenOf own_pd3 rfl) rfl (by show 2 * 0 + _ ≤ _; exact Nat.le_of_eq rfl) (Jvm.hb hby d2_6) (fun _ _ => ⟨rfl, e0, (by decide : 0 + 1 ≤ _), (by decide : 0 + 1 ≤ _)⟩)
  dsimp only [Pt.U, Pt.locs, Pt.cells, Pt.slots] at X1 l1 y1 z1 st1 hQ1
  subst l1 y1 z1
  obtain ⟨bq1, fq1, rfl, Nq1, Kc1, Ec1, Fc1, Fv1, Aq1, hq1_0⟩ := hQ1
  have N1 := Fr.app N0 Nq1
  refine own_go (fun t k => st1.trans k) ?_
  have Z1 : n0 ≤ T1.heap.size := Nat.le_trans Z0 Kc1.1
  have K1 : Keep h0 T1.heap [r0] := Keep.trans (Keep.refl h0 [r0]) Kc1 (allS (Or.inl (List.mem_of_getElem? (i := 0) rfl)) all0)
  show Gm p e below T1 m 9 #[rv r0, rv r1] [] _
  exact own_retV X1 hx hlk Bd.returns (Jvm.hb hby d2_9) rfl ⟨bq1, fq1, rfl, N1, K1, Ec1, Fc1, Fv1, Aq1, hq1_0⟩ (by decide) (by decide)
theorem own_pn_rmK_2 : plainName "java/lang/StringUTF16" = true := by first | (simp [plainName, overriddenIn]; done) | decide +kernel
theorem own_ef_rmK_2 (m : MethodId) (r0 : Addr) (r2 : Addr) : entryFrame m #[(.ref r0), (.int (0 : Int32)), (.ref r2), (.int (0 : Int32)), (.int (2 : Int32))] 7 = mkF m 0 #[.val (.ref r0), .val (.int (0 : Int32)), .val (.ref r2), .val (.int (0 : Int32)), .val (.int (2 : Int32)), .unset, .unset] [] := by first | (simp [entryFrame, mkF, argsToLocals, Value.category]; done) | rfl
def QK_2 (Z : State) (r0 : Addr) (r2 : Addr) (f : Nat → Value) (g : Nat → Value) (c0 : Int32) (c1 : Int32) (h0 : Heap) (n0 : Nat) (v : Option Value) (h : Heap) (L : List Loc) : Prop := v = some (.int (2 : Int32)) ∧ Fr n0 L ∧ Keep h0 h [r2] ∧ ∃ f' : Nat → Value, Af Z h r2 .byte 2 f' ∧ f' 0 = .int (own_by c0) ∧ f' 1 = .int (own_by c1)
set_option maxRecDepth 65536 in
set_option maxHeartbeats 40000000 in
theorem rmK_2 (l : Launch) (Z : State) (a0 : Array Value) (hw : ∀ d ∈ tables_1, d.before a0 Z = true) (ws : List Jvm.Cond) (r0 : Addr) (r2 : Addr) (f : Nat → Value) (g : Nat → Value) (c0 : Int32) (c1 : Int32) (h0 : Heap) (n0 : Nat) (Z0 : n0 ≤ h0.size) (A : Af Z h0 r0 .char 2 f) (B : Af Z h0 r2 .byte 2 g) (hf_0 : f 0 = .int c0) (hf_1 : f 1 = .int c1) (hc_0 : ¬ (255 : Int32) < c0) (hc_1 : ¬ (255 : Int32) < c1) (g_r2 : n0 ≤ r2) (ne : r0 ≠ r2) :
    MetFree l (⟨"java/lang/StringUTF16", "compress", "([CI[BII)I"⟩ : MethodName) (head1 (Jvm.Cond.code (⟨"java/lang/StringUTF16", "compress", "([CI[BII)I"⟩ : MethodName) jdk_52_method_21_code 7 (some .int) :: ws) ({ frames := 0, cells := 0, slots := 0, locals := 0 } : Room)) (fun a U => a = #[(.ref r0), (.int (0 : Int32)), (.ref r2), (.int (0 : Int32)), (.int (2 : Int32))] ∧ Z.Warmed39 U.vm ∧ U.heap = h0) (fun _ _ _ _ _ => True) (fun _ U o U' => ∃ v L, o = .returned v ∧ QK_2 Z r0 r2 f g c0 c1 h0 n0 v U'.heap L ∧ FrameEnd U o U' L ({ frames := 0, cells := 0, slots := 0, locals := 0 } : Room).cells ({ frames := 0, cells := 0, slots := 0, locals := 0 } : Room).slots) := by
  refine MetFree.of_bodySF (plainFor_of_name own_pn_rmK_2) hisR ?_
  intro p e s m args below meth cO s₁ Bd hml0 hP hK
  obtain ⟨rfl, hZ, hh⟩ := hP
  have hx := Bd.exec
  have hby := Bd.bytes
  have hml : cO.maxLocals = 7 := hml0
  have hown : s.vm.findClass "java/lang/StringUTF16" = some m.cls := findClass_of_methodNamed Bd.named
  have hnm := (name_of_methodNamed Bd.named Bd.method).1
  have hlk : meth.locks = false := BodyLoose.notSynchronized Bd
  have X0 : Stand p l e ({ frames := 0, cells := 0, slots := 0, locals := 0 } : Room) s m #[(.ref r0), (.int (0 : Int32)), (.ref r2), (.int (0 : Int32)), (.int (2 : Int32))] below meth cO s₁ [] 0 0 := Stand.of_body Bd
  have e0 : s₁.heap = h0 := by rw [← hh, Bd.state]; rfl
  have N0 := Fr.nil n0
  refine own_in (own_ef_rmK_2 m r0 r2) ?_
  show Gm p e below s₁ m 0 #[rv r0, iv (0 : Int32), rv r2, iv (0 : Int32), iv (2 : Int32), .unset, .unset] [] _
  refine own_go (fun t₀ k₀ => XS.iconst X0.here hx rfl (Jvm.hb hby d19_0) k₀) ?_
  show Gm p e below s₁ m 1 #[rv r0, iv (0 : Int32), rv r2, iv (0 : Int32), iv (2 : Int32), .unset, .unset] [(.int (0 : Int32))] _
  refine own_go (fun t₀ k₀ => XS.istore X0.here hx rfl (Jvm.hb hby d19_1) rfl (l' := #[rv r0, iv (0 : Int32), rv r2, iv (0 : Int32), iv (2 : Int32), iv (0 : Int32), .unset]) rfl k₀) ?_
  show Gm p e below s₁ m 3 #[rv r0, iv (0 : Int32), rv r2, iv (0 : Int32), iv (2 : Int32), iv (0 : Int32), .unset] [] _
  refine own_go (fun t₀ k₀ => XS.iload X0.here hx rfl (Jvm.hb hby d19_3) rfl k₀) ?_
  show Gm p e below s₁ m 5 #[rv r0, iv (0 : Int32), rv r2, iv (0 : Int32), iv (2 : Int32), iv (0 : Int32), .unset] [(.int (0 : Int32))] _
  refine own_go (fun t₀ k₀ => XS.iload X0.here hx rfl (Jvm.hb hby d19_5) rfl k₀) ?_
  show Gm p e below s₁ m 7 #[rv r0, iv (0 : Int32), rv r2, iv (0 : Int32), iv (2 : Int32), iv (0 : Int32), .unset] [(.int (2 : Int32)), (.int (0 : Int32))] _
  refine own_go (fun t₀ k₀ => XS.icmpNo X0.here hx rfl (Jvm.hb hby d19_7) rfl (XT.ii_ge_f (by decide)) k₀) ?_
  show Gm p e below s₁ m 10 #[rv r0, iv (0 : Int32), rv r2, iv (0 : Int32), iv (2 : Int32), iv (0 : Int32), .unset] [] _
  refine own_go (fun t₀ k₀ => XS.aloadN X0.here hx rfl (Jvm.hb hby d19_10) rfl rfl k₀) ?_
  show Gm p e below s₁ m 11 #[rv r0, iv (0 : Int32), rv r2, iv (0 : Int32), iv (2 : Int32), iv (0 : Int32), .unset] [(.ref r0)] _
  refine own_go (fun t₀ k₀ => XS.iloadN X0.here hx rfl (Jvm.hb hby d19_11) rfl k₀) ?_
  show Gm p e below s₁ m 12 #[rv r0, iv (0 : Int32), rv r2, iv (0 : Int32), iv (2 : Int32), iv (0 : Int32), .unset] [(.int (0 : Int32)), (.ref r0)] _
  refine own_go (fun t₀ k₀ => own_ldC X0 hx hZ e0 A (j := (0 : Int32)) (k := 0) (by decide) rfl (by decide) (w := (.int c0)) hf_0 (g := (mkF m 12 #[rv r0, iv (0 : Int32), rv r2, iv (0 : Int32), iv (2 : Int32), iv (0 : Int32), .unset] [(.int (0 : Int32)), (.ref r0)])) rfl rfl (Jvm.hb hby d19_12) k₀) ?_
  show Gm p e below s₁ m 13 #[rv r0, iv (0 : Int32), rv r2, iv (0 : Int32), iv (2 : Int32), iv (0 : Int32), .unset] [(.int c0)] _
  refine own_go (fun t₀ k₀ => XS.istore X0.here hx rfl (Jvm.hb hby d19_13) rfl (l' := #[rv r0, iv (0 : Int32), rv r2, iv (0 : Int32), iv (2 : Int32), iv (0 : Int32), iv c0]) rfl k₀) ?_
  show Gm p e below s₁ m 15 #[rv r0, iv (0 : Int32), rv r2, iv (0 : Int32), iv (2 : Int32), iv (0 : Int32), iv c0] [] _
  refine own_go (fun t₀ k₀ => XS.iload X0.here hx rfl (Jvm.hb hby d19_15) rfl k₀) ?_
  show Gm p e below s₁ m 17 #[rv r0, iv (0 : Int32), rv r2, iv (0 : Int32), iv (2 : Int32), iv (0 : Int32), iv c0] [(.int c0)] _
  refine own_go (fun t₀ k₀ => XS.sipush X0.here hx rfl (Jvm.hb hby d19_17) k₀) ?_
  show Gm p e below s₁ m 20 #[rv r0, iv (0 : Int32), rv r2, iv (0 : Int32), iv (2 : Int32), iv (0 : Int32), iv c0] [(.int (255 : Int32)), (.int c0)] _
  refine own_go (fun t₀ k₀ => XS.icmpYes X0.here hx rfl (pc0 := 20) (pc' := 26) rfl (Jvm.hb hby d19_20) rfl (XT.ii_le_t hc_0) (by decide) (by decide) k₀) ?_
  show Gm p e below s₁ m 26 #[rv r0, iv (0 : Int32), rv r2, iv (0 : Int32), iv (2 : Int32), iv (0 : Int32), iv c0] [] _
  refine own_go (fun t₀ k₀ => XS.aloadN X0.here hx rfl (Jvm.hb hby d19_26) rfl rfl k₀) ?_
  show Gm p e below s₁ m 27 #[rv r0, iv (0 : Int32), rv r2, iv (0 : Int32), iv (2 : Int32), iv (0 : Int32), iv c0] [(.ref r2)] _
  refine own_go (fun t₀ k₀ => XS.iloadN X0.here hx rfl (Jvm.hb hby d19_27) rfl k₀) ?_
  show Gm p e below s₁ m 28 #[rv r0, iv (0 : Int32), rv r2, iv (0 : Int32), iv (2 : Int32), iv (0 : Int32), iv c0] [(.int (0 : Int32)), (.ref r2)] _
  refine own_go (fun t₀ k₀ => XS.iload X0.here hx rfl (Jvm.hb hby d19_28) rfl k₀) ?_
  show Gm p e below s₁ m 30 #[rv r0, iv (0 : Int32), rv r2, iv (0 : Int32), iv (2 : Int32), iv (0 : Int32), iv c0] [(.int c0), (.int (0 : Int32)), (.ref r2)] _
  refine own_go (fun t₀ k₀ => XS.i2b X0.here hx rfl (Jvm.hb hby d19_30) rfl k₀) ?_
  show Gm p e below s₁ m 31 #[rv r0, iv (0 : Int32), rv r2, iv (0 : Int32), iv (2 : Int32), iv (0 : Int32), iv c0] [(.int (c0.toInt8.toInt32)), (.int (0 : Int32)), (.ref r2)] _
  obtain ⟨T1, h1, X1, e1, W1, A1, st1⟩ := own_stB X0 hx hZ e0 B (j := (0 : Int32)) (k := 0) (by decide) rfl (by decide) (y := (own_by c0)) rfl (g := (mkF m 31 #[rv r0, iv (0 : Int32), rv r2, iv (0 : Int32), iv (2 : Int32), iv (0 : Int32), iv c0] [(.int (c0.toInt8.toInt32)), (.int (0 : Int32)), (.ref r2)])) rfl rfl (Jvm.hb hby d19_31)
  have N1 := Fr.snoc X1 N0 g_r2
  have Z1 : n0 ≤ h1.size := W1.size ▸ Z0
  have K1 : Keep h0 h1 [r2] := Keep.wr (Keep.refl h0 [r2]) W1 (Or.inl (List.mem_of_getElem? (i := 0) rfl))
  refine own_go st1 ?_
  show Gm p e below T1 m 32 #[rv r0, iv (0 : Int32), rv r2, iv (0 : Int32), iv (2 : Int32), iv (0 : Int32), iv c0] [] _
  refine own_go (fun t₀ k₀ => XS.iinc X1.here hx rfl (Jvm.hb hby d19_32) rfl (l' := #[rv r0, iv (1 : Int32), rv r2, iv (0 : Int32), iv (2 : Int32), iv (0 : Int32), iv c0]) rfl k₀) ?_
  show Gm p e below T1 m 35 #[rv r0, iv (1 : Int32), rv r2, iv (0 : Int32), iv (2 : Int32), iv (0 : Int32), iv c0] [] _
  refine own_go (fun t₀ k₀ => XS.iinc X1.here hx rfl (Jvm.hb hby d19_35) rfl (l' := #[rv r0, iv (1 : Int32), rv r2, iv (1 : Int32), iv (2 : Int32), iv (0 : Int32), iv c0]) rfl k₀) ?_
  show Gm p e below T1 m 38 #[rv r0, iv (1 : Int32), rv r2, iv (1 : Int32), iv (2 : Int32), iv (0 : Int32), iv c0] [] _
  refine own_go (fun t₀ k₀ => XS.iinc X1.here hx rfl (Jvm.hb hby d19_38) rfl (l' := #[rv r0, iv (1 : Int32), rv r2, iv (1 : Int32), iv (2 : Int32), iv (1 : Int32), iv c0]) rfl k₀) ?_
  show Gm p e below T1 m 41 #[rv r0, iv (1 : Int32), rv r2, iv (1 : Int32), iv (2 : Int32), iv (1 : Int32), iv c0] [] _
  refine own_go (fun t₀ k₀ => XS.goto X1.here hx rfl (pc0 := 41) (pc' := 3) rfl (Jvm.hb hby d19_41) (by decide) (by decide) k₀) ?_
  show Gm p e below T1 m 3 #[rv r0, iv (1 : Int32), rv r2, iv (1 : Int32), iv (2 : Int32), iv (1 : Int32), iv c0] [] _
  refine own_go (fun t₀ k₀ => XS.iload X1.here hx rfl (Jvm.hb hby d19_3) rfl k₀) ?_
  show Gm p e below T1 m 5 #[rv r0, iv (1 : Int32), rv r2, iv (1 : Int32), iv (2 : Int32), iv (1 : Int32), iv c0] [(.int (1 : Int32))] _
  refine own_go (fun t₀ k₀ => XS.iload X1.here hx rfl (Jvm.hb hby d19_5) rfl k₀) ?_
  show Gm p e below T1 m 7 #[rv r0, iv (1 : Int32), rv r2, iv (1 : Int32), iv (2 : Int32), iv (1 : Int32), iv c0] [(.int (2 : Int32)), (.int (1 : Int32))] _
  refine own_go (fun t₀ k₀ => XS.icmpNo X1.here hx rfl (Jvm.hb hby d19_7) rfl (XT.ii_ge_f (by decide)) k₀) ?_
  show Gm p e below T1 m 10 #[rv r0, iv (1 : Int32), rv r2, iv (1 : Int32), iv (2 : Int32), iv (1 : Int32), iv c0] [] _
  refine own_go (fun t₀ k₀ => XS.aloadN X1.here hx rfl (Jvm.hb hby d19_10) rfl rfl k₀) ?_
  show Gm p e below T1 m 11 #[rv r0, iv (1 : Int32), rv r2, iv (1 : Int32), iv (2 : Int32), iv (1 : Int32), iv c0] [(.ref r0)] _
  refine own_go (fun t₀ k₀ => XS.iloadN X1.here hx rfl (Jvm.hb hby d19_11) rfl k₀) ?_
  show Gm p e below T1 m 12 #[rv r0, iv (1 : Int32), rv r2, iv (1 : Int32), iv (2 : Int32), iv (1 : Int32), iv c0] [(.int (1 : Int32)), (.ref r0)] _
  have f2 := (A.other W1 ne)
  refine own_go (fun t₀ k₀ => own_ldC X1 hx hZ e1 f2 (j := (1 : Int32)) (k := 1) (by decide) rfl (by decide) (w := (.int c1)) hf_1 (g := (mkF m 12 #[rv r0, iv (1 : Int32), rv r2, iv (1 : Int32), iv (2 : Int32), iv (1 : Int32), iv c0] [(.int (1 : Int32)), (.ref r0)])) rfl rfl (Jvm.hb hby d19_12) k₀) ?_
  show Gm p e below T1 m 13 #[rv r0, iv (1 : Int32), rv r2, iv (1 : Int32), iv (2 : Int32), iv (1 : Int32), iv c0] [(.int c1)] _
  refine own_go (fun t₀ k₀ => XS.istore X1.here hx rfl (Jvm.hb hby d19_13) rfl (l' := #[rv r0, iv (1 : Int32), rv r2, iv (1 : Int32), iv (2 : Int32), iv (1 : Int32), iv c1]) rfl k₀) ?_
  show Gm p e below T1 m 15 #[rv r0, iv (1 : Int32), rv r2, iv (1 : Int32), iv (2 : Int32), iv (1 : Int32), iv c1] [] _
  refine own_go (fun t₀ k₀ => XS.iload X1.here hx rfl (Jvm.hb hby d19_15) rfl k₀) ?_
  show Gm p e below T1 m 17 #[rv r0, iv (1 : Int32), rv r2, iv (1 : Int32), iv (2 : Int32), iv (1 : Int32), iv c1] [(.int c1)] _
  refine own_go (fun t₀ k₀ => XS.sipush X1.here hx rfl (Jvm.hb hby d19_17) k₀) ?_
  show Gm p e below T1 m 20 #[rv r0, iv (1 : Int32), rv r2, iv (1 : Int32), iv (2 : Int32), iv (1 : Int32), iv c1] [(.int (255 : Int32)), (.int c1)] _
  refine own_go (fun t₀ k₀ => XS.icmpYes X1.here hx rfl (pc0 := 20) (pc' := 26) rfl (Jvm.hb hby d19_20) rfl (XT.ii_le_t hc_1) (by decide) (by decide) k₀) ?_
  show Gm p e below T1 m 26 #[rv r0, iv (1 : Int32), rv r2, iv (1 : Int32), iv (2 : Int32), iv (1 : Int32), iv c1] [] _
  refine own_go (fun t₀ k₀ => XS.aloadN X1.here hx rfl (Jvm.hb hby d19_26) rfl rfl k₀) ?_
  show Gm p e below T1 m 27 #[rv r0, iv (1 : Int32), rv r2, iv (1 : Int32), iv (2 : Int32), iv (1 : Int32), iv c1] [(.ref r2)] _
  refine own_go (fun t₀ k₀ => XS.iloadN X1.here hx rfl (Jvm.hb hby d19_27) rfl k₀) ?_
  show Gm p e below T1 m 28 #[rv r0, iv (1 : Int32), rv r2, iv (1 : Int32), iv (2 : Int32), iv (1 : Int32), iv c1] [(.int (1 : Int32)), (.ref r2)] _
  refine own_go (fun t₀ k₀ => XS.iload X1.here hx rfl (Jvm.hb hby d19_28) rfl k₀) ?_
  show Gm p e below T1 m 30 #[rv r0, iv (1 : Int32), rv r2, iv (1 : Int32), iv (2 : Int32), iv (1 : Int32), iv c1] [(.int c1), (.int (1 : Int32)), (.ref r2)] _
  refine own_go (fun t₀ k₀ => XS.i2b X1.here hx rfl (Jvm.hb hby d19_30) rfl k₀) ?_
  show Gm p e below T1 m 31 #[rv r0, iv (1 : Int32), rv r2, iv (1 : Int32), iv (2 : Int32), iv (1 : Int32), iv c1] [(.int (c1.toInt8.toInt32)), (.int (1 : Int32)), (.ref r2)] _
  obtain ⟨T3, h3, X3, e3, W3, A3, st3⟩ := own_stB X1 hx hZ e1 A1 (j := (1 : Int32)) (k := 1) (by decide) rfl (by decide) (y := (own_by c1)) rfl (g := (mkF m 31 #[rv r0, iv (1 : Int32), rv r2, iv (1 : Int32), iv (2 : Int32), iv (1 : Int32), iv c1] [(.int (c1.toInt8.toInt32)), (.int (1 : Int32)), (.ref r2)])) rfl rfl (Jvm.hb hby d19_31)
  have N3 := Fr.snoc X3 N1 g_r2
  have Z3 : n0 ≤ h3.size := W3.size ▸ Z1
  have K3 : Keep h0 h3 [r2] := Keep.wr K1 W3 (Or.inl (List.mem_of_getElem? (i := 0) rfl))
  refine own_go st3 ?_
  show Gm p e below T3 m 32 #[rv r0, iv (1 : Int32), rv r2, iv (1 : Int32), iv (2 : Int32), iv (1 : Int32), iv c1] [] _
  refine own_go (fun t₀ k₀ => XS.iinc X3.here hx rfl (Jvm.hb hby d19_32) rfl (l' := #[rv r0, iv (2 : Int32), rv r2, iv (1 : Int32), iv (2 : Int32), iv (1 : Int32), iv c1]) rfl k₀) ?_
  show Gm p e below T3 m 35 #[rv r0, iv (2 : Int32), rv r2, iv (1 : Int32), iv (2 : Int32), iv (1 : Int32), iv c1] [] _
  refine own_go (fun t₀ k₀ => XS.iinc X3.here hx rfl (Jvm.hb hby d19_35) rfl (l' := #[rv r0, iv (2 : Int32), rv r2, iv (2 : Int32), iv (2 : Int32), iv (1 : Int32), iv c1]) rfl k₀) ?_
  show Gm p e below T3 m 38 #[rv r0, iv (2 : Int32), rv r2, iv (2 : Int32), iv (2 : Int32), iv (1 : Int32), iv c1] [] _
  refine own_go (fun t₀ k₀ => XS.iinc X3.here hx rfl (Jvm.hb hby d19_38) rfl (l' := #[rv r0, iv (2 : Int32), rv r2, iv (2 : Int32), iv (2 : Int32), iv (2 : Int32), iv c1]) rfl k₀) ?_
  show Gm p e below T3 m 41 #[rv r0, iv (2 : Int32), rv r2, iv (2 : Int32), iv (2 : Int32), iv (2 : Int32), iv c1] [] _
  refine own_go (fun t₀ k₀ => XS.goto X3.here hx rfl (pc0 := 41) (pc' := 3) rfl (Jvm.hb hby d19_41) (by decide) (by decide) k₀) ?_
  show Gm p e below T3 m 3 #[rv r0, iv (2 : Int32), rv r2, iv (2 : Int32), iv (2 : Int32), iv (2 : Int32), iv c1] [] _
  refine own_go (fun t₀ k₀ => XS.iload X3.here hx rfl (Jvm.hb hby d19_3) rfl k₀) ?_
  show Gm p e below T3 m 5 #[rv r0, iv (2 : Int32), rv r2, iv (2 : Int32), iv (2 : Int32), iv (2 : Int32), iv c1] [(.int (2 : Int32))] _
  refine own_go (fun t₀ k₀ => XS.iload X3.here hx rfl (Jvm.hb hby d19_5) rfl k₀) ?_
  show Gm p e below T3 m 7 #[rv r0, iv (2 : Int32), rv r2, iv (2 : Int32), iv (2 : Int32), iv (2 : Int32), iv c1] [(.int (2 : Int32)), (.int (2 : Int32))] _
  refine own_go (fun t₀ k₀ => XS.icmpYes X3.here hx rfl (pc0 := 7) (pc' := 44) rfl (Jvm.hb hby d19_7) rfl (XT.ii_ge_t (by decide)) (by decide) (by decide) k₀) ?_
  show Gm p e below T3 m 44 #[rv r0, iv (2 : Int32), rv r2, iv (2 : Int32), iv (2 : Int32), iv (2 : Int32), iv c1] [] _
  refine own_go (fun t₀ k₀ => XS.iload X3.here hx rfl (Jvm.hb hby d19_44) rfl k₀) ?_
  show Gm p e below T3 m 46 #[rv r0, iv (2 : Int32), rv r2, iv (2 : Int32), iv (2 : Int32), iv (2 : Int32), iv c1] [(.int (2 : Int32))] _
  exact own_retI X3 hx hlk (t := .int) Bd.returns rfl (by simp) (Jvm.hb hby d19_46) e3 ⟨rfl, N3, K3, (fun i => if i = 1 then (.int (own_by c1)) else (fun i => if i = 0 then (.int (own_by c0)) else g i) i), A3, rfl, rfl⟩ (by decide) (by decide)
theorem own_pn_rmP_2 : plainName "java/lang/StringUTF16" = true := by first | (simp [plainName, overriddenIn]; done) | decide +kernel
theorem own_ef_rmP_2 (m : MethodId) (r0 : Addr) : entryFrame m #[(.ref r0), (.int (0 : Int32)), (.int (2 : Int32))] 6 = mkF m 0 #[.val (.ref r0), .val (.int (0 : Int32)), .val (.int (2 : Int32)), .unset, .unset, .unset] [] := by first | (simp [entryFrame, mkF, argsToLocals, Value.category]; done) | rfl
def QP_2 (Z : State) (r0 : Addr) (f : Nat → Value) (c0 : Int32) (c1 : Int32) (h0 : Heap) (n0 : Nat) (v : Option Value) (h : Heap) (L : List Loc) : Prop := ∃ (b : Addr) (f' : Nat → Value), v = some (.ref b) ∧ Fr n0 L ∧ Keep h0 h [] ∧ h0.size ≤ b ∧ Af Z h b .byte 2 f' ∧ f' 0 = .int (own_by c0) ∧ f' 1 = .int (own_by c1)
set_option maxRecDepth 65536 in
set_option maxHeartbeats 40000000 in
theorem rmP_2 (l : Launch) (Z : State) (a0 : Array Value) (hw : ∀ d ∈ tables_1, d.before a0 Z = true) (ws : List Jvm.Cond) (r0 : Addr) (f : Nat → Value) (c0 : Int32) (c1 : Int32) (h0 : Heap) (n0 : Nat) (Z0 : n0 ≤ h0.size) (A : Af Z h0 r0 .char 2 f) (hf_0 : f 0 = .int c0) (hf_1 : f 1 = .int c1) (hc_0 : ¬ (255 : Int32) < c0) (hc_1 : ¬ (255 : Int32) < c1) :
    MetFree l (⟨"java/lang/StringUTF16", "compress", "([CII)[B"⟩ : MethodName) (head1 (Jvm.Cond.code (⟨"java/lang/StringUTF16", "compress", "([CII)[B"⟩ : MethodName) jdk_52_method_16_code 6 (some (.array .byte)) :: ws) ({ frames := 1, cells := 1, slots := 2, locals := 18 } : Room)) (fun a U => a = #[(.ref r0), (.int (0 : Int32)), (.int (2 : Int32))] ∧ Z.Warmed39 U.vm ∧ U.heap = h0) (fun _ _ _ _ _ => True) (fun _ U o U' => ∃ v L, o = .returned v ∧ QP_2 Z r0 f c0 c1 h0 n0 v U'.heap L ∧ FrameEnd U o U' L ({ frames := 1, cells := 1, slots := 2, locals := 18 } : Room).cells ({ frames := 1, cells := 1, slots := 2, locals := 18 } : Room).slots) := by
  refine MetFree.of_bodySF (plainFor_of_name own_pn_rmP_2) hisR ?_
  intro p e s m args below meth cO s₁ Bd hml0 hP hK
  obtain ⟨rfl, hZ, hh⟩ := hP
  have hx := Bd.exec
  have hby := Bd.bytes
  have hml : cO.maxLocals = 6 := hml0
  have hown : s.vm.findClass "java/lang/StringUTF16" = some m.cls := findClass_of_methodNamed Bd.named
  have hnm := (name_of_methodNamed Bd.named Bd.method).1
  have hlk : meth.locks = false := BodyLoose.notSynchronized Bd
  have X0 : Stand p l e ({ frames := 1, cells := 1, slots := 2, locals := 18 } : Room) s m #[(.ref r0), (.int (0 : Int32)), (.int (2 : Int32))] below meth cO s₁ [] 0 0 := Stand.of_body Bd
  have e0 : s₁.heap = h0 := by rw [← hh, Bd.state]; rfl
  have N0 := Fr.nil n0
  refine own_in (own_ef_rmP_2 m r0) ?_
  show Gm p e below s₁ m 0 #[rv r0, iv (0 : Int32), iv (2 : Int32), .unset, .unset, .unset] [] _
  refine own_go (fun t₀ k₀ => XS.iloadN X0.here hx rfl (Jvm.hb hby d18_0) rfl k₀) ?_
  show Gm p e below s₁ m 1 #[rv r0, iv (0 : Int32), iv (2 : Int32), .unset, .unset, .unset] [(.int (2 : Int32))] _
  obtain ⟨T1, h1, k1, X1, e1, E1, A1, st1⟩ := newP X0 hx hZ (hw _ (List.mem_of_getElem? (i := 20) rfl)) e0 (g := (mkF m 1 #[rv r0, iv (0 : Int32), iv (2 : Int32), .unset, .unset, .unset] [(.int (2 : Int32))])) rfl (Jvm.hb hby d18_1) rfl (by decide) (cap := 2) (by decide) (by decide) (by decide) (by decide)
  obtain ⟨b1, g1⟩ : ∃ z, z = h0.size := ⟨_, rfl⟩
  rw [← g1] at A1 st1
  have g_b1 : n0 ≤ b1 := Nat.le_trans Z0 (Nat.le_of_eq g1.symm)
  have ne_r0_b1 : r0 ≠ b1 := Nat.ne_of_lt (Nat.lt_of_lt_of_le A.lt (Nat.le_of_eq g1.symm))
  have sz_b1 : h0.size ≤ b1 := Nat.le_trans (Keep.refl h0 []).1 (Nat.le_of_eq g1.symm)
  have K1 : Keep h0 h1 [] := Keep.ext (Keep.refl h0 []) E1
  have Z1 : n0 ≤ h1.size := Nat.le_trans Z0 E1.1
  have V1 : Af Z h1 b1 .byte 2 (fun _ => defaultValue .byte) := Af.new A1 (by decide) rfl rfl
  refine own_go st1 ?_
  show Gm p e below T1 m 3 #[rv r0, iv (0 : Int32), iv (2 : Int32), .unset, .unset, .unset] [(.ref b1)] _
  refine own_go (fun t₀ k₀ => XS.astoreN X1.here hx rfl (Jvm.hb hby d18_3) rfl rfl (l' := #[rv r0, iv (0 : Int32), iv (2 : Int32), rv b1, .unset, .unset]) rfl k₀) ?_
  show Gm p e below T1 m 4 #[rv r0, iv (0 : Int32), iv (2 : Int32), rv b1, .unset, .unset] [] _
  refine own_go (fun t₀ k₀ => XS.aloadN X1.here hx rfl (Jvm.hb hby d18_4) rfl rfl k₀) ?_
  show Gm p e below T1 m 5 #[rv r0, iv (0 : Int32), iv (2 : Int32), rv b1, .unset, .unset] [(.ref r0)] _
  refine own_go (fun t₀ k₀ => XS.iloadN X1.here hx rfl (Jvm.hb hby d18_5) rfl k₀) ?_
  show Gm p e below T1 m 6 #[rv r0, iv (0 : Int32), iv (2 : Int32), rv b1, .unset, .unset] [(.int (0 : Int32)), (.ref r0)] _
  refine own_go (fun t₀ k₀ => XS.aloadN X1.here hx rfl (Jvm.hb hby d18_6) rfl rfl k₀) ?_
  show Gm p e below T1 m 7 #[rv r0, iv (0 : Int32), iv (2 : Int32), rv b1, .unset, .unset] [(.ref b1), (.int (0 : Int32)), (.ref r0)] _
  refine own_go (fun t₀ k₀ => XS.iconst X1.here hx rfl (Jvm.hb hby d18_7) k₀) ?_
  show Gm p e below T1 m 8 #[rv r0, iv (0 : Int32), iv (2 : Int32), rv b1, .unset, .unset] [(.int (0 : Int32)), (.ref b1), (.int (0 : Int32)), (.ref r0)] _
  refine own_go (fun t₀ k₀ => XS.iloadN X1.here hx rfl (Jvm.hb hby d18_8) rfl k₀) ?_
  show Gm p e below T1 m 9 #[rv r0, iv (0 : Int32), iv (2 : Int32), rv b1, .unset, .unset] [(.int (2 : Int32)), (.int (0 : Int32)), (.ref b1), (.int (0 : Int32)), (.ref r0)] _
  have f2 := (A.ext E1)
  obtain ⟨_, _, ⟨T3, L3, k3, n3⟩, -, X3, ⟨Lc3, hQ3, l3, y3, z3⟩, st3⟩ := Jvm.LawKit.callS X1 hx (y := (⟨"java/lang/StringUTF16", "compress", "([CI[BII)I"⟩ : MethodName)) hown (mvT hZ (hw _ (List.mem_of_getElem? (i := 110) rfl))) (mvT hZ (hw _ (List.mem_of_getElem? (i := 111) rfl))) (mvT hZ (hw _ (List.mem_of_getElem? (i := 108) rfl))) (mvT hZ (hw _ (List.mem_of_getElem? (i := 112) rfl))) (by decide) (backOf (W := 0) (rmK_2 l Z a0 hw [] r0 b1 f (fun _ => defaultValue .byte) c0 c1 h1 n0 Z1 f2 V1 hf_0 hf_1 hc_0 hc_1 g_b1 ne_r0_b1) hZ (hw _ (List.mem_of_getElem? (i := 112) rfl)) (hw _ (List.mem_of_getElem? (i := 108) rfl)) (by decide) (by decide)) (g := (mkF m 9 #[rv r0, iv (0 : Int32), iv (2 : Int32), rv b1, .unset, .unset] [(.int (2 : Int32)), (.int (0 : Int32)), (.ref b1), (.int (0 : Int32)), (.ref r0)])) rfl (by rw [hml]; rfl) (argsL := [(.ref r0), (.int (0 : Int32)), (.ref b1), (.int (0 : Int32)), (.int (2 : Int32))]) (rest := []) (lenOf own_pd0 rfl) rfl (by show 2 * 0 + _ ≤ _; exact Nat.le_of_eq rfl) (Jvm.hb hby d18_9) (fun _ _ => ⟨rfl, e1, (by decide : 1 + 0 ≤ _), (by decide : 2 + 0 ≤ _)⟩)
  dsimp only [Pt.U, Pt.locs, Pt.cells, Pt.slots] at X3 l3 y3 z3 st3 hQ3
  subst l3 y3 z3
  obtain ⟨rfl, Nq3, Kc3, fk3, Ak3, hk3_0, hk3_1⟩ := hQ3
  have N3 := Fr.app N0 Nq3
  refine own_go st3 ?_
  have Z3 : n0 ≤ T3.heap.size := Nat.le_trans Z1 Kc3.1
  have K3 : Keep h0 T3.heap [] := Keep.trans K1 Kc3 (allS (Or.inr sz_b1) all0)
  show Gm p e below T3 m 12 #[rv r0, iv (0 : Int32), iv (2 : Int32), rv b1, .unset, .unset] [(.int (2 : Int32))] _
  refine own_go (fun t₀ k₀ => XS.istore X3.here hx rfl (Jvm.hb hby d18_12) rfl (l' := #[rv r0, iv (0 : Int32), iv (2 : Int32), rv b1, iv (2 : Int32), .unset]) rfl k₀) ?_
  show Gm p e below T3 m 14 #[rv r0, iv (0 : Int32), iv (2 : Int32), rv b1, iv (2 : Int32), .unset] [] _
  refine own_go (fun t₀ k₀ => XS.iload X3.here hx rfl (Jvm.hb hby d18_14) rfl k₀) ?_
  show Gm p e below T3 m 16 #[rv r0, iv (0 : Int32), iv (2 : Int32), rv b1, iv (2 : Int32), .unset] [(.int (2 : Int32))] _
  refine own_go (fun t₀ k₀ => XS.iloadN X3.here hx rfl (Jvm.hb hby d18_16) rfl k₀) ?_
  show Gm p e below T3 m 17 #[rv r0, iv (0 : Int32), iv (2 : Int32), rv b1, iv (2 : Int32), .unset] [(.int (2 : Int32)), (.int (2 : Int32))] _
  refine own_go (fun t₀ k₀ => XS.icmpYes X3.here hx rfl (pc0 := 17) (pc' := 57) rfl (Jvm.hb hby d18_17) rfl (XT.ii_eq_t (by decide)) (by decide) (by decide) k₀) ?_
  show Gm p e below T3 m 57 #[rv r0, iv (0 : Int32), iv (2 : Int32), rv b1, iv (2 : Int32), .unset] [] _
  refine own_go (fun t₀ k₀ => XS.aloadN X3.here hx rfl (Jvm.hb hby d18_57) rfl rfl k₀) ?_
  show Gm p e below T3 m 58 #[rv r0, iv (0 : Int32), iv (2 : Int32), rv b1, iv (2 : Int32), .unset] [(.ref b1)] _
  exact own_retA X3 hx hlk rfl Bd.returns rfl (Jvm.hb hby d18_58) rfl ⟨b1, fk3, rfl, N3, K3, sz_b1, Ak3, hk3_0, hk3_1⟩ (by decide) (by decide)
theorem own_pn_rmD_2 : plainName "java/lang/StringUTF16" = true := by first | (simp [plainName, overriddenIn]; done) | decide +kernel
theorem own_ef_rmD_2 (m : MethodId) (r0 : Addr) : entryFrame m #[(.ref r0), (.int (2 : Int32))] 2 = mkF m 0 #[.val (.ref r0), .val (.int (2 : Int32))] [] := by first | (simp [entryFrame, mkF, argsToLocals, Value.category]; done) | rfl
def QD_2 (Z : State) (r0 : Addr) (f : Nat → Value) (h0 : Heap) (n0 : Nat) (v : Option Value) (h : Heap) (L : List Loc) : Prop := v = some (.int (0 : Int32)) ∧ Fr n0 L ∧ h = h0
set_option maxRecDepth 65536 in
set_option maxHeartbeats 40000000 in
theorem rmD_2 (l : Launch) (Z : State) (a0 : Array Value) (hw : ∀ d ∈ tables_1, d.before a0 Z = true) (ws : List Jvm.Cond) (r0 : Addr) (f : Nat → Value) (h0 : Heap) (n0 : Nat) (Z0 : n0 ≤ h0.size) (A : Af Z h0 r0 .byte 2 f) :
    MetFree l (⟨"java/lang/StringUTF16", "coderFromArrayLen", "([BI)B"⟩ : MethodName) (head1 (Jvm.Cond.code (⟨"java/lang/StringUTF16", "coderFromArrayLen", "([BI)B"⟩ : MethodName) jdk_52_method_15_code 2 (some .byte) :: ws) ({ frames := 0, cells := 0, slots := 0, locals := 0 } : Room)) (fun a U => a = #[(.ref r0), (.int (2 : Int32))] ∧ Z.Warmed39 U.vm ∧ U.heap = h0) (fun _ _ _ _ _ => True) (fun _ U o U' => ∃ v L, o = .returned v ∧ QD_2 Z r0 f h0 n0 v U'.heap L ∧ FrameEnd U o U' L ({ frames := 0, cells := 0, slots := 0, locals := 0 } : Room).cells ({ frames := 0, cells := 0, slots := 0, locals := 0 } : Room).slots) := by
  refine MetFree.of_bodySF (plainFor_of_name own_pn_rmD_2) hisR ?_
  intro p e s m args below meth cO s₁ Bd hml0 hP hK
  obtain ⟨rfl, hZ, hh⟩ := hP
  have hx := Bd.exec
  have hby := Bd.bytes
  have hml : cO.maxLocals = 2 := hml0
  have hown : s.vm.findClass "java/lang/StringUTF16" = some m.cls := findClass_of_methodNamed Bd.named
  have hnm := (name_of_methodNamed Bd.named Bd.method).1
  have hlk : meth.locks = false := BodyLoose.notSynchronized Bd
  have X0 : Stand p l e ({ frames := 0, cells := 0, slots := 0, locals := 0 } : Room) s m #[(.ref r0), (.int (2 : Int32))] below meth cO s₁ [] 0 0 := Stand.of_body Bd
  have e0 : s₁.heap = h0 := by rw [← hh, Bd.state]; rfl
  have N0 := Fr.nil n0
  refine own_in (own_ef_rmD_2 m r0) ?_
  show Gm p e below s₁ m 0 #[rv r0, iv (2 : Int32)] [] _
  refine own_go (fun t₀ k₀ => XS.iloadN X0.here hx rfl (Jvm.hb hby d20_0) rfl k₀) ?_
  show Gm p e below s₁ m 1 #[rv r0, iv (2 : Int32)] [(.int (2 : Int32))] _
  refine own_go (fun t₀ k₀ => XS.aloadN X0.here hx rfl (Jvm.hb hby d20_1) rfl rfl k₀) ?_
  show Gm p e below s₁ m 2 #[rv r0, iv (2 : Int32)] [(.ref r0), (.int (2 : Int32))] _
  refine own_go (fun t₀ k₀ => own_len X0 hx hZ e0 A (z := (2 : Int32)) rfl (g := (mkF m 2 #[rv r0, iv (2 : Int32)] [(.ref r0), (.int (2 : Int32))])) rfl rfl (Jvm.hb hby d20_2) k₀) ?_
  show Gm p e below s₁ m 3 #[rv r0, iv (2 : Int32)] [(.int (2 : Int32)), (.int (2 : Int32))] _
  refine own_go (fun t₀ k₀ => XS.isub X0.here hx rfl (Jvm.hb hby d20_3) rfl k₀) ?_
  show Gm p e below s₁ m 4 #[rv r0, iv (2 : Int32)] [(.int (0 : Int32))] _
  refine own_go (fun t₀ k₀ => XS.bipush X0.here hx rfl (Jvm.hb hby d20_4) k₀) ?_
  show Gm p e below s₁ m 6 #[rv r0, iv (2 : Int32)] [(.int (31 : Int32)), (.int (0 : Int32))] _
  refine own_go (fun t₀ k₀ => XS.iushr X0.here hx rfl (Jvm.hb hby d20_6) rfl k₀) ?_
  show Gm p e below s₁ m 7 #[rv r0, iv (2 : Int32)] [(.int (((0 : Int32).toUInt32 >>> ((31 : Int32) &&& 31).toUInt32).toInt32))] _
  refine own_go (fun t₀ k₀ => XS.i2b X0.here hx rfl (Jvm.hb hby d20_7) rfl k₀) ?_
  show Gm p e below s₁ m 8 #[rv r0, iv (2 : Int32)] [(.int ((((0 : Int32).toUInt32 >>> ((31 : Int32) &&& 31).toUInt32).toInt32).toInt8.toInt32))] _
  exact own_retI X0 hx hlk (t := .byte) Bd.returns (by decide +kernel) (by simp) (Jvm.hb hby d20_8) e0 ⟨(by decide +kernel), N0, rfl⟩ (by decide) (by decide)
theorem own_pn_rmV_2 : plainName "java/lang/String" = true := by first | (simp [plainName, overriddenIn]; done) | decide +kernel
theorem own_ef_rmV_2 (m : MethodId) (r0 : Addr) (r1 : Addr) : entryFrame m #[(.ref r0), (.ref r1), (.int (0 : Int32)), (.int (2 : Int32)), .null] 6 = mkF m 0 #[.val (.ref r0), .val (.ref r1), .val (.int (0 : Int32)), .val (.int (2 : Int32)), .val .null, .unset] [] := by first | (simp [entryFrame, mkF, argsToLocals, Value.category]; done) | rfl
def QV_2 (Z : State) (r0 : Addr) (r1 : Addr) (f : Nat → Value) (c0 : Int32) (c1 : Int32) (cs : Int32) (h0 : Heap) (n0 : Nat) (v : Option Value) (h : Heap) (L : List Loc) : Prop := ∃ (b : Addr) (f' : Nat → Value), v = none ∧ Fr n0 L ∧ Keep h0 h [r0] ∧ Exa Z h r0 "java/lang/String" ∧ Fld Z h r0 "java/lang/String" "coder" "B" (.int (0 : Int32)) ∧ Fld Z h r0 "java/lang/String" "value" "[B" (.ref b) ∧ Af Z h b .byte 2 f' ∧ f' 0 = .int (own_by c0) ∧ f' 1 = .int (own_by c1)
set_option maxRecDepth 65536 in
set_option maxHeartbeats 40000000 in
theorem rmV_2 (l : Launch) (Z : State) (a0 : Array Value) (hw : ∀ d ∈ tables_1, d.before a0 Z = true) (ws : List Jvm.Cond) (r0 : Addr) (r1 : Addr) (f : Nat → Value) (c0 : Int32) (c1 : Int32) (cs : Int32) (h0 : Heap) (n0 : Nat) (Z0 : n0 ≤ h0.size) (E_r0 : Exa Z h0 r0 "java/lang/String") (F_v : Fld Z h0 r0 "java/lang/String" "value" "[B" .null) (F_c : Fld Z h0 r0 "java/lang/String" "coder" "B" (.int (0 : Int32))) (A : Af Z h0 r1 .char 2 f) (hf_0 : f 0 = .int c0) (hf_1 : f 1 = .int c1) (hc_0 : ¬ (255 : Int32) < c0) (hc_1 : ¬ (255 : Int32) < c1) (S_c : Sta Z h0 "java/lang/String" "COMPACT_STRINGS" "Z" (.int cs)) (hcs : ¬ cs = 0) (g_r0 : n0 ≤ r0) :
    MetFree l (⟨"java/lang/String", "<init>", "([CIILjava/lang/Void;)V"⟩ : MethodName) (head1 (Jvm.Cond.code (⟨"java/lang/String", "<init>", "([CIILjava/lang/Void;)V"⟩ : MethodName) jdk_42_method_149_code 6 none :: ws) ({ frames := 2, cells := 1, slots := 2, locals := 35 } : Room)) (fun a U => a = #[(.ref r0), (.ref r1), (.int (0 : Int32)), (.int (2 : Int32)), .null] ∧ Z.Warmed39 U.vm ∧ U.heap = h0) (fun _ _ _ _ _ => True) (fun _ U o U' => ∃ v L, o = .returned v ∧ QV_2 Z r0 r1 f c0 c1 cs h0 n0 v U'.heap L ∧ FrameEnd U o U' L ({ frames := 2, cells := 1, slots := 2, locals := 35 } : Room).cells ({ frames := 2, cells := 1, slots := 2, locals := 35 } : Room).slots) := by
  refine MetFree.of_bodySF (plainFor_of_name own_pn_rmV_2) hisR ?_
  intro p e s m args below meth cO s₁ Bd hml0 hP hK
  obtain ⟨rfl, hZ, hh⟩ := hP
  have hx := Bd.exec
  have hby := Bd.bytes
  have hml : cO.maxLocals = 6 := hml0
  have hown : s.vm.findClass "java/lang/String" = some m.cls := findClass_of_methodNamed Bd.named
  have hnm := (name_of_methodNamed Bd.named Bd.method).1
  have hlk : meth.locks = false := BodyLoose.notSynchronized Bd
  have X0 : Stand p l e ({ frames := 2, cells := 1, slots := 2, locals := 35 } : Room) s m #[(.ref r0), (.ref r1), (.int (0 : Int32)), (.int (2 : Int32)), .null] below meth cO s₁ [] 0 0 := Stand.of_body Bd
  have e0 : s₁.heap = h0 := by rw [← hh, Bd.state]; rfl
  have N0 := Fr.nil n0
  refine own_in (own_ef_rmV_2 m r0 r1) ?_
  show Gm p e below s₁ m 0 #[rv r0, rv r1, iv (0 : Int32), iv (2 : Int32), .val .null, .unset] [] _
  refine own_go (fun t₀ k₀ => XS.aloadN X0.here hx rfl (Jvm.hb hby d3_0) rfl rfl k₀) ?_
  show Gm p e below s₁ m 1 #[rv r0, rv r1, iv (0 : Int32), iv (2 : Int32), .val .null, .unset] [(.ref r0)] _
  obtain ⟨T1, X1, e1, st1⟩ := initO X0 hx hZ hown (hw _ (List.mem_of_getElem? (i := 16) rfl)) (hw _ (List.mem_of_getElem? (i := 17) rfl)) (hw _ (List.mem_of_getElem? (i := 18) rfl)) e0 (g := (mkF m 1 #[rv r0, rv r1, iv (0 : Int32), iv (2 : Int32), .val .null, .unset] [(.ref r0)])) rfl (by rw [hml]; rfl) rfl (Jvm.hb hby d3_1) (by decide) (W := 0) (by show 2 * 0 + _ ≤ _; exact Nat.le_of_eq rfl) (by decide)
  refine own_go st1 ?_
  show Gm p e below T1 m 4 #[rv r0, rv r1, iv (0 : Int32), iv (2 : Int32), .val .null, .unset] [] _
  refine own_go (fun t₀ k₀ => XS.iloadN X1.here hx rfl (Jvm.hb hby d3_4) rfl k₀) ?_
  show Gm p e below T1 m 5 #[rv r0, rv r1, iv (0 : Int32), iv (2 : Int32), .val .null, .unset] [(.int (2 : Int32))] _
  refine own_go (fun t₀ k₀ => XS.ifYes X1.here hx rfl (pc0 := 5) (pc' := 27) rfl (Jvm.hb hby d3_5) rfl (XT.i0_ne_t (by decide)) (by decide) (by decide) k₀) ?_
  show Gm p e below T1 m 27 #[rv r0, rv r1, iv (0 : Int32), iv (2 : Int32), .val .null, .unset] [] _
  obtain ⟨T2, X2, e2, st2⟩ := getS2 X1 hx hZ hown (host := "") (Or.inl (hw _ (List.mem_of_getElem? (i := 64) rfl))) Via.refl e1 S_c (g := (mkF m 27 #[rv r0, rv r1, iv (0 : Int32), iv (2 : Int32), .val .null, .unset] [])) rfl (Jvm.hb hby d3_27)
  refine own_go st2 ?_
  show Gm p e below T2 m 30 #[rv r0, rv r1, iv (0 : Int32), iv (2 : Int32), .val .null, .unset] [(.int cs)] _
  refine own_go (fun t₀ k₀ => XS.ifNo X2.here hx rfl (Jvm.hb hby d3_30) rfl (XT.i0_eq_f hcs) k₀) ?_
  show Gm p e below T2 m 33 #[rv r0, rv r1, iv (0 : Int32), iv (2 : Int32), .val .null, .unset] [] _
  refine own_go (fun t₀ k₀ => XS.aloadN X2.here hx rfl (Jvm.hb hby d3_33) rfl rfl k₀) ?_
  show Gm p e below T2 m 34 #[rv r0, rv r1, iv (0 : Int32), iv (2 : Int32), .val .null, .unset] [(.ref r1)] _
  refine own_go (fun t₀ k₀ => XS.iloadN X2.here hx rfl (Jvm.hb hby d3_34) rfl k₀) ?_
  show Gm p e below T2 m 35 #[rv r0, rv r1, iv (0 : Int32), iv (2 : Int32), .val .null, .unset] [(.int (0 : Int32)), (.ref r1)] _
  refine own_go (fun t₀ k₀ => XS.iloadN X2.here hx rfl (Jvm.hb hby d3_35) rfl k₀) ?_
  show Gm p e below T2 m 36 #[rv r0, rv r1, iv (0 : Int32), iv (2 : Int32), .val .null, .unset] [(.int (2 : Int32)), (.int (0 : Int32)), (.ref r1)] _
  obtain ⟨_, _, ⟨T3, L3, k3, n3⟩, -, X3, ⟨Lc3, hQ3, l3, y3, z3⟩, st3⟩ := Jvm.LawKit.callS X2 hx (y := (⟨"java/lang/StringUTF16", "compress", "([CII)[B"⟩ : MethodName)) hown (mvT hZ (hw _ (List.mem_of_getElem? (i := 106) rfl))) (mvT hZ (hw _ (List.mem_of_getElem? (i := 107) rfl))) (mvT hZ (hw _ (List.mem_of_getElem? (i := 108) rfl))) (mvT hZ (hw _ (List.mem_of_getElem? (i := 109) rfl))) (by decide) (backOf (W := 0) (rmP_2 l Z a0 hw [] r1 f c0 c1 h0 n0 Z0 A hf_0 hf_1 hc_0 hc_1) hZ (hw _ (List.mem_of_getElem? (i := 109) rfl)) (hw _ (List.mem_of_getElem? (i := 108) rfl)) (by decide) (by decide)) (g := (mkF m 36 #[rv r0, rv r1, iv (0 : Int32), iv (2 : Int32), .val .null, .unset] [(.int (2 : Int32)), (.int (0 : Int32)), (.ref r1)])) rfl (by rw [hml]; rfl) (argsL := [(.ref r1), (.int (0 : Int32)), (.int (2 : Int32))]) (rest := []) (lenOf own_pd1 rfl) rfl (by show 2 * 0 + _ ≤ _; exact Nat.le_of_eq rfl) (Jvm.hb hby d3_36) (fun _ _ => ⟨rfl, e2, (by decide : 0 + 1 ≤ _), (by decide : 0 + 2 ≤ _)⟩)
  dsimp only [Pt.U, Pt.locs, Pt.cells, Pt.slots] at X3 l3 y3 z3 st3 hQ3
  subst l3 y3 z3
  obtain ⟨bp3, fp3, rfl, Nq3, Kc3, sz3, Ap3, hp3_0, hp3_1⟩ := hQ3
  have N3 := Fr.app N0 Nq3
  refine own_go st3 ?_
  have g_bp3 : n0 ≤ bp3 := Nat.le_trans Z0 sz3
  have Z3 : n0 ≤ T3.heap.size := Nat.le_trans Z0 Kc3.1
  have K3 : Keep h0 T3.heap [r0] := Keep.trans (Keep.refl h0 [r0]) Kc3 all0
  have sz_bp3 : h0.size ≤ bp3 := Nat.le_trans (Keep.refl h0 [r0]).1 sz3
  show Gm p e below T3 m 39 #[rv r0, rv r1, iv (0 : Int32), iv (2 : Int32), .val .null, .unset] [(.ref bp3)] _
  refine own_go (fun t₀ k₀ => XS.astore X3.here hx rfl (Jvm.hb hby d3_39) rfl rfl (l' := #[rv r0, rv r1, iv (0 : Int32), iv (2 : Int32), .val .null, rv bp3]) rfl k₀) ?_
  show Gm p e below T3 m 41 #[rv r0, rv r1, iv (0 : Int32), iv (2 : Int32), .val .null, rv bp3] [] _
  refine own_go (fun t₀ k₀ => XS.aloadN X3.here hx rfl (Jvm.hb hby d3_41) rfl rfl k₀) ?_
  show Gm p e below T3 m 42 #[rv r0, rv r1, iv (0 : Int32), iv (2 : Int32), .val .null, rv bp3] [(.ref r0)] _
  refine own_go (fun t₀ k₀ => XS.aload X3.here hx rfl (Jvm.hb hby d3_42) rfl rfl k₀) ?_
  show Gm p e below T3 m 44 #[rv r0, rv r1, iv (0 : Int32), iv (2 : Int32), .val .null, rv bp3] [(.ref bp3), (.ref r0)] _
  refine own_go (fun t₀ k₀ => XS.iloadN X3.here hx rfl (Jvm.hb hby d3_44) rfl k₀) ?_
  show Gm p e below T3 m 45 #[rv r0, rv r1, iv (0 : Int32), iv (2 : Int32), .val .null, rv bp3] [(.int (2 : Int32)), (.ref bp3), (.ref r0)] _
  obtain ⟨_, _, ⟨T4, L4, k4, n4⟩, -, X4, ⟨Lc4, hQ4, l4, y4, z4⟩, st4⟩ := Jvm.LawKit.callS X3 hx (y := (⟨"java/lang/StringUTF16", "coderFromArrayLen", "([BI)B"⟩ : MethodName)) hown (mvT hZ (hw _ (List.mem_of_getElem? (i := 113) rfl))) (mvT hZ (hw _ (List.mem_of_getElem? (i := 114) rfl))) (mvT hZ (hw _ (List.mem_of_getElem? (i := 108) rfl))) (mvT hZ (hw _ (List.mem_of_getElem? (i := 115) rfl))) (by decide) (backOf (W := 1) (rmD_2 l Z a0 hw [] bp3 fp3 T3.heap n0 Z3 Ap3) hZ (hw _ (List.mem_of_getElem? (i := 115) rfl)) (hw _ (List.mem_of_getElem? (i := 108) rfl)) (by decide) (by decide)) (g := (mkF m 45 #[rv r0, rv r1, iv (0 : Int32), iv (2 : Int32), .val .null, rv bp3] [(.int (2 : Int32)), (.ref bp3), (.ref r0)])) rfl (by rw [hml]; rfl) (argsL := [(.ref bp3), (.int (2 : Int32))]) (rest := [(.ref r0)]) (lenOf own_pd2 rfl) rfl (by show 2 * 0 + _ ≤ _; exact Nat.le_of_eq rfl) (Jvm.hb hby d3_45) (fun _ _ => ⟨rfl, rfl, (by decide : 1 + 0 ≤ _), (by decide : 2 + 0 ≤ _)⟩)
  dsimp only [Pt.U, Pt.locs, Pt.cells, Pt.slots] at X4 l4 y4 z4 st4 hQ4
  subst l4 y4 z4
  obtain ⟨rfl, Nq4, eq4⟩ := hQ4
  have N4 := Fr.app N3 Nq4
  have e4 : T4.heap = T3.heap := eq4
  refine own_go st4 ?_
  show Gm p e below T4 m 48 #[rv r0, rv r1, iv (0 : Int32), iv (2 : Int32), .val .null, rv bp3] [(.int (0 : Int32)), (.ref r0)] _
  have f5 := (E_r0.keep Kc3)
  have f6 := (F_c.keep Kc3 nin0)
  obtain ⟨T7, h7, X7, e7, W7, st7⟩ := putFN X4 hx hZ hown (hw _ (List.mem_of_getElem? (i := 26) rfl)) Via.refl e4 f6 f5 (Or.inr ⟨(hw _ (List.mem_of_getElem? (i := 22) rfl)), rfl, hnm⟩) (hw _ (List.mem_of_getElem? (i := 6) rfl)) (ty := .byte) (v' := (.int (0 : Int32))) (by decide) rfl rfl (g := (mkF m 48 #[rv r0, rv r1, iv (0 : Int32), iv (2 : Int32), .val .null, rv bp3] [(.int (0 : Int32)), (.ref r0)])) rfl rfl (Jvm.hb hby d3_48)
  have Fw7 := Fld.same W7 f6
  have N7 := Fr.snoc X7 N4 g_r0
  have Z7 : n0 ≤ h7.size := W7.size ▸ Z3
  have K7 : Keep h0 h7 [r0] := Keep.wr K3 W7 (Or.inl (List.mem_of_getElem? (i := 0) rfl))
  refine own_go st7 ?_
  show Gm p e below T7 m 51 #[rv r0, rv r1, iv (0 : Int32), iv (2 : Int32), .val .null, rv bp3] [] _
  refine own_go (fun t₀ k₀ => XS.aloadN X7.here hx rfl (Jvm.hb hby d3_51) rfl rfl k₀) ?_
  show Gm p e below T7 m 52 #[rv r0, rv r1, iv (0 : Int32), iv (2 : Int32), .val .null, rv bp3] [(.ref r0)] _
  refine own_go (fun t₀ k₀ => XS.aload X7.here hx rfl (Jvm.hb hby d3_52) rfl rfl k₀) ?_
  show Gm p e below T7 m 54 #[rv r0, rv r1, iv (0 : Int32), iv (2 : Int32), .val .null, rv bp3] [(.ref bp3), (.ref r0)] _
  have f8 := (f5.wr W7)
  have f9 := (Fld.other W7 (F_v.keep Kc3 nin0) (Or.inr (slot_ne (Or.inr (hw _ (List.mem_of_getElem? (i := 21) rfl))) (Or.inr (hw _ (List.mem_of_getElem? (i := 22) rfl))) (by decide) (t := (.array .byte)) (t' := .byte) (by decide) (by decide))))
  obtain ⟨T10, h10, X10, e10, W10, st10⟩ := putF X7 hx hZ hown (host := "") (Or.inl (hw _ (List.mem_of_getElem? (i := 25) rfl))) Via.refl e7 f9 f8 (Or.inr ⟨(hw _ (List.mem_of_getElem? (i := 21) rfl)), rfl, hnm⟩) (hw _ (List.mem_of_getElem? (i := 6) rfl)) (ty := (.array .byte)) (by decide) rfl rfl (g := (mkF m 54 #[rv r0, rv r1, iv (0 : Int32), iv (2 : Int32), .val .null, rv bp3] [(.ref bp3), (.ref r0)])) rfl rfl (Jvm.hb hby d3_54)
  have Fw10 := Fld.same W10 f9
  have N10 := Fr.snoc X10 N7 g_r0
  have Z10 : n0 ≤ h10.size := W10.size ▸ Z7
  have K10 : Keep h0 h10 [r0] := Keep.wr K7 W10 (Or.inl (List.mem_of_getElem? (i := 0) rfl))
  refine own_go st10 ?_
  show Gm p e below T10 m 57 #[rv r0, rv r1, iv (0 : Int32), iv (2 : Int32), .val .null, rv bp3] [] _
  have f11 := ((Ap3.other W7 (Ne.symm (Nat.ne_of_lt (Nat.lt_of_lt_of_le E_r0.lt sz3)))).other W10 (Ne.symm (Nat.ne_of_lt (Nat.lt_of_lt_of_le E_r0.lt sz3))))
  have f12 := (f8.wr W10)
  have f13 := (Fld.other W10 Fw7 (Or.inr (slot_ne (Or.inr (hw _ (List.mem_of_getElem? (i := 22) rfl))) (Or.inr (hw _ (List.mem_of_getElem? (i := 21) rfl))) (by decide) (t := .byte) (t' := (.array .byte)) (by decide) (by decide))))
  exact own_retV X10 hx hlk Bd.returns (Jvm.hb hby d3_57) e10 ⟨bp3, fp3, rfl, N10, K10, f12, f13, Fw10, f11, hp3_0, hp3_1⟩ (by decide) (by decide)
theorem own_pn_rmC_2 : plainName "java/lang/String" = true := by first | (simp [plainName, overriddenIn]; done) | decide +kernel
theorem own_ef_rmC_2 (m : MethodId) (r0 : Addr) (r1 : Addr) : entryFrame m #[(.ref r0), (.ref r1)] 2 = mkF m 0 #[.val (.ref r0), .val (.ref r1)] [] := by first | (simp [entryFrame, mkF, argsToLocals, Value.category]; done) | rfl
def QC_2 (Z : State) (r0 : Addr) (r1 : Addr) (f : Nat → Value) (c0 : Int32) (c1 : Int32) (cs : Int32) (h0 : Heap) (n0 : Nat) (v : Option Value) (h : Heap) (L : List Loc) : Prop := ∃ (b : Addr) (f' : Nat → Value), v = none ∧ Fr n0 L ∧ Keep h0 h [r0] ∧ Exa Z h r0 "java/lang/String" ∧ Fld Z h r0 "java/lang/String" "coder" "B" (.int (0 : Int32)) ∧ Fld Z h r0 "java/lang/String" "value" "[B" (.ref b) ∧ Af Z h b .byte 2 f' ∧ f' 0 = .int (own_by c0) ∧ f' 1 = .int (own_by c1)
set_option maxRecDepth 65536 in
set_option maxHeartbeats 40000000 in
theorem rmC_2 (l : Launch) (Z : State) (a0 : Array Value) (hw : ∀ d ∈ tables_1, d.before a0 Z = true) (ws : List Jvm.Cond) (r0 : Addr) (r1 : Addr) (f : Nat → Value) (c0 : Int32) (c1 : Int32) (cs : Int32) (h0 : Heap) (n0 : Nat) (Z0 : n0 ≤ h0.size) (E_r0 : Exa Z h0 r0 "java/lang/String") (F_v : Fld Z h0 r0 "java/lang/String" "value" "[B" .null) (F_c : Fld Z h0 r0 "java/lang/String" "coder" "B" (.int (0 : Int32))) (A : Af Z h0 r1 .char 2 f) (hf_0 : f 0 = .int c0) (hf_1 : f 1 = .int c1) (hc_0 : ¬ (255 : Int32) < c0) (hc_1 : ¬ (255 : Int32) < c1) (S_c : Sta Z h0 "java/lang/String" "COMPACT_STRINGS" "Z" (.int cs)) (hcs : ¬ cs = 0) (g_r0 : n0 ≤ r0) :
    MetFree l (⟨"java/lang/String", "<init>", "([C)V"⟩ : MethodName) (head1 (Jvm.Cond.code (⟨"java/lang/String", "<init>", "([C)V"⟩ : MethodName) jdk_42_method_3_code 2 none :: ws) ({ frames := 3, cells := 1, slots := 2, locals := 52 } : Room)) (fun a U => a = #[(.ref r0), (.ref r1)] ∧ Z.Warmed39 U.vm ∧ U.heap = h0) (fun _ _ _ _ _ => True) (fun _ U o U' => ∃ v L, o = .returned v ∧ QC_2 Z r0 r1 f c0 c1 cs h0 n0 v U'.heap L ∧ FrameEnd U o U' L ({ frames := 3, cells := 1, slots := 2, locals := 52 } : Room).cells ({ frames := 3, cells := 1, slots := 2, locals := 52 } : Room).slots) := by
  refine MetFree.of_bodySF (plainFor_of_name own_pn_rmC_2) hisR ?_
  intro p e s m args below meth cO s₁ Bd hml0 hP hK
  obtain ⟨rfl, hZ, hh⟩ := hP
  have hx := Bd.exec
  have hby := Bd.bytes
  have hml : cO.maxLocals = 2 := hml0
  have hown : s.vm.findClass "java/lang/String" = some m.cls := findClass_of_methodNamed Bd.named
  have hnm := (name_of_methodNamed Bd.named Bd.method).1
  have hlk : meth.locks = false := BodyLoose.notSynchronized Bd
  have X0 : Stand p l e ({ frames := 3, cells := 1, slots := 2, locals := 52 } : Room) s m #[(.ref r0), (.ref r1)] below meth cO s₁ [] 0 0 := Stand.of_body Bd
  have e0 : s₁.heap = h0 := by rw [← hh, Bd.state]; rfl
  have N0 := Fr.nil n0
  refine own_in (own_ef_rmC_2 m r0 r1) ?_
  show Gm p e below s₁ m 0 #[rv r0, rv r1] [] _
  refine own_go (fun t₀ k₀ => XS.aloadN X0.here hx rfl (Jvm.hb hby d2_0) rfl rfl k₀) ?_
  show Gm p e below s₁ m 1 #[rv r0, rv r1] [(.ref r0)] _
  refine own_go (fun t₀ k₀ => XS.aloadN X0.here hx rfl (Jvm.hb hby d2_1) rfl rfl k₀) ?_
  show Gm p e below s₁ m 2 #[rv r0, rv r1] [(.ref r1), (.ref r0)] _
  refine own_go (fun t₀ k₀ => XS.iconst X0.here hx rfl (Jvm.hb hby d2_2) k₀) ?_
  show Gm p e below s₁ m 3 #[rv r0, rv r1] [(.int (0 : Int32)), (.ref r1), (.ref r0)] _
  refine own_go (fun t₀ k₀ => XS.aloadN X0.here hx rfl (Jvm.hb hby d2_3) rfl rfl k₀) ?_
  show Gm p e below s₁ m 4 #[rv r0, rv r1] [(.ref r1), (.int (0 : Int32)), (.ref r1), (.ref r0)] _
  refine own_go (fun t₀ k₀ => own_len X0 hx hZ e0 A (z := (2 : Int32)) rfl (g := (mkF m 4 #[rv r0, rv r1] [(.ref r1), (.int (0 : Int32)), (.ref r1), (.ref r0)])) rfl rfl (Jvm.hb hby d2_4) k₀) ?_
  show Gm p e below s₁ m 5 #[rv r0, rv r1] [(.int (2 : Int32)), (.int (0 : Int32)), (.ref r1), (.ref r0)] _
  refine own_go (fun t₀ k₀ => XS.aconstNull X0.here hx rfl (Jvm.hb hby d2_5) k₀) ?_
  show Gm p e below s₁ m 6 #[rv r0, rv r1] [.null, (.int (2 : Int32)), (.int (0 : Int32)), (.ref r1), (.ref r0)] _
  obtain ⟨_, _, ⟨T1, L1, k1, n1⟩, -, X1, ⟨Lc1, hQ1, l1, y1, z1⟩, st1⟩ := X0.specialBack hx (y := (⟨"java/lang/String", "<init>", "([CIILjava/lang/Void;)V"⟩ : MethodName)) rfl hown (mvT hZ (hw _ (List.mem_of_getElem? (i := 12) rfl))) (mvT hZ (hw _ (List.mem_of_getElem? (i := 13) rfl))) (mvT hZ (hw _ (List.mem_of_getElem? (i := 15) rfl))) (by decide) (backOf (W := 0) (rmV_2 l Z a0 hw [] r0 r1 f c0 c1 cs h0 n0 Z0 E_r0 F_v F_c A hf_0 hf_1 hc_0 hc_1 S_c hcs g_r0) hZ (hw _ (List.mem_of_getElem? (i := 15) rfl)) (hw _ (List.mem_of_getElem? (i := 7) rfl)) (by decide) (by decide)) (g := (mkF m 6 #[rv r0, rv r1] [.null, (.int (2 : Int32)), (.int (0 : Int32)), (.ref r1), (.ref r0)])) rfl (by rw [hml]; rfl) (Steps.refl _) (a := r0) (argsL := [(.ref r1), (.int (0 : Int32)), (.int (2 : Int32)), .null]) (rest := []) (lenOf own_pd3 rfl) rfl (by show 2 * 0 + _ ≤ _; exact Nat.le_of_eq rfl) (Jvm.hb hby d2_6) (fun _ _ => ⟨rfl, e0, (by decide : 0 + 1 ≤ _), (by decide : 0 + 2 ≤ _)⟩)
  dsimp only [Pt.U, Pt.locs, Pt.cells, Pt.slots] at X1 l1 y1 z1 st1 hQ1
  subst l1 y1 z1
  obtain ⟨bq1, fq1, rfl, Nq1, Kc1, Ec1, Fc1, Fv1, Aq1, hq1_0, hq1_1⟩ := hQ1
  have N1 := Fr.app N0 Nq1
  refine own_go (fun t k => st1.trans k) ?_
  have Z1 : n0 ≤ T1.heap.size := Nat.le_trans Z0 Kc1.1
  have K1 : Keep h0 T1.heap [r0] := Keep.trans (Keep.refl h0 [r0]) Kc1 (allS (Or.inl (List.mem_of_getElem? (i := 0) rfl)) all0)
  show Gm p e below T1 m 9 #[rv r0, rv r1] [] _
  exact own_retV X1 hx hlk Bd.returns (Jvm.hb hby d2_9) rfl ⟨bq1, fq1, rfl, N1, K1, Ec1, Fc1, Fv1, Aq1, hq1_0, hq1_1⟩ (by decide) (by decide)
theorem own_pn_rmK_3 : plainName "java/lang/StringUTF16" = true := by first | (simp [plainName, overriddenIn]; done) | decide +kernel
theorem own_ef_rmK_3 (m : MethodId) (r0 : Addr) (r2 : Addr) : entryFrame m #[(.ref r0), (.int (0 : Int32)), (.ref r2), (.int (0 : Int32)), (.int (3 : Int32))] 7 = mkF m 0 #[.val (.ref r0), .val (.int (0 : Int32)), .val (.ref r2), .val (.int (0 : Int32)), .val (.int (3 : Int32)), .unset, .unset] [] := by first | (simp [entryFrame, mkF, argsToLocals, Value.category]; done) | rfl
def QK_3 (Z : State) (r0 : Addr) (r2 : Addr) (f : Nat → Value) (g : Nat → Value) (c0 : Int32) (c1 : Int32) (c2 : Int32) (h0 : Heap) (n0 : Nat) (v : Option Value) (h : Heap) (L : List Loc) : Prop := v = some (.int (3 : Int32)) ∧ Fr n0 L ∧ Keep h0 h [r2] ∧ ∃ f' : Nat → Value, Af Z h r2 .byte 3 f' ∧ f' 0 = .int (own_by c0) ∧ f' 1 = .int (own_by c1) ∧ f' 2 = .int (own_by c2)
set_option maxRecDepth 65536 in
set_option maxHeartbeats 40000000 in
theorem rmK_3 (l : Launch) (Z : State) (a0 : Array Value) (hw : ∀ d ∈ tables_1, d.before a0 Z = true) (ws : List Jvm.Cond) (r0 : Addr) (r2 : Addr) (f : Nat → Value) (g : Nat → Value) (c0 : Int32) (c1 : Int32) (c2 : Int32) (h0 : Heap) (n0 : Nat) (Z0 : n0 ≤ h0.size) (A : Af Z h0 r0 .char 3 f) (B : Af Z h0 r2 .byte 3 g) (hf_0 : f 0 = .int c0) (hf_1 : f 1 = .int c1) (hf_2 : f 2 = .int c2) (hc_0 : ¬ (255 : Int32) < c0) (hc_1 : ¬ (255 : Int32) < c1) (hc_2 : ¬ (255 : Int32) < c2) (g_r2 : n0 ≤ r2) (ne : r0 ≠ r2) :
    MetFree l (⟨"java/lang/StringUTF16", "compress", "([CI[BII)I"⟩ : MethodName) (head1 (Jvm.Cond.code (⟨"java/lang/StringUTF16", "compress", "([CI[BII)I"⟩ : MethodName) jdk_52_method_21_code 7 (some .int) :: ws) ({ frames := 0, cells := 0, slots := 0, locals := 0 } : Room)) (fun a U => a = #[(.ref r0), (.int (0 : Int32)), (.ref r2), (.int (0 : Int32)), (.int (3 : Int32))] ∧ Z.Warmed39 U.vm ∧ U.heap = h0) (fun _ _ _ _ _ => True) (fun _ U o U' => ∃ v L, o = .returned v ∧ QK_3 Z r0 r2 f g c0 c1 c2 h0 n0 v U'.heap L ∧ FrameEnd U o U' L ({ frames := 0, cells := 0, slots := 0, locals := 0 } : Room).cells ({ frames := 0, cells := 0, slots := 0, locals := 0 } : Room).slots) := by
  refine MetFree.of_bodySF (plainFor_of_name own_pn_rmK_3) hisR ?_
  intro p e s m args below meth cO s₁ Bd hml0 hP hK
  obtain ⟨rfl, hZ, hh⟩ := hP
  have hx := Bd.exec
  have hby := Bd.bytes
  have hml : cO.maxLocals = 7 := hml0
  have hown : s.vm.findClass "java/lang/StringUTF16" = some m.cls := findClass_of_methodNamed Bd.named
  have hnm := (name_of_methodNamed Bd.named Bd.method).1
  have hlk : meth.locks = false := BodyLoose.notSynchronized Bd
  have X0 : Stand p l e ({ frames := 0, cells := 0, slots := 0, locals := 0 } : Room) s m #[(.ref r0), (.int (0 : Int32)), (.ref r2), (.int (0 : Int32)), (.int (3 : Int32))] below meth cO s₁ [] 0 0 := Stand.of_body Bd
  have e0 : s₁.heap = h0 := by rw [← hh, Bd.state]; rfl
  have N0 := Fr.nil n0
  refine own_in (own_ef_rmK_3 m r0 r2) ?_
  show Gm p e below s₁ m 0 #[rv r0, iv (0 : Int32), rv r2, iv (0 : Int32), iv (3 : Int32), .unset, .unset] [] _
  refine own_go (fun t₀ k₀ => XS.iconst X0.here hx rfl (Jvm.hb hby d19_0) k₀) ?_
  show Gm p e below s₁ m 1 #[rv r0, iv (0 : Int32), rv r2, iv (0 : Int32), iv (3 : Int32), .unset, .unset] [(.int (0 : Int32))] _
  refine own_go (fun t₀ k₀ => XS.istore X0.here hx rfl (Jvm.hb hby d19_1) rfl (l' := #[rv r0, iv (0 : Int32), rv r2, iv (0 : Int32), iv (3 : Int32), iv (0 : Int32), .unset]) rfl k₀) ?_
  show Gm p e below s₁ m 3 #[rv r0, iv (0 : Int32), rv r2, iv (0 : Int32), iv (3 : Int32), iv (0 : Int32), .unset] [] _
  refine own_go (fun t₀ k₀ => XS.iload X0.here hx rfl (Jvm.hb hby d19_3) rfl k₀) ?_
  show Gm p e below s₁ m 5 #[rv r0, iv (0 : Int32), rv r2, iv (0 : Int32), iv (3 : Int32), iv (0 : Int32), .unset] [(.int (0 : Int32))] _
  refine own_go (fun t₀ k₀ => XS.iload X0.here hx rfl (Jvm.hb hby d19_5) rfl k₀) ?_
  show Gm p e below s₁ m 7 #[rv r0, iv (0 : Int32), rv r2, iv (0 : Int32), iv (3 : Int32), iv (0 : Int32), .unset] [(.int (3 : Int32)), (.int (0 : Int32))] _
  refine own_go (fun t₀ k₀ => XS.icmpNo X0.here hx rfl (Jvm.hb hby d19_7) rfl (XT.ii_ge_f (by decide)) k₀) ?_
  show Gm p e below s₁ m 10 #[rv r0, iv (0 : Int32), rv r2, iv (0 : Int32), iv (3 : Int32), iv (0 : Int32), .unset] [] _
  refine own_go (fun t₀ k₀ => XS.aloadN X0.here hx rfl (Jvm.hb hby d19_10) rfl rfl k₀) ?_
  show Gm p e below s₁ m 11 #[rv r0, iv (0 : Int32), rv r2, iv (0 : Int32), iv (3 : Int32), iv (0 : Int32), .unset] [(.ref r0)] _
  refine own_go (fun t₀ k₀ => XS.iloadN X0.here hx rfl (Jvm.hb hby d19_11) rfl k₀) ?_
  show Gm p e below s₁ m 12 #[rv r0, iv (0 : Int32), rv r2, iv (0 : Int32), iv (3 : Int32), iv (0 : Int32), .unset] [(.int (0 : Int32)), (.ref r0)] _
  refine own_go (fun t₀ k₀ => own_ldC X0 hx hZ e0 A (j := (0 : Int32)) (k := 0) (by decide) rfl (by decide) (w := (.int c0)) hf_0 (g := (mkF m 12 #[rv r0, iv (0 : Int32), rv r2, iv (0 : Int32), iv (3 : Int32), iv (0 : Int32), .unset] [(.int (0 : Int32)), (.ref r0)])) rfl rfl (Jvm.hb hby d19_12) k₀) ?_
  show Gm p e below s₁ m 13 #[rv r0, iv (0 : Int32), rv r2, iv (0 : Int32), iv (3 : Int32), iv (0 : Int32), .unset] [(.int c0)] _
  refine own_go (fun t₀ k₀ => XS.istore X0.here hx rfl (Jvm.hb hby d19_13) rfl (l' := #[rv r0, iv (0 : Int32), rv r2, iv (0 : Int32), iv (3 : Int32), iv (0 : Int32), iv c0]) rfl k₀) ?_
  show Gm p e below s₁ m 15 #[rv r0, iv (0 : Int32), rv r2, iv (0 : Int32), iv (3 : Int32), iv (0 : Int32), iv c0] [] _
  refine own_go (fun t₀ k₀ => XS.iload X0.here hx rfl (Jvm.hb hby d19_15) rfl k₀) ?_
  show Gm p e below s₁ m 17 #[rv r0, iv (0 : Int32), rv r2, iv (0 : Int32), iv (3 : Int32), iv (0 : Int32), iv c0] [(.int c0)] _
  refine own_go (fun t₀ k₀ => XS.sipush X0.here hx rfl (Jvm.hb hby d19_17) k₀) ?_
  show Gm p e below s₁ m 20 #[rv r0, iv (0 : Int32), rv r2, iv (0 : Int32), iv (3 : Int32), iv (0 : Int32), iv c0] [(.int (255 : Int32)), (.int c0)] _
  refine own_go (fun t₀ k₀ => XS.icmpYes X0.here hx rfl (pc0 := 20) (pc' := 26) rfl (Jvm.hb hby d19_20) rfl (XT.ii_le_t hc_0) (by decide) (by decide) k₀) ?_
  show Gm p e below s₁ m 26 #[rv r0, iv (0 : Int32), rv r2, iv (0 : Int32), iv (3 : Int32), iv (0 : Int32), iv c0] [] _
  refine own_go (fun t₀ k₀ => XS.aloadN X0.here hx rfl (Jvm.hb hby d19_26) rfl rfl k₀) ?_
  show Gm p e below s₁ m 27 #[rv r0, iv (0 : Int32), rv r2, iv (0 : Int32), iv (3 : Int32), iv (0 : Int32), iv c0] [(.ref r2)] _
  refine own_go (fun t₀ k₀ => XS.iloadN X0.here hx rfl (Jvm.hb hby d19_27) rfl k₀) ?_
  show Gm p e below s₁ m 28 #[rv r0, iv (0 : Int32), rv r2, iv (0 : Int32), iv (3 : Int32), iv (0 : Int32), iv c0] [(.int (0 : Int32)), (.ref r2)] _
  refine own_go (fun t₀ k₀ => XS.iload X0.here hx rfl (Jvm.hb hby d19_28) rfl k₀) ?_
  show Gm p e below s₁ m 30 #[rv r0, iv (0 : Int32), rv r2, iv (0 : Int32), iv (3 : Int32), iv (0 : Int32), iv c0] [(.int c0), (.int (0 : Int32)), (.ref r2)] _
  refine own_go (fun t₀ k₀ => XS.i2b X0.here hx rfl (Jvm.hb hby d19_30) rfl k₀) ?_
  show Gm p e below s₁ m 31 #[rv r0, iv (0 : Int32), rv r2, iv (0 : Int32), iv (3 : Int32), iv (0 : Int32), iv c0] [(.int (c0.toInt8.toInt32)), (.int (0 : Int32)), (.ref r2)] _
  obtain ⟨T1, h1, X1, e1, W1, A1, st1⟩ := own_stB X0 hx hZ e0 B (j := (0 : Int32)) (k := 0) (by decide) rfl (by decide) (y := (own_by c0)) rfl (g := (mkF m 31 #[rv r0, iv (0 : Int32), rv r2, iv (0 : Int32), iv (3 : Int32), iv (0 : Int32), iv c0] [(.int (c0.toInt8.toInt32)), (.int (0 : Int32)), (.ref r2)])) rfl rfl (Jvm.hb hby d19_31)
  have N1 := Fr.snoc X1 N0 g_r2
  have Z1 : n0 ≤ h1.size := W1.size ▸ Z0
  have K1 : Keep h0 h1 [r2] := Keep.wr (Keep.refl h0 [r2]) W1 (Or.inl (List.mem_of_getElem? (i := 0) rfl))
  refine own_go st1 ?_
  show Gm p e below T1 m 32 #[rv r0, iv (0 : Int32), rv r2, iv (0 : Int32), iv (3 : Int32), iv (0 : Int32), iv c0] [] _
  refine own_go (fun t₀ k₀ => XS.iinc X1.here hx rfl (Jvm.hb hby d19_32) rfl (l' := #[rv r0, iv (1 : Int32), rv r2, iv (0 : Int32), iv (3 : Int32), iv (0 : Int32), iv c0]) rfl k₀) ?_
  show Gm p e below T1 m 35 #[rv r0, iv (1 : Int32), rv r2, iv (0 : Int32), iv (3 : Int32), iv (0 : Int32), iv c0] [] _
  refine own_go (fun t₀ k₀ => XS.iinc X1.here hx rfl (Jvm.hb hby d19_35) rfl (l' := #[rv r0, iv (1 : Int32), rv r2, iv (1 : Int32), iv (3 : Int32), iv (0 : Int32), iv c0]) rfl k₀) ?_
  show Gm p e below T1 m 38 #[rv r0, iv (1 : Int32), rv r2, iv (1 : Int32), iv (3 : Int32), iv (0 : Int32), iv c0] [] _
  refine own_go (fun t₀ k₀ => XS.iinc X1.here hx rfl (Jvm.hb hby d19_38) rfl (l' := #[rv r0, iv (1 : Int32), rv r2, iv (1 : Int32), iv (3 : Int32), iv (1 : Int32), iv c0]) rfl k₀) ?_
  show Gm p e below T1 m 41 #[rv r0, iv (1 : Int32), rv r2, iv (1 : Int32), iv (3 : Int32), iv (1 : Int32), iv c0] [] _
  refine own_go (fun t₀ k₀ => XS.goto X1.here hx rfl (pc0 := 41) (pc' := 3) rfl (Jvm.hb hby d19_41) (by decide) (by decide) k₀) ?_
  show Gm p e below T1 m 3 #[rv r0, iv (1 : Int32), rv r2, iv (1 : Int32), iv (3 : Int32), iv (1 : Int32), iv c0] [] _
  refine own_go (fun t₀ k₀ => XS.iload X1.here hx rfl (Jvm.hb hby d19_3) rfl k₀) ?_
  show Gm p e below T1 m 5 #[rv r0, iv (1 : Int32), rv r2, iv (1 : Int32), iv (3 : Int32), iv (1 : Int32), iv c0] [(.int (1 : Int32))] _
  refine own_go (fun t₀ k₀ => XS.iload X1.here hx rfl (Jvm.hb hby d19_5) rfl k₀) ?_
  show Gm p e below T1 m 7 #[rv r0, iv (1 : Int32), rv r2, iv (1 : Int32), iv (3 : Int32), iv (1 : Int32), iv c0] [(.int (3 : Int32)), (.int (1 : Int32))] _
  refine own_go (fun t₀ k₀ => XS.icmpNo X1.here hx rfl (Jvm.hb hby d19_7) rfl (XT.ii_ge_f (by decide)) k₀) ?_
  show Gm p e below T1 m 10 #[rv r0, iv (1 : Int32), rv r2, iv (1 : Int32), iv (3 : Int32), iv (1 : Int32), iv c0] [] _
  refine own_go (fun t₀ k₀ => XS.aloadN X1.here hx rfl (Jvm.hb hby d19_10) rfl rfl k₀) ?_
  show Gm p e below T1 m 11 #[rv r0, iv (1 : Int32), rv r2, iv (1 : Int32), iv (3 : Int32), iv (1 : Int32), iv c0] [(.ref r0)] _
  refine own_go (fun t₀ k₀ => XS.iloadN X1.here hx rfl (Jvm.hb hby d19_11) rfl k₀) ?_
  show Gm p e below T1 m 12 #[rv r0, iv (1 : Int32), rv r2, iv (1 : Int32), iv (3 : Int32), iv (1 : Int32), iv c0] [(.int (1 : Int32)), (.ref r0)] _
  have f2 := (A.other W1 ne)
  refine own_go (fun t₀ k₀ => own_ldC X1 hx hZ e1 f2 (j := (1 : Int32)) (k := 1) (by decide) rfl (by decide) (w := (.int c1)) hf_1 (g := (mkF m 12 #[rv r0, iv (1 : Int32), rv r2, iv (1 : Int32), iv (3 : Int32), iv (1 : Int32), iv c0] [(.int (1 : Int32)), (.ref r0)])) rfl rfl (Jvm.hb hby d19_12) k₀) ?_
  show Gm p e below T1 m 13 #[rv r0, iv (1 : Int32), rv r2, iv (1 : Int32), iv (3 : Int32), iv (1 : Int32), iv c0] [(.int c1)] _
  refine own_go (fun t₀ k₀ => XS.istore X1.here hx rfl (Jvm.hb hby d19_13) rfl (l' := #[rv r0, iv (1 : Int32), rv r2, iv (1 : Int32), iv (3 : Int32), iv (1 : Int32), iv c1]) rfl k₀) ?_
  show Gm p e below T1 m 15 #[rv r0, iv (1 : Int32), rv r2, iv (1 : Int32), iv (3 : Int32), iv (1 : Int32), iv c1] [] _
  refine own_go (fun t₀ k₀ => XS.iload X1.here hx rfl (Jvm.hb hby d19_15) rfl k₀) ?_
  show Gm p e below T1 m 17 #[rv r0, iv (1 : Int32), rv r2, iv (1 : Int32), iv (3 : Int32), iv (1 : Int32), iv c1] [(.int c1)] _
  refine own_go (fun t₀ k₀ => XS.sipush X1.here hx rfl (Jvm.hb hby d19_17) k₀) ?_
  show Gm p e below T1 m 20 #[rv r0, iv (1 : Int32), rv r2, iv (1 : Int32), iv (3 : Int32), iv (1 : Int32), iv c1] [(.int (255 : Int32)), (.int c1)] _
  refine own_go (fun t₀ k₀ => XS.icmpYes X1.here hx rfl (pc0 := 20) (pc' := 26) rfl (Jvm.hb hby d19_20) rfl (XT.ii_le_t hc_1) (by decide) (by decide) k₀) ?_
  show Gm p e below T1 m 26 #[rv r0, iv (1 : Int32), rv r2, iv (1 : Int32), iv (3 : Int32), iv (1 : Int32), iv c1] [] _
  refine own_go (fun t₀ k₀ => XS.aloadN X1.here hx rfl (Jvm.hb hby d19_26) rfl rfl k₀) ?_
  show Gm p e below T1 m 27 #[rv r0, iv (1 : Int32), rv r2, iv (1 : Int32), iv (3 : Int32), iv (1 : Int32), iv c1] [(.ref r2)] _
  refine own_go (fun t₀ k₀ => XS.iloadN X1.here hx rfl (Jvm.hb hby d19_27) rfl k₀) ?_
  show Gm p e below T1 m 28 #[rv r0, iv (1 : Int32), rv r2, iv (1 : Int32), iv (3 : Int32), iv (1 : Int32), iv c1] [(.int (1 : Int32)), (.ref r2)] _
  refine own_go (fun t₀ k₀ => XS.iload X1.here hx rfl (Jvm.hb hby d19_28) rfl k₀) ?_
  show Gm p e below T1 m 30 #[rv r0, iv (1 : Int32), rv r2, iv (1 : Int32), iv (3 : Int32), iv (1 : Int32), iv c1] [(.int c1), (.int (1 : Int32)), (.ref r2)] _
  refine own_go (fun t₀ k₀ => XS.i2b X1.here hx rfl (Jvm.hb hby d19_30) rfl k₀) ?_
  show Gm p e below T1 m 31 #[rv r0, iv (1 : Int32), rv r2, iv (1 : Int32), iv (3 : Int32), iv (1 : Int32), iv c1] [(.int (c1.toInt8.toInt32)), (.int (1 : Int32)), (.ref r2)] _
  obtain ⟨T3, h3, X3, e3, W3, A3, st3⟩ := own_stB X1 hx hZ e1 A1 (j := (1 : Int32)) (k := 1) (by decide) rfl (by decide) (y := (own_by c1)) rfl (g := (mkF m 31 #[rv r0, iv (1 : Int32), rv r2, iv (1 : Int32), iv (3 : Int32), iv (1 : Int32), iv c1] [(.int (c1.toInt8.toInt32)), (.int (1 : Int32)), (.ref r2)])) rfl rfl (Jvm.hb hby d19_31)
  have N3 := Fr.snoc X3 N1 g_r2
  have Z3 : n0 ≤ h3.size := W3.size ▸ Z1
  have K3 : Keep h0 h3 [r2] := Keep.wr K1 W3 (Or.inl (List.mem_of_getElem? (i := 0) rfl))
  refine own_go st3 ?_
  show Gm p e below T3 m 32 #[rv r0, iv (1 : Int32), rv r2, iv (1 : Int32), iv (3 : Int32), iv (1 : Int32), iv c1] [] _
  refine own_go (fun t₀ k₀ => XS.iinc X3.here hx rfl (Jvm.hb hby d19_32) rfl (l' := #[rv r0, iv (2 : Int32), rv r2, iv (1 : Int32), iv (3 : Int32), iv (1 : Int32), iv c1]) rfl k₀) ?_
  show Gm p e below T3 m 35 #[rv r0, iv (2 : Int32), rv r2, iv (1 : Int32), iv (3 : Int32), iv (1 : Int32), iv c1] [] _
  refine own_go (fun t₀ k₀ => XS.iinc X3.here hx rfl (Jvm.hb hby d19_35) rfl (l' := #[rv r0, iv (2 : Int32), rv r2, iv (2 : Int32), iv (3 : Int32), iv (1 : Int32), iv c1]) rfl k₀) ?_
  show Gm p e below T3 m 38 #[rv r0, iv (2 : Int32), rv r2, iv (2 : Int32), iv (3 : Int32), iv (1 : Int32), iv c1] [] _
  refine own_go (fun t₀ k₀ => XS.iinc X3.here hx rfl (Jvm.hb hby d19_38) rfl (l' := #[rv r0, iv (2 : Int32), rv r2, iv (2 : Int32), iv (3 : Int32), iv (2 : Int32), iv c1]) rfl k₀) ?_
  show Gm p e below T3 m 41 #[rv r0, iv (2 : Int32), rv r2, iv (2 : Int32), iv (3 : Int32), iv (2 : Int32), iv c1] [] _
  refine own_go (fun t₀ k₀ => XS.goto X3.here hx rfl (pc0 := 41) (pc' := 3) rfl (Jvm.hb hby d19_41) (by decide) (by decide) k₀) ?_
  show Gm p e below T3 m 3 #[rv r0, iv (2 : Int32), rv r2, iv (2 : Int32), iv (3 : Int32), iv (2 : Int32), iv c1] [] _
  refine own_go (fun t₀ k₀ => XS.iload X3.here hx rfl (Jvm.hb hby d19_3) rfl k₀) ?_
  show Gm p e below T3 m 5 #[rv r0, iv (2 : Int32), rv r2, iv (2 : Int32), iv (3 : Int32), iv (2 : Int32), iv c1] [(.int (2 : Int32))] _
  refine own_go (fun t₀ k₀ => XS.iload X3.here hx rfl (Jvm.hb hby d19_5) rfl k₀) ?_
  show Gm p e below T3 m 7 #[rv r0, iv (2 : Int32), rv r2, iv (2 : Int32), iv (3 : Int32), iv (2 : Int32), iv c1] [(.int (3 : Int32)), (.int (2 : Int32))] _
  refine own_go (fun t₀ k₀ => XS.icmpNo X3.here hx rfl (Jvm.hb hby d19_7) rfl (XT.ii_ge_f (by decide)) k₀) ?_
  show Gm p e below T3 m 10 #[rv r0, iv (2 : Int32), rv r2, iv (2 : Int32), iv (3 : Int32), iv (2 : Int32), iv c1] [] _
  refine own_go (fun t₀ k₀ => XS.aloadN X3.here hx rfl (Jvm.hb hby d19_10) rfl rfl k₀) ?_
  show Gm p e below T3 m 11 #[rv r0, iv (2 : Int32), rv r2, iv (2 : Int32), iv (3 : Int32), iv (2 : Int32), iv c1] [(.ref r0)] _
  refine own_go (fun t₀ k₀ => XS.iloadN X3.here hx rfl (Jvm.hb hby d19_11) rfl k₀) ?_
  show Gm p e below T3 m 12 #[rv r0, iv (2 : Int32), rv r2, iv (2 : Int32), iv (3 : Int32), iv (2 : Int32), iv c1] [(.int (2 : Int32)), (.ref r0)] _
  have f4 := (f2.other W3 ne)
  refine own_go (fun t₀ k₀ => own_ldC X3 hx hZ e3 f4 (j := (2 : Int32)) (k := 2) (by decide) rfl (by decide) (w := (.int c2)) hf_2 (g := (mkF m 12 #[rv r0, iv (2 : Int32), rv r2, iv (2 : Int32), iv (3 : Int32), iv (2 : Int32), iv c1] [(.int (2 : Int32)), (.ref r0)])) rfl rfl (Jvm.hb hby d19_12) k₀) ?_
  show Gm p e below T3 m 13 #[rv r0, iv (2 : Int32), rv r2, iv (2 : Int32), iv (3 : Int32), iv (2 : Int32), iv c1] [(.int c2)] _
  refine own_go (fun t₀ k₀ => XS.istore X3.here hx rfl (Jvm.hb hby d19_13) rfl (l' := #[rv r0, iv (2 : Int32), rv r2, iv (2 : Int32), iv (3 : Int32), iv (2 : Int32), iv c2]) rfl k₀) ?_
  show Gm p e below T3 m 15 #[rv r0, iv (2 : Int32), rv r2, iv (2 : Int32), iv (3 : Int32), iv (2 : Int32), iv c2] [] _
  refine own_go (fun t₀ k₀ => XS.iload X3.here hx rfl (Jvm.hb hby d19_15) rfl k₀) ?_
  show Gm p e below T3 m 17 #[rv r0, iv (2 : Int32), rv r2, iv (2 : Int32), iv (3 : Int32), iv (2 : Int32), iv c2] [(.int c2)] _
  refine own_go (fun t₀ k₀ => XS.sipush X3.here hx rfl (Jvm.hb hby d19_17) k₀) ?_
  show Gm p e below T3 m 20 #[rv r0, iv (2 : Int32), rv r2, iv (2 : Int32), iv (3 : Int32), iv (2 : Int32), iv c2] [(.int (255 : Int32)), (.int c2)] _
  refine own_go (fun t₀ k₀ => XS.icmpYes X3.here hx rfl (pc0 := 20) (pc' := 26) rfl (Jvm.hb hby d19_20) rfl (XT.ii_le_t hc_2) (by decide) (by decide) k₀) ?_
  show Gm p e below T3 m 26 #[rv r0, iv (2 : Int32), rv r2, iv (2 : Int32), iv (3 : Int32), iv (2 : Int32), iv c2] [] _
  refine own_go (fun t₀ k₀ => XS.aloadN X3.here hx rfl (Jvm.hb hby d19_26) rfl rfl k₀) ?_
  show Gm p e below T3 m 27 #[rv r0, iv (2 : Int32), rv r2, iv (2 : Int32), iv (3 : Int32), iv (2 : Int32), iv c2] [(.ref r2)] _
  refine own_go (fun t₀ k₀ => XS.iloadN X3.here hx rfl (Jvm.hb hby d19_27) rfl k₀) ?_
  show Gm p e below T3 m 28 #[rv r0, iv (2 : Int32), rv r2, iv (2 : Int32), iv (3 : Int32), iv (2 : Int32), iv c2] [(.int (2 : Int32)), (.ref r2)] _
  refine own_go (fun t₀ k₀ => XS.iload X3.here hx rfl (Jvm.hb hby d19_28) rfl k₀) ?_
  show Gm p e below T3 m 30 #[rv r0, iv (2 : Int32), rv r2, iv (2 : Int32), iv (3 : Int32), iv (2 : Int32), iv c2] [(.int c2), (.int (2 : Int32)), (.ref r2)] _
  refine own_go (fun t₀ k₀ => XS.i2b X3.here hx rfl (Jvm.hb hby d19_30) rfl k₀) ?_
  show Gm p e below T3 m 31 #[rv r0, iv (2 : Int32), rv r2, iv (2 : Int32), iv (3 : Int32), iv (2 : Int32), iv c2] [(.int (c2.toInt8.toInt32)), (.int (2 : Int32)), (.ref r2)] _
  obtain ⟨T5, h5, X5, e5, W5, A5, st5⟩ := own_stB X3 hx hZ e3 A3 (j := (2 : Int32)) (k := 2) (by decide) rfl (by decide) (y := (own_by c2)) rfl (g := (mkF m 31 #[rv r0, iv (2 : Int32), rv r2, iv (2 : Int32), iv (3 : Int32), iv (2 : Int32), iv c2] [(.int (c2.toInt8.toInt32)), (.int (2 : Int32)), (.ref r2)])) rfl rfl (Jvm.hb hby d19_31)
  have N5 := Fr.snoc X5 N3 g_r2
  have Z5 : n0 ≤ h5.size := W5.size ▸ Z3
  have K5 : Keep h0 h5 [r2] := Keep.wr K3 W5 (Or.inl (List.mem_of_getElem? (i := 0) rfl))
  refine own_go st5 ?_
  show Gm p e below T5 m 32 #[rv r0, iv (2 : Int32), rv r2, iv (2 : Int32), iv (3 : Int32), iv (2 : Int32), iv c2] [] _
  refine own_go (fun t₀ k₀ => XS.iinc X5.here hx rfl (Jvm.hb hby d19_32) rfl (l' := #[rv r0, iv (3 : Int32), rv r2, iv (2 : Int32), iv (3 : Int32), iv (2 : Int32), iv c2]) rfl k₀) ?_
  show Gm p e below T5 m 35 #[rv r0, iv (3 : Int32), rv r2, iv (2 : Int32), iv (3 : Int32), iv (2 : Int32), iv c2] [] _
  refine own_go (fun t₀ k₀ => XS.iinc X5.here hx rfl (Jvm.hb hby d19_35) rfl (l' := #[rv r0, iv (3 : Int32), rv r2, iv (3 : Int32), iv (3 : Int32), iv (2 : Int32), iv c2]) rfl k₀) ?_
  show Gm p e below T5 m 38 #[rv r0, iv (3 : Int32), rv r2, iv (3 : Int32), iv (3 : Int32), iv (2 : Int32), iv c2] [] _
  refine own_go (fun t₀ k₀ => XS.iinc X5.here hx rfl (Jvm.hb hby d19_38) rfl (l' := #[rv r0, iv (3 : Int32), rv r2, iv (3 : Int32), iv (3 : Int32), iv (3 : Int32), iv c2]) rfl k₀) ?_
  show Gm p e below T5 m 41 #[rv r0, iv (3 : Int32), rv r2, iv (3 : Int32), iv (3 : Int32), iv (3 : Int32), iv c2] [] _
  refine own_go (fun t₀ k₀ => XS.goto X5.here hx rfl (pc0 := 41) (pc' := 3) rfl (Jvm.hb hby d19_41) (by decide) (by decide) k₀) ?_
  show Gm p e below T5 m 3 #[rv r0, iv (3 : Int32), rv r2, iv (3 : Int32), iv (3 : Int32), iv (3 : Int32), iv c2] [] _
  refine own_go (fun t₀ k₀ => XS.iload X5.here hx rfl (Jvm.hb hby d19_3) rfl k₀) ?_
  show Gm p e below T5 m 5 #[rv r0, iv (3 : Int32), rv r2, iv (3 : Int32), iv (3 : Int32), iv (3 : Int32), iv c2] [(.int (3 : Int32))] _
  refine own_go (fun t₀ k₀ => XS.iload X5.here hx rfl (Jvm.hb hby d19_5) rfl k₀) ?_
  show Gm p e below T5 m 7 #[rv r0, iv (3 : Int32), rv r2, iv (3 : Int32), iv (3 : Int32), iv (3 : Int32), iv c2] [(.int (3 : Int32)), (.int (3 : Int32))] _
  refine own_go (fun t₀ k₀ => XS.icmpYes X5.here hx rfl (pc0 := 7) (pc' := 44) rfl (Jvm.hb hby d19_7) rfl (XT.ii_ge_t (by decide)) (by decide) (by decide) k₀) ?_
  show Gm p e below T5 m 44 #[rv r0, iv (3 : Int32), rv r2, iv (3 : Int32), iv (3 : Int32), iv (3 : Int32), iv c2] [] _
  refine own_go (fun t₀ k₀ => XS.iload X5.here hx rfl (Jvm.hb hby d19_44) rfl k₀) ?_
  show Gm p e below T5 m 46 #[rv r0, iv (3 : Int32), rv r2, iv (3 : Int32), iv (3 : Int32), iv (3 : Int32), iv c2] [(.int (3 : Int32))] _
  exact own_retI X5 hx hlk (t := .int) Bd.returns rfl (by simp) (Jvm.hb hby d19_46) e5 ⟨rfl, N5, K5, (fun i => if i = 2 then (.int (own_by c2)) else (fun i => if i = 1 then (.int (own_by c1)) else (fun i => if i = 0 then (.int (own_by c0)) else g i) i) i), A5, rfl, rfl, rfl⟩ (by decide) (by decide)
theorem own_pn_rmP_3 : plainName "java/lang/StringUTF16" = true := by first | (simp [plainName, overriddenIn]; done) | decide +kernel
theorem own_ef_rmP_3 (m : MethodId) (r0 : Addr) : entryFrame m #[(.ref r0), (.int (0 : Int32)), (.int (3 : Int32))] 6 = mkF m 0 #[.val (.ref r0), .val (.int (0 : Int32)), .val (.int (3 : Int32)), .unset, .unset, .unset] [] := by first | (simp [entryFrame, mkF, argsToLocals, Value.category]; done) | rfl
def QP_3 (Z : State) (r0 : Addr) (f : Nat → Value) (c0 : Int32) (c1 : Int32) (c2 : Int32) (h0 : Heap) (n0 : Nat) (v : Option Value) (h : Heap) (L : List Loc) : Prop := ∃ (b : Addr) (f' : Nat → Value), v = some (.ref b) ∧ Fr n0 L ∧ Keep h0 h [] ∧ h0.size ≤ b ∧ Af Z h b .byte 3 f' ∧ f' 0 = .int (own_by c0) ∧ f' 1 = .int (own_by c1) ∧ f' 2 = .int (own_by c2)
set_option maxRecDepth 65536 in
set_option maxHeartbeats 40000000 in
theorem rmP_3 (l : Launch) (Z : State) (a0 : Array Value) (hw : ∀ d ∈ tables_1, d.before a0 Z = true) (ws : List Jvm.Cond) (r0 : Addr) (f : Nat → Value) (c0 : Int32) (c1 : Int32) (c2 : Int32) (h0 : Heap) (n0 : Nat) (Z0 : n0 ≤ h0.size) (A : Af Z h0 r0 .char 3 f) (hf_0 : f 0 = .int c0) (hf_1 : f 1 = .int c1) (hf_2 : f 2 = .int c2) (hc_0 : ¬ (255 : Int32) < c0) (hc_1 : ¬ (255 : Int32) < c1) (hc_2 : ¬ (255 : Int32) < c2) :
    MetFree l (⟨"java/lang/StringUTF16", "compress", "([CII)[B"⟩ : MethodName) (head1 (Jvm.Cond.code (⟨"java/lang/StringUTF16", "compress", "([CII)[B"⟩ : MethodName) jdk_52_method_16_code 6 (some (.array .byte)) :: ws) ({ frames := 1, cells := 1, slots := 3, locals := 18 } : Room)) (fun a U => a = #[(.ref r0), (.int (0 : Int32)), (.int (3 : Int32))] ∧ Z.Warmed39 U.vm ∧ U.heap = h0) (fun _ _ _ _ _ => True) (fun _ U o U' => ∃ v L, o = .returned v ∧ QP_3 Z r0 f c0 c1 c2 h0 n0 v U'.heap L ∧ FrameEnd U o U' L ({ frames := 1, cells := 1, slots := 3, locals := 18 } : Room).cells ({ frames := 1, cells := 1, slots := 3, locals := 18 } : Room).slots) := by
  refine MetFree.of_bodySF (plainFor_of_name own_pn_rmP_3) hisR ?_
  intro p e s m args below meth cO s₁ Bd hml0 hP hK
  obtain ⟨rfl, hZ, hh⟩ := hP
  have hx := Bd.exec
  have hby := Bd.bytes
  have hml : cO.maxLocals = 6 := hml0
  have hown : s.vm.findClass "java/lang/StringUTF16" = some m.cls := findClass_of_methodNamed Bd.named
  have hnm := (name_of_methodNamed Bd.named Bd.method).1
  have hlk : meth.locks = false := BodyLoose.notSynchronized Bd
  have X0 : Stand p l e ({ frames := 1, cells := 1, slots := 3, locals := 18 } : Room) s m #[(.ref r0), (.int (0 : Int32)), (.int (3 : Int32))] below meth cO s₁ [] 0 0 := Stand.of_body Bd
  have e0 : s₁.heap = h0 := by rw [← hh, Bd.state]; rfl
  have N0 := Fr.nil n0
  refine own_in (own_ef_rmP_3 m r0) ?_
  show Gm p e below s₁ m 0 #[rv r0, iv (0 : Int32), iv (3 : Int32), .unset, .unset, .unset] [] _
  refine own_go (fun t₀ k₀ => XS.iloadN X0.here hx rfl (Jvm.hb hby d18_0) rfl k₀) ?_
  show Gm p e below s₁ m 1 #[rv r0, iv (0 : Int32), iv (3 : Int32), .unset, .unset, .unset] [(.int (3 : Int32))] _
  obtain ⟨T1, h1, k1, X1, e1, E1, A1, st1⟩ := newP X0 hx hZ (hw _ (List.mem_of_getElem? (i := 20) rfl)) e0 (g := (mkF m 1 #[rv r0, iv (0 : Int32), iv (3 : Int32), .unset, .unset, .unset] [(.int (3 : Int32))])) rfl (Jvm.hb hby d18_1) rfl (by decide) (cap := 3) (by decide) (by decide) (by decide) (by decide)
  obtain ⟨b1, g1⟩ : ∃ z, z = h0.size := ⟨_, rfl⟩
  rw [← g1] at A1 st1
  have g_b1 : n0 ≤ b1 := Nat.le_trans Z0 (Nat.le_of_eq g1.symm)
  have ne_r0_b1 : r0 ≠ b1 := Nat.ne_of_lt (Nat.lt_of_lt_of_le A.lt (Nat.le_of_eq g1.symm))
  have sz_b1 : h0.size ≤ b1 := Nat.le_trans (Keep.refl h0 []).1 (Nat.le_of_eq g1.symm)
  have K1 : Keep h0 h1 [] := Keep.ext (Keep.refl h0 []) E1
  have Z1 : n0 ≤ h1.size := Nat.le_trans Z0 E1.1
  have V1 : Af Z h1 b1 .byte 3 (fun _ => defaultValue .byte) := Af.new A1 (by decide) rfl rfl
  refine own_go st1 ?_
  show Gm p e below T1 m 3 #[rv r0, iv (0 : Int32), iv (3 : Int32), .unset, .unset, .unset] [(.ref b1)] _
  refine own_go (fun t₀ k₀ => XS.astoreN X1.here hx rfl (Jvm.hb hby d18_3) rfl rfl (l' := #[rv r0, iv (0 : Int32), iv (3 : Int32), rv b1, .unset, .unset]) rfl k₀) ?_
  show Gm p e below T1 m 4 #[rv r0, iv (0 : Int32), iv (3 : Int32), rv b1, .unset, .unset] [] _
  refine own_go (fun t₀ k₀ => XS.aloadN X1.here hx rfl (Jvm.hb hby d18_4) rfl rfl k₀) ?_
  show Gm p e below T1 m 5 #[rv r0, iv (0 : Int32), iv (3 : Int32), rv b1, .unset, .unset] [(.ref r0)] _
  refine own_go (fun t₀ k₀ => XS.iloadN X1.here hx rfl (Jvm.hb hby d18_5) rfl k₀) ?_
  show Gm p e below T1 m 6 #[rv r0, iv (0 : Int32), iv (3 : Int32), rv b1, .unset, .unset] [(.int (0 : Int32)), (.ref r0)] _
  refine own_go (fun t₀ k₀ => XS.aloadN X1.here hx rfl (Jvm.hb hby d18_6) rfl rfl k₀) ?_
  show Gm p e below T1 m 7 #[rv r0, iv (0 : Int32), iv (3 : Int32), rv b1, .unset, .unset] [(.ref b1), (.int (0 : Int32)), (.ref r0)] _
  refine own_go (fun t₀ k₀ => XS.iconst X1.here hx rfl (Jvm.hb hby d18_7) k₀) ?_
  show Gm p e below T1 m 8 #[rv r0, iv (0 : Int32), iv (3 : Int32), rv b1, .unset, .unset] [(.int (0 : Int32)), (.ref b1), (.int (0 : Int32)), (.ref r0)] _
  refine own_go (fun t₀ k₀ => XS.iloadN X1.here hx rfl (Jvm.hb hby d18_8) rfl k₀) ?_
  show Gm p e below T1 m 9 #[rv r0, iv (0 : Int32), iv (3 : Int32), rv b1, .unset, .unset] [(.int (3 : Int32)), (.int (0 : Int32)), (.ref b1), (.int (0 : Int32)), (.ref r0)] _
  have f2 := (A.ext E1)
  obtain ⟨_, _, ⟨T3, L3, k3, n3⟩, -, X3, ⟨Lc3, hQ3, l3, y3, z3⟩, st3⟩ := Jvm.LawKit.callS X1 hx (y := (⟨"java/lang/StringUTF16", "compress", "([CI[BII)I"⟩ : MethodName)) hown (mvT hZ (hw _ (List.mem_of_getElem? (i := 110) rfl))) (mvT hZ (hw _ (List.mem_of_getElem? (i := 111) rfl))) (mvT hZ (hw _ (List.mem_of_getElem? (i := 108) rfl))) (mvT hZ (hw _ (List.mem_of_getElem? (i := 112) rfl))) (by decide) (backOf (W := 0) (rmK_3 l Z a0 hw [] r0 b1 f (fun _ => defaultValue .byte) c0 c1 c2 h1 n0 Z1 f2 V1 hf_0 hf_1 hf_2 hc_0 hc_1 hc_2 g_b1 ne_r0_b1) hZ (hw _ (List.mem_of_getElem? (i := 112) rfl)) (hw _ (List.mem_of_getElem? (i := 108) rfl)) (by decide) (by decide)) (g := (mkF m 9 #[rv r0, iv (0 : Int32), iv (3 : Int32), rv b1, .unset, .unset] [(.int (3 : Int32)), (.int (0 : Int32)), (.ref b1), (.int (0 : Int32)), (.ref r0)])) rfl (by rw [hml]; rfl) (argsL := [(.ref r0), (.int (0 : Int32)), (.ref b1), (.int (0 : Int32)), (.int (3 : Int32))]) (rest := []) (lenOf own_pd0 rfl) rfl (by show 2 * 0 + _ ≤ _; exact Nat.le_of_eq rfl) (Jvm.hb hby d18_9) (fun _ _ => ⟨rfl, e1, (by decide : 1 + 0 ≤ _), (by decide : 3 + 0 ≤ _)⟩)
  dsimp only [Pt.U, Pt.locs, Pt.cells, Pt.slots] at X3 l3 y3 z3 st3 hQ3
  subst l3 y3 z3
  obtain ⟨rfl, Nq3, Kc3, fk3, Ak3, hk3_0, hk3_1, hk3_2⟩ := hQ3
  have N3 := Fr.app N0 Nq3
  refine own_go st3 ?_
  have Z3 : n0 ≤ T3.heap.size := Nat.le_trans Z1 Kc3.1
  have K3 : Keep h0 T3.heap [] := Keep.trans K1 Kc3 (allS (Or.inr sz_b1) all0)
  show Gm p e below T3 m 12 #[rv r0, iv (0 : Int32), iv (3 : Int32), rv b1, .unset, .unset] [(.int (3 : Int32))] _
  refine own_go (fun t₀ k₀ => XS.istore X3.here hx rfl (Jvm.hb hby d18_12) rfl (l' := #[rv r0, iv (0 : Int32), iv (3 : Int32), rv b1, iv (3 : Int32), .unset]) rfl k₀) ?_
  show Gm p e below T3 m 14 #[rv r0, iv (0 : Int32), iv (3 : Int32), rv b1, iv (3 : Int32), .unset] [] _
  refine own_go (fun t₀ k₀ => XS.iload X3.here hx rfl (Jvm.hb hby d18_14) rfl k₀) ?_
  show Gm p e below T3 m 16 #[rv r0, iv (0 : Int32), iv (3 : Int32), rv b1, iv (3 : Int32), .unset] [(.int (3 : Int32))] _
  refine own_go (fun t₀ k₀ => XS.iloadN X3.here hx rfl (Jvm.hb hby d18_16) rfl k₀) ?_
  show Gm p e below T3 m 17 #[rv r0, iv (0 : Int32), iv (3 : Int32), rv b1, iv (3 : Int32), .unset] [(.int (3 : Int32)), (.int (3 : Int32))] _
  refine own_go (fun t₀ k₀ => XS.icmpYes X3.here hx rfl (pc0 := 17) (pc' := 57) rfl (Jvm.hb hby d18_17) rfl (XT.ii_eq_t (by decide)) (by decide) (by decide) k₀) ?_
  show Gm p e below T3 m 57 #[rv r0, iv (0 : Int32), iv (3 : Int32), rv b1, iv (3 : Int32), .unset] [] _
  refine own_go (fun t₀ k₀ => XS.aloadN X3.here hx rfl (Jvm.hb hby d18_57) rfl rfl k₀) ?_
  show Gm p e below T3 m 58 #[rv r0, iv (0 : Int32), iv (3 : Int32), rv b1, iv (3 : Int32), .unset] [(.ref b1)] _
  exact own_retA X3 hx hlk rfl Bd.returns rfl (Jvm.hb hby d18_58) rfl ⟨b1, fk3, rfl, N3, K3, sz_b1, Ak3, hk3_0, hk3_1, hk3_2⟩ (by decide) (by decide)
theorem own_pn_rmD_3 : plainName "java/lang/StringUTF16" = true := by first | (simp [plainName, overriddenIn]; done) | decide +kernel
theorem own_ef_rmD_3 (m : MethodId) (r0 : Addr) : entryFrame m #[(.ref r0), (.int (3 : Int32))] 2 = mkF m 0 #[.val (.ref r0), .val (.int (3 : Int32))] [] := by first | (simp [entryFrame, mkF, argsToLocals, Value.category]; done) | rfl
def QD_3 (Z : State) (r0 : Addr) (f : Nat → Value) (h0 : Heap) (n0 : Nat) (v : Option Value) (h : Heap) (L : List Loc) : Prop := v = some (.int (0 : Int32)) ∧ Fr n0 L ∧ h = h0
set_option maxRecDepth 65536 in
set_option maxHeartbeats 40000000 in
theorem rmD_3 (l : Launch) (Z : State) (a0 : Array Value) (hw : ∀ d ∈ tables_1, d.before a0 Z = true) (ws : List Jvm.Cond) (r0 : Addr) (f : Nat → Value) (h0 : Heap) (n0 : Nat) (Z0 : n0 ≤ h0.size) (A : Af Z h0 r0 .byte 3 f) :
    MetFree l (⟨"java/lang/StringUTF16", "coderFromArrayLen", "([BI)B"⟩ : MethodName) (head1 (Jvm.Cond.code (⟨"java/lang/StringUTF16", "coderFromArrayLen", "([BI)B"⟩ : MethodName) jdk_52_method_15_code 2 (some .byte) :: ws) ({ frames := 0, cells := 0, slots := 0, locals := 0 } : Room)) (fun a U => a = #[(.ref r0), (.int (3 : Int32))] ∧ Z.Warmed39 U.vm ∧ U.heap = h0) (fun _ _ _ _ _ => True) (fun _ U o U' => ∃ v L, o = .returned v ∧ QD_3 Z r0 f h0 n0 v U'.heap L ∧ FrameEnd U o U' L ({ frames := 0, cells := 0, slots := 0, locals := 0 } : Room).cells ({ frames := 0, cells := 0, slots := 0, locals := 0 } : Room).slots) := by
  refine MetFree.of_bodySF (plainFor_of_name own_pn_rmD_3) hisR ?_
  intro p e s m args below meth cO s₁ Bd hml0 hP hK
  obtain ⟨rfl, hZ, hh⟩ := hP
  have hx := Bd.exec
  have hby := Bd.bytes
  have hml : cO.maxLocals = 2 := hml0
  have hown : s.vm.findClass "java/lang/StringUTF16" = some m.cls := findClass_of_methodNamed Bd.named
  have hnm := (name_of_methodNamed Bd.named Bd.method).1
  have hlk : meth.locks = false := BodyLoose.notSynchronized Bd
  have X0 : Stand p l e ({ frames := 0, cells := 0, slots := 0, locals := 0 } : Room) s m #[(.ref r0), (.int (3 : Int32))] below meth cO s₁ [] 0 0 := Stand.of_body Bd
  have e0 : s₁.heap = h0 := by rw [← hh, Bd.state]; rfl
  have N0 := Fr.nil n0
  refine own_in (own_ef_rmD_3 m r0) ?_
  show Gm p e below s₁ m 0 #[rv r0, iv (3 : Int32)] [] _
  refine own_go (fun t₀ k₀ => XS.iloadN X0.here hx rfl (Jvm.hb hby d20_0) rfl k₀) ?_
  show Gm p e below s₁ m 1 #[rv r0, iv (3 : Int32)] [(.int (3 : Int32))] _
  refine own_go (fun t₀ k₀ => XS.aloadN X0.here hx rfl (Jvm.hb hby d20_1) rfl rfl k₀) ?_
  show Gm p e below s₁ m 2 #[rv r0, iv (3 : Int32)] [(.ref r0), (.int (3 : Int32))] _
  refine own_go (fun t₀ k₀ => own_len X0 hx hZ e0 A (z := (3 : Int32)) rfl (g := (mkF m 2 #[rv r0, iv (3 : Int32)] [(.ref r0), (.int (3 : Int32))])) rfl rfl (Jvm.hb hby d20_2) k₀) ?_
  show Gm p e below s₁ m 3 #[rv r0, iv (3 : Int32)] [(.int (3 : Int32)), (.int (3 : Int32))] _
  refine own_go (fun t₀ k₀ => XS.isub X0.here hx rfl (Jvm.hb hby d20_3) rfl k₀) ?_
  show Gm p e below s₁ m 4 #[rv r0, iv (3 : Int32)] [(.int (0 : Int32))] _
  refine own_go (fun t₀ k₀ => XS.bipush X0.here hx rfl (Jvm.hb hby d20_4) k₀) ?_
  show Gm p e below s₁ m 6 #[rv r0, iv (3 : Int32)] [(.int (31 : Int32)), (.int (0 : Int32))] _
  refine own_go (fun t₀ k₀ => XS.iushr X0.here hx rfl (Jvm.hb hby d20_6) rfl k₀) ?_
  show Gm p e below s₁ m 7 #[rv r0, iv (3 : Int32)] [(.int (((0 : Int32).toUInt32 >>> ((31 : Int32) &&& 31).toUInt32).toInt32))] _
  refine own_go (fun t₀ k₀ => XS.i2b X0.here hx rfl (Jvm.hb hby d20_7) rfl k₀) ?_
  show Gm p e below s₁ m 8 #[rv r0, iv (3 : Int32)] [(.int ((((0 : Int32).toUInt32 >>> ((31 : Int32) &&& 31).toUInt32).toInt32).toInt8.toInt32))] _
  exact own_retI X0 hx hlk (t := .byte) Bd.returns (by decide +kernel) (by simp) (Jvm.hb hby d20_8) e0 ⟨(by decide +kernel), N0, rfl⟩ (by decide) (by decide)
theorem own_pn_rmV_3 : plainName "java/lang/String" = true := by first | (simp [plainName, overriddenIn]; done) | decide +kernel
theorem own_ef_rmV_3 (m : MethodId) (r0 : Addr) (r1 : Addr) : entryFrame m #[(.ref r0), (.ref r1), (.int (0 : Int32)), (.int (3 : Int32)), .null] 6 = mkF m 0 #[.val (.ref r0), .val (.ref r1), .val (.int (0 : Int32)), .val (.int (3 : Int32)), .val .null, .unset] [] := by first | (simp [entryFrame, mkF, argsToLocals, Value.category]; done) | rfl
def QV_3 (Z : State) (r0 : Addr) (r1 : Addr) (f : Nat → Value) (c0 : Int32) (c1 : Int32) (c2 : Int32) (cs : Int32) (h0 : Heap) (n0 : Nat) (v : Option Value) (h : Heap) (L : List Loc) : Prop := ∃ (b : Addr) (f' : Nat → Value), v = none ∧ Fr n0 L ∧ Keep h0 h [r0] ∧ Exa Z h r0 "java/lang/String" ∧ Fld Z h r0 "java/lang/String" "coder" "B" (.int (0 : Int32)) ∧ Fld Z h r0 "java/lang/String" "value" "[B" (.ref b) ∧ Af Z h b .byte 3 f' ∧ f' 0 = .int (own_by c0) ∧ f' 1 = .int (own_by c1) ∧ f' 2 = .int (own_by c2)
set_option maxRecDepth 65536 in
set_option maxHeartbeats 40000000 in
theorem rmV_3 (l : Launch) (Z : State) (a0 : Array Value) (hw : ∀ d ∈ tables_1, d.before a0 Z = true) (ws : List Jvm.Cond) (r0 : Addr) (r1 : Addr) (f : Nat → Value) (c0 : Int32) (c1 : Int32) (c2 : Int32) (cs : Int32) (h0 : Heap) (n0 : Nat) (Z0 : n0 ≤ h0.size) (E_r0 : Exa Z h0 r0 "java/lang/String") (F_v : Fld Z h0 r0 "java/lang/String" "value" "[B" .null) (F_c : Fld Z h0 r0 "java/lang/String" "coder" "B" (.int (0 : Int32))) (A : Af Z h0 r1 .char 3 f) (hf_0 : f 0 = .int c0) (hf_1 : f 1 = .int c1) (hf_2 : f 2 = .int c2) (hc_0 : ¬ (255 : Int32) < c0) (hc_1 : ¬ (255 : Int32) < c1) (hc_2 : ¬ (255 : Int32) < c2) (S_c : Sta Z h0 "java/lang/String" "COMPACT_STRINGS" "Z" (.int cs)) (hcs : ¬ cs = 0) (g_r0 : n0 ≤ r0) :
    MetFree l (⟨"java/lang/String", "<init>", "([CIILjava/lang/Void;)V"⟩ : MethodName) (head1 (Jvm.Cond.code (⟨"java/lang/String", "<init>", "([CIILjava/lang/Void;)V"⟩ : MethodName) jdk_42_method_149_code 6 none :: ws) ({ frames := 2, cells := 1, slots := 3, locals := 35 } : Room)) (fun a U => a = #[(.ref r0), (.ref r1), (.int (0 : Int32)), (.int (3 : Int32)), .null] ∧ Z.Warmed39 U.vm ∧ U.heap = h0) (fun _ _ _ _ _ => True) (fun _ U o U' => ∃ v L, o = .returned v ∧ QV_3 Z r0 r1 f c0 c1 c2 cs h0 n0 v U'.heap L ∧ FrameEnd U o U' L ({ frames := 2, cells := 1, slots := 3, locals := 35 } : Room).cells ({ frames := 2, cells := 1, slots := 3, locals := 35 } : Room).slots) := by
  refine MetFree.of_bodySF (plainFor_of_name own_pn_rmV_3) hisR ?_
  intro p e s m args below meth cO s₁ Bd hml0 hP hK
  obtain ⟨rfl, hZ, hh⟩ := hP
  have hx := Bd.exec
  have hby := Bd.bytes
  have hml : cO.maxLocals = 6 := hml0
  have hown : s.vm.findClass "java/lang/String" = some m.cls := findClass_of_methodNamed Bd.named
  have hnm := (name_of_methodNamed Bd.named Bd.method).1
  have hlk : meth.locks = false := BodyLoose.notSynchronized Bd
  have X0 : Stand p l e ({ frames := 2, cells := 1, slots := 3, locals := 35 } : Room) s m #[(.ref r0), (.ref r1), (.int (0 : Int32)), (.int (3 : Int32)), .null] below meth cO s₁ [] 0 0 := Stand.of_body Bd
  have e0 : s₁.heap = h0 := by rw [← hh, Bd.state]; rfl
  have N0 := Fr.nil n0
  refine own_in (own_ef_rmV_3 m r0 r1) ?_
  show Gm p e below s₁ m 0 #[rv r0, rv r1, iv (0 : Int32), iv (3 : Int32), .val .null, .unset] [] _
  refine own_go (fun t₀ k₀ => XS.aloadN X0.here hx rfl (Jvm.hb hby d3_0) rfl rfl k₀) ?_
  show Gm p e below s₁ m 1 #[rv r0, rv r1, iv (0 : Int32), iv (3 : Int32), .val .null, .unset] [(.ref r0)] _
  obtain ⟨T1, X1, e1, st1⟩ := initO X0 hx hZ hown (hw _ (List.mem_of_getElem? (i := 16) rfl)) (hw _ (List.mem_of_getElem? (i := 17) rfl)) (hw _ (List.mem_of_getElem? (i := 18) rfl)) e0 (g := (mkF m 1 #[rv r0, rv r1, iv (0 : Int32), iv (3 : Int32), .val .null, .unset] [(.ref r0)])) rfl (by rw [hml]; rfl) rfl (Jvm.hb hby d3_1) (by decide) (W := 0) (by show 2 * 0 + _ ≤ _; exact Nat.le_of_eq rfl) (by decide)
  refine own_go st1 ?_
  show Gm p e below T1 m 4 #[rv r0, rv r1, iv (0 : Int32), iv (3 : Int32), .val .null, .unset] [] _
  refine own_go (fun t₀ k₀ => XS.iloadN X1.here hx rfl (Jvm.hb hby d3_4) rfl k₀) ?_
  show Gm p e below T1 m 5 #[rv r0, rv r1, iv (0 : Int32), iv (3 : Int32), .val .null, .unset] [(.int (3 : Int32))] _
  refine own_go (fun t₀ k₀ => XS.ifYes X1.here hx rfl (pc0 := 5) (pc' := 27) rfl (Jvm.hb hby d3_5) rfl (XT.i0_ne_t (by decide)) (by decide) (by decide) k₀) ?_
  show Gm p e below T1 m 27 #[rv r0, rv r1, iv (0 : Int32), iv (3 : Int32), .val .null, .unset] [] _
  obtain ⟨T2, X2, e2, st2⟩ := getS2 X1 hx hZ hown (host := "") (Or.inl (hw _ (List.mem_of_getElem? (i := 64) rfl))) Via.refl e1 S_c (g := (mkF m 27 #[rv r0, rv r1, iv (0 : Int32), iv (3 : Int32), .val .null, .unset] [])) rfl (Jvm.hb hby d3_27)
  refine own_go st2 ?_
  show Gm p e below T2 m 30 #[rv r0, rv r1, iv (0 : Int32), iv (3 : Int32), .val .null, .unset] [(.int cs)] _
  refine own_go (fun t₀ k₀ => XS.ifNo X2.here hx rfl (Jvm.hb hby d3_30) rfl (XT.i0_eq_f hcs) k₀) ?_
  show Gm p e below T2 m 33 #[rv r0, rv r1, iv (0 : Int32), iv (3 : Int32), .val .null, .unset] [] _
  refine own_go (fun t₀ k₀ => XS.aloadN X2.here hx rfl (Jvm.hb hby d3_33) rfl rfl k₀) ?_
  show Gm p e below T2 m 34 #[rv r0, rv r1, iv (0 : Int32), iv (3 : Int32), .val .null, .unset] [(.ref r1)] _
  refine own_go (fun t₀ k₀ => XS.iloadN X2.here hx rfl (Jvm.hb hby d3_34) rfl k₀) ?_
  show Gm p e below T2 m 35 #[rv r0, rv r1, iv (0 : Int32), iv (3 : Int32), .val .null, .unset] [(.int (0 : Int32)), (.ref r1)] _
  refine own_go (fun t₀ k₀ => XS.iloadN X2.here hx rfl (Jvm.hb hby d3_35) rfl k₀) ?_
  show Gm p e below T2 m 36 #[rv r0, rv r1, iv (0 : Int32), iv (3 : Int32), .val .null, .unset] [(.int (3 : Int32)), (.int (0 : Int32)), (.ref r1)] _
  obtain ⟨_, _, ⟨T3, L3, k3, n3⟩, -, X3, ⟨Lc3, hQ3, l3, y3, z3⟩, st3⟩ := Jvm.LawKit.callS X2 hx (y := (⟨"java/lang/StringUTF16", "compress", "([CII)[B"⟩ : MethodName)) hown (mvT hZ (hw _ (List.mem_of_getElem? (i := 106) rfl))) (mvT hZ (hw _ (List.mem_of_getElem? (i := 107) rfl))) (mvT hZ (hw _ (List.mem_of_getElem? (i := 108) rfl))) (mvT hZ (hw _ (List.mem_of_getElem? (i := 109) rfl))) (by decide) (backOf (W := 0) (rmP_3 l Z a0 hw [] r1 f c0 c1 c2 h0 n0 Z0 A hf_0 hf_1 hf_2 hc_0 hc_1 hc_2) hZ (hw _ (List.mem_of_getElem? (i := 109) rfl)) (hw _ (List.mem_of_getElem? (i := 108) rfl)) (by decide) (by decide)) (g := (mkF m 36 #[rv r0, rv r1, iv (0 : Int32), iv (3 : Int32), .val .null, .unset] [(.int (3 : Int32)), (.int (0 : Int32)), (.ref r1)])) rfl (by rw [hml]; rfl) (argsL := [(.ref r1), (.int (0 : Int32)), (.int (3 : Int32))]) (rest := []) (lenOf own_pd1 rfl) rfl (by show 2 * 0 + _ ≤ _; exact Nat.le_of_eq rfl) (Jvm.hb hby d3_36) (fun _ _ => ⟨rfl, e2, (by decide : 0 + 1 ≤ _), (by decide : 0 + 3 ≤ _)⟩)
  dsimp only [Pt.U, Pt.locs, Pt.cells, Pt.slots] at X3 l3 y3 z3 st3 hQ3
  subst l3 y3 z3
  obtain ⟨bp3, fp3, rfl, Nq3, Kc3, sz3, Ap3, hp3_0, hp3_1, hp3_2⟩ := hQ3
  have N3 := Fr.app N0 Nq3
  refine own_go st3 ?_
  have g_bp3 : n0 ≤ bp3 := Nat.le_trans Z0 sz3
  have Z3 : n0 ≤ T3.heap.size := Nat.le_trans Z0 Kc3.1
  have K3 : Keep h0 T3.heap [r0] := Keep.trans (Keep.refl h0 [r0]) Kc3 all0
  have sz_bp3 : h0.size ≤ bp3 := Nat.le_trans (Keep.refl h0 [r0]).1 sz3
  show Gm p e below T3 m 39 #[rv r0, rv r1, iv (0 : Int32), iv (3 : Int32), .val .null, .unset] [(.ref bp3)] _
  refine own_go (fun t₀ k₀ => XS.astore X3.here hx rfl (Jvm.hb hby d3_39) rfl rfl (l' := #[rv r0, rv r1, iv (0 : Int32), iv (3 : Int32), .val .null, rv bp3]) rfl k₀) ?_
  show Gm p e below T3 m 41 #[rv r0, rv r1, iv (0 : Int32), iv (3 : Int32), .val .null, rv bp3] [] _
  refine own_go (fun t₀ k₀ => XS.aloadN X3.here hx rfl (Jvm.hb hby d3_41) rfl rfl k₀) ?_
  show Gm p e below T3 m 42 #[rv r0, rv r1, iv (0 : Int32), iv (3 : Int32), .val .null, rv bp3] [(.ref r0)] _
  refine own_go (fun t₀ k₀ => XS.aload X3.here hx rfl (Jvm.hb hby d3_42) rfl rfl k₀) ?_
  show Gm p e below T3 m 44 #[rv r0, rv r1, iv (0 : Int32), iv (3 : Int32), .val .null, rv bp3] [(.ref bp3), (.ref r0)] _
  refine own_go (fun t₀ k₀ => XS.iloadN X3.here hx rfl (Jvm.hb hby d3_44) rfl k₀) ?_
  show Gm p e below T3 m 45 #[rv r0, rv r1, iv (0 : Int32), iv (3 : Int32), .val .null, rv bp3] [(.int (3 : Int32)), (.ref bp3), (.ref r0)] _
  obtain ⟨_, _, ⟨T4, L4, k4, n4⟩, -, X4, ⟨Lc4, hQ4, l4, y4, z4⟩, st4⟩ := Jvm.LawKit.callS X3 hx (y := (⟨"java/lang/StringUTF16", "coderFromArrayLen", "([BI)B"⟩ : MethodName)) hown (mvT hZ (hw _ (List.mem_of_getElem? (i := 113) rfl))) (mvT hZ (hw _ (List.mem_of_getElem? (i := 114) rfl))) (mvT hZ (hw _ (List.mem_of_getElem? (i := 108) rfl))) (mvT hZ (hw _ (List.mem_of_getElem? (i := 115) rfl))) (by decide) (backOf (W := 1) (rmD_3 l Z a0 hw [] bp3 fp3 T3.heap n0 Z3 Ap3) hZ (hw _ (List.mem_of_getElem? (i := 115) rfl)) (hw _ (List.mem_of_getElem? (i := 108) rfl)) (by decide) (by decide)) (g := (mkF m 45 #[rv r0, rv r1, iv (0 : Int32), iv (3 : Int32), .val .null, rv bp3] [(.int (3 : Int32)), (.ref bp3), (.ref r0)])) rfl (by rw [hml]; rfl) (argsL := [(.ref bp3), (.int (3 : Int32))]) (rest := [(.ref r0)]) (lenOf own_pd2 rfl) rfl (by show 2 * 0 + _ ≤ _; exact Nat.le_of_eq rfl) (Jvm.hb hby d3_45) (fun _ _ => ⟨rfl, rfl, (by decide : 1 + 0 ≤ _), (by decide : 3 + 0 ≤ _)⟩)
  dsimp only [Pt.U, Pt.locs, Pt.cells, Pt.slots] at X4 l4 y4 z4 st4 hQ4
  subst l4 y4 z4
  obtain ⟨rfl, Nq4, eq4⟩ := hQ4
  have N4 := Fr.app N3 Nq4
  have e4 : T4.heap = T3.heap := eq4
  refine own_go st4 ?_
  show Gm p e below T4 m 48 #[rv r0, rv r1, iv (0 : Int32), iv (3 : Int32), .val .null, rv bp3] [(.int (0 : Int32)), (.ref r0)] _
  have f5 := (E_r0.keep Kc3)
  have f6 := (F_c.keep Kc3 nin0)
  obtain ⟨T7, h7, X7, e7, W7, st7⟩ := putFN X4 hx hZ hown (hw _ (List.mem_of_getElem? (i := 26) rfl)) Via.refl e4 f6 f5 (Or.inr ⟨(hw _ (List.mem_of_getElem? (i := 22) rfl)), rfl, hnm⟩) (hw _ (List.mem_of_getElem? (i := 6) rfl)) (ty := .byte) (v' := (.int (0 : Int32))) (by decide) rfl rfl (g := (mkF m 48 #[rv r0, rv r1, iv (0 : Int32), iv (3 : Int32), .val .null, rv bp3] [(.int (0 : Int32)), (.ref r0)])) rfl rfl (Jvm.hb hby d3_48)
  have Fw7 := Fld.same W7 f6
  have N7 := Fr.snoc X7 N4 g_r0
  have Z7 : n0 ≤ h7.size := W7.size ▸ Z3
  have K7 : Keep h0 h7 [r0] := Keep.wr K3 W7 (Or.inl (List.mem_of_getElem? (i := 0) rfl))
  refine own_go st7 ?_
  show Gm p e below T7 m 51 #[rv r0, rv r1, iv (0 : Int32), iv (3 : Int32), .val .null, rv bp3] [] _
  refine own_go (fun t₀ k₀ => XS.aloadN X7.here hx rfl (Jvm.hb hby d3_51) rfl rfl k₀) ?_
  show Gm p e below T7 m 52 #[rv r0, rv r1, iv (0 : Int32), iv (3 : Int32), .val .null, rv bp3] [(.ref r0)] _
  refine own_go (fun t₀ k₀ => XS.aload X7.here hx rfl (Jvm.hb hby d3_52) rfl rfl k₀) ?_
  show Gm p e below T7 m 54 #[rv r0, rv r1, iv (0 : Int32), iv (3 : Int32), .val .null, rv bp3] [(.ref bp3), (.ref r0)] _
  have f8 := (f5.wr W7)
  have f9 := (Fld.other W7 (F_v.keep Kc3 nin0) (Or.inr (slot_ne (Or.inr (hw _ (List.mem_of_getElem? (i := 21) rfl))) (Or.inr (hw _ (List.mem_of_getElem? (i := 22) rfl))) (by decide) (t := (.array .byte)) (t' := .byte) (by decide) (by decide))))
  obtain ⟨T10, h10, X10, e10, W10, st10⟩ := putF X7 hx hZ hown (host := "") (Or.inl (hw _ (List.mem_of_getElem? (i := 25) rfl))) Via.refl e7 f9 f8 (Or.inr ⟨(hw _ (List.mem_of_getElem? (i := 21) rfl)), rfl, hnm⟩) (hw _ (List.mem_of_getElem? (i := 6) rfl)) (ty := (.array .byte)) (by decide) rfl rfl (g := (mkF m 54 #[rv r0, rv r1, iv (0 : Int32), iv (3 : Int32), .val .null, rv bp3] [(.ref bp3), (.ref r0)])) rfl rfl (Jvm.hb hby d3_54)
  have Fw10 := Fld.same W10 f9
  have N10 := Fr.snoc X10 N7 g_r0
  have Z10 : n0 ≤ h10.size := W10.size ▸ Z7
  have K10 : Keep h0 h10 [r0] := Keep.wr K7 W10 (Or.inl (List.mem_of_getElem? (i := 0) rfl))
  refine own_go st10 ?_
  show Gm p e below T10 m 57 #[rv r0, rv r1, iv (0 : Int32), iv (3 : Int32), .val .null, rv bp3] [] _
  have f11 := ((Ap3.other W7 (Ne.symm (Nat.ne_of_lt (Nat.lt_of_lt_of_le E_r0.lt sz3)))).other W10 (Ne.symm (Nat.ne_of_lt (Nat.lt_of_lt_of_le E_r0.lt sz3))))
  have f12 := (f8.wr W10)
  have f13 := (Fld.other W10 Fw7 (Or.inr (slot_ne (Or.inr (hw _ (List.mem_of_getElem? (i := 22) rfl))) (Or.inr (hw _ (List.mem_of_getElem? (i := 21) rfl))) (by decide) (t := .byte) (t' := (.array .byte)) (by decide) (by decide))))
  exact own_retV X10 hx hlk Bd.returns (Jvm.hb hby d3_57) e10 ⟨bp3, fp3, rfl, N10, K10, f12, f13, Fw10, f11, hp3_0, hp3_1, hp3_2⟩ (by decide) (by decide)
theorem own_pn_rmC_3 : plainName "java/lang/String" = true := by first | (simp [plainName, overriddenIn]; done) | decide +kernel
theorem own_ef_rmC_3 (m : MethodId) (r0 : Addr) (r1 : Addr) : entryFrame m #[(.ref r0), (.ref r1)] 2 = mkF m 0 #[.val (.ref r0), .val (.ref r1)] [] := by first | (simp [entryFrame, mkF, argsToLocals, Value.category]; done) | rfl
def QC_3 (Z : State) (r0 : Addr) (r1 : Addr) (f : Nat → Value) (c0 : Int32) (c1 : Int32) (c2 : Int32) (cs : Int32) (h0 : Heap) (n0 : Nat) (v : Option Value) (h : Heap) (L : List Loc) : Prop := ∃ (b : Addr) (f' : Nat → Value), v = none ∧ Fr n0 L ∧ Keep h0 h [r0] ∧ Exa Z h r0 "java/lang/String" ∧ Fld Z h r0 "java/lang/String" "coder" "B" (.int (0 : Int32)) ∧ Fld Z h r0 "java/lang/String" "value" "[B" (.ref b) ∧ Af Z h b .byte 3 f' ∧ f' 0 = .int (own_by c0) ∧ f' 1 = .int (own_by c1) ∧ f' 2 = .int (own_by c2)
set_option maxRecDepth 65536 in
set_option maxHeartbeats 40000000 in
theorem rmC_3 (l : Launch) (Z : State) (a0 : Array Value) (hw : ∀ d ∈ tables_1, d.before a0 Z = true) (ws : List Jvm.Cond) (r0 : Addr) (r1 : Addr) (f : Nat → Value) (c0 : Int32) (c1 : Int32) (c2 : Int32) (cs : Int32) (h0 : Heap) (n0 : Nat) (Z0 : n0 ≤ h0.size) (E_r0 : Exa Z h0 r0 "java/lang/String") (F_v : Fld Z h0 r0 "java/lang/String" "value" "[B" .null) (F_c : Fld Z h0 r0 "java/lang/String" "coder" "B" (.int (0 : Int32))) (A : Af Z h0 r1 .char 3 f) (hf_0 : f 0 = .int c0) (hf_1 : f 1 = .int c1) (hf_2 : f 2 = .int c2) (hc_0 : ¬ (255 : Int32) < c0) (hc_1 : ¬ (255 : Int32) < c1) (hc_2 : ¬ (255 : Int32) < c2) (S_c : Sta Z h0 "java/lang/String" "COMPACT_STRINGS" "Z" (.int cs)) (hcs : ¬ cs = 0) (g_r0 : n0 ≤ r0) :
    MetFree l (⟨"java/lang/String", "<init>", "([C)V"⟩ : MethodName) (head1 (Jvm.Cond.code (⟨"java/lang/String", "<init>", "([C)V"⟩ : MethodName) jdk_42_method_3_code 2 none :: ws) ({ frames := 3, cells := 1, slots := 3, locals := 52 } : Room)) (fun a U => a = #[(.ref r0), (.ref r1)] ∧ Z.Warmed39 U.vm ∧ U.heap = h0) (fun _ _ _ _ _ => True) (fun _ U o U' => ∃ v L, o = .returned v ∧ QC_3 Z r0 r1 f c0 c1 c2 cs h0 n0 v U'.heap L ∧ FrameEnd U o U' L ({ frames := 3, cells := 1, slots := 3, locals := 52 } : Room).cells ({ frames := 3, cells := 1, slots := 3, locals := 52 } : Room).slots) := by
  refine MetFree.of_bodySF (plainFor_of_name own_pn_rmC_3) hisR ?_
  intro p e s m args below meth cO s₁ Bd hml0 hP hK
  obtain ⟨rfl, hZ, hh⟩ := hP
  have hx := Bd.exec
  have hby := Bd.bytes
  have hml : cO.maxLocals = 2 := hml0
  have hown : s.vm.findClass "java/lang/String" = some m.cls := findClass_of_methodNamed Bd.named
  have hnm := (name_of_methodNamed Bd.named Bd.method).1
  have hlk : meth.locks = false := BodyLoose.notSynchronized Bd
  have X0 : Stand p l e ({ frames := 3, cells := 1, slots := 3, locals := 52 } : Room) s m #[(.ref r0), (.ref r1)] below meth cO s₁ [] 0 0 := Stand.of_body Bd
  have e0 : s₁.heap = h0 := by rw [← hh, Bd.state]; rfl
  have N0 := Fr.nil n0
  refine own_in (own_ef_rmC_3 m r0 r1) ?_
  show Gm p e below s₁ m 0 #[rv r0, rv r1] [] _
  refine own_go (fun t₀ k₀ => XS.aloadN X0.here hx rfl (Jvm.hb hby d2_0) rfl rfl k₀) ?_
  show Gm p e below s₁ m 1 #[rv r0, rv r1] [(.ref r0)] _
  refine own_go (fun t₀ k₀ => XS.aloadN X0.here hx rfl (Jvm.hb hby d2_1) rfl rfl k₀) ?_
  show Gm p e below s₁ m 2 #[rv r0, rv r1] [(.ref r1), (.ref r0)] _
  refine own_go (fun t₀ k₀ => XS.iconst X0.here hx rfl (Jvm.hb hby d2_2) k₀) ?_
  show Gm p e below s₁ m 3 #[rv r0, rv r1] [(.int (0 : Int32)), (.ref r1), (.ref r0)] _
  refine own_go (fun t₀ k₀ => XS.aloadN X0.here hx rfl (Jvm.hb hby d2_3) rfl rfl k₀) ?_
  show Gm p e below s₁ m 4 #[rv r0, rv r1] [(.ref r1), (.int (0 : Int32)), (.ref r1), (.ref r0)] _
  refine own_go (fun t₀ k₀ => own_len X0 hx hZ e0 A (z := (3 : Int32)) rfl (g := (mkF m 4 #[rv r0, rv r1] [(.ref r1), (.int (0 : Int32)), (.ref r1), (.ref r0)])) rfl rfl (Jvm.hb hby d2_4) k₀) ?_
  show Gm p e below s₁ m 5 #[rv r0, rv r1] [(.int (3 : Int32)), (.int (0 : Int32)), (.ref r1), (.ref r0)] _
  refine own_go (fun t₀ k₀ => XS.aconstNull X0.here hx rfl (Jvm.hb hby d2_5) k₀) ?_
  show Gm p e below s₁ m 6 #[rv r0, rv r1] [.null, (.int (3 : Int32)), (.int (0 : Int32)), (.ref r1), (.ref r0)] _
  obtain ⟨_, _, ⟨T1, L1, k1, n1⟩, -, X1, ⟨Lc1, hQ1, l1, y1, z1⟩, st1⟩ := X0.specialBack hx (y := (⟨"java/lang/String", "<init>", "([CIILjava/lang/Void;)V"⟩ : MethodName)) rfl hown (mvT hZ (hw _ (List.mem_of_getElem? (i := 12) rfl))) (mvT hZ (hw _ (List.mem_of_getElem? (i := 13) rfl))) (mvT hZ (hw _ (List.mem_of_getElem? (i := 15) rfl))) (by decide) (backOf (W := 0) (rmV_3 l Z a0 hw [] r0 r1 f c0 c1 c2 cs h0 n0 Z0 E_r0 F_v F_c A hf_0 hf_1 hf_2 hc_0 hc_1 hc_2 S_c hcs g_r0) hZ (hw _ (List.mem_of_getElem? (i := 15) rfl)) (hw _ (List.mem_of_getElem? (i := 7) rfl)) (by decide) (by decide)) (g := (mkF m 6 #[rv r0, rv r1] [.null, (.int (3 : Int32)), (.int (0 : Int32)), (.ref r1), (.ref r0)])) rfl (by rw [hml]; rfl) (Steps.refl _) (a := r0) (argsL := [(.ref r1), (.int (0 : Int32)), (.int (3 : Int32)), .null]) (rest := []) (lenOf own_pd3 rfl) rfl (by show 2 * 0 + _ ≤ _; exact Nat.le_of_eq rfl) (Jvm.hb hby d2_6) (fun _ _ => ⟨rfl, e0, (by decide : 0 + 1 ≤ _), (by decide : 0 + 3 ≤ _)⟩)
  dsimp only [Pt.U, Pt.locs, Pt.cells, Pt.slots] at X1 l1 y1 z1 st1 hQ1
  subst l1 y1 z1
  obtain ⟨bq1, fq1, rfl, Nq1, Kc1, Ec1, Fc1, Fv1, Aq1, hq1_0, hq1_1, hq1_2⟩ := hQ1
  have N1 := Fr.app N0 Nq1
  refine own_go (fun t k => st1.trans k) ?_
  have Z1 : n0 ≤ T1.heap.size := Nat.le_trans Z0 Kc1.1
  have K1 : Keep h0 T1.heap [r0] := Keep.trans (Keep.refl h0 [r0]) Kc1 (allS (Or.inl (List.mem_of_getElem? (i := 0) rfl)) all0)
  show Gm p e below T1 m 9 #[rv r0, rv r1] [] _
  exact own_retV X1 hx hlk Bd.returns (Jvm.hb hby d2_9) rfl ⟨bq1, fq1, rfl, N1, K1, Ec1, Fc1, Fv1, Aq1, hq1_0, hq1_1, hq1_2⟩ (by decide) (by decide)
theorem own_pn_rmK_4 : plainName "java/lang/StringUTF16" = true := by first | (simp [plainName, overriddenIn]; done) | decide +kernel
theorem own_ef_rmK_4 (m : MethodId) (r0 : Addr) (r2 : Addr) : entryFrame m #[(.ref r0), (.int (0 : Int32)), (.ref r2), (.int (0 : Int32)), (.int (4 : Int32))] 7 = mkF m 0 #[.val (.ref r0), .val (.int (0 : Int32)), .val (.ref r2), .val (.int (0 : Int32)), .val (.int (4 : Int32)), .unset, .unset] [] := by first | (simp [entryFrame, mkF, argsToLocals, Value.category]; done) | rfl
def QK_4 (Z : State) (r0 : Addr) (r2 : Addr) (f : Nat → Value) (g : Nat → Value) (c0 : Int32) (c1 : Int32) (c2 : Int32) (c3 : Int32) (h0 : Heap) (n0 : Nat) (v : Option Value) (h : Heap) (L : List Loc) : Prop := v = some (.int (4 : Int32)) ∧ Fr n0 L ∧ Keep h0 h [r2] ∧ ∃ f' : Nat → Value, Af Z h r2 .byte 4 f' ∧ f' 0 = .int (own_by c0) ∧ f' 1 = .int (own_by c1) ∧ f' 2 = .int (own_by c2) ∧ f' 3 = .int (own_by c3)
set_option maxRecDepth 65536 in
set_option maxHeartbeats 40000000 in
theorem rmK_4 (l : Launch) (Z : State) (a0 : Array Value) (hw : ∀ d ∈ tables_1, d.before a0 Z = true) (ws : List Jvm.Cond) (r0 : Addr) (r2 : Addr) (f : Nat → Value) (g : Nat → Value) (c0 : Int32) (c1 : Int32) (c2 : Int32) (c3 : Int32) (h0 : Heap) (n0 : Nat) (Z0 : n0 ≤ h0.size) (A : Af Z h0 r0 .char 4 f) (B : Af Z h0 r2 .byte 4 g) (hf_0 : f 0 = .int c0) (hf_1 : f 1 = .int c1) (hf_2 : f 2 = .int c2) (hf_3 : f 3 = .int c3) (hc_0 : ¬ (255 : Int32) < c0) (hc_1 : ¬ (255 : Int32) < c1) (hc_2 : ¬ (255 : Int32) < c2) (hc_3 : ¬ (255 : Int32) < c3) (g_r2 : n0 ≤ r2) (ne : r0 ≠ r2) :
    MetFree l (⟨"java/lang/StringUTF16", "compress", "([CI[BII)I"⟩ : MethodName) (head1 (Jvm.Cond.code (⟨"java/lang/StringUTF16", "compress", "([CI[BII)I"⟩ : MethodName) jdk_52_method_21_code 7 (some .int) :: ws) ({ frames := 0, cells := 0, slots := 0, locals := 0 } : Room)) (fun a U => a = #[(.ref r0), (.int (0 : Int32)), (.ref r2), (.int (0 : Int32)), (.int (4 : Int32))] ∧ Z.Warmed39 U.vm ∧ U.heap = h0) (fun _ _ _ _ _ => True) (fun _ U o U' => ∃ v L, o = .returned v ∧ QK_4 Z r0 r2 f g c0 c1 c2 c3 h0 n0 v U'.heap L ∧ FrameEnd U o U' L ({ frames := 0, cells := 0, slots := 0, locals := 0 } : Room).cells ({ frames := 0, cells := 0, slots := 0, locals := 0 } : Room).slots) := by
  refine MetFree.of_bodySF (plainFor_of_name own_pn_rmK_4) hisR ?_
  intro p e s m args below meth cO s₁ Bd hml0 hP hK
  obtain ⟨rfl, hZ, hh⟩ := hP
  have hx := Bd.exec
  have hby := Bd.bytes
  have hml : cO.maxLocals = 7 := hml0
  have hown : s.vm.findClass "java/lang/StringUTF16" = some m.cls := findClass_of_methodNamed Bd.named
  have hnm := (name_of_methodNamed Bd.named Bd.method).1
  have hlk : meth.locks = false := BodyLoose.notSynchronized Bd
  have X0 : Stand p l e ({ frames := 0, cells := 0, slots := 0, locals := 0 } : Room) s m #[(.ref r0), (.int (0 : Int32)), (.ref r2), (.int (0 : Int32)), (.int (4 : Int32))] below meth cO s₁ [] 0 0 := Stand.of_body Bd
  have e0 : s₁.heap = h0 := by rw [← hh, Bd.state]; rfl
  have N0 := Fr.nil n0
  refine own_in (own_ef_rmK_4 m r0 r2) ?_
  show Gm p e below s₁ m 0 #[rv r0, iv (0 : Int32), rv r2, iv (0 : Int32), iv (4 : Int32), .unset, .unset] [] _
  refine own_go (fun t₀ k₀ => XS.iconst X0.here hx rfl (Jvm.hb hby d19_0) k₀) ?_
  show Gm p e below s₁ m 1 #[rv r0, iv (0 : Int32), rv r2, iv (0 : Int32), iv (4 : Int32), .unset, .unset] [(.int (0 : Int32))] _
  refine own_go (fun t₀ k₀ => XS.istore X0.here hx rfl (Jvm.hb hby d19_1) rfl (l' := #[rv r0, iv (0 : Int32), rv r2, iv (0 : Int32), iv (4 : Int32), iv (0 : Int32), .unset]) rfl k₀) ?_
  show Gm p e below s₁ m 3 #[rv r0, iv (0 : Int32), rv r2, iv (0 : Int32), iv (4 : Int32), iv (0 : Int32), .unset] [] _
  refine own_go (fun t₀ k₀ => XS.iload X0.here hx rfl (Jvm.hb hby d19_3) rfl k₀) ?_
  show Gm p e below s₁ m 5 #[rv r0, iv (0 : Int32), rv r2, iv (0 : Int32), iv (4 : Int32), iv (0 : Int32), .unset] [(.int (0 : Int32))] _
  refine own_go (fun t₀ k₀ => XS.iload X0.here hx rfl (Jvm.hb hby d19_5) rfl k₀) ?_
  show Gm p e below s₁ m 7 #[rv r0, iv (0 : Int32), rv r2, iv (0 : Int32), iv (4 : Int32), iv (0 : Int32), .unset] [(.int (4 : Int32)), (.int (0 : Int32))] _
  refine own_go (fun t₀ k₀ => XS.icmpNo X0.here hx rfl (Jvm.hb hby d19_7) rfl (XT.ii_ge_f (by decide)) k₀) ?_
  show Gm p e below s₁ m 10 #[rv r0, iv (0 : Int32), rv r2, iv (0 : Int32), iv (4 : Int32), iv (0 : Int32), .unset] [] _
  refine own_go (fun t₀ k₀ => XS.aloadN X0.here hx rfl (Jvm.hb hby d19_10) rfl rfl k₀) ?_
  show Gm p e below s₁ m 11 #[rv r0, iv (0 : Int32), rv r2, iv (0 : Int32), iv (4 : Int32), iv (0 : Int32), .unset] [(.ref r0)] _
  refine own_go (fun t₀ k₀ => XS.iloadN X0.here hx rfl (Jvm.hb hby d19_11) rfl k₀) ?_
  show Gm p e below s₁ m 12 #[rv r0, iv (0 : Int32), rv r2, iv (0 : Int32), iv (4 : Int32), iv (0 : Int32), .unset] [(.int (0 : Int32)), (.ref r0)] _
  refine own_go (fun t₀ k₀ => own_ldC X0 hx hZ e0 A (j := (0 : Int32)) (k := 0) (by decide) rfl (by decide) (w := (.int c0)) hf_0 (g := (mkF m 12 #[rv r0, iv (0 : Int32), rv r2, iv (0 : Int32), iv (4 : Int32), iv (0 : Int32), .unset] [(.int (0 : Int32)), (.ref r0)])) rfl rfl (Jvm.hb hby d19_12) k₀) ?_
  show Gm p e below s₁ m 13 #[rv r0, iv (0 : Int32), rv r2, iv (0 : Int32), iv (4 : Int32), iv (0 : Int32), .unset] [(.int c0)] _
  refine own_go (fun t₀ k₀ => XS.istore X0.here hx rfl (Jvm.hb hby d19_13) rfl (l' := #[rv r0, iv (0 : Int32), rv r2, iv (0 : Int32), iv (4 : Int32), iv (0 : Int32), iv c0]) rfl k₀) ?_
  show Gm p e below s₁ m 15 #[rv r0, iv (0 : Int32), rv r2, iv (0 : Int32), iv (4 : Int32), iv (0 : Int32), iv c0] [] _
  refine own_go (fun t₀ k₀ => XS.iload X0.here hx rfl (Jvm.hb hby d19_15) rfl k₀) ?_
  show Gm p e below s₁ m 17 #[rv r0, iv (0 : Int32), rv r2, iv (0 : Int32), iv (4 : Int32), iv (0 : Int32), iv c0] [(.int c0)] _
  refine own_go (fun t₀ k₀ => XS.sipush X0.here hx rfl (Jvm.hb hby d19_17) k₀) ?_
  show Gm p e below s₁ m 20 #[rv r0, iv (0 : Int32), rv r2, iv (0 : Int32), iv (4 : Int32), iv (0 : Int32), iv c0] [(.int (255 : Int32)), (.int c0)] _
  refine own_go (fun t₀ k₀ => XS.icmpYes X0.here hx rfl (pc0 := 20) (pc' := 26) rfl (Jvm.hb hby d19_20) rfl (XT.ii_le_t hc_0) (by decide) (by decide) k₀) ?_
  show Gm p e below s₁ m 26 #[rv r0, iv (0 : Int32), rv r2, iv (0 : Int32), iv (4 : Int32), iv (0 : Int32), iv c0] [] _
  refine own_go (fun t₀ k₀ => XS.aloadN X0.here hx rfl (Jvm.hb hby d19_26) rfl rfl k₀) ?_
  show Gm p e below s₁ m 27 #[rv r0, iv (0 : Int32), rv r2, iv (0 : Int32), iv (4 : Int32), iv (0 : Int32), iv c0] [(.ref r2)] _
  refine own_go (fun t₀ k₀ => XS.iloadN X0.here hx rfl (Jvm.hb hby d19_27) rfl k₀) ?_
  show Gm p e below s₁ m 28 #[rv r0, iv (0 : Int32), rv r2, iv (0 : Int32), iv (4 : Int32), iv (0 : Int32), iv c0] [(.int (0 : Int32)), (.ref r2)] _
  refine own_go (fun t₀ k₀ => XS.iload X0.here hx rfl (Jvm.hb hby d19_28) rfl k₀) ?_
  show Gm p e below s₁ m 30 #[rv r0, iv (0 : Int32), rv r2, iv (0 : Int32), iv (4 : Int32), iv (0 : Int32), iv c0] [(.int c0), (.int (0 : Int32)), (.ref r2)] _
  refine own_go (fun t₀ k₀ => XS.i2b X0.here hx rfl (Jvm.hb hby d19_30) rfl k₀) ?_
  show Gm p e below s₁ m 31 #[rv r0, iv (0 : Int32), rv r2, iv (0 : Int32), iv (4 : Int32), iv (0 : Int32), iv c0] [(.int (c0.toInt8.toInt32)), (.int (0 : Int32)), (.ref r2)] _
  obtain ⟨T1, h1, X1, e1, W1, A1, st1⟩ := own_stB X0 hx hZ e0 B (j := (0 : Int32)) (k := 0) (by decide) rfl (by decide) (y := (own_by c0)) rfl (g := (mkF m 31 #[rv r0, iv (0 : Int32), rv r2, iv (0 : Int32), iv (4 : Int32), iv (0 : Int32), iv c0] [(.int (c0.toInt8.toInt32)), (.int (0 : Int32)), (.ref r2)])) rfl rfl (Jvm.hb hby d19_31)
  have N1 := Fr.snoc X1 N0 g_r2
  have Z1 : n0 ≤ h1.size := W1.size ▸ Z0
  have K1 : Keep h0 h1 [r2] := Keep.wr (Keep.refl h0 [r2]) W1 (Or.inl (List.mem_of_getElem? (i := 0) rfl))
  refine own_go st1 ?_
  show Gm p e below T1 m 32 #[rv r0, iv (0 : Int32), rv r2, iv (0 : Int32), iv (4 : Int32), iv (0 : Int32), iv c0] [] _
  refine own_go (fun t₀ k₀ => XS.iinc X1.here hx rfl (Jvm.hb hby d19_32) rfl (l' := #[rv r0, iv (1 : Int32), rv r2, iv (0 : Int32), iv (4 : Int32), iv (0 : Int32), iv c0]) rfl k₀) ?_
  show Gm p e below T1 m 35 #[rv r0, iv (1 : Int32), rv r2, iv (0 : Int32), iv (4 : Int32), iv (0 : Int32), iv c0] [] _
  refine own_go (fun t₀ k₀ => XS.iinc X1.here hx rfl (Jvm.hb hby d19_35) rfl (l' := #[rv r0, iv (1 : Int32), rv r2, iv (1 : Int32), iv (4 : Int32), iv (0 : Int32), iv c0]) rfl k₀) ?_
  show Gm p e below T1 m 38 #[rv r0, iv (1 : Int32), rv r2, iv (1 : Int32), iv (4 : Int32), iv (0 : Int32), iv c0] [] _
  refine own_go (fun t₀ k₀ => XS.iinc X1.here hx rfl (Jvm.hb hby d19_38) rfl (l' := #[rv r0, iv (1 : Int32), rv r2, iv (1 : Int32), iv (4 : Int32), iv (1 : Int32), iv c0]) rfl k₀) ?_
  show Gm p e below T1 m 41 #[rv r0, iv (1 : Int32), rv r2, iv (1 : Int32), iv (4 : Int32), iv (1 : Int32), iv c0] [] _
  refine own_go (fun t₀ k₀ => XS.goto X1.here hx rfl (pc0 := 41) (pc' := 3) rfl (Jvm.hb hby d19_41) (by decide) (by decide) k₀) ?_
  show Gm p e below T1 m 3 #[rv r0, iv (1 : Int32), rv r2, iv (1 : Int32), iv (4 : Int32), iv (1 : Int32), iv c0] [] _
  refine own_go (fun t₀ k₀ => XS.iload X1.here hx rfl (Jvm.hb hby d19_3) rfl k₀) ?_
  show Gm p e below T1 m 5 #[rv r0, iv (1 : Int32), rv r2, iv (1 : Int32), iv (4 : Int32), iv (1 : Int32), iv c0] [(.int (1 : Int32))] _
  refine own_go (fun t₀ k₀ => XS.iload X1.here hx rfl (Jvm.hb hby d19_5) rfl k₀) ?_
  show Gm p e below T1 m 7 #[rv r0, iv (1 : Int32), rv r2, iv (1 : Int32), iv (4 : Int32), iv (1 : Int32), iv c0] [(.int (4 : Int32)), (.int (1 : Int32))] _
  refine own_go (fun t₀ k₀ => XS.icmpNo X1.here hx rfl (Jvm.hb hby d19_7) rfl (XT.ii_ge_f (by decide)) k₀) ?_
  show Gm p e below T1 m 10 #[rv r0, iv (1 : Int32), rv r2, iv (1 : Int32), iv (4 : Int32), iv (1 : Int32), iv c0] [] _
  refine own_go (fun t₀ k₀ => XS.aloadN X1.here hx rfl (Jvm.hb hby d19_10) rfl rfl k₀) ?_
  show Gm p e below T1 m 11 #[rv r0, iv (1 : Int32), rv r2, iv (1 : Int32), iv (4 : Int32), iv (1 : Int32), iv c0] [(.ref r0)] _
  refine own_go (fun t₀ k₀ => XS.iloadN X1.here hx rfl (Jvm.hb hby d19_11) rfl k₀) ?_
  show Gm p e below T1 m 12 #[rv r0, iv (1 : Int32), rv r2, iv (1 : Int32), iv (4 : Int32), iv (1 : Int32), iv c0] [(.int (1 : Int32)), (.ref r0)] _
  have f2 := (A.other W1 ne)
  refine own_go (fun t₀ k₀ => own_ldC X1 hx hZ e1 f2 (j := (1 : Int32)) (k := 1) (by decide) rfl (by decide) (w := (.int c1)) hf_1 (g := (mkF m 12 #[rv r0, iv (1 : Int32), rv r2, iv (1 : Int32), iv (4 : Int32), iv (1 : Int32), iv c0] [(.int (1 : Int32)), (.ref r0)])) rfl rfl (Jvm.hb hby d19_12) k₀) ?_
  show Gm p e below T1 m 13 #[rv r0, iv (1 : Int32), rv r2, iv (1 : Int32), iv (4 : Int32), iv (1 : Int32), iv c0] [(.int c1)] _
  refine own_go (fun t₀ k₀ => XS.istore X1.here hx rfl (Jvm.hb hby d19_13) rfl (l' := #[rv r0, iv (1 : Int32), rv r2, iv (1 : Int32), iv (4 : Int32), iv (1 : Int32), iv c1]) rfl k₀) ?_
  show Gm p e below T1 m 15 #[rv r0, iv (1 : Int32), rv r2, iv (1 : Int32), iv (4 : Int32), iv (1 : Int32), iv c1] [] _
  refine own_go (fun t₀ k₀ => XS.iload X1.here hx rfl (Jvm.hb hby d19_15) rfl k₀) ?_
  show Gm p e below T1 m 17 #[rv r0, iv (1 : Int32), rv r2, iv (1 : Int32), iv (4 : Int32), iv (1 : Int32), iv c1] [(.int c1)] _
  refine own_go (fun t₀ k₀ => XS.sipush X1.here hx rfl (Jvm.hb hby d19_17) k₀) ?_
  show Gm p e below T1 m 20 #[rv r0, iv (1 : Int32), rv r2, iv (1 : Int32), iv (4 : Int32), iv (1 : Int32), iv c1] [(.int (255 : Int32)), (.int c1)] _
  refine own_go (fun t₀ k₀ => XS.icmpYes X1.here hx rfl (pc0 := 20) (pc' := 26) rfl (Jvm.hb hby d19_20) rfl (XT.ii_le_t hc_1) (by decide) (by decide) k₀) ?_
  show Gm p e below T1 m 26 #[rv r0, iv (1 : Int32), rv r2, iv (1 : Int32), iv (4 : Int32), iv (1 : Int32), iv c1] [] _
  refine own_go (fun t₀ k₀ => XS.aloadN X1.here hx rfl (Jvm.hb hby d19_26) rfl rfl k₀) ?_
  show Gm p e below T1 m 27 #[rv r0, iv (1 : Int32), rv r2, iv (1 : Int32), iv (4 : Int32), iv (1 : Int32), iv c1] [(.ref r2)] _
  refine own_go (fun t₀ k₀ => XS.iloadN X1.here hx rfl (Jvm.hb hby d19_27) rfl k₀) ?_
  show Gm p e below T1 m 28 #[rv r0, iv (1 : Int32), rv r2, iv (1 : Int32), iv (4 : Int32), iv (1 : Int32), iv c1] [(.int (1 : Int32)), (.ref r2)] _
  refine own_go (fun t₀ k₀ => XS.iload X1.here hx rfl (Jvm.hb hby d19_28) rfl k₀) ?_
  show Gm p e below T1 m 30 #[rv r0, iv (1 : Int32), rv r2, iv (1 : Int32), iv (4 : Int32), iv (1 : Int32), iv c1] [(.int c1), (.int (1 : Int32)), (.ref r2)] _
  refine own_go (fun t₀ k₀ => XS.i2b X1.here hx rfl (Jvm.hb hby d19_30) rfl k₀) ?_
  show Gm p e below T1 m 31 #[rv r0, iv (1 : Int32), rv r2, iv (1 : Int32), iv (4 : Int32), iv (1 : Int32), iv c1] [(.int (c1.toInt8.toInt32)), (.int (1 : Int32)), (.ref r2)] _
  obtain ⟨T3, h3, X3, e3, W3, A3, st3⟩ := own_stB X1 hx hZ e1 A1 (j := (1 : Int32)) (k := 1) (by decide) rfl (by decide) (y := (own_by c1)) rfl (g := (mkF m 31 #[rv r0, iv (1 : Int32), rv r2, iv (1 : Int32), iv (4 : Int32), iv (1 : Int32), iv c1] [(.int (c1.toInt8.toInt32)), (.int (1 : Int32)), (.ref r2)])) rfl rfl (Jvm.hb hby d19_31)
  have N3 := Fr.snoc X3 N1 g_r2
  have Z3 : n0 ≤ h3.size := W3.size ▸ Z1
  have K3 : Keep h0 h3 [r2] := Keep.wr K1 W3 (Or.inl (List.mem_of_getElem? (i := 0) rfl))
  refine own_go st3 ?_
  show Gm p e below T3 m 32 #[rv r0, iv (1 : Int32), rv r2, iv (1 : Int32), iv (4 : Int32), iv (1 : Int32), iv c1] [] _
  refine own_go (fun t₀ k₀ => XS.iinc X3.here hx rfl (Jvm.hb hby d19_32) rfl (l' := #[rv r0, iv (2 : Int32), rv r2, iv (1 : Int32), iv (4 : Int32), iv (1 : Int32), iv c1]) rfl k₀) ?_
  show Gm p e below T3 m 35 #[rv r0, iv (2 : Int32), rv r2, iv (1 : Int32), iv (4 : Int32), iv (1 : Int32), iv c1] [] _
  refine own_go (fun t₀ k₀ => XS.iinc X3.here hx rfl (Jvm.hb hby d19_35) rfl (l' := #[rv r0, iv (2 : Int32), rv r2, iv (2 : Int32), iv (4 : Int32), iv (1 : Int32), iv c1]) rfl k₀) ?_
  show Gm p e below T3 m 38 #[rv r0, iv (2 : Int32), rv r2, iv (2 : Int32), iv (4 : Int32), iv (1 : Int32), iv c1] [] _
  refine own_go (fun t₀ k₀ => XS.iinc X3.here hx rfl (Jvm.hb hby d19_38) rfl (l' := #[rv r0, iv (2 : Int32), rv r2, iv (2 : Int32), iv (4 : Int32), iv (2 : Int32), iv c1]) rfl k₀) ?_
  show Gm p e below T3 m 41 #[rv r0, iv (2 : Int32), rv r2, iv (2 : Int32), iv (4 : Int32), iv (2 : Int32), iv c1] [] _
  refine own_go (fun t₀ k₀ => XS.goto X3.here hx rfl (pc0 := 41) (pc' := 3) rfl (Jvm.hb hby d19_41) (by decide) (by decide) k₀) ?_
  show Gm p e below T3 m 3 #[rv r0, iv (2 : Int32), rv r2, iv (2 : Int32), iv (4 : Int32), iv (2 : Int32), iv c1] [] _
  refine own_go (fun t₀ k₀ => XS.iload X3.here hx rfl (Jvm.hb hby d19_3) rfl k₀) ?_
  show Gm p e below T3 m 5 #[rv r0, iv (2 : Int32), rv r2, iv (2 : Int32), iv (4 : Int32), iv (2 : Int32), iv c1] [(.int (2 : Int32))] _
  refine own_go (fun t₀ k₀ => XS.iload X3.here hx rfl (Jvm.hb hby d19_5) rfl k₀) ?_
  show Gm p e below T3 m 7 #[rv r0, iv (2 : Int32), rv r2, iv (2 : Int32), iv (4 : Int32), iv (2 : Int32), iv c1] [(.int (4 : Int32)), (.int (2 : Int32))] _
  refine own_go (fun t₀ k₀ => XS.icmpNo X3.here hx rfl (Jvm.hb hby d19_7) rfl (XT.ii_ge_f (by decide)) k₀) ?_
  show Gm p e below T3 m 10 #[rv r0, iv (2 : Int32), rv r2, iv (2 : Int32), iv (4 : Int32), iv (2 : Int32), iv c1] [] _
  refine own_go (fun t₀ k₀ => XS.aloadN X3.here hx rfl (Jvm.hb hby d19_10) rfl rfl k₀) ?_
  show Gm p e below T3 m 11 #[rv r0, iv (2 : Int32), rv r2, iv (2 : Int32), iv (4 : Int32), iv (2 : Int32), iv c1] [(.ref r0)] _
  refine own_go (fun t₀ k₀ => XS.iloadN X3.here hx rfl (Jvm.hb hby d19_11) rfl k₀) ?_
  show Gm p e below T3 m 12 #[rv r0, iv (2 : Int32), rv r2, iv (2 : Int32), iv (4 : Int32), iv (2 : Int32), iv c1] [(.int (2 : Int32)), (.ref r0)] _
  have f4 := (f2.other W3 ne)
  refine own_go (fun t₀ k₀ => own_ldC X3 hx hZ e3 f4 (j := (2 : Int32)) (k := 2) (by decide) rfl (by decide) (w := (.int c2)) hf_2 (g := (mkF m 12 #[rv r0, iv (2 : Int32), rv r2, iv (2 : Int32), iv (4 : Int32), iv (2 : Int32), iv c1] [(.int (2 : Int32)), (.ref r0)])) rfl rfl (Jvm.hb hby d19_12) k₀) ?_
  show Gm p e below T3 m 13 #[rv r0, iv (2 : Int32), rv r2, iv (2 : Int32), iv (4 : Int32), iv (2 : Int32), iv c1] [(.int c2)] _
  refine own_go (fun t₀ k₀ => XS.istore X3.here hx rfl (Jvm.hb hby d19_13) rfl (l' := #[rv r0, iv (2 : Int32), rv r2, iv (2 : Int32), iv (4 : Int32), iv (2 : Int32), iv c2]) rfl k₀) ?_
  show Gm p e below T3 m 15 #[rv r0, iv (2 : Int32), rv r2, iv (2 : Int32), iv (4 : Int32), iv (2 : Int32), iv c2] [] _
  refine own_go (fun t₀ k₀ => XS.iload X3.here hx rfl (Jvm.hb hby d19_15) rfl k₀) ?_
  show Gm p e below T3 m 17 #[rv r0, iv (2 : Int32), rv r2, iv (2 : Int32), iv (4 : Int32), iv (2 : Int32), iv c2] [(.int c2)] _
  refine own_go (fun t₀ k₀ => XS.sipush X3.here hx rfl (Jvm.hb hby d19_17) k₀) ?_
  show Gm p e below T3 m 20 #[rv r0, iv (2 : Int32), rv r2, iv (2 : Int32), iv (4 : Int32), iv (2 : Int32), iv c2] [(.int (255 : Int32)), (.int c2)] _
  refine own_go (fun t₀ k₀ => XS.icmpYes X3.here hx rfl (pc0 := 20) (pc' := 26) rfl (Jvm.hb hby d19_20) rfl (XT.ii_le_t hc_2) (by decide) (by decide) k₀) ?_
  show Gm p e below T3 m 26 #[rv r0, iv (2 : Int32), rv r2, iv (2 : Int32), iv (4 : Int32), iv (2 : Int32), iv c2] [] _
  refine own_go (fun t₀ k₀ => XS.aloadN X3.here hx rfl (Jvm.hb hby d19_26) rfl rfl k₀) ?_
  show Gm p e below T3 m 27 #[rv r0, iv (2 : Int32), rv r2, iv (2 : Int32), iv (4 : Int32), iv (2 : Int32), iv c2] [(.ref r2)] _
  refine own_go (fun t₀ k₀ => XS.iloadN X3.here hx rfl (Jvm.hb hby d19_27) rfl k₀) ?_
  show Gm p e below T3 m 28 #[rv r0, iv (2 : Int32), rv r2, iv (2 : Int32), iv (4 : Int32), iv (2 : Int32), iv c2] [(.int (2 : Int32)), (.ref r2)] _
  refine own_go (fun t₀ k₀ => XS.iload X3.here hx rfl (Jvm.hb hby d19_28) rfl k₀) ?_
  show Gm p e below T3 m 30 #[rv r0, iv (2 : Int32), rv r2, iv (2 : Int32), iv (4 : Int32), iv (2 : Int32), iv c2] [(.int c2), (.int (2 : Int32)), (.ref r2)] _
  refine own_go (fun t₀ k₀ => XS.i2b X3.here hx rfl (Jvm.hb hby d19_30) rfl k₀) ?_
  show Gm p e below T3 m 31 #[rv r0, iv (2 : Int32), rv r2, iv (2 : Int32), iv (4 : Int32), iv (2 : Int32), iv c2] [(.int (c2.toInt8.toInt32)), (.int (2 : Int32)), (.ref r2)] _
  obtain ⟨T5, h5, X5, e5, W5, A5, st5⟩ := own_stB X3 hx hZ e3 A3 (j := (2 : Int32)) (k := 2) (by decide) rfl (by decide) (y := (own_by c2)) rfl (g := (mkF m 31 #[rv r0, iv (2 : Int32), rv r2, iv (2 : Int32), iv (4 : Int32), iv (2 : Int32), iv c2] [(.int (c2.toInt8.toInt32)), (.int (2 : Int32)), (.ref r2)])) rfl rfl (Jvm.hb hby d19_31)
  have N5 := Fr.snoc X5 N3 g_r2
  have Z5 : n0 ≤ h5.size := W5.size ▸ Z3
  have K5 : Keep h0 h5 [r2] := Keep.wr K3 W5 (Or.inl (List.mem_of_getElem? (i := 0) rfl))
  refine own_go st5 ?_
  show Gm p e below T5 m 32 #[rv r0, iv (2 : Int32), rv r2, iv (2 : Int32), iv (4 : Int32), iv (2 : Int32), iv c2] [] _
  refine own_go (fun t₀ k₀ => XS.iinc X5.here hx rfl (Jvm.hb hby d19_32) rfl (l' := #[rv r0, iv (3 : Int32), rv r2, iv (2 : Int32), iv (4 : Int32), iv (2 : Int32), iv c2]) rfl k₀) ?_
  show Gm p e below T5 m 35 #[rv r0, iv (3 : Int32), rv r2, iv (2 : Int32), iv (4 : Int32), iv (2 : Int32), iv c2] [] _
  refine own_go (fun t₀ k₀ => XS.iinc X5.here hx rfl (Jvm.hb hby d19_35) rfl (l' := #[rv r0, iv (3 : Int32), rv r2, iv (3 : Int32), iv (4 : Int32), iv (2 : Int32), iv c2]) rfl k₀) ?_
  show Gm p e below T5 m 38 #[rv r0, iv (3 : Int32), rv r2, iv (3 : Int32), iv (4 : Int32), iv (2 : Int32), iv c2] [] _
  refine own_go (fun t₀ k₀ => XS.iinc X5.here hx rfl (Jvm.hb hby d19_38) rfl (l' := #[rv r0, iv (3 : Int32), rv r2, iv (3 : Int32), iv (4 : Int32), iv (3 : Int32), iv c2]) rfl k₀) ?_
  show Gm p e below T5 m 41 #[rv r0, iv (3 : Int32), rv r2, iv (3 : Int32), iv (4 : Int32), iv (3 : Int32), iv c2] [] _
  refine own_go (fun t₀ k₀ => XS.goto X5.here hx rfl (pc0 := 41) (pc' := 3) rfl (Jvm.hb hby d19_41) (by decide) (by decide) k₀) ?_
  show Gm p e below T5 m 3 #[rv r0, iv (3 : Int32), rv r2, iv (3 : Int32), iv (4 : Int32), iv (3 : Int32), iv c2] [] _
  refine own_go (fun t₀ k₀ => XS.iload X5.here hx rfl (Jvm.hb hby d19_3) rfl k₀) ?_
  show Gm p e below T5 m 5 #[rv r0, iv (3 : Int32), rv r2, iv (3 : Int32), iv (4 : Int32), iv (3 : Int32), iv c2] [(.int (3 : Int32))] _
  refine own_go (fun t₀ k₀ => XS.iload X5.here hx rfl (Jvm.hb hby d19_5) rfl k₀) ?_
  show Gm p e below T5 m 7 #[rv r0, iv (3 : Int32), rv r2, iv (3 : Int32), iv (4 : Int32), iv (3 : Int32), iv c2] [(.int (4 : Int32)), (.int (3 : Int32))] _
  refine own_go (fun t₀ k₀ => XS.icmpNo X5.here hx rfl (Jvm.hb hby d19_7) rfl (XT.ii_ge_f (by decide)) k₀) ?_
  show Gm p e below T5 m 10 #[rv r0, iv (3 : Int32), rv r2, iv (3 : Int32), iv (4 : Int32), iv (3 : Int32), iv c2] [] _
  refine own_go (fun t₀ k₀ => XS.aloadN X5.here hx rfl (Jvm.hb hby d19_10) rfl rfl k₀) ?_
  show Gm p e below T5 m 11 #[rv r0, iv (3 : Int32), rv r2, iv (3 : Int32), iv (4 : Int32), iv (3 : Int32), iv c2] [(.ref r0)] _
  refine own_go (fun t₀ k₀ => XS.iloadN X5.here hx rfl (Jvm.hb hby d19_11) rfl k₀) ?_
  show Gm p e below T5 m 12 #[rv r0, iv (3 : Int32), rv r2, iv (3 : Int32), iv (4 : Int32), iv (3 : Int32), iv c2] [(.int (3 : Int32)), (.ref r0)] _
  have f6 := (f4.other W5 ne)
  refine own_go (fun t₀ k₀ => own_ldC X5 hx hZ e5 f6 (j := (3 : Int32)) (k := 3) (by decide) rfl (by decide) (w := (.int c3)) hf_3 (g := (mkF m 12 #[rv r0, iv (3 : Int32), rv r2, iv (3 : Int32), iv (4 : Int32), iv (3 : Int32), iv c2] [(.int (3 : Int32)), (.ref r0)])) rfl rfl (Jvm.hb hby d19_12) k₀) ?_
  show Gm p e below T5 m 13 #[rv r0, iv (3 : Int32), rv r2, iv (3 : Int32), iv (4 : Int32), iv (3 : Int32), iv c2] [(.int c3)] _
  refine own_go (fun t₀ k₀ => XS.istore X5.here hx rfl (Jvm.hb hby d19_13) rfl (l' := #[rv r0, iv (3 : Int32), rv r2, iv (3 : Int32), iv (4 : Int32), iv (3 : Int32), iv c3]) rfl k₀) ?_
  show Gm p e below T5 m 15 #[rv r0, iv (3 : Int32), rv r2, iv (3 : Int32), iv (4 : Int32), iv (3 : Int32), iv c3] [] _
  refine own_go (fun t₀ k₀ => XS.iload X5.here hx rfl (Jvm.hb hby d19_15) rfl k₀) ?_
  show Gm p e below T5 m 17 #[rv r0, iv (3 : Int32), rv r2, iv (3 : Int32), iv (4 : Int32), iv (3 : Int32), iv c3] [(.int c3)] _
  refine own_go (fun t₀ k₀ => XS.sipush X5.here hx rfl (Jvm.hb hby d19_17) k₀) ?_
  show Gm p e below T5 m 20 #[rv r0, iv (3 : Int32), rv r2, iv (3 : Int32), iv (4 : Int32), iv (3 : Int32), iv c3] [(.int (255 : Int32)), (.int c3)] _
  refine own_go (fun t₀ k₀ => XS.icmpYes X5.here hx rfl (pc0 := 20) (pc' := 26) rfl (Jvm.hb hby d19_20) rfl (XT.ii_le_t hc_3) (by decide) (by decide) k₀) ?_
  show Gm p e below T5 m 26 #[rv r0, iv (3 : Int32), rv r2, iv (3 : Int32), iv (4 : Int32), iv (3 : Int32), iv c3] [] _
  refine own_go (fun t₀ k₀ => XS.aloadN X5.here hx rfl (Jvm.hb hby d19_26) rfl rfl k₀) ?_
  show Gm p e below T5 m 27 #[rv r0, iv (3 : Int32), rv r2, iv (3 : Int32), iv (4 : Int32), iv (3 : Int32), iv c3] [(.ref r2)] _
  refine own_go (fun t₀ k₀ => XS.iloadN X5.here hx rfl (Jvm.hb hby d19_27) rfl k₀) ?_
  show Gm p e below T5 m 28 #[rv r0, iv (3 : Int32), rv r2, iv (3 : Int32), iv (4 : Int32), iv (3 : Int32), iv c3] [(.int (3 : Int32)), (.ref r2)] _
  refine own_go (fun t₀ k₀ => XS.iload X5.here hx rfl (Jvm.hb hby d19_28) rfl k₀) ?_
  show Gm p e below T5 m 30 #[rv r0, iv (3 : Int32), rv r2, iv (3 : Int32), iv (4 : Int32), iv (3 : Int32), iv c3] [(.int c3), (.int (3 : Int32)), (.ref r2)] _
  refine own_go (fun t₀ k₀ => XS.i2b X5.here hx rfl (Jvm.hb hby d19_30) rfl k₀) ?_
  show Gm p e below T5 m 31 #[rv r0, iv (3 : Int32), rv r2, iv (3 : Int32), iv (4 : Int32), iv (3 : Int32), iv c3] [(.int (c3.toInt8.toInt32)), (.int (3 : Int32)), (.ref r2)] _
  obtain ⟨T7, h7, X7, e7, W7, A7, st7⟩ := own_stB X5 hx hZ e5 A5 (j := (3 : Int32)) (k := 3) (by decide) rfl (by decide) (y := (own_by c3)) rfl (g := (mkF m 31 #[rv r0, iv (3 : Int32), rv r2, iv (3 : Int32), iv (4 : Int32), iv (3 : Int32), iv c3] [(.int (c3.toInt8.toInt32)), (.int (3 : Int32)), (.ref r2)])) rfl rfl (Jvm.hb hby d19_31)
  have N7 := Fr.snoc X7 N5 g_r2
  have Z7 : n0 ≤ h7.size := W7.size ▸ Z5
  have K7 : Keep h0 h7 [r2] := Keep.wr K5 W7 (Or.inl (List.mem_of_getElem? (i := 0) rfl))
  refine own_go st7 ?_
  show Gm p e below T7 m 32 #[rv r0, iv (3 : Int32), rv r2, iv (3 : Int32), iv (4 : Int32), iv (3 : Int32), iv c3] [] _
  refine own_go (fun t₀ k₀ => XS.iinc X7.here hx rfl (Jvm.hb hby d19_32) rfl (l' := #[rv r0, iv (4 : Int32), rv r2, iv (3 : Int32), iv (4 : Int32), iv (3 : Int32), iv c3]) rfl k₀) ?_
  show Gm p e below T7 m 35 #[rv r0, iv (4 : Int32), rv r2, iv (3 : Int32), iv (4 : Int32), iv (3 : Int32), iv c3] [] _
  refine own_go (fun t₀ k₀ => XS.iinc X7.here hx rfl (Jvm.hb hby d19_35) rfl (l' := #[rv r0, iv (4 : Int32), rv r2, iv (4 : Int32), iv (4 : Int32), iv (3 : Int32), iv c3]) rfl k₀) ?_
  show Gm p e below T7 m 38 #[rv r0, iv (4 : Int32), rv r2, iv (4 : Int32), iv (4 : Int32), iv (3 : Int32), iv c3] [] _
  refine own_go (fun t₀ k₀ => XS.iinc X7.here hx rfl (Jvm.hb hby d19_38) rfl (l' := #[rv r0, iv (4 : Int32), rv r2, iv (4 : Int32), iv (4 : Int32), iv (4 : Int32), iv c3]) rfl k₀) ?_
  show Gm p e below T7 m 41 #[rv r0, iv (4 : Int32), rv r2, iv (4 : Int32), iv (4 : Int32), iv (4 : Int32), iv c3] [] _
  refine own_go (fun t₀ k₀ => XS.goto X7.here hx rfl (pc0 := 41) (pc' := 3) rfl (Jvm.hb hby d19_41) (by decide) (by decide) k₀) ?_
  show Gm p e below T7 m 3 #[rv r0, iv (4 : Int32), rv r2, iv (4 : Int32), iv (4 : Int32), iv (4 : Int32), iv c3] [] _
  refine own_go (fun t₀ k₀ => XS.iload X7.here hx rfl (Jvm.hb hby d19_3) rfl k₀) ?_
  show Gm p e below T7 m 5 #[rv r0, iv (4 : Int32), rv r2, iv (4 : Int32), iv (4 : Int32), iv (4 : Int32), iv c3] [(.int (4 : Int32))] _
  refine own_go (fun t₀ k₀ => XS.iload X7.here hx rfl (Jvm.hb hby d19_5) rfl k₀) ?_
  show Gm p e below T7 m 7 #[rv r0, iv (4 : Int32), rv r2, iv (4 : Int32), iv (4 : Int32), iv (4 : Int32), iv c3] [(.int (4 : Int32)), (.int (4 : Int32))] _
  refine own_go (fun t₀ k₀ => XS.icmpYes X7.here hx rfl (pc0 := 7) (pc' := 44) rfl (Jvm.hb hby d19_7) rfl (XT.ii_ge_t (by decide)) (by decide) (by decide) k₀) ?_
  show Gm p e below T7 m 44 #[rv r0, iv (4 : Int32), rv r2, iv (4 : Int32), iv (4 : Int32), iv (4 : Int32), iv c3] [] _
  refine own_go (fun t₀ k₀ => XS.iload X7.here hx rfl (Jvm.hb hby d19_44) rfl k₀) ?_
  show Gm p e below T7 m 46 #[rv r0, iv (4 : Int32), rv r2, iv (4 : Int32), iv (4 : Int32), iv (4 : Int32), iv c3] [(.int (4 : Int32))] _
  exact own_retI X7 hx hlk (t := .int) Bd.returns rfl (by simp) (Jvm.hb hby d19_46) e7 ⟨rfl, N7, K7, (fun i => if i = 3 then (.int (own_by c3)) else (fun i => if i = 2 then (.int (own_by c2)) else (fun i => if i = 1 then (.int (own_by c1)) else (fun i => if i = 0 then (.int (own_by c0)) else g i) i) i) i), A7, rfl, rfl, rfl, rfl⟩ (by decide) (by decide)
theorem own_pn_rmP_4 : plainName "java/lang/StringUTF16" = true := by first | (simp [plainName, overriddenIn]; done) | decide +kernel
theorem own_ef_rmP_4 (m : MethodId) (r0 : Addr) : entryFrame m #[(.ref r0), (.int (0 : Int32)), (.int (4 : Int32))] 6 = mkF m 0 #[.val (.ref r0), .val (.int (0 : Int32)), .val (.int (4 : Int32)), .unset, .unset, .unset] [] := by first | (simp [entryFrame, mkF, argsToLocals, Value.category]; done) | rfl
def QP_4 (Z : State) (r0 : Addr) (f : Nat → Value) (c0 : Int32) (c1 : Int32) (c2 : Int32) (c3 : Int32) (h0 : Heap) (n0 : Nat) (v : Option Value) (h : Heap) (L : List Loc) : Prop := ∃ (b : Addr) (f' : Nat → Value), v = some (.ref b) ∧ Fr n0 L ∧ Keep h0 h [] ∧ h0.size ≤ b ∧ Af Z h b .byte 4 f' ∧ f' 0 = .int (own_by c0) ∧ f' 1 = .int (own_by c1) ∧ f' 2 = .int (own_by c2) ∧ f' 3 = .int (own_by c3)
set_option maxRecDepth 65536 in
set_option maxHeartbeats 40000000 in
theorem rmP_4 (l : Launch) (Z : State) (a0 : Array Value) (hw : ∀ d ∈ tables_1, d.before a0 Z = true) (ws : List Jvm.Cond) (r0 : Addr) (f : Nat → Value) (c0 : Int32) (c1 : Int32) (c2 : Int32) (c3 : Int32) (h0 : Heap) (n0 : Nat) (Z0 : n0 ≤ h0.size) (A : Af Z h0 r0 .char 4 f) (hf_0 : f 0 = .int c0) (hf_1 : f 1 = .int c1) (hf_2 : f 2 = .int c2) (hf_3 : f 3 = .int c3) (hc_0 : ¬ (255 : Int32) < c0) (hc_1 : ¬ (255 : Int32) < c1) (hc_2 : ¬ (255 : Int32) < c2) (hc_3 : ¬ (255 : Int32) < c3) :
    MetFree l (⟨"java/lang/StringUTF16", "compress", "([CII)[B"⟩ : MethodName) (head1 (Jvm.Cond.code (⟨"java/lang/StringUTF16", "compress", "([CII)[B"⟩ : MethodName) jdk_52_method_16_code 6 (some (.array .byte)) :: ws) ({ frames := 1, cells := 1, slots := 4, locals := 18 } : Room)) (fun a U => a = #[(.ref r0), (.int (0 : Int32)), (.int (4 : Int32))] ∧ Z.Warmed39 U.vm ∧ U.heap = h0) (fun _ _ _ _ _ => True) (fun _ U o U' => ∃ v L, o = .returned v ∧ QP_4 Z r0 f c0 c1 c2 c3 h0 n0 v U'.heap L ∧ FrameEnd U o U' L ({ frames := 1, cells := 1, slots := 4, locals := 18 } : Room).cells ({ frames := 1, cells := 1, slots := 4, locals := 18 } : Room).slots) := by
  refine MetFree.of_bodySF (plainFor_of_name own_pn_rmP_4) hisR ?_
  intro p e s m args below meth cO s₁ Bd hml0 hP hK
  obtain ⟨rfl, hZ, hh⟩ := hP
  have hx := Bd.exec
  have hby := Bd.bytes
  have hml : cO.maxLocals = 6 := hml0
  have hown : s.vm.findClass "java/lang/StringUTF16" = some m.cls := findClass_of_methodNamed Bd.named
  have hnm := (name_of_methodNamed Bd.named Bd.method).1
  have hlk : meth.locks = false := BodyLoose.notSynchronized Bd
  have X0 : Stand p l e ({ frames := 1, cells := 1, slots := 4, locals := 18 } : Room) s m #[(.ref r0), (.int (0 : Int32)), (.int (4 : Int32))] below meth cO s₁ [] 0 0 := Stand.of_body Bd
  have e0 : s₁.heap = h0 := by rw [← hh, Bd.state]; rfl
  have N0 := Fr.nil n0
  refine own_in (own_ef_rmP_4 m r0) ?_
  show Gm p e below s₁ m 0 #[rv r0, iv (0 : Int32), iv (4 : Int32), .unset, .unset, .unset] [] _
  refine own_go (fun t₀ k₀ => XS.iloadN X0.here hx rfl (Jvm.hb hby d18_0) rfl k₀) ?_
  show Gm p e below s₁ m 1 #[rv r0, iv (0 : Int32), iv (4 : Int32), .unset, .unset, .unset] [(.int (4 : Int32))] _
  obtain ⟨T1, h1, k1, X1, e1, E1, A1, st1⟩ := newP X0 hx hZ (hw _ (List.mem_of_getElem? (i := 20) rfl)) e0 (g := (mkF m 1 #[rv r0, iv (0 : Int32), iv (4 : Int32), .unset, .unset, .unset] [(.int (4 : Int32))])) rfl (Jvm.hb hby d18_1) rfl (by decide) (cap := 4) (by decide) (by decide) (by decide) (by decide)
  obtain ⟨b1, g1⟩ : ∃ z, z = h0.size := ⟨_, rfl⟩
  rw [← g1] at A1 st1
  have g_b1 : n0 ≤ b1 := Nat.le_trans Z0 (Nat.le_of_eq g1.symm)
  have ne_r0_b1 : r0 ≠ b1 := Nat.ne_of_lt (Nat.lt_of_lt_of_le A.lt (Nat.le_of_eq g1.symm))
  have sz_b1 : h0.size ≤ b1 := Nat.le_trans (Keep.refl h0 []).1 (Nat.le_of_eq g1.symm)
  have K1 : Keep h0 h1 [] := Keep.ext (Keep.refl h0 []) E1
  have Z1 : n0 ≤ h1.size := Nat.le_trans Z0 E1.1
  have V1 : Af Z h1 b1 .byte 4 (fun _ => defaultValue .byte) := Af.new A1 (by decide) rfl rfl
  refine own_go st1 ?_
  show Gm p e below T1 m 3 #[rv r0, iv (0 : Int32), iv (4 : Int32), .unset, .unset, .unset] [(.ref b1)] _
  refine own_go (fun t₀ k₀ => XS.astoreN X1.here hx rfl (Jvm.hb hby d18_3) rfl rfl (l' := #[rv r0, iv (0 : Int32), iv (4 : Int32), rv b1, .unset, .unset]) rfl k₀) ?_
  show Gm p e below T1 m 4 #[rv r0, iv (0 : Int32), iv (4 : Int32), rv b1, .unset, .unset] [] _
  refine own_go (fun t₀ k₀ => XS.aloadN X1.here hx rfl (Jvm.hb hby d18_4) rfl rfl k₀) ?_
  show Gm p e below T1 m 5 #[rv r0, iv (0 : Int32), iv (4 : Int32), rv b1, .unset, .unset] [(.ref r0)] _
  refine own_go (fun t₀ k₀ => XS.iloadN X1.here hx rfl (Jvm.hb hby d18_5) rfl k₀) ?_
  show Gm p e below T1 m 6 #[rv r0, iv (0 : Int32), iv (4 : Int32), rv b1, .unset, .unset] [(.int (0 : Int32)), (.ref r0)] _
  refine own_go (fun t₀ k₀ => XS.aloadN X1.here hx rfl (Jvm.hb hby d18_6) rfl rfl k₀) ?_
  show Gm p e below T1 m 7 #[rv r0, iv (0 : Int32), iv (4 : Int32), rv b1, .unset, .unset] [(.ref b1), (.int (0 : Int32)), (.ref r0)] _
  refine own_go (fun t₀ k₀ => XS.iconst X1.here hx rfl (Jvm.hb hby d18_7) k₀) ?_
  show Gm p e below T1 m 8 #[rv r0, iv (0 : Int32), iv (4 : Int32), rv b1, .unset, .unset] [(.int (0 : Int32)), (.ref b1), (.int (0 : Int32)), (.ref r0)] _
  refine own_go (fun t₀ k₀ => XS.iloadN X1.here hx rfl (Jvm.hb hby d18_8) rfl k₀) ?_
  show Gm p e below T1 m 9 #[rv r0, iv (0 : Int32), iv (4 : Int32), rv b1, .unset, .unset] [(.int (4 : Int32)), (.int (0 : Int32)), (.ref b1), (.int (0 : Int32)), (.ref r0)] _
  have f2 := (A.ext E1)
  obtain ⟨_, _, ⟨T3, L3, k3, n3⟩, -, X3, ⟨Lc3, hQ3, l3, y3, z3⟩, st3⟩ := Jvm.LawKit.callS X1 hx (y := (⟨"java/lang/StringUTF16", "compress", "([CI[BII)I"⟩ : MethodName)) hown (mvT hZ (hw _ (List.mem_of_getElem? (i := 110) rfl))) (mvT hZ (hw _ (List.mem_of_getElem? (i := 111) rfl))) (mvT hZ (hw _ (List.mem_of_getElem? (i := 108) rfl))) (mvT hZ (hw _ (List.mem_of_getElem? (i := 112) rfl))) (by decide) (backOf (W := 0) (rmK_4 l Z a0 hw [] r0 b1 f (fun _ => defaultValue .byte) c0 c1 c2 c3 h1 n0 Z1 f2 V1 hf_0 hf_1 hf_2 hf_3 hc_0 hc_1 hc_2 hc_3 g_b1 ne_r0_b1) hZ (hw _ (List.mem_of_getElem? (i := 112) rfl)) (hw _ (List.mem_of_getElem? (i := 108) rfl)) (by decide) (by decide)) (g := (mkF m 9 #[rv r0, iv (0 : Int32), iv (4 : Int32), rv b1, .unset, .unset] [(.int (4 : Int32)), (.int (0 : Int32)), (.ref b1), (.int (0 : Int32)), (.ref r0)])) rfl (by rw [hml]; rfl) (argsL := [(.ref r0), (.int (0 : Int32)), (.ref b1), (.int (0 : Int32)), (.int (4 : Int32))]) (rest := []) (lenOf own_pd0 rfl) rfl (by show 2 * 0 + _ ≤ _; exact Nat.le_of_eq rfl) (Jvm.hb hby d18_9) (fun _ _ => ⟨rfl, e1, (by decide : 1 + 0 ≤ _), (by decide : 4 + 0 ≤ _)⟩)
  dsimp only [Pt.U, Pt.locs, Pt.cells, Pt.slots] at X3 l3 y3 z3 st3 hQ3
  subst l3 y3 z3
  obtain ⟨rfl, Nq3, Kc3, fk3, Ak3, hk3_0, hk3_1, hk3_2, hk3_3⟩ := hQ3
  have N3 := Fr.app N0 Nq3
  refine own_go st3 ?_
  have Z3 : n0 ≤ T3.heap.size := Nat.le_trans Z1 Kc3.1
  have K3 : Keep h0 T3.heap [] := Keep.trans K1 Kc3 (allS (Or.inr sz_b1) all0)
  show Gm p e below T3 m 12 #[rv r0, iv (0 : Int32), iv (4 : Int32), rv b1, .unset, .unset] [(.int (4 : Int32))] _
  refine own_go (fun t₀ k₀ => XS.istore X3.here hx rfl (Jvm.hb hby d18_12) rfl (l' := #[rv r0, iv (0 : Int32), iv (4 : Int32), rv b1, iv (4 : Int32), .unset]) rfl k₀) ?_
  show Gm p e below T3 m 14 #[rv r0, iv (0 : Int32), iv (4 : Int32), rv b1, iv (4 : Int32), .unset] [] _
  refine own_go (fun t₀ k₀ => XS.iload X3.here hx rfl (Jvm.hb hby d18_14) rfl k₀) ?_
  show Gm p e below T3 m 16 #[rv r0, iv (0 : Int32), iv (4 : Int32), rv b1, iv (4 : Int32), .unset] [(.int (4 : Int32))] _
  refine own_go (fun t₀ k₀ => XS.iloadN X3.here hx rfl (Jvm.hb hby d18_16) rfl k₀) ?_
  show Gm p e below T3 m 17 #[rv r0, iv (0 : Int32), iv (4 : Int32), rv b1, iv (4 : Int32), .unset] [(.int (4 : Int32)), (.int (4 : Int32))] _
  refine own_go (fun t₀ k₀ => XS.icmpYes X3.here hx rfl (pc0 := 17) (pc' := 57) rfl (Jvm.hb hby d18_17) rfl (XT.ii_eq_t (by decide)) (by decide) (by decide) k₀) ?_
  show Gm p e below T3 m 57 #[rv r0, iv (0 : Int32), iv (4 : Int32), rv b1, iv (4 : Int32), .unset] [] _
  refine own_go (fun t₀ k₀ => XS.aloadN X3.here hx rfl (Jvm.hb hby d18_57) rfl rfl k₀) ?_
  show Gm p e below T3 m 58 #[rv r0, iv (0 : Int32), iv (4 : Int32), rv b1, iv (4 : Int32), .unset] [(.ref b1)] _
  exact own_retA X3 hx hlk rfl Bd.returns rfl (Jvm.hb hby d18_58) rfl ⟨b1, fk3, rfl, N3, K3, sz_b1, Ak3, hk3_0, hk3_1, hk3_2, hk3_3⟩ (by decide) (by decide)
theorem own_pn_rmD_4 : plainName "java/lang/StringUTF16" = true := by first | (simp [plainName, overriddenIn]; done) | decide +kernel
theorem own_ef_rmD_4 (m : MethodId) (r0 : Addr) : entryFrame m #[(.ref r0), (.int (4 : Int32))] 2 = mkF m 0 #[.val (.ref r0), .val (.int (4 : Int32))] [] := by first | (simp [entryFrame, mkF, argsToLocals, Value.category]; done) | rfl
def QD_4 (Z : State) (r0 : Addr) (f : Nat → Value) (h0 : Heap) (n0 : Nat) (v : Option Value) (h : Heap) (L : List Loc) : Prop := v = some (.int (0 : Int32)) ∧ Fr n0 L ∧ h = h0
set_option maxRecDepth 65536 in
set_option maxHeartbeats 40000000 in
theorem rmD_4 (l : Launch) (Z : State) (a0 : Array Value) (hw : ∀ d ∈ tables_1, d.before a0 Z = true) (ws : List Jvm.Cond) (r0 : Addr) (f : Nat → Value) (h0 : Heap) (n0 : Nat) (Z0 : n0 ≤ h0.size) (A : Af Z h0 r0 .byte 4 f) :
    MetFree l (⟨"java/lang/StringUTF16", "coderFromArrayLen", "([BI)B"⟩ : MethodName) (head1 (Jvm.Cond.code (⟨"java/lang/StringUTF16", "coderFromArrayLen", "([BI)B"⟩ : MethodName) jdk_52_method_15_code 2 (some .byte) :: ws) ({ frames := 0, cells := 0, slots := 0, locals := 0 } : Room)) (fun a U => a = #[(.ref r0), (.int (4 : Int32))] ∧ Z.Warmed39 U.vm ∧ U.heap = h0) (fun _ _ _ _ _ => True) (fun _ U o U' => ∃ v L, o = .returned v ∧ QD_4 Z r0 f h0 n0 v U'.heap L ∧ FrameEnd U o U' L ({ frames := 0, cells := 0, slots := 0, locals := 0 } : Room).cells ({ frames := 0, cells := 0, slots := 0, locals := 0 } : Room).slots) := by
  refine MetFree.of_bodySF (plainFor_of_name own_pn_rmD_4) hisR ?_
  intro p e s m args below meth cO s₁ Bd hml0 hP hK
  obtain ⟨rfl, hZ, hh⟩ := hP
  have hx := Bd.exec
  have hby := Bd.bytes
  have hml : cO.maxLocals = 2 := hml0
  have hown : s.vm.findClass "java/lang/StringUTF16" = some m.cls := findClass_of_methodNamed Bd.named
  have hnm := (name_of_methodNamed Bd.named Bd.method).1
  have hlk : meth.locks = false := BodyLoose.notSynchronized Bd
  have X0 : Stand p l e ({ frames := 0, cells := 0, slots := 0, locals := 0 } : Room) s m #[(.ref r0), (.int (4 : Int32))] below meth cO s₁ [] 0 0 := Stand.of_body Bd
  have e0 : s₁.heap = h0 := by rw [← hh, Bd.state]; rfl
  have N0 := Fr.nil n0
  refine own_in (own_ef_rmD_4 m r0) ?_
  show Gm p e below s₁ m 0 #[rv r0, iv (4 : Int32)] [] _
  refine own_go (fun t₀ k₀ => XS.iloadN X0.here hx rfl (Jvm.hb hby d20_0) rfl k₀) ?_
  show Gm p e below s₁ m 1 #[rv r0, iv (4 : Int32)] [(.int (4 : Int32))] _
  refine own_go (fun t₀ k₀ => XS.aloadN X0.here hx rfl (Jvm.hb hby d20_1) rfl rfl k₀) ?_
  show Gm p e below s₁ m 2 #[rv r0, iv (4 : Int32)] [(.ref r0), (.int (4 : Int32))] _
  refine own_go (fun t₀ k₀ => own_len X0 hx hZ e0 A (z := (4 : Int32)) rfl (g := (mkF m 2 #[rv r0, iv (4 : Int32)] [(.ref r0), (.int (4 : Int32))])) rfl rfl (Jvm.hb hby d20_2) k₀) ?_
  show Gm p e below s₁ m 3 #[rv r0, iv (4 : Int32)] [(.int (4 : Int32)), (.int (4 : Int32))] _
  refine own_go (fun t₀ k₀ => XS.isub X0.here hx rfl (Jvm.hb hby d20_3) rfl k₀) ?_
  show Gm p e below s₁ m 4 #[rv r0, iv (4 : Int32)] [(.int (0 : Int32))] _
  refine own_go (fun t₀ k₀ => XS.bipush X0.here hx rfl (Jvm.hb hby d20_4) k₀) ?_
  show Gm p e below s₁ m 6 #[rv r0, iv (4 : Int32)] [(.int (31 : Int32)), (.int (0 : Int32))] _
  refine own_go (fun t₀ k₀ => XS.iushr X0.here hx rfl (Jvm.hb hby d20_6) rfl k₀) ?_
  show Gm p e below s₁ m 7 #[rv r0, iv (4 : Int32)] [(.int (((0 : Int32).toUInt32 >>> ((31 : Int32) &&& 31).toUInt32).toInt32))] _
  refine own_go (fun t₀ k₀ => XS.i2b X0.here hx rfl (Jvm.hb hby d20_7) rfl k₀) ?_
  show Gm p e below s₁ m 8 #[rv r0, iv (4 : Int32)] [(.int ((((0 : Int32).toUInt32 >>> ((31 : Int32) &&& 31).toUInt32).toInt32).toInt8.toInt32))] _
  exact own_retI X0 hx hlk (t := .byte) Bd.returns (by decide +kernel) (by simp) (Jvm.hb hby d20_8) e0 ⟨(by decide +kernel), N0, rfl⟩ (by decide) (by decide)
theorem own_pn_rmV_4 : plainName "java/lang/String" = true := by first | (simp [plainName, overriddenIn]; done) | decide +kernel
theorem own_ef_rmV_4 (m : MethodId) (r0 : Addr) (r1 : Addr) : entryFrame m #[(.ref r0), (.ref r1), (.int (0 : Int32)), (.int (4 : Int32)), .null] 6 = mkF m 0 #[.val (.ref r0), .val (.ref r1), .val (.int (0 : Int32)), .val (.int (4 : Int32)), .val .null, .unset] [] := by first | (simp [entryFrame, mkF, argsToLocals, Value.category]; done) | rfl
def QV_4 (Z : State) (r0 : Addr) (r1 : Addr) (f : Nat → Value) (c0 : Int32) (c1 : Int32) (c2 : Int32) (c3 : Int32) (cs : Int32) (h0 : Heap) (n0 : Nat) (v : Option Value) (h : Heap) (L : List Loc) : Prop := ∃ (b : Addr) (f' : Nat → Value), v = none ∧ Fr n0 L ∧ Keep h0 h [r0] ∧ Exa Z h r0 "java/lang/String" ∧ Fld Z h r0 "java/lang/String" "coder" "B" (.int (0 : Int32)) ∧ Fld Z h r0 "java/lang/String" "value" "[B" (.ref b) ∧ Af Z h b .byte 4 f' ∧ f' 0 = .int (own_by c0) ∧ f' 1 = .int (own_by c1) ∧ f' 2 = .int (own_by c2) ∧ f' 3 = .int (own_by c3)
set_option maxRecDepth 65536 in
set_option maxHeartbeats 40000000 in
theorem rmV_4 (l : Launch) (Z : State) (a0 : Array Value) (hw : ∀ d ∈ tables_1, d.before a0 Z = true) (ws : List Jvm.Cond) (r0 : Addr) (r1 : Addr) (f : Nat → Value) (c0 : Int32) (c1 : Int32) (c2 : Int32) (c3 : Int32) (cs : Int32) (h0 : Heap) (n0 : Nat) (Z0 : n0 ≤ h0.size) (E_r0 : Exa Z h0 r0 "java/lang/String") (F_v : Fld Z h0 r0 "java/lang/String" "value" "[B" .null) (F_c : Fld Z h0 r0 "java/lang/String" "coder" "B" (.int (0 : Int32))) (A : Af Z h0 r1 .char 4 f) (hf_0 : f 0 = .int c0) (hf_1 : f 1 = .int c1) (hf_2 : f 2 = .int c2) (hf_3 : f 3 = .int c3) (hc_0 : ¬ (255 : Int32) < c0) (hc_1 : ¬ (255 : Int32) < c1) (hc_2 : ¬ (255 : Int32) < c2) (hc_3 : ¬ (255 : Int32) < c3) (S_c : Sta Z h0 "java/lang/String" "COMPACT_STRINGS" "Z" (.int cs)) (hcs : ¬ cs = 0) (g_r0 : n0 ≤ r0) :
    MetFree l (⟨"java/lang/String", "<init>", "([CIILjava/lang/Void;)V"⟩ : MethodName) (head1 (Jvm.Cond.code (⟨"java/lang/String", "<init>", "([CIILjava/lang/Void;)V"⟩ : MethodName) jdk_42_method_149_code 6 none :: ws) ({ frames := 2, cells := 1, slots := 4, locals := 35 } : Room)) (fun a U => a = #[(.ref r0), (.ref r1), (.int (0 : Int32)), (.int (4 : Int32)), .null] ∧ Z.Warmed39 U.vm ∧ U.heap = h0) (fun _ _ _ _ _ => True) (fun _ U o U' => ∃ v L, o = .returned v ∧ QV_4 Z r0 r1 f c0 c1 c2 c3 cs h0 n0 v U'.heap L ∧ FrameEnd U o U' L ({ frames := 2, cells := 1, slots := 4, locals := 35 } : Room).cells ({ frames := 2, cells := 1, slots := 4, locals := 35 } : Room).slots) := by
  refine MetFree.of_bodySF (plainFor_of_name own_pn_rmV_4) hisR ?_
  intro p e s m args below meth cO s₁ Bd hml0 hP hK
  obtain ⟨rfl, hZ, hh⟩ := hP
  have hx := Bd.exec
  have hby := Bd.bytes
  have hml : cO.maxLocals = 6 := hml0
  have hown : s.vm.findClass "java/lang/String" = some m.cls := findClass_of_methodNamed Bd.named
  have hnm := (name_of_methodNamed Bd.named Bd.method).1
  have hlk : meth.locks = false := BodyLoose.notSynchronized Bd
  have X0 : Stand p l e ({ frames := 2, cells := 1, slots := 4, locals := 35 } : Room) s m #[(.ref r0), (.ref r1), (.int (0 : Int32)), (.int (4 : Int32)), .null] below meth cO s₁ [] 0 0 := Stand.of_body Bd
  have e0 : s₁.heap = h0 := by rw [← hh, Bd.state]; rfl
  have N0 := Fr.nil n0
  refine own_in (own_ef_rmV_4 m r0 r1) ?_
  show Gm p e below s₁ m 0 #[rv r0, rv r1, iv (0 : Int32), iv (4 : Int32), .val .null, .unset] [] _
  refine own_go (fun t₀ k₀ => XS.aloadN X0.here hx rfl (Jvm.hb hby d3_0) rfl rfl k₀) ?_
  show Gm p e below s₁ m 1 #[rv r0, rv r1, iv (0 : Int32), iv (4 : Int32), .val .null, .unset] [(.ref r0)] _
  obtain ⟨T1, X1, e1, st1⟩ := initO X0 hx hZ hown (hw _ (List.mem_of_getElem? (i := 16) rfl)) (hw _ (List.mem_of_getElem? (i := 17) rfl)) (hw _ (List.mem_of_getElem? (i := 18) rfl)) e0 (g := (mkF m 1 #[rv r0, rv r1, iv (0 : Int32), iv (4 : Int32), .val .null, .unset] [(.ref r0)])) rfl (by rw [hml]; rfl) rfl (Jvm.hb hby d3_1) (by decide) (W := 0) (by show 2 * 0 + _ ≤ _; exact Nat.le_of_eq rfl) (by decide)
  refine own_go st1 ?_
  show Gm p e below T1 m 4 #[rv r0, rv r1, iv (0 : Int32), iv (4 : Int32), .val .null, .unset] [] _
  refine own_go (fun t₀ k₀ => XS.iloadN X1.here hx rfl (Jvm.hb hby d3_4) rfl k₀) ?_
  show Gm p e below T1 m 5 #[rv r0, rv r1, iv (0 : Int32), iv (4 : Int32), .val .null, .unset] [(.int (4 : Int32))] _
  refine own_go (fun t₀ k₀ => XS.ifYes X1.here hx rfl (pc0 := 5) (pc' := 27) rfl (Jvm.hb hby d3_5) rfl (XT.i0_ne_t (by decide)) (by decide) (by decide) k₀) ?_
  show Gm p e below T1 m 27 #[rv r0, rv r1, iv (0 : Int32), iv (4 : Int32), .val .null, .unset] [] _
  obtain ⟨T2, X2, e2, st2⟩ := getS2 X1 hx hZ hown (host := "") (Or.inl (hw _ (List.mem_of_getElem? (i := 64) rfl))) Via.refl e1 S_c (g := (mkF m 27 #[rv r0, rv r1, iv (0 : Int32), iv (4 : Int32), .val .null, .unset] [])) rfl (Jvm.hb hby d3_27)
  refine own_go st2 ?_
  show Gm p e below T2 m 30 #[rv r0, rv r1, iv (0 : Int32), iv (4 : Int32), .val .null, .unset] [(.int cs)] _
  refine own_go (fun t₀ k₀ => XS.ifNo X2.here hx rfl (Jvm.hb hby d3_30) rfl (XT.i0_eq_f hcs) k₀) ?_
  show Gm p e below T2 m 33 #[rv r0, rv r1, iv (0 : Int32), iv (4 : Int32), .val .null, .unset] [] _
  refine own_go (fun t₀ k₀ => XS.aloadN X2.here hx rfl (Jvm.hb hby d3_33) rfl rfl k₀) ?_
  show Gm p e below T2 m 34 #[rv r0, rv r1, iv (0 : Int32), iv (4 : Int32), .val .null, .unset] [(.ref r1)] _
  refine own_go (fun t₀ k₀ => XS.iloadN X2.here hx rfl (Jvm.hb hby d3_34) rfl k₀) ?_
  show Gm p e below T2 m 35 #[rv r0, rv r1, iv (0 : Int32), iv (4 : Int32), .val .null, .unset] [(.int (0 : Int32)), (.ref r1)] _
  refine own_go (fun t₀ k₀ => XS.iloadN X2.here hx rfl (Jvm.hb hby d3_35) rfl k₀) ?_
  show Gm p e below T2 m 36 #[rv r0, rv r1, iv (0 : Int32), iv (4 : Int32), .val .null, .unset] [(.int (4 : Int32)), (.int (0 : Int32)), (.ref r1)] _
  obtain ⟨_, _, ⟨T3, L3, k3, n3⟩, -, X3, ⟨Lc3, hQ3, l3, y3, z3⟩, st3⟩ := Jvm.LawKit.callS X2 hx (y := (⟨"java/lang/StringUTF16", "compress", "([CII)[B"⟩ : MethodName)) hown (mvT hZ (hw _ (List.mem_of_getElem? (i := 106) rfl))) (mvT hZ (hw _ (List.mem_of_getElem? (i := 107) rfl))) (mvT hZ (hw _ (List.mem_of_getElem? (i := 108) rfl))) (mvT hZ (hw _ (List.mem_of_getElem? (i := 109) rfl))) (by decide) (backOf (W := 0) (rmP_4 l Z a0 hw [] r1 f c0 c1 c2 c3 h0 n0 Z0 A hf_0 hf_1 hf_2 hf_3 hc_0 hc_1 hc_2 hc_3) hZ (hw _ (List.mem_of_getElem? (i := 109) rfl)) (hw _ (List.mem_of_getElem? (i := 108) rfl)) (by decide) (by decide)) (g := (mkF m 36 #[rv r0, rv r1, iv (0 : Int32), iv (4 : Int32), .val .null, .unset] [(.int (4 : Int32)), (.int (0 : Int32)), (.ref r1)])) rfl (by rw [hml]; rfl) (argsL := [(.ref r1), (.int (0 : Int32)), (.int (4 : Int32))]) (rest := []) (lenOf own_pd1 rfl) rfl (by show 2 * 0 + _ ≤ _; exact Nat.le_of_eq rfl) (Jvm.hb hby d3_36) (fun _ _ => ⟨rfl, e2, (by decide : 0 + 1 ≤ _), (by decide : 0 + 4 ≤ _)⟩)
  dsimp only [Pt.U, Pt.locs, Pt.cells, Pt.slots] at X3 l3 y3 z3 st3 hQ3
  subst l3 y3 z3
  obtain ⟨bp3, fp3, rfl, Nq3, Kc3, sz3, Ap3, hp3_0, hp3_1, hp3_2, hp3_3⟩ := hQ3
  have N3 := Fr.app N0 Nq3
  refine own_go st3 ?_
  have g_bp3 : n0 ≤ bp3 := Nat.le_trans Z0 sz3
  have Z3 : n0 ≤ T3.heap.size := Nat.le_trans Z0 Kc3.1
  have K3 : Keep h0 T3.heap [r0] := Keep.trans (Keep.refl h0 [r0]) Kc3 all0
  have sz_bp3 : h0.size ≤ bp3 := Nat.le_trans (Keep.refl h0 [r0]).1 sz3
  show Gm p e below T3 m 39 #[rv r0, rv r1, iv (0 : Int32), iv (4 : Int32), .val .null, .unset] [(.ref bp3)] _
  refine own_go (fun t₀ k₀ => XS.astore X3.here hx rfl (Jvm.hb hby d3_39) rfl rfl (l' := #[rv r0, rv r1, iv (0 : Int32), iv (4 : Int32), .val .null, rv bp3]) rfl k₀) ?_
  show Gm p e below T3 m 41 #[rv r0, rv r1, iv (0 : Int32), iv (4 : Int32), .val .null, rv bp3] [] _
  refine own_go (fun t₀ k₀ => XS.aloadN X3.here hx rfl (Jvm.hb hby d3_41) rfl rfl k₀) ?_
  show Gm p e below T3 m 42 #[rv r0, rv r1, iv (0 : Int32), iv (4 : Int32), .val .null, rv bp3] [(.ref r0)] _
  refine own_go (fun t₀ k₀ => XS.aload X3.here hx rfl (Jvm.hb hby d3_42) rfl rfl k₀) ?_
  show Gm p e below T3 m 44 #[rv r0, rv r1, iv (0 : Int32), iv (4 : Int32), .val .null, rv bp3] [(.ref bp3), (.ref r0)] _
  refine own_go (fun t₀ k₀ => XS.iloadN X3.here hx rfl (Jvm.hb hby d3_44) rfl k₀) ?_
  show Gm p e below T3 m 45 #[rv r0, rv r1, iv (0 : Int32), iv (4 : Int32), .val .null, rv bp3] [(.int (4 : Int32)), (.ref bp3), (.ref r0)] _
  obtain ⟨_, _, ⟨T4, L4, k4, n4⟩, -, X4, ⟨Lc4, hQ4, l4, y4, z4⟩, st4⟩ := Jvm.LawKit.callS X3 hx (y := (⟨"java/lang/StringUTF16", "coderFromArrayLen", "([BI)B"⟩ : MethodName)) hown (mvT hZ (hw _ (List.mem_of_getElem? (i := 113) rfl))) (mvT hZ (hw _ (List.mem_of_getElem? (i := 114) rfl))) (mvT hZ (hw _ (List.mem_of_getElem? (i := 108) rfl))) (mvT hZ (hw _ (List.mem_of_getElem? (i := 115) rfl))) (by decide) (backOf (W := 1) (rmD_4 l Z a0 hw [] bp3 fp3 T3.heap n0 Z3 Ap3) hZ (hw _ (List.mem_of_getElem? (i := 115) rfl)) (hw _ (List.mem_of_getElem? (i := 108) rfl)) (by decide) (by decide)) (g := (mkF m 45 #[rv r0, rv r1, iv (0 : Int32), iv (4 : Int32), .val .null, rv bp3] [(.int (4 : Int32)), (.ref bp3), (.ref r0)])) rfl (by rw [hml]; rfl) (argsL := [(.ref bp3), (.int (4 : Int32))]) (rest := [(.ref r0)]) (lenOf own_pd2 rfl) rfl (by show 2 * 0 + _ ≤ _; exact Nat.le_of_eq rfl) (Jvm.hb hby d3_45) (fun _ _ => ⟨rfl, rfl, (by decide : 1 + 0 ≤ _), (by decide : 4 + 0 ≤ _)⟩)
  dsimp only [Pt.U, Pt.locs, Pt.cells, Pt.slots] at X4 l4 y4 z4 st4 hQ4
  subst l4 y4 z4
  obtain ⟨rfl, Nq4, eq4⟩ := hQ4
  have N4 := Fr.app N3 Nq4
  have e4 : T4.heap = T3.heap := eq4
  refine own_go st4 ?_
  show Gm p e below T4 m 48 #[rv r0, rv r1, iv (0 : Int32), iv (4 : Int32), .val .null, rv bp3] [(.int (0 : Int32)), (.ref r0)] _
  have f5 := (E_r0.keep Kc3)
  have f6 := (F_c.keep Kc3 nin0)
  obtain ⟨T7, h7, X7, e7, W7, st7⟩ := putFN X4 hx hZ hown (hw _ (List.mem_of_getElem? (i := 26) rfl)) Via.refl e4 f6 f5 (Or.inr ⟨(hw _ (List.mem_of_getElem? (i := 22) rfl)), rfl, hnm⟩) (hw _ (List.mem_of_getElem? (i := 6) rfl)) (ty := .byte) (v' := (.int (0 : Int32))) (by decide) rfl rfl (g := (mkF m 48 #[rv r0, rv r1, iv (0 : Int32), iv (4 : Int32), .val .null, rv bp3] [(.int (0 : Int32)), (.ref r0)])) rfl rfl (Jvm.hb hby d3_48)
  have Fw7 := Fld.same W7 f6
  have N7 := Fr.snoc X7 N4 g_r0
  have Z7 : n0 ≤ h7.size := W7.size ▸ Z3
  have K7 : Keep h0 h7 [r0] := Keep.wr K3 W7 (Or.inl (List.mem_of_getElem? (i := 0) rfl))
  refine own_go st7 ?_
  show Gm p e below T7 m 51 #[rv r0, rv r1, iv (0 : Int32), iv (4 : Int32), .val .null, rv bp3] [] _
  refine own_go (fun t₀ k₀ => XS.aloadN X7.here hx rfl (Jvm.hb hby d3_51) rfl rfl k₀) ?_
  show Gm p e below T7 m 52 #[rv r0, rv r1, iv (0 : Int32), iv (4 : Int32), .val .null, rv bp3] [(.ref r0)] _
  refine own_go (fun t₀ k₀ => XS.aload X7.here hx rfl (Jvm.hb hby d3_52) rfl rfl k₀) ?_
  show Gm p e below T7 m 54 #[rv r0, rv r1, iv (0 : Int32), iv (4 : Int32), .val .null, rv bp3] [(.ref bp3), (.ref r0)] _
  have f8 := (f5.wr W7)
  have f9 := (Fld.other W7 (F_v.keep Kc3 nin0) (Or.inr (slot_ne (Or.inr (hw _ (List.mem_of_getElem? (i := 21) rfl))) (Or.inr (hw _ (List.mem_of_getElem? (i := 22) rfl))) (by decide) (t := (.array .byte)) (t' := .byte) (by decide) (by decide))))
  obtain ⟨T10, h10, X10, e10, W10, st10⟩ := putF X7 hx hZ hown (host := "") (Or.inl (hw _ (List.mem_of_getElem? (i := 25) rfl))) Via.refl e7 f9 f8 (Or.inr ⟨(hw _ (List.mem_of_getElem? (i := 21) rfl)), rfl, hnm⟩) (hw _ (List.mem_of_getElem? (i := 6) rfl)) (ty := (.array .byte)) (by decide) rfl rfl (g := (mkF m 54 #[rv r0, rv r1, iv (0 : Int32), iv (4 : Int32), .val .null, rv bp3] [(.ref bp3), (.ref r0)])) rfl rfl (Jvm.hb hby d3_54)
  have Fw10 := Fld.same W10 f9
  have N10 := Fr.snoc X10 N7 g_r0
  have Z10 : n0 ≤ h10.size := W10.size ▸ Z7
  have K10 : Keep h0 h10 [r0] := Keep.wr K7 W10 (Or.inl (List.mem_of_getElem? (i := 0) rfl))
  refine own_go st10 ?_
  show Gm p e below T10 m 57 #[rv r0, rv r1, iv (0 : Int32), iv (4 : Int32), .val .null, rv bp3] [] _
  have f11 := ((Ap3.other W7 (Ne.symm (Nat.ne_of_lt (Nat.lt_of_lt_of_le E_r0.lt sz3)))).other W10 (Ne.symm (Nat.ne_of_lt (Nat.lt_of_lt_of_le E_r0.lt sz3))))
  have f12 := (f8.wr W10)
  have f13 := (Fld.other W10 Fw7 (Or.inr (slot_ne (Or.inr (hw _ (List.mem_of_getElem? (i := 22) rfl))) (Or.inr (hw _ (List.mem_of_getElem? (i := 21) rfl))) (by decide) (t := .byte) (t' := (.array .byte)) (by decide) (by decide))))
  exact own_retV X10 hx hlk Bd.returns (Jvm.hb hby d3_57) e10 ⟨bp3, fp3, rfl, N10, K10, f12, f13, Fw10, f11, hp3_0, hp3_1, hp3_2, hp3_3⟩ (by decide) (by decide)
theorem own_pn_rmC_4 : plainName "java/lang/String" = true := by first | (simp [plainName, overriddenIn]; done) | decide +kernel
theorem own_ef_rmC_4 (m : MethodId) (r0 : Addr) (r1 : Addr) : entryFrame m #[(.ref r0), (.ref r1)] 2 = mkF m 0 #[.val (.ref r0), .val (.ref r1)] [] := by first | (simp [entryFrame, mkF, argsToLocals, Value.category]; done) | rfl
def QC_4 (Z : State) (r0 : Addr) (r1 : Addr) (f : Nat → Value) (c0 : Int32) (c1 : Int32) (c2 : Int32) (c3 : Int32) (cs : Int32) (h0 : Heap) (n0 : Nat) (v : Option Value) (h : Heap) (L : List Loc) : Prop := ∃ (b : Addr) (f' : Nat → Value), v = none ∧ Fr n0 L ∧ Keep h0 h [r0] ∧ Exa Z h r0 "java/lang/String" ∧ Fld Z h r0 "java/lang/String" "coder" "B" (.int (0 : Int32)) ∧ Fld Z h r0 "java/lang/String" "value" "[B" (.ref b) ∧ Af Z h b .byte 4 f' ∧ f' 0 = .int (own_by c0) ∧ f' 1 = .int (own_by c1) ∧ f' 2 = .int (own_by c2) ∧ f' 3 = .int (own_by c3)
set_option maxRecDepth 65536 in
set_option maxHeartbeats 40000000 in
theorem rmC_4 (l : Launch) (Z : State) (a0 : Array Value) (hw : ∀ d ∈ tables_1, d.before a0 Z = true) (ws : List Jvm.Cond) (r0 : Addr) (r1 : Addr) (f : Nat → Value) (c0 : Int32) (c1 : Int32) (c2 : Int32) (c3 : Int32) (cs : Int32) (h0 : Heap) (n0 : Nat) (Z0 : n0 ≤ h0.size) (E_r0 : Exa Z h0 r0 "java/lang/String") (F_v : Fld Z h0 r0 "java/lang/String" "value" "[B" .null) (F_c : Fld Z h0 r0 "java/lang/String" "coder" "B" (.int (0 : Int32))) (A : Af Z h0 r1 .char 4 f) (hf_0 : f 0 = .int c0) (hf_1 : f 1 = .int c1) (hf_2 : f 2 = .int c2) (hf_3 : f 3 = .int c3) (hc_0 : ¬ (255 : Int32) < c0) (hc_1 : ¬ (255 : Int32) < c1) (hc_2 : ¬ (255 : Int32) < c2) (hc_3 : ¬ (255 : Int32) < c3) (S_c : Sta Z h0 "java/lang/String" "COMPACT_STRINGS" "Z" (.int cs)) (hcs : ¬ cs = 0) (g_r0 : n0 ≤ r0) :
    MetFree l (⟨"java/lang/String", "<init>", "([C)V"⟩ : MethodName) (head1 (Jvm.Cond.code (⟨"java/lang/String", "<init>", "([C)V"⟩ : MethodName) jdk_42_method_3_code 2 none :: ws) ({ frames := 3, cells := 1, slots := 4, locals := 52 } : Room)) (fun a U => a = #[(.ref r0), (.ref r1)] ∧ Z.Warmed39 U.vm ∧ U.heap = h0) (fun _ _ _ _ _ => True) (fun _ U o U' => ∃ v L, o = .returned v ∧ QC_4 Z r0 r1 f c0 c1 c2 c3 cs h0 n0 v U'.heap L ∧ FrameEnd U o U' L ({ frames := 3, cells := 1, slots := 4, locals := 52 } : Room).cells ({ frames := 3, cells := 1, slots := 4, locals := 52 } : Room).slots) := by
  refine MetFree.of_bodySF (plainFor_of_name own_pn_rmC_4) hisR ?_
  intro p e s m args below meth cO s₁ Bd hml0 hP hK
  obtain ⟨rfl, hZ, hh⟩ := hP
  have hx := Bd.exec
  have hby := Bd.bytes
  have hml : cO.maxLocals = 2 := hml0
  have hown : s.vm.findClass "java/lang/String" = some m.cls := findClass_of_methodNamed Bd.named
  have hnm := (name_of_methodNamed Bd.named Bd.method).1
  have hlk : meth.locks = false := BodyLoose.notSynchronized Bd
  have X0 : Stand p l e ({ frames := 3, cells := 1, slots := 4, locals := 52 } : Room) s m #[(.ref r0), (.ref r1)] below meth cO s₁ [] 0 0 := Stand.of_body Bd
  have e0 : s₁.heap = h0 := by rw [← hh, Bd.state]; rfl
  have N0 := Fr.nil n0
  refine own_in (own_ef_rmC_4 m r0 r1) ?_
  show Gm p e below s₁ m 0 #[rv r0, rv r1] [] _
  refine own_go (fun t₀ k₀ => XS.aloadN X0.here hx rfl (Jvm.hb hby d2_0) rfl rfl k₀) ?_
  show Gm p e below s₁ m 1 #[rv r0, rv r1] [(.ref r0)] _
  refine own_go (fun t₀ k₀ => XS.aloadN X0.here hx rfl (Jvm.hb hby d2_1) rfl rfl k₀) ?_
  show Gm p e below s₁ m 2 #[rv r0, rv r1] [(.ref r1), (.ref r0)] _
  refine own_go (fun t₀ k₀ => XS.iconst X0.here hx rfl (Jvm.hb hby d2_2) k₀) ?_
  show Gm p e below s₁ m 3 #[rv r0, rv r1] [(.int (0 : Int32)), (.ref r1), (.ref r0)] _
  refine own_go (fun t₀ k₀ => XS.aloadN X0.here hx rfl (Jvm.hb hby d2_3) rfl rfl k₀) ?_
  show Gm p e below s₁ m 4 #[rv r0, rv r1] [(.ref r1), (.int (0 : Int32)), (.ref r1), (.ref r0)] _
  refine own_go (fun t₀ k₀ => own_len X0 hx hZ e0 A (z := (4 : Int32)) rfl (g := (mkF m 4 #[rv r0, rv r1] [(.ref r1), (.int (0 : Int32)), (.ref r1), (.ref r0)])) rfl rfl (Jvm.hb hby d2_4) k₀) ?_
  show Gm p e below s₁ m 5 #[rv r0, rv r1] [(.int (4 : Int32)), (.int (0 : Int32)), (.ref r1), (.ref r0)] _
  refine own_go (fun t₀ k₀ => XS.aconstNull X0.here hx rfl (Jvm.hb hby d2_5) k₀) ?_
  show Gm p e below s₁ m 6 #[rv r0, rv r1] [.null, (.int (4 : Int32)), (.int (0 : Int32)), (.ref r1), (.ref r0)] _
  obtain ⟨_, _, ⟨T1, L1, k1, n1⟩, -, X1, ⟨Lc1, hQ1, l1, y1, z1⟩, st1⟩ := X0.specialBack hx (y := (⟨"java/lang/String", "<init>", "([CIILjava/lang/Void;)V"⟩ : MethodName)) rfl hown (mvT hZ (hw _ (List.mem_of_getElem? (i := 12) rfl))) (mvT hZ (hw _ (List.mem_of_getElem? (i := 13) rfl))) (mvT hZ (hw _ (List.mem_of_getElem? (i := 15) rfl))) (by decide) (backOf (W := 0) (rmV_4 l Z a0 hw [] r0 r1 f c0 c1 c2 c3 cs h0 n0 Z0 E_r0 F_v F_c A hf_0 hf_1 hf_2 hf_3 hc_0 hc_1 hc_2 hc_3 S_c hcs g_r0) hZ (hw _ (List.mem_of_getElem? (i := 15) rfl)) (hw _ (List.mem_of_getElem? (i := 7) rfl)) (by decide) (by decide)) (g := (mkF m 6 #[rv r0, rv r1] [.null, (.int (4 : Int32)), (.int (0 : Int32)), (.ref r1), (.ref r0)])) rfl (by rw [hml]; rfl) (Steps.refl _) (a := r0) (argsL := [(.ref r1), (.int (0 : Int32)), (.int (4 : Int32)), .null]) (rest := []) (lenOf own_pd3 rfl) rfl (by show 2 * 0 + _ ≤ _; exact Nat.le_of_eq rfl) (Jvm.hb hby d2_6) (fun _ _ => ⟨rfl, e0, (by decide : 0 + 1 ≤ _), (by decide : 0 + 4 ≤ _)⟩)
  dsimp only [Pt.U, Pt.locs, Pt.cells, Pt.slots] at X1 l1 y1 z1 st1 hQ1
  subst l1 y1 z1
  obtain ⟨bq1, fq1, rfl, Nq1, Kc1, Ec1, Fc1, Fv1, Aq1, hq1_0, hq1_1, hq1_2, hq1_3⟩ := hQ1
  have N1 := Fr.app N0 Nq1
  refine own_go (fun t k => st1.trans k) ?_
  have Z1 : n0 ≤ T1.heap.size := Nat.le_trans Z0 Kc1.1
  have K1 : Keep h0 T1.heap [r0] := Keep.trans (Keep.refl h0 [r0]) Kc1 (allS (Or.inl (List.mem_of_getElem? (i := 0) rfl)) all0)
  show Gm p e below T1 m 9 #[rv r0, rv r1] [] _
  exact own_retV X1 hx hlk Bd.returns (Jvm.hb hby d2_9) rfl ⟨bq1, fq1, rfl, N1, K1, Ec1, Fc1, Fv1, Aq1, hq1_0, hq1_1, hq1_2, hq1_3⟩ (by decide) (by decide)
theorem d3_8 : decode jdk_42_method_149_code 8 = .ok (.aload_n 0, 1) := by decide +kernel
theorem d3_9 : decode jdk_42_method_149_code 9 = .ok (.ldc 7, 2) := by decide +kernel
theorem d3_11 : decode jdk_42_method_149_code 11 = .ok (.getfield 9, 3) := by decide +kernel
theorem d3_14 : decode jdk_42_method_149_code 14 = .ok (.putfield 9, 3) := by decide +kernel
theorem d3_17 : decode jdk_42_method_149_code 17 = .ok (.aload_n 0, 1) := by decide +kernel
theorem d3_18 : decode jdk_42_method_149_code 18 = .ok (.ldc 7, 2) := by decide +kernel
theorem d3_20 : decode jdk_42_method_149_code 20 = .ok (.getfield 15, 3) := by decide +kernel
theorem d3_23 : decode jdk_42_method_149_code 23 = .ok (.putfield 15, 3) := by decide +kernel
theorem d3_26 : decode jdk_42_method_149_code 26 = .ok (.return_, 1) := by decide +kernel
theorem own_pn_rmV_0 : plainName "java/lang/String" = true := by first | (simp [plainName, overriddenIn]; done) | decide +kernel
theorem own_ef_rmV_0 (m : MethodId) (r0 : Addr) (r1 : Addr) : entryFrame m #[(.ref r0), (.ref r1), (.int (0 : Int32)), (.int (0 : Int32)), .null] 6 = mkF m 0 #[.val (.ref r0), .val (.ref r1), .val (.int (0 : Int32)), .val (.int (0 : Int32)), .val .null, .unset] [] := by first | (simp [entryFrame, mkF, argsToLocals, Value.category]; done) | rfl
def QV_0 (Z : State) (r0 : Addr) (r1 : Addr) (h0 : Heap) (n0 : Nat) (v : Option Value) (h : Heap) (L : List Loc) : Prop := ∃ (b : Addr) (f' : Nat → Value), v = none ∧ Fr n0 L ∧ Keep h0 h [r0] ∧ Exa Z h r0 "java/lang/String" ∧ Fld Z h r0 "java/lang/String" "coder" "B" (.int (0 : Int32)) ∧ Fld Z h r0 "java/lang/String" "value" "[B" (.ref b) ∧ Af Z h b .byte 0 f'
set_option maxRecDepth 65536 in
set_option maxHeartbeats 40000000 in
theorem rmV_0 (l : Launch) (Z : State) (a0 : Array Value) (hw : ∀ d ∈ tables_1, d.before a0 Z = true) (ws : List Jvm.Cond) (r0 : Addr) (r1 : Addr) (h0 : Heap) (n0 : Nat) (Z0 : n0 ≤ h0.size) (E_r0 : Exa Z h0 r0 "java/lang/String") (F_v : Fld Z h0 r0 "java/lang/String" "value" "[B" .null) (F_c : Fld Z h0 r0 "java/lang/String" "coder" "B" (.int (0 : Int32))) (g_r0 : n0 ≤ r0) :
    MetFree l (⟨"java/lang/String", "<init>", "([CIILjava/lang/Void;)V"⟩ : MethodName) (head1 (Jvm.Cond.code (⟨"java/lang/String", "<init>", "([CIILjava/lang/Void;)V"⟩ : MethodName) jdk_42_method_149_code 6 none :: ws) ({ frames := 1, cells := 4, slots := 8, locals := 12 } : Room)) (fun a U => a = #[(.ref r0), (.ref r1), (.int (0 : Int32)), (.int (0 : Int32)), .null] ∧ Z.Warmed39 U.vm ∧ U.heap = h0 ∧ CHv Z own_EL U.vm h0 ∧ ∀ x ∈ [r0], Safe Z own_EL U.vm h0 x) (fun _ _ _ _ _ => True) (fun _ U o U' => ∃ v L, o = .returned v ∧ QV_0 Z r0 r1 h0 n0 v U'.heap L ∧ CHr Z own_EL U.vm U.heap U'.vm U'.heap ∧ ReturnedEndW U o U' L ({ frames := 1, cells := 4, slots := 8, locals := 12 } : Room).cells ({ frames := 1, cells := 4, slots := 8, locals := 12 } : Room).slots) := by
  refine MetFree.of_bodySF (plainFor_of_name own_pn_rmV_0) hisR ?_
  intro p e s m args below meth cO s₁ Bd hml0 hP hK
  obtain ⟨rfl, hZ, hh, hH, hsf⟩ := hP
  have hZ : Z.Warmed39 (s.setVm s.vm).vm := hZ
  have hx := Bd.exec
  have hby := Bd.bytes
  have hml : cO.maxLocals = 6 := hml0
  have hown : (s.setVm s.vm).vm.findClass "java/lang/String" = some m.cls := findClass_of_methodNamed Bd.named
  have hnm := (name_of_methodNamed Bd.named Bd.method).1
  have hlk : meth.locks = false := BodyLoose.notSynchronized Bd
  have X0 : Stand p l e ({ frames := 1, cells := 4, slots := 8, locals := 12 } : Room) (s.setVm s.vm) m #[(.ref r0), (.ref r1), (.int (0 : Int32)), (.int (0 : Int32)), .null] below meth cO s₁ [] 0 0 := Stand.of_body Bd
  have hS0 : s.Since s.vm h0.size := (State.WarmedH.refl s).since _
  have hk0 : h0.size ≤ h0.size := Nat.le_refl _
  have C0 : CHr Z own_EL s.vm s.heap s.vm h0 := by rw [hh]; exact CHr.refl hH
  have sf_r0 : Safe Z own_EL s.vm h0 r0 := hsf _ (List.mem_of_getElem? (i := 0) rfl)
  have e0 : s₁.heap = h0 := by rw [← hh, Bd.state]; rfl
  have N0 := Fr.nil n0
  refine own_in (own_ef_rmV_0 m r0 r1) ?_
  show Gm p e below s₁ m 0 #[rv r0, rv r1, iv (0 : Int32), iv (0 : Int32), .val .null, .unset] [] _
  refine own_go (fun t₀ k₀ => XS.aloadN X0.here hx rfl (Jvm.hb hby d3_0) rfl rfl k₀) ?_
  show Gm p e below s₁ m 1 #[rv r0, rv r1, iv (0 : Int32), iv (0 : Int32), .val .null, .unset] [(.ref r0)] _
  obtain ⟨T1, X1, e1, st1⟩ := initO X0 hx hZ hown (hw _ (List.mem_of_getElem? (i := 16) rfl)) (hw _ (List.mem_of_getElem? (i := 17) rfl)) (hw _ (List.mem_of_getElem? (i := 18) rfl)) e0 (g := (mkF m 1 #[rv r0, rv r1, iv (0 : Int32), iv (0 : Int32), .val .null, .unset] [(.ref r0)])) rfl (by rw [hml]; rfl) rfl (Jvm.hb hby d3_1) (by decide) (W := 0) (by show 2 * 0 + _ ≤ _; exact Nat.le_of_eq rfl) (by decide)
  refine own_go st1 ?_
  show Gm p e below T1 m 4 #[rv r0, rv r1, iv (0 : Int32), iv (0 : Int32), .val .null, .unset] [] _
  refine own_go (fun t₀ k₀ => XS.iloadN X1.here hx rfl (Jvm.hb hby d3_4) rfl k₀) ?_
  show Gm p e below T1 m 5 #[rv r0, rv r1, iv (0 : Int32), iv (0 : Int32), .val .null, .unset] [(.int (0 : Int32))] _
  refine own_go (fun t₀ k₀ => XS.ifNo X1.here hx rfl (Jvm.hb hby d3_5) rfl (XT.i0_ne_f (by decide)) k₀) ?_
  show Gm p e below T1 m 8 #[rv r0, rv r1, iv (0 : Int32), iv (0 : Int32), .val .null, .unset] [] _
  refine own_go (fun t₀ k₀ => XS.aloadN X1.here hx rfl (Jvm.hb hby d3_8) rfl rfl k₀) ?_
  show Gm p e below T1 m 9 #[rv r0, rv r1, iv (0 : Int32), iv (0 : Int32), .val .null, .unset] [(.ref r0)] _
  obtain ⟨a2, T2, h2, k2, c2, kc2, X2, e2, E2, hS2, hk2, hZ, hown, El2, Fc2, Fv2, Av2, -, -, Cs2, -, hne2, st2⟩ := ldcCH X1 hx hZ hown (hw _ (List.mem_of_getElem? (i := 19) rfl)) (own_wS hw) e1 hS0 hk0 (own_ew hw) (List.mem_of_getElem? (i := 0) rfl) C0.1 (z := 0) (vs := []) ⟨by simp, rfl⟩ (by decide) rfl (g := (mkF m 9 #[rv r0, rv r1, iv (0 : Int32), iv (0 : Int32), .val .null, .unset] [(.ref r0)])) rfl (Jvm.hb hby d3_9) (n := 0) (by decide) (by decide) (by decide) (by decide)
  have sq_r0_2 := CHr.safe Cs2 E_r0.lt sf_r0
  have C2 := CHr.trans C0 Cs2
  have Z2 : n0 ≤ h2.size := Nat.le_trans Z0 E2.1
  have K2 : Keep h0 h2 [r0] := Keep.ext (Keep.refl h0 [r0]) E2
  refine own_go st2 ?_
  have Az2 : Af Z h2 c2 .byte 0 (fun _ => .int 0) := own_af0 Av2
  have na_r0_2 := (hne2 r0 sq_r0_2).1
  have nc_r0_2 := (hne2 r0 sq_r0_2).2
  show Gm p e below T2 m 11 #[rv r0, rv r1, iv (0 : Int32), iv (0 : Int32), .val .null, .unset] [(.ref a2), (.ref r0)] _
  obtain ⟨T3, X3, e3, st3⟩ := getF X2 hx hZ hown (host := "") (Or.inl (hw _ (List.mem_of_getElem? (i := 25) rfl))) Via.refl e2 Fv2 (g := (mkF m 11 #[rv r0, rv r1, iv (0 : Int32), iv (0 : Int32), .val .null, .unset] [(.ref a2), (.ref r0)])) rfl rfl (Jvm.hb hby d3_11)
  refine own_go st3 ?_
  show Gm p e below T3 m 14 #[rv r0, rv r1, iv (0 : Int32), iv (0 : Int32), .val .null, .unset] [(.ref c2), (.ref r0)] _
  have f4 := (E_r0.ext E2)
  have f5 := (F_v.ext E2)
  obtain ⟨T6, h6, X6, e6, W6, st6⟩ := putF X3 hx hZ hown (host := "") (Or.inl (hw _ (List.mem_of_getElem? (i := 25) rfl))) Via.refl e3 f5 f4 (Or.inr ⟨(hw _ (List.mem_of_getElem? (i := 21) rfl)), rfl, hnm⟩) (hw _ (List.mem_of_getElem? (i := 6) rfl)) (ty := (.array .byte)) (by decide) rfl rfl (g := (mkF m 14 #[rv r0, rv r1, iv (0 : Int32), iv (0 : Int32), .val .null, .unset] [(.ref c2), (.ref r0)])) rfl rfl (Jvm.hb hby d3_14)
  have Fw6 := Fld.same W6 f5
  have N6 := Fr.snoc X6 N0 g_r0
  have Z6 : n0 ≤ h6.size := W6.size ▸ Z2
  have K6 : Keep h0 h6 [r0] := Keep.wr K2 W6 (Or.inl (List.mem_of_getElem? (i := 0) rfl))
  have C6 := CHr.trans C2 (CHr.wr W6 sq_r0_2 C2.1)
  have hk6 : k2 ≤ h6.size := W6.size ▸ hk2
  refine own_go st6 ?_
  show Gm p e below T6 m 17 #[rv r0, rv r1, iv (0 : Int32), iv (0 : Int32), .val .null, .unset] [] _
  refine own_go (fun t₀ k₀ => XS.aloadN X6.here hx rfl (Jvm.hb hby d3_17) rfl rfl k₀) ?_
  show Gm p e below T6 m 18 #[rv r0, rv r1, iv (0 : Int32), iv (0 : Int32), .val .null, .unset] [(.ref r0)] _
  have f8 := (Safe.wr W6 sq_r0_2 C2.1 sq_r0_2)
  have f9 := (f4.wr W6)
  obtain ⟨a7, T7, h7, k7, c7, kc7, X7, e7, E7, hS7, hk7, hZ, hown, El7, Fc7, Fv7, Av7, -, -, Cs7, -, hne7, st7⟩ := ldcCH X6 hx hZ hown (hw _ (List.mem_of_getElem? (i := 19) rfl)) (own_wS hw) e6 hS2 hk6 (own_ew hw) (List.mem_of_getElem? (i := 0) rfl) C6.1 (z := 0) (vs := []) ⟨by simp, rfl⟩ (by decide) rfl (g := (mkF m 18 #[rv r0, rv r1, iv (0 : Int32), iv (0 : Int32), .val .null, .unset] [(.ref r0)])) rfl (Jvm.hb hby d3_18) (n := 0) (by decide) (by decide) (by decide) (by decide)
  have sq_r0_7 := CHr.safe Cs7 f9.lt f8
  have C7 := CHr.trans C6 Cs7
  have Z7 : n0 ≤ h7.size := Nat.le_trans Z6 E7.1
  have K7 : Keep h0 h7 [r0] := Keep.ext K6 E7
  refine own_go st7 ?_
  have Az7 : Af Z h7 c7 .byte 0 (fun _ => .int 0) := own_af0 Av7
  have na_r0_7 := (hne7 r0 sq_r0_7).1
  have nc_r0_7 := (hne7 r0 sq_r0_7).2
  show Gm p e below T7 m 20 #[rv r0, rv r1, iv (0 : Int32), iv (0 : Int32), .val .null, .unset] [(.ref a7), (.ref r0)] _
  obtain ⟨T10, X10, e10, st10⟩ := getF X7 hx hZ hown (host := "") (Or.inl (hw _ (List.mem_of_getElem? (i := 26) rfl))) Via.refl e7 Fc7 (g := (mkF m 20 #[rv r0, rv r1, iv (0 : Int32), iv (0 : Int32), .val .null, .unset] [(.ref a7), (.ref r0)])) rfl rfl (Jvm.hb hby d3_20)
  refine own_go st10 ?_
  show Gm p e below T10 m 23 #[rv r0, rv r1, iv (0 : Int32), iv (0 : Int32), .val .null, .unset] [(.int (0 : Int32)), (.ref r0)] _
  have f11 := (f9.ext E7)
  have f12 := ((Fld.other W6 (F_c.ext E2) (Or.inr (slot_ne (Or.inr (hw _ (List.mem_of_getElem? (i := 22) rfl))) (Or.inr (hw _ (List.mem_of_getElem? (i := 21) rfl))) (by decide) (t := .byte) (t' := (.array .byte)) (by decide) (by decide)))).ext E7)
  obtain ⟨T13, h13, X13, e13, W13, st13⟩ := putFN X10 hx hZ hown (hw _ (List.mem_of_getElem? (i := 26) rfl)) Via.refl e10 f12 f11 (Or.inr ⟨(hw _ (List.mem_of_getElem? (i := 22) rfl)), rfl, hnm⟩) (hw _ (List.mem_of_getElem? (i := 6) rfl)) (ty := .byte) (v' := (.int (0 : Int32))) (by decide) rfl rfl (g := (mkF m 23 #[rv r0, rv r1, iv (0 : Int32), iv (0 : Int32), .val .null, .unset] [(.int (0 : Int32)), (.ref r0)])) rfl rfl (Jvm.hb hby d3_23)
  have Fw13 := Fld.same W13 f12
  have N13 := Fr.snoc X13 N6 g_r0
  have Z13 : n0 ≤ h13.size := W13.size ▸ Z7
  have K13 : Keep h0 h13 [r0] := Keep.wr K7 W13 (Or.inl (List.mem_of_getElem? (i := 0) rfl))
  have C13 := CHr.trans C7 (CHr.wr W13 sq_r0_7 C7.1)
  have hk13 : k7 ≤ h13.size := W13.size ▸ hk7
  refine own_go st13 ?_
  show Gm p e below T13 m 26 #[rv r0, rv r1, iv (0 : Int32), iv (0 : Int32), .val .null, .unset] [] _
  have f14 := (((Az2.other W6 (Ne.symm nc_r0_2)).ext E7).other W13 (Ne.symm nc_r0_2))
  have f15 := (f11.wr W13)
  have f16 := (Fld.other W13 (Fw6.ext E7) (Or.inr (slot_ne (Or.inr (hw _ (List.mem_of_getElem? (i := 21) rfl))) (Or.inr (hw _ (List.mem_of_getElem? (i := 22) rfl))) (by decide) (t := (.array .byte)) (t' := .byte) (by decide) (by decide))))
  exact own_retVW X13 hx hlk hZ (own_ew hw) hS7 hk13 C13 Bd.returns (Jvm.hb hby d3_26) e13 ⟨c2, (fun _ => .int 0), rfl, N13, K13, f15, Fw13, f16, f14⟩ (by decide) (by decide)
theorem own_pn_rmC_0 : plainName "java/lang/String" = true := by first | (simp [plainName, overriddenIn]; done) | decide +kernel
theorem own_ef_rmC_0 (m : MethodId) (r0 : Addr) (r1 : Addr) : entryFrame m #[(.ref r0), (.ref r1)] 2 = mkF m 0 #[.val (.ref r0), .val (.ref r1)] [] := by first | (simp [entryFrame, mkF, argsToLocals, Value.category]; done) | rfl
def QC_0 (Z : State) (r0 : Addr) (r1 : Addr) (f : Nat → Value) (h0 : Heap) (n0 : Nat) (v : Option Value) (h : Heap) (L : List Loc) : Prop := ∃ (b : Addr) (f' : Nat → Value), v = none ∧ Fr n0 L ∧ Keep h0 h [r0] ∧ Exa Z h r0 "java/lang/String" ∧ Fld Z h r0 "java/lang/String" "coder" "B" (.int (0 : Int32)) ∧ Fld Z h r0 "java/lang/String" "value" "[B" (.ref b) ∧ Af Z h b .byte 0 f'
set_option maxRecDepth 65536 in
set_option maxHeartbeats 40000000 in
theorem rmC_0 (l : Launch) (Z : State) (a0 : Array Value) (hw : ∀ d ∈ tables_1, d.before a0 Z = true) (ws : List Jvm.Cond) (r0 : Addr) (r1 : Addr) (f : Nat → Value) (h0 : Heap) (n0 : Nat) (Z0 : n0 ≤ h0.size) (E_r0 : Exa Z h0 r0 "java/lang/String") (F_v : Fld Z h0 r0 "java/lang/String" "value" "[B" .null) (F_c : Fld Z h0 r0 "java/lang/String" "coder" "B" (.int (0 : Int32))) (g_r0 : n0 ≤ r0) (A : Af Z h0 r1 .char 0 f) :
    MetFree l (⟨"java/lang/String", "<init>", "([C)V"⟩ : MethodName) (head1 (Jvm.Cond.code (⟨"java/lang/String", "<init>", "([C)V"⟩ : MethodName) jdk_42_method_3_code 2 none :: ws) ({ frames := 2, cells := 4, slots := 8, locals := 29 } : Room)) (fun a U => a = #[(.ref r0), (.ref r1)] ∧ Z.Warmed39 U.vm ∧ U.heap = h0 ∧ CHv Z own_EL U.vm h0 ∧ ∀ x ∈ [r0], Safe Z own_EL U.vm h0 x) (fun _ _ _ _ _ => True) (fun _ U o U' => ∃ v L, o = .returned v ∧ QC_0 Z r0 r1 f h0 n0 v U'.heap L ∧ CHr Z own_EL U.vm U.heap U'.vm U'.heap ∧ ReturnedEndW U o U' L ({ frames := 2, cells := 4, slots := 8, locals := 29 } : Room).cells ({ frames := 2, cells := 4, slots := 8, locals := 29 } : Room).slots) := by
  refine MetFree.of_bodySF (plainFor_of_name own_pn_rmC_0) hisR ?_
  intro p e s m args below meth cO s₁ Bd hml0 hP hK
  obtain ⟨rfl, hZ, hh, hH, hsf⟩ := hP
  have hZ : Z.Warmed39 (s.setVm s.vm).vm := hZ
  have hx := Bd.exec
  have hby := Bd.bytes
  have hml : cO.maxLocals = 2 := hml0
  have hown : (s.setVm s.vm).vm.findClass "java/lang/String" = some m.cls := findClass_of_methodNamed Bd.named
  have hnm := (name_of_methodNamed Bd.named Bd.method).1
  have hlk : meth.locks = false := BodyLoose.notSynchronized Bd
  have X0 : Stand p l e ({ frames := 2, cells := 4, slots := 8, locals := 29 } : Room) (s.setVm s.vm) m #[(.ref r0), (.ref r1)] below meth cO s₁ [] 0 0 := Stand.of_body Bd
  have hS0 : s.Since s.vm h0.size := (State.WarmedH.refl s).since _
  have hk0 : h0.size ≤ h0.size := Nat.le_refl _
  have C0 : CHr Z own_EL s.vm s.heap s.vm h0 := by rw [hh]; exact CHr.refl hH
  have sf_r0 : Safe Z own_EL s.vm h0 r0 := hsf _ (List.mem_of_getElem? (i := 0) rfl)
  have e0 : s₁.heap = h0 := by rw [← hh, Bd.state]; rfl
  have N0 := Fr.nil n0
  refine own_in (own_ef_rmC_0 m r0 r1) ?_
  show Gm p e below s₁ m 0 #[rv r0, rv r1] [] _
  refine own_go (fun t₀ k₀ => XS.aloadN X0.here hx rfl (Jvm.hb hby d2_0) rfl rfl k₀) ?_
  show Gm p e below s₁ m 1 #[rv r0, rv r1] [(.ref r0)] _
  refine own_go (fun t₀ k₀ => XS.aloadN X0.here hx rfl (Jvm.hb hby d2_1) rfl rfl k₀) ?_
  show Gm p e below s₁ m 2 #[rv r0, rv r1] [(.ref r1), (.ref r0)] _
  refine own_go (fun t₀ k₀ => XS.iconst X0.here hx rfl (Jvm.hb hby d2_2) k₀) ?_
  show Gm p e below s₁ m 3 #[rv r0, rv r1] [(.int (0 : Int32)), (.ref r1), (.ref r0)] _
  refine own_go (fun t₀ k₀ => XS.aloadN X0.here hx rfl (Jvm.hb hby d2_3) rfl rfl k₀) ?_
  show Gm p e below s₁ m 4 #[rv r0, rv r1] [(.ref r1), (.int (0 : Int32)), (.ref r1), (.ref r0)] _
  refine own_go (fun t₀ k₀ => own_len X0 hx hZ e0 A (z := (0 : Int32)) rfl (g := (mkF m 4 #[rv r0, rv r1] [(.ref r1), (.int (0 : Int32)), (.ref r1), (.ref r0)])) rfl rfl (Jvm.hb hby d2_4) k₀) ?_
  show Gm p e below s₁ m 5 #[rv r0, rv r1] [(.int (0 : Int32)), (.int (0 : Int32)), (.ref r1), (.ref r0)] _
  refine own_go (fun t₀ k₀ => XS.aconstNull X0.here hx rfl (Jvm.hb hby d2_5) k₀) ?_
  show Gm p e below s₁ m 6 #[rv r0, rv r1] [.null, (.int (0 : Int32)), (.int (0 : Int32)), (.ref r1), (.ref r0)] _
  obtain ⟨_, _, ⟨T1, L1, q1, n1⟩, -, X1, hs1, hg1, ⟨Lc1, hQ1, l1, y1, z1, Cs1⟩, st1⟩ := X0.specialBackS hx (y := (⟨"java/lang/String", "<init>", "([CIILjava/lang/Void;)V"⟩ : MethodName)) rfl hown (mvT hZ (hw _ (List.mem_of_getElem? (i := 12) rfl))) (mvT hZ (hw _ (List.mem_of_getElem? (i := 13) rfl))) (mvT hZ (hw _ (List.mem_of_getElem? (i := 15) rfl))) (by decide) (own_backW (W := 0) (rmV_0 l Z a0 hw [] r0 r1 h0 n0 Z0 E_r0 F_v F_c g_r0 ) hZ (hw _ (List.mem_of_getElem? (i := 15) rfl)) (hw _ (List.mem_of_getElem? (i := 7) rfl)) (by decide) (by decide) (own_ew hw) C0.1 (own_hsS ⟨E_r0.lt, sf_r0⟩ own_hs0)) (g := (mkF m 6 #[rv r0, rv r1] [.null, (.int (0 : Int32)), (.int (0 : Int32)), (.ref r1), (.ref r0)])) rfl (by rw [hml]; rfl) (Steps.refl _) (a := r0) (argsL := [(.ref r1), (.int (0 : Int32)), (.int (0 : Int32)), .null]) (rest := []) (lenOf own_pd3 rfl) rfl (by show 2 * 0 + _ ≤ _; exact Nat.le_of_eq rfl) (Jvm.hb hby d2_6) (fun _ _ => ⟨rfl, e0, (by decide : 0 + 4 ≤ _), (by decide : 0 + 8 ≤ _)⟩)
  dsimp only [Pt.U, Pt.locs, Pt.cells, Pt.slots] at X1 hs1 hg1 l1 y1 z1 st1 hQ1 Cs1
  subst l1 y1 z1
  have hS1 : s.Since T1.vm T1.heap.size := foldS hS0 (by rw [e0]; exact hk0) hs1 hg1
  have hZ : Z.Warmed39 (s.setVm T1.vm).vm := State.Warmed39.trans (t := s.setVm s.vm) hZ hs1.1
  have hown : (s.setVm T1.vm).vm.findClass "java/lang/String" = some m.cls := by rw [show (s.setVm T1.vm).vm = T1.vm from rfl, hs1.1.alike.findClass]; exact hown
  have X1 : Stand p l e _ (s.setVm T1.vm) m _ below meth cO T1 _ _ _ := X1
  have hk1 : T1.heap.size ≤ T1.heap.size := Nat.le_refl _
  obtain ⟨bq1, fq1, rfl, Nq1, Kc1, Ec1, Fc1, Fv1, Aq1⟩ := hQ1
  have N1 := Fr.app N0 Nq1
  have sq_r0_1 := CHr.safe Cs1 E_r0.lt sf_r0
  have C1 := CHr.trans C0 Cs1
  refine own_go (fun t k => st1.trans k) ?_
  have Z1 : n0 ≤ T1.heap.size := Nat.le_trans Z0 Kc1.1
  have K1 : Keep h0 T1.heap [r0] := Keep.trans (Keep.refl h0 [r0]) Kc1 (allS (Or.inl (List.mem_of_getElem? (i := 0) rfl)) all0)
  show Gm p e below T1 m 9 #[rv r0, rv r1] [] _
  exact own_retVW X1 hx hlk hZ (own_ew hw) hS1 hk1 C1 Bd.returns (Jvm.hb hby d2_9) rfl ⟨bq1, fq1, rfl, N1, K1, Ec1, Fc1, Fv1, Aq1⟩ (by decide) (by decide)
theorem d1_0 : decode method_2_code 0 = .ok (.iload_n 1, 1) := by decide +kernel
theorem d1_1 : decode method_2_code 1 = .ok (.sipush 255, 3) := by decide +kernel
theorem d1_4 : decode method_2_code 4 = .ok (.iand, 1) := by decide +kernel
theorem d1_5 : decode method_2_code 5 = .ok (.i2c, 1) := by decide +kernel
theorem d1_6 : decode method_2_code 6 = .ok (.istore 5, 2) := by decide +kernel
theorem d1_8 : decode method_2_code 8 = .ok (.iload_n 2, 1) := by decide +kernel
theorem d1_9 : decode method_2_code 9 = .ok (.sipush 255, 3) := by decide +kernel
theorem d1_12 : decode method_2_code 12 = .ok (.iand, 1) := by decide +kernel
theorem d1_13 : decode method_2_code 13 = .ok (.i2c, 1) := by decide +kernel
theorem d1_14 : decode method_2_code 14 = .ok (.istore 6, 2) := by decide +kernel
theorem d1_16 : decode method_2_code 16 = .ok (.iload_n 3, 1) := by decide +kernel
theorem d1_17 : decode method_2_code 17 = .ok (.sipush 255, 3) := by decide +kernel
theorem d1_20 : decode method_2_code 20 = .ok (.iand, 1) := by decide +kernel
theorem d1_21 : decode method_2_code 21 = .ok (.i2c, 1) := by decide +kernel
theorem d1_22 : decode method_2_code 22 = .ok (.istore 7, 2) := by decide +kernel
theorem d1_24 : decode method_2_code 24 = .ok (.iload 4, 2) := by decide +kernel
theorem d1_26 : decode method_2_code 26 = .ok (.sipush 255, 3) := by decide +kernel
theorem d1_29 : decode method_2_code 29 = .ok (.iand, 1) := by decide +kernel
theorem d1_30 : decode method_2_code 30 = .ok (.i2c, 1) := by decide +kernel
theorem d1_31 : decode method_2_code 31 = .ok (.istore 8, 2) := by decide +kernel
theorem d1_33 : decode method_2_code 33 = .ok (.iload_n 0, 1) := by decide +kernel
theorem d1_34 : decode method_2_code 34 = .ok (.ifCond .ne 14, 3) := by decide +kernel
theorem d1_37 : decode method_2_code 37 = .ok (.new 7, 3) := by decide +kernel
theorem d1_40 : decode method_2_code 40 = .ok (.dup, 1) := by decide +kernel
theorem d1_41 : decode method_2_code 41 = .ok (.iconst 0, 1) := by decide +kernel
theorem d1_42 : decode method_2_code 42 = .ok (.newarray .char, 2) := by decide +kernel
theorem d1_44 : decode method_2_code 44 = .ok (.invokespecial 9, 3) := by decide +kernel
theorem d1_47 : decode method_2_code 47 = .ok (.areturn, 1) := by decide +kernel
theorem d1_48 : decode method_2_code 48 = .ok (.iload_n 0, 1) := by decide +kernel
theorem d1_49 : decode method_2_code 49 = .ok (.iconst 1, 1) := by decide +kernel
theorem d1_50 : decode method_2_code 50 = .ok (.if_icmp .ne 19, 3) := by decide +kernel
theorem d1_53 : decode method_2_code 53 = .ok (.new 7, 3) := by decide +kernel
theorem d1_56 : decode method_2_code 56 = .ok (.dup, 1) := by decide +kernel
theorem d1_57 : decode method_2_code 57 = .ok (.iconst 1, 1) := by decide +kernel
theorem d1_58 : decode method_2_code 58 = .ok (.newarray .char, 2) := by decide +kernel
theorem d1_60 : decode method_2_code 60 = .ok (.dup, 1) := by decide +kernel
theorem d1_61 : decode method_2_code 61 = .ok (.iconst 0, 1) := by decide +kernel
theorem d1_62 : decode method_2_code 62 = .ok (.iload 5, 2) := by decide +kernel
theorem d1_64 : decode method_2_code 64 = .ok (.castore, 1) := by decide +kernel
theorem d1_65 : decode method_2_code 65 = .ok (.invokespecial 9, 3) := by decide +kernel
theorem d1_68 : decode method_2_code 68 = .ok (.areturn, 1) := by decide +kernel
theorem d1_69 : decode method_2_code 69 = .ok (.iload_n 0, 1) := by decide +kernel
theorem d1_70 : decode method_2_code 70 = .ok (.iconst 2, 1) := by decide +kernel
theorem d1_71 : decode method_2_code 71 = .ok (.if_icmp .ne 24, 3) := by decide +kernel
theorem d1_74 : decode method_2_code 74 = .ok (.new 7, 3) := by decide +kernel
theorem d1_77 : decode method_2_code 77 = .ok (.dup, 1) := by decide +kernel
theorem d1_78 : decode method_2_code 78 = .ok (.iconst 2, 1) := by decide +kernel
theorem d1_79 : decode method_2_code 79 = .ok (.newarray .char, 2) := by decide +kernel
theorem d1_81 : decode method_2_code 81 = .ok (.dup, 1) := by decide +kernel
theorem d1_82 : decode method_2_code 82 = .ok (.iconst 0, 1) := by decide +kernel
theorem d1_83 : decode method_2_code 83 = .ok (.iload 5, 2) := by decide +kernel
theorem d1_85 : decode method_2_code 85 = .ok (.castore, 1) := by decide +kernel
theorem d1_86 : decode method_2_code 86 = .ok (.dup, 1) := by decide +kernel
theorem d1_87 : decode method_2_code 87 = .ok (.iconst 1, 1) := by decide +kernel
theorem d1_88 : decode method_2_code 88 = .ok (.iload 6, 2) := by decide +kernel
theorem d1_90 : decode method_2_code 90 = .ok (.castore, 1) := by decide +kernel
theorem d1_91 : decode method_2_code 91 = .ok (.invokespecial 9, 3) := by decide +kernel
theorem d1_94 : decode method_2_code 94 = .ok (.areturn, 1) := by decide +kernel
theorem d1_95 : decode method_2_code 95 = .ok (.iload_n 0, 1) := by decide +kernel
theorem d1_96 : decode method_2_code 96 = .ok (.iconst 3, 1) := by decide +kernel
theorem d1_97 : decode method_2_code 97 = .ok (.if_icmp .ne 29, 3) := by decide +kernel
theorem d1_100 : decode method_2_code 100 = .ok (.new 7, 3) := by decide +kernel
theorem d1_103 : decode method_2_code 103 = .ok (.dup, 1) := by decide +kernel
theorem d1_104 : decode method_2_code 104 = .ok (.iconst 3, 1) := by decide +kernel
theorem d1_105 : decode method_2_code 105 = .ok (.newarray .char, 2) := by decide +kernel
theorem d1_107 : decode method_2_code 107 = .ok (.dup, 1) := by decide +kernel
theorem d1_108 : decode method_2_code 108 = .ok (.iconst 0, 1) := by decide +kernel
theorem d1_109 : decode method_2_code 109 = .ok (.iload 5, 2) := by decide +kernel
theorem d1_111 : decode method_2_code 111 = .ok (.castore, 1) := by decide +kernel
theorem d1_112 : decode method_2_code 112 = .ok (.dup, 1) := by decide +kernel
theorem d1_113 : decode method_2_code 113 = .ok (.iconst 1, 1) := by decide +kernel
theorem d1_114 : decode method_2_code 114 = .ok (.iload 6, 2) := by decide +kernel
theorem d1_116 : decode method_2_code 116 = .ok (.castore, 1) := by decide +kernel
theorem d1_117 : decode method_2_code 117 = .ok (.dup, 1) := by decide +kernel
theorem d1_118 : decode method_2_code 118 = .ok (.iconst 2, 1) := by decide +kernel
theorem d1_119 : decode method_2_code 119 = .ok (.iload 7, 2) := by decide +kernel
theorem d1_121 : decode method_2_code 121 = .ok (.castore, 1) := by decide +kernel
theorem d1_122 : decode method_2_code 122 = .ok (.invokespecial 9, 3) := by decide +kernel
theorem d1_125 : decode method_2_code 125 = .ok (.areturn, 1) := by decide +kernel
theorem d1_126 : decode method_2_code 126 = .ok (.new 7, 3) := by decide +kernel
theorem d1_129 : decode method_2_code 129 = .ok (.dup, 1) := by decide +kernel
theorem d1_130 : decode method_2_code 130 = .ok (.iconst 4, 1) := by decide +kernel
theorem d1_131 : decode method_2_code 131 = .ok (.newarray .char, 2) := by decide +kernel
theorem d1_133 : decode method_2_code 133 = .ok (.dup, 1) := by decide +kernel
theorem d1_134 : decode method_2_code 134 = .ok (.iconst 0, 1) := by decide +kernel
theorem d1_135 : decode method_2_code 135 = .ok (.iload 5, 2) := by decide +kernel
theorem d1_137 : decode method_2_code 137 = .ok (.castore, 1) := by decide +kernel
theorem d1_138 : decode method_2_code 138 = .ok (.dup, 1) := by decide +kernel
theorem d1_139 : decode method_2_code 139 = .ok (.iconst 1, 1) := by decide +kernel
theorem d1_140 : decode method_2_code 140 = .ok (.iload 6, 2) := by decide +kernel
theorem d1_142 : decode method_2_code 142 = .ok (.castore, 1) := by decide +kernel
theorem d1_143 : decode method_2_code 143 = .ok (.dup, 1) := by decide +kernel
theorem d1_144 : decode method_2_code 144 = .ok (.iconst 2, 1) := by decide +kernel
theorem d1_145 : decode method_2_code 145 = .ok (.iload 7, 2) := by decide +kernel
theorem d1_147 : decode method_2_code 147 = .ok (.castore, 1) := by decide +kernel
theorem d1_148 : decode method_2_code 148 = .ok (.dup, 1) := by decide +kernel
theorem d1_149 : decode method_2_code 149 = .ok (.iconst 3, 1) := by decide +kernel
theorem d1_150 : decode method_2_code 150 = .ok (.iload 8, 2) := by decide +kernel
theorem d1_152 : decode method_2_code 152 = .ok (.castore, 1) := by decide +kernel
theorem d1_153 : decode method_2_code 153 = .ok (.invokespecial 9, 3) := by decide +kernel
theorem d1_156 : decode method_2_code 156 = .ok (.areturn, 1) := by decide +kernel
theorem own_pd4 : parseMethodDescriptor "([C)V" = some ⟨[(.array .char)], none⟩ := by decide +kernel
theorem own_pn_rmS : plainName "com/example/gettone/gettone/core/PlaceChoicePinLaw" = true := by first | (simp [plainName, overriddenIn]; done) | decide +kernel
theorem own_ef_rmS (m : MethodId) (p0 : Int32) (p1 : Int32) (p2 : Int32) (p3 : Int32) (p4 : Int32) : entryFrame m #[(.int p0), (.int p1), (.int p2), (.int p3), (.int p4)] 9 = mkF m 0 #[.val (.int p0), .val (.int p1), .val (.int p2), .val (.int p3), .val (.int p4), .unset, .unset, .unset, .unset] [] := by first | (simp [entryFrame, mkF, argsToLocals, Value.category]; done) | rfl
def QS (Z : State) (p0 : Int32) (p1 : Int32) (p2 : Int32) (p3 : Int32) (p4 : Int32) (cs : Int32) (h0 : Heap) (n0 : Nat) (v : Option Value) (h : Heap) (L : List Loc) : Prop := ∃ (x b : Addr) (n : Nat) (f' : Nat → Value), v = some (.ref x) ∧ Fr n0 L ∧ Ext h0 h ∧ h0.size ≤ x ∧ Exa Z h x "java/lang/String" ∧ Fld Z h x "java/lang/String" "coder" "B" (.int (0 : Int32)) ∧ Fld Z h x "java/lang/String" "value" "[B" (.ref b) ∧ Af Z h b .byte n f' ∧ n = lenS p0 ∧ ∀ i, i < n → f' i = .int (chS p1 p2 p3 p4 i)
set_option maxRecDepth 65536 in
set_option maxHeartbeats 40000000 in
theorem rmS (l : Launch) (Z : State) (a0 : Array Value) (hw : ∀ d ∈ tables_1, d.before a0 Z = true) (ws : List Jvm.Cond) (p0 : Int32) (p1 : Int32) (p2 : Int32) (p3 : Int32) (p4 : Int32) (cs : Int32) (h0 : Heap) (n0 : Nat) (Z0 : n0 ≤ h0.size) (S_c : Sta Z h0 "java/lang/String" "COMPACT_STRINGS" "Z" (.int cs)) (hcs : ¬ cs = 0) :
    MetFree l (⟨"com/example/gettone/gettone/core/PlaceChoicePinLaw", "str", "(IIIII)Ljava/lang/String;"⟩ : MethodName) (head1 (Jvm.Cond.code (⟨"com/example/gettone/gettone/core/PlaceChoicePinLaw", "str", "(IIIII)Ljava/lang/String;"⟩ : MethodName) method_2_code 9 (some (.object "java/lang/String")) :: ws) ({ frames := 4, cells := 6, slots := 12, locals := 66 } : Room)) (fun a U => a = #[(.int p0), (.int p1), (.int p2), (.int p3), (.int p4)] ∧ Z.Warmed39 U.vm ∧ U.heap = h0 ∧ CHv Z own_EL U.vm h0 ∧ ∀ x ∈ ([] : List Addr), Safe Z own_EL U.vm h0 x) (fun _ _ _ _ _ => True) (fun _ U o U' => ∃ v L, o = .returned v ∧ QS Z p0 p1 p2 p3 p4 cs h0 n0 v U'.heap L ∧ CHr Z own_EL U.vm U.heap U'.vm U'.heap ∧ ReturnedEndW U o U' L ({ frames := 4, cells := 6, slots := 12, locals := 66 } : Room).cells ({ frames := 4, cells := 6, slots := 12, locals := 66 } : Room).slots) := by
  refine MetFree.of_bodySF (plainFor_of_name own_pn_rmS) hisR ?_
  intro p e s m args below meth cO s₁ Bd hml0 hP hK
  obtain ⟨rfl, hZ, hh, hH, hsf⟩ := hP
  have hZ : Z.Warmed39 (s.setVm s.vm).vm := hZ
  have hx := Bd.exec
  have hby := Bd.bytes
  have hml : cO.maxLocals = 9 := hml0
  have hown : (s.setVm s.vm).vm.findClass "com/example/gettone/gettone/core/PlaceChoicePinLaw" = some m.cls := findClass_of_methodNamed Bd.named
  have hnm := (name_of_methodNamed Bd.named Bd.method).1
  have hlk : meth.locks = false := BodyLoose.notSynchronized Bd
  have X0 : Stand p l e ({ frames := 4, cells := 6, slots := 12, locals := 66 } : Room) (s.setVm s.vm) m #[(.int p0), (.int p1), (.int p2), (.int p3), (.int p4)] below meth cO s₁ [] 0 0 := Stand.of_body Bd
  have hS0 : s.Since s.vm h0.size := (State.WarmedH.refl s).since _
  have hk0 : h0.size ≤ h0.size := Nat.le_refl _
  have C0 : CHr Z own_EL s.vm s.heap s.vm h0 := by rw [hh]; exact CHr.refl hH
  have e0 : s₁.heap = h0 := by rw [← hh, Bd.state]; rfl
  have N0 := Fr.nil n0
  refine own_in (own_ef_rmS m p0 p1 p2 p3 p4) ?_
  show Gm p e below s₁ m 0 #[iv p0, iv p1, iv p2, iv p3, iv p4, .unset, .unset, .unset, .unset] [] _
  refine own_go (fun t₀ k₀ => XS.iloadN X0.here hx rfl (Jvm.hb hby d1_0) rfl k₀) ?_
  show Gm p e below s₁ m 1 #[iv p0, iv p1, iv p2, iv p3, iv p4, .unset, .unset, .unset, .unset] [(.int p1)] _
  refine own_go (fun t₀ k₀ => XS.sipush X0.here hx rfl (Jvm.hb hby d1_1) k₀) ?_
  show Gm p e below s₁ m 4 #[iv p0, iv p1, iv p2, iv p3, iv p4, .unset, .unset, .unset, .unset] [(.int (255 : Int32)), (.int p1)] _
  refine own_go (fun t₀ k₀ => XS.iand X0.here hx rfl (Jvm.hb hby d1_4) rfl k₀) ?_
  show Gm p e below s₁ m 5 #[iv p0, iv p1, iv p2, iv p3, iv p4, .unset, .unset, .unset, .unset] [(.int (p1 &&& (255 : Int32)))] _
  refine own_go (fun t₀ k₀ => XS.i2c X0.here hx rfl (Jvm.hb hby d1_5) rfl k₀) ?_
  show Gm p e below s₁ m 6 #[iv p0, iv p1, iv p2, iv p3, iv p4, .unset, .unset, .unset, .unset] [(.int ((p1 &&& (255 : Int32)).toUInt32.toUInt16.toUInt32.toInt32))] _
  refine own_go (fun t₀ k₀ => XS.istore X0.here hx rfl (Jvm.hb hby d1_6) rfl (l' := #[iv p0, iv p1, iv p2, iv p3, iv p4, iv ((p1 &&& (255 : Int32)).toUInt32.toUInt16.toUInt32.toInt32), .unset, .unset, .unset]) rfl k₀) ?_
  show Gm p e below s₁ m 8 #[iv p0, iv p1, iv p2, iv p3, iv p4, iv ((p1 &&& (255 : Int32)).toUInt32.toUInt16.toUInt32.toInt32), .unset, .unset, .unset] [] _
  refine own_go (fun t₀ k₀ => XS.iloadN X0.here hx rfl (Jvm.hb hby d1_8) rfl k₀) ?_
  show Gm p e below s₁ m 9 #[iv p0, iv p1, iv p2, iv p3, iv p4, iv ((p1 &&& (255 : Int32)).toUInt32.toUInt16.toUInt32.toInt32), .unset, .unset, .unset] [(.int p2)] _
  refine own_go (fun t₀ k₀ => XS.sipush X0.here hx rfl (Jvm.hb hby d1_9) k₀) ?_
  show Gm p e below s₁ m 12 #[iv p0, iv p1, iv p2, iv p3, iv p4, iv ((p1 &&& (255 : Int32)).toUInt32.toUInt16.toUInt32.toInt32), .unset, .unset, .unset] [(.int (255 : Int32)), (.int p2)] _
  refine own_go (fun t₀ k₀ => XS.iand X0.here hx rfl (Jvm.hb hby d1_12) rfl k₀) ?_
  show Gm p e below s₁ m 13 #[iv p0, iv p1, iv p2, iv p3, iv p4, iv ((p1 &&& (255 : Int32)).toUInt32.toUInt16.toUInt32.toInt32), .unset, .unset, .unset] [(.int (p2 &&& (255 : Int32)))] _
  refine own_go (fun t₀ k₀ => XS.i2c X0.here hx rfl (Jvm.hb hby d1_13) rfl k₀) ?_
  show Gm p e below s₁ m 14 #[iv p0, iv p1, iv p2, iv p3, iv p4, iv ((p1 &&& (255 : Int32)).toUInt32.toUInt16.toUInt32.toInt32), .unset, .unset, .unset] [(.int ((p2 &&& (255 : Int32)).toUInt32.toUInt16.toUInt32.toInt32))] _
  refine own_go (fun t₀ k₀ => XS.istore X0.here hx rfl (Jvm.hb hby d1_14) rfl (l' := #[iv p0, iv p1, iv p2, iv p3, iv p4, iv ((p1 &&& (255 : Int32)).toUInt32.toUInt16.toUInt32.toInt32), iv ((p2 &&& (255 : Int32)).toUInt32.toUInt16.toUInt32.toInt32), .unset, .unset]) rfl k₀) ?_
  show Gm p e below s₁ m 16 #[iv p0, iv p1, iv p2, iv p3, iv p4, iv ((p1 &&& (255 : Int32)).toUInt32.toUInt16.toUInt32.toInt32), iv ((p2 &&& (255 : Int32)).toUInt32.toUInt16.toUInt32.toInt32), .unset, .unset] [] _
  refine own_go (fun t₀ k₀ => XS.iloadN X0.here hx rfl (Jvm.hb hby d1_16) rfl k₀) ?_
  show Gm p e below s₁ m 17 #[iv p0, iv p1, iv p2, iv p3, iv p4, iv ((p1 &&& (255 : Int32)).toUInt32.toUInt16.toUInt32.toInt32), iv ((p2 &&& (255 : Int32)).toUInt32.toUInt16.toUInt32.toInt32), .unset, .unset] [(.int p3)] _
  refine own_go (fun t₀ k₀ => XS.sipush X0.here hx rfl (Jvm.hb hby d1_17) k₀) ?_
  show Gm p e below s₁ m 20 #[iv p0, iv p1, iv p2, iv p3, iv p4, iv ((p1 &&& (255 : Int32)).toUInt32.toUInt16.toUInt32.toInt32), iv ((p2 &&& (255 : Int32)).toUInt32.toUInt16.toUInt32.toInt32), .unset, .unset] [(.int (255 : Int32)), (.int p3)] _
  refine own_go (fun t₀ k₀ => XS.iand X0.here hx rfl (Jvm.hb hby d1_20) rfl k₀) ?_
  show Gm p e below s₁ m 21 #[iv p0, iv p1, iv p2, iv p3, iv p4, iv ((p1 &&& (255 : Int32)).toUInt32.toUInt16.toUInt32.toInt32), iv ((p2 &&& (255 : Int32)).toUInt32.toUInt16.toUInt32.toInt32), .unset, .unset] [(.int (p3 &&& (255 : Int32)))] _
  refine own_go (fun t₀ k₀ => XS.i2c X0.here hx rfl (Jvm.hb hby d1_21) rfl k₀) ?_
  show Gm p e below s₁ m 22 #[iv p0, iv p1, iv p2, iv p3, iv p4, iv ((p1 &&& (255 : Int32)).toUInt32.toUInt16.toUInt32.toInt32), iv ((p2 &&& (255 : Int32)).toUInt32.toUInt16.toUInt32.toInt32), .unset, .unset] [(.int ((p3 &&& (255 : Int32)).toUInt32.toUInt16.toUInt32.toInt32))] _
  refine own_go (fun t₀ k₀ => XS.istore X0.here hx rfl (Jvm.hb hby d1_22) rfl (l' := #[iv p0, iv p1, iv p2, iv p3, iv p4, iv ((p1 &&& (255 : Int32)).toUInt32.toUInt16.toUInt32.toInt32), iv ((p2 &&& (255 : Int32)).toUInt32.toUInt16.toUInt32.toInt32), iv ((p3 &&& (255 : Int32)).toUInt32.toUInt16.toUInt32.toInt32), .unset]) rfl k₀) ?_
  show Gm p e below s₁ m 24 #[iv p0, iv p1, iv p2, iv p3, iv p4, iv ((p1 &&& (255 : Int32)).toUInt32.toUInt16.toUInt32.toInt32), iv ((p2 &&& (255 : Int32)).toUInt32.toUInt16.toUInt32.toInt32), iv ((p3 &&& (255 : Int32)).toUInt32.toUInt16.toUInt32.toInt32), .unset] [] _
  refine own_go (fun t₀ k₀ => XS.iload X0.here hx rfl (Jvm.hb hby d1_24) rfl k₀) ?_
  show Gm p e below s₁ m 26 #[iv p0, iv p1, iv p2, iv p3, iv p4, iv ((p1 &&& (255 : Int32)).toUInt32.toUInt16.toUInt32.toInt32), iv ((p2 &&& (255 : Int32)).toUInt32.toUInt16.toUInt32.toInt32), iv ((p3 &&& (255 : Int32)).toUInt32.toUInt16.toUInt32.toInt32), .unset] [(.int p4)] _
  refine own_go (fun t₀ k₀ => XS.sipush X0.here hx rfl (Jvm.hb hby d1_26) k₀) ?_
  show Gm p e below s₁ m 29 #[iv p0, iv p1, iv p2, iv p3, iv p4, iv ((p1 &&& (255 : Int32)).toUInt32.toUInt16.toUInt32.toInt32), iv ((p2 &&& (255 : Int32)).toUInt32.toUInt16.toUInt32.toInt32), iv ((p3 &&& (255 : Int32)).toUInt32.toUInt16.toUInt32.toInt32), .unset] [(.int (255 : Int32)), (.int p4)] _
  refine own_go (fun t₀ k₀ => XS.iand X0.here hx rfl (Jvm.hb hby d1_29) rfl k₀) ?_
  show Gm p e below s₁ m 30 #[iv p0, iv p1, iv p2, iv p3, iv p4, iv ((p1 &&& (255 : Int32)).toUInt32.toUInt16.toUInt32.toInt32), iv ((p2 &&& (255 : Int32)).toUInt32.toUInt16.toUInt32.toInt32), iv ((p3 &&& (255 : Int32)).toUInt32.toUInt16.toUInt32.toInt32), .unset] [(.int (p4 &&& (255 : Int32)))] _
  refine own_go (fun t₀ k₀ => XS.i2c X0.here hx rfl (Jvm.hb hby d1_30) rfl k₀) ?_
  show Gm p e below s₁ m 31 #[iv p0, iv p1, iv p2, iv p3, iv p4, iv ((p1 &&& (255 : Int32)).toUInt32.toUInt16.toUInt32.toInt32), iv ((p2 &&& (255 : Int32)).toUInt32.toUInt16.toUInt32.toInt32), iv ((p3 &&& (255 : Int32)).toUInt32.toUInt16.toUInt32.toInt32), .unset] [(.int ((p4 &&& (255 : Int32)).toUInt32.toUInt16.toUInt32.toInt32))] _
  refine own_go (fun t₀ k₀ => XS.istore X0.here hx rfl (Jvm.hb hby d1_31) rfl (l' := #[iv p0, iv p1, iv p2, iv p3, iv p4, iv ((p1 &&& (255 : Int32)).toUInt32.toUInt16.toUInt32.toInt32), iv ((p2 &&& (255 : Int32)).toUInt32.toUInt16.toUInt32.toInt32), iv ((p3 &&& (255 : Int32)).toUInt32.toUInt16.toUInt32.toInt32), iv ((p4 &&& (255 : Int32)).toUInt32.toUInt16.toUInt32.toInt32)]) rfl k₀) ?_
  show Gm p e below s₁ m 33 #[iv p0, iv p1, iv p2, iv p3, iv p4, iv ((p1 &&& (255 : Int32)).toUInt32.toUInt16.toUInt32.toInt32), iv ((p2 &&& (255 : Int32)).toUInt32.toUInt16.toUInt32.toInt32), iv ((p3 &&& (255 : Int32)).toUInt32.toUInt16.toUInt32.toInt32), iv ((p4 &&& (255 : Int32)).toUInt32.toUInt16.toUInt32.toInt32)] [] _
  refine own_go (fun t₀ k₀ => XS.iloadN X0.here hx rfl (Jvm.hb hby d1_33) rfl k₀) ?_
  show Gm p e below s₁ m 34 #[iv p0, iv p1, iv p2, iv p3, iv p4, iv ((p1 &&& (255 : Int32)).toUInt32.toUInt16.toUInt32.toInt32), iv ((p2 &&& (255 : Int32)).toUInt32.toUInt16.toUInt32.toInt32), iv ((p3 &&& (255 : Int32)).toUInt32.toUInt16.toUInt32.toInt32), iv ((p4 &&& (255 : Int32)).toUInt32.toUInt16.toUInt32.toInt32)] [(.int p0)] _
  by_cases c1 : p0 = (0 : Int32)
  · have hfork := trivial
    refine own_go (fun t₀ k₀ => XS.ifNo X0.here hx rfl (Jvm.hb hby d1_34) rfl (XT.i0_ne_f c1) k₀) ?_
    show Gm p e below s₁ m 37 #[iv p0, iv p1, iv p2, iv p3, iv p4, iv ((p1 &&& (255 : Int32)).toUInt32.toUInt16.toUInt32.toInt32), iv ((p2 &&& (255 : Int32)).toUInt32.toUInt16.toUInt32.toInt32), iv ((p3 &&& (255 : Int32)).toUInt32.toUInt16.toUInt32.toInt32), iv ((p4 &&& (255 : Int32)).toUInt32.toUInt16.toUInt32.toInt32)] [] _
    obtain ⟨T2, h2, X2, e2, E2, A2, D2, -, st2⟩ := newO X0 hx hZ hown (hw _ (List.mem_of_getElem? (i := 5) rfl)) (hw _ (List.mem_of_getElem? (i := 6) rfl)) (hw _ (List.mem_of_getElem? (i := 7) rfl)) e0 (g := (mkF m 37 #[iv p0, iv p1, iv p2, iv p3, iv p4, iv ((p1 &&& (255 : Int32)).toUInt32.toUInt16.toUInt32.toInt32), iv ((p2 &&& (255 : Int32)).toUInt32.toUInt16.toUInt32.toInt32), iv ((p3 &&& (255 : Int32)).toUInt32.toUInt16.toUInt32.toInt32), iv ((p4 &&& (255 : Int32)).toUInt32.toUInt16.toUInt32.toInt32)] [])) rfl (Jvm.hb hby d1_37) (by decide) (by decide)
    obtain ⟨b2, g2⟩ : ∃ z, z = h0.size := ⟨_, rfl⟩
    rw [← g2] at A2 D2 st2
    have g_b2 : n0 ≤ b2 := Nat.le_trans Z0 (Nat.le_of_eq g2.symm)
    have sz_b2 : h0.size ≤ b2 := Nat.le_trans (Keep.refl h0 []).1 (Nat.le_of_eq g2.symm)
    have K2 : Keep h0 h2 [] := Keep.ext (Keep.refl h0 []) E2
    have Z2 : n0 ≤ h2.size := Nat.le_trans Z0 E2.1
    have C2 := CHr.trans C0 (CHr.ext E2 C0.1)
    have hk2 : h0.size ≤ h2.size := Nat.le_trans hk0 E2.1
    have sf_b2 := Safe.ext E2 C0.1 (Safe.new (Nat.le_of_eq g2.symm))
    have F_value_b2 : Fld Z h2 b2 "java/lang/String" "value" "[B" .null := D2 (Or.inr (hw _ (List.mem_of_getElem? (i := 21) rfl))) (ty := (.array .byte)) (by decide)
    have F_coder_b2 : Fld Z h2 b2 "java/lang/String" "coder" "B" (.int (0 : Int32)) := D2 (Or.inr (hw _ (List.mem_of_getElem? (i := 22) rfl))) (ty := .byte) (by decide)
    refine own_go st2 ?_
    show Gm p e below T2 m 40 #[iv p0, iv p1, iv p2, iv p3, iv p4, iv ((p1 &&& (255 : Int32)).toUInt32.toUInt16.toUInt32.toInt32), iv ((p2 &&& (255 : Int32)).toUInt32.toUInt16.toUInt32.toInt32), iv ((p3 &&& (255 : Int32)).toUInt32.toUInt16.toUInt32.toInt32), iv ((p4 &&& (255 : Int32)).toUInt32.toUInt16.toUInt32.toInt32)] [(.ref b2)] _
    refine own_go (fun t₀ k₀ => XS.dup X2.here hx rfl (Jvm.hb hby d1_40) rfl rfl k₀) ?_
    show Gm p e below T2 m 41 #[iv p0, iv p1, iv p2, iv p3, iv p4, iv ((p1 &&& (255 : Int32)).toUInt32.toUInt16.toUInt32.toInt32), iv ((p2 &&& (255 : Int32)).toUInt32.toUInt16.toUInt32.toInt32), iv ((p3 &&& (255 : Int32)).toUInt32.toUInt16.toUInt32.toInt32), iv ((p4 &&& (255 : Int32)).toUInt32.toUInt16.toUInt32.toInt32)] [(.ref b2), (.ref b2)] _
    refine own_go (fun t₀ k₀ => XS.iconst X2.here hx rfl (Jvm.hb hby d1_41) k₀) ?_
    show Gm p e below T2 m 42 #[iv p0, iv p1, iv p2, iv p3, iv p4, iv ((p1 &&& (255 : Int32)).toUInt32.toUInt16.toUInt32.toInt32), iv ((p2 &&& (255 : Int32)).toUInt32.toUInt16.toUInt32.toInt32), iv ((p3 &&& (255 : Int32)).toUInt32.toUInt16.toUInt32.toInt32), iv ((p4 &&& (255 : Int32)).toUInt32.toUInt16.toUInt32.toInt32)] [(.int (0 : Int32)), (.ref b2), (.ref b2)] _
    obtain ⟨T3, h3, k3, X3, e3, E3, A3, st3⟩ := newP X2 hx hZ (hw _ (List.mem_of_getElem? (i := 8) rfl)) e2 (g := (mkF m 42 #[iv p0, iv p1, iv p2, iv p3, iv p4, iv ((p1 &&& (255 : Int32)).toUInt32.toUInt16.toUInt32.toInt32), iv ((p2 &&& (255 : Int32)).toUInt32.toUInt16.toUInt32.toInt32), iv ((p3 &&& (255 : Int32)).toUInt32.toUInt16.toUInt32.toInt32), iv ((p4 &&& (255 : Int32)).toUInt32.toUInt16.toUInt32.toInt32)] [(.int (0 : Int32)), (.ref b2), (.ref b2)])) rfl (Jvm.hb hby d1_42) rfl (by decide) (cap := 0) (by decide) (by decide) (by decide) (by decide)
    obtain ⟨b3, g3⟩ : ∃ z, z = h2.size := ⟨_, rfl⟩
    rw [← g3] at A3 st3
    have g_b3 : n0 ≤ b3 := Nat.le_trans Z2 (Nat.le_of_eq g3.symm)
    have ne_b2_b3 : b2 ≠ b3 := Nat.ne_of_lt (Nat.lt_of_lt_of_le A2.lt (Nat.le_of_eq g3.symm))
    have sz_b3 : h0.size ≤ b3 := Nat.le_trans K2.1 (Nat.le_of_eq g3.symm)
    have K3 : Keep h0 h3 [] := Keep.ext K2 E3
    have Z3 : n0 ≤ h3.size := Nat.le_trans Z2 E3.1
    have C3 := CHr.trans C2 (CHr.ext E3 C2.1)
    have hk3 : h0.size ≤ h3.size := Nat.le_trans hk2 E3.1
    have sf_b3 := Safe.ext E3 C2.1 (Safe.new (Nat.le_of_eq g3.symm))
    have V3 : Af Z h3 b3 .char 0 (fun _ => defaultValue .char) := Af.new A3 (by decide) rfl rfl
    refine own_go st3 ?_
    show Gm p e below T3 m 44 #[iv p0, iv p1, iv p2, iv p3, iv p4, iv ((p1 &&& (255 : Int32)).toUInt32.toUInt16.toUInt32.toInt32), iv ((p2 &&& (255 : Int32)).toUInt32.toUInt16.toUInt32.toInt32), iv ((p3 &&& (255 : Int32)).toUInt32.toUInt16.toUInt32.toInt32), iv ((p4 &&& (255 : Int32)).toUInt32.toUInt16.toUInt32.toInt32)] [(.ref b3), (.ref b2), (.ref b2)] _
    have f4 := (A2.ext E3)
    have f5 := (F_value_b2.ext E3)
    have f6 := (F_coder_b2.ext E3)
    have f7 := (Safe.ext E3 C2.1 sf_b2)
    obtain ⟨_, _, ⟨T8, L8, q8, n8⟩, -, X8, hs8, hg8, ⟨Lc8, hQ8, l8, y8, z8, Cs8⟩, st8⟩ := X3.specialBackS hx (y := (⟨"java/lang/String", "<init>", "([C)V"⟩ : MethodName)) rfl hown (mvT hZ (hw _ (List.mem_of_getElem? (i := 9) rfl))) (mvT hZ (hw _ (List.mem_of_getElem? (i := 10) rfl))) (mvT hZ (hw _ (List.mem_of_getElem? (i := 11) rfl))) (by decide) (own_backW (W := 1) (rmC_0 l Z a0 hw [] b2 b3 (fun _ => defaultValue .char) h3 n0 Z3 f4 f5 f6 g_b2 V3) hZ (hw _ (List.mem_of_getElem? (i := 11) rfl)) (hw _ (List.mem_of_getElem? (i := 7) rfl)) (by decide) (by decide) (own_ew hw) C3.1 (own_hsS ⟨f4.lt, f7⟩ own_hs0)) (g := (mkF m 44 #[iv p0, iv p1, iv p2, iv p3, iv p4, iv ((p1 &&& (255 : Int32)).toUInt32.toUInt16.toUInt32.toInt32), iv ((p2 &&& (255 : Int32)).toUInt32.toUInt16.toUInt32.toInt32), iv ((p3 &&& (255 : Int32)).toUInt32.toUInt16.toUInt32.toInt32), iv ((p4 &&& (255 : Int32)).toUInt32.toUInt16.toUInt32.toInt32)] [(.ref b3), (.ref b2), (.ref b2)])) rfl (by rw [hml]; rfl) (Steps.refl _) (a := b2) (argsL := [(.ref b3)]) (rest := [(.ref b2)]) (lenOf own_pd4 rfl) rfl (by show 2 * 0 + _ ≤ _; exact Nat.le_of_eq rfl) (Jvm.hb hby d1_44) (fun _ _ => ⟨rfl, e3, (by decide : 2 + 4 ≤ _), (by decide : 4 + 8 ≤ _)⟩)
    dsimp only [Pt.U, Pt.locs, Pt.cells, Pt.slots] at X8 hs8 hg8 l8 y8 z8 st8 hQ8 Cs8
    subst l8 y8 z8
    have hS8 : s.Since T8.vm T8.heap.size := foldS hS0 (by rw [e3]; exact hk3) hs8 hg8
    have hZ : Z.Warmed39 (s.setVm T8.vm).vm := State.Warmed39.trans (t := s.setVm s.vm) hZ hs8.1
    have hown : (s.setVm T8.vm).vm.findClass "com/example/gettone/gettone/core/PlaceChoicePinLaw" = some m.cls := by rw [show (s.setVm T8.vm).vm = T8.vm from rfl, hs8.1.alike.findClass]; exact hown
    have X8 : Stand p l e _ (s.setVm T8.vm) m _ below meth cO T8 _ _ _ := X8
    have hk8 : T8.heap.size ≤ T8.heap.size := Nat.le_refl _
    obtain ⟨bq8, fq8, rfl, Nq8, Kc8, Ec8, Fc8, Fv8, Aq8⟩ := hQ8
    have N8 := Fr.app N0 Nq8
    have sq_b2_8 := CHr.safe Cs8 f4.lt f7
    have sq_b3_8 := CHr.safe Cs8 V3.lt sf_b3
    have C8 := CHr.trans C3 Cs8
    refine own_go (fun t k => st8.trans k) ?_
    have Z8 : n0 ≤ T8.heap.size := Nat.le_trans Z3 Kc8.1
    have K8 : Keep h0 T8.heap [] := Keep.trans K3 Kc8 (allS (Or.inr sz_b2) all0)
    show Gm p e below T8 m 47 #[iv p0, iv p1, iv p2, iv p3, iv p4, iv ((p1 &&& (255 : Int32)).toUInt32.toUInt16.toUInt32.toInt32), iv ((p2 &&& (255 : Int32)).toUInt32.toUInt16.toUInt32.toInt32), iv ((p3 &&& (255 : Int32)).toUInt32.toUInt16.toUInt32.toInt32), iv ((p4 &&& (255 : Int32)).toUInt32.toUInt16.toUInt32.toInt32)] [(.ref b2)] _
    have hl : lenS p0 = 0 := by unfold lenS; rw [if_pos c1]
    have hv : ∀ i, i < 0 → fq8 i = .int (chS p1 p2 p3 p4 i) := fun i hi => by
      exact absurd hi (Nat.not_lt_zero _)
    exact own_retAW X8 hx hlk hZ (own_ew hw) hS8 hk8 C8 rfl Bd.returns rfl (Jvm.hb hby d1_47) rfl ⟨b2, bq8, 0, fq8, rfl, N8, own_stX (Z := Z) K8, sz_b2, Ec8, Fc8, Fv8, Aq8, hl.symm, hv⟩ (by decide) (by decide)
  · have hfork := trivial
    refine own_go (fun t₀ k₀ => XS.ifYes X0.here hx rfl (pc0 := 34) (pc' := 48) rfl (Jvm.hb hby d1_34) rfl (XT.i0_ne_t c1) (by decide) (by decide) k₀) ?_
    show Gm p e below s₁ m 48 #[iv p0, iv p1, iv p2, iv p3, iv p4, iv ((p1 &&& (255 : Int32)).toUInt32.toUInt16.toUInt32.toInt32), iv ((p2 &&& (255 : Int32)).toUInt32.toUInt16.toUInt32.toInt32), iv ((p3 &&& (255 : Int32)).toUInt32.toUInt16.toUInt32.toInt32), iv ((p4 &&& (255 : Int32)).toUInt32.toUInt16.toUInt32.toInt32)] [] _
    refine own_go (fun t₀ k₀ => XS.iloadN X0.here hx rfl (Jvm.hb hby d1_48) rfl k₀) ?_
    show Gm p e below s₁ m 49 #[iv p0, iv p1, iv p2, iv p3, iv p4, iv ((p1 &&& (255 : Int32)).toUInt32.toUInt16.toUInt32.toInt32), iv ((p2 &&& (255 : Int32)).toUInt32.toUInt16.toUInt32.toInt32), iv ((p3 &&& (255 : Int32)).toUInt32.toUInt16.toUInt32.toInt32), iv ((p4 &&& (255 : Int32)).toUInt32.toUInt16.toUInt32.toInt32)] [(.int p0)] _
    refine own_go (fun t₀ k₀ => XS.iconst X0.here hx rfl (Jvm.hb hby d1_49) k₀) ?_
    show Gm p e below s₁ m 50 #[iv p0, iv p1, iv p2, iv p3, iv p4, iv ((p1 &&& (255 : Int32)).toUInt32.toUInt16.toUInt32.toInt32), iv ((p2 &&& (255 : Int32)).toUInt32.toUInt16.toUInt32.toInt32), iv ((p3 &&& (255 : Int32)).toUInt32.toUInt16.toUInt32.toInt32), iv ((p4 &&& (255 : Int32)).toUInt32.toUInt16.toUInt32.toInt32)] [(.int (1 : Int32)), (.int p0)] _
    by_cases c9 : p0 = (1 : Int32)
    · have hfork := trivial
      refine own_go (fun t₀ k₀ => XS.icmpNo X0.here hx rfl (Jvm.hb hby d1_50) rfl (XT.ii_ne_f c9) k₀) ?_
      show Gm p e below s₁ m 53 #[iv p0, iv p1, iv p2, iv p3, iv p4, iv ((p1 &&& (255 : Int32)).toUInt32.toUInt16.toUInt32.toInt32), iv ((p2 &&& (255 : Int32)).toUInt32.toUInt16.toUInt32.toInt32), iv ((p3 &&& (255 : Int32)).toUInt32.toUInt16.toUInt32.toInt32), iv ((p4 &&& (255 : Int32)).toUInt32.toUInt16.toUInt32.toInt32)] [] _
      obtain ⟨T10, h10, X10, e10, E10, A10, D10, -, st10⟩ := newO X0 hx hZ hown (hw _ (List.mem_of_getElem? (i := 5) rfl)) (hw _ (List.mem_of_getElem? (i := 6) rfl)) (hw _ (List.mem_of_getElem? (i := 7) rfl)) e0 (g := (mkF m 53 #[iv p0, iv p1, iv p2, iv p3, iv p4, iv ((p1 &&& (255 : Int32)).toUInt32.toUInt16.toUInt32.toInt32), iv ((p2 &&& (255 : Int32)).toUInt32.toUInt16.toUInt32.toInt32), iv ((p3 &&& (255 : Int32)).toUInt32.toUInt16.toUInt32.toInt32), iv ((p4 &&& (255 : Int32)).toUInt32.toUInt16.toUInt32.toInt32)] [])) rfl (Jvm.hb hby d1_53) (by decide) (by decide)
      obtain ⟨b10, g10⟩ : ∃ z, z = h0.size := ⟨_, rfl⟩
      rw [← g10] at A10 D10 st10
      have g_b10 : n0 ≤ b10 := Nat.le_trans Z0 (Nat.le_of_eq g10.symm)
      have sz_b10 : h0.size ≤ b10 := Nat.le_trans (Keep.refl h0 []).1 (Nat.le_of_eq g10.symm)
      have K10 : Keep h0 h10 [] := Keep.ext (Keep.refl h0 []) E10
      have Z10 : n0 ≤ h10.size := Nat.le_trans Z0 E10.1
      have C10 := CHr.trans C0 (CHr.ext E10 C0.1)
      have hk10 : h0.size ≤ h10.size := Nat.le_trans hk0 E10.1
      have sf_b10 := Safe.ext E10 C0.1 (Safe.new (Nat.le_of_eq g10.symm))
      have F_value_b10 : Fld Z h10 b10 "java/lang/String" "value" "[B" .null := D10 (Or.inr (hw _ (List.mem_of_getElem? (i := 21) rfl))) (ty := (.array .byte)) (by decide)
      have F_coder_b10 : Fld Z h10 b10 "java/lang/String" "coder" "B" (.int (0 : Int32)) := D10 (Or.inr (hw _ (List.mem_of_getElem? (i := 22) rfl))) (ty := .byte) (by decide)
      refine own_go st10 ?_
      show Gm p e below T10 m 56 #[iv p0, iv p1, iv p2, iv p3, iv p4, iv ((p1 &&& (255 : Int32)).toUInt32.toUInt16.toUInt32.toInt32), iv ((p2 &&& (255 : Int32)).toUInt32.toUInt16.toUInt32.toInt32), iv ((p3 &&& (255 : Int32)).toUInt32.toUInt16.toUInt32.toInt32), iv ((p4 &&& (255 : Int32)).toUInt32.toUInt16.toUInt32.toInt32)] [(.ref b10)] _
      refine own_go (fun t₀ k₀ => XS.dup X10.here hx rfl (Jvm.hb hby d1_56) rfl rfl k₀) ?_
      show Gm p e below T10 m 57 #[iv p0, iv p1, iv p2, iv p3, iv p4, iv ((p1 &&& (255 : Int32)).toUInt32.toUInt16.toUInt32.toInt32), iv ((p2 &&& (255 : Int32)).toUInt32.toUInt16.toUInt32.toInt32), iv ((p3 &&& (255 : Int32)).toUInt32.toUInt16.toUInt32.toInt32), iv ((p4 &&& (255 : Int32)).toUInt32.toUInt16.toUInt32.toInt32)] [(.ref b10), (.ref b10)] _
      refine own_go (fun t₀ k₀ => XS.iconst X10.here hx rfl (Jvm.hb hby d1_57) k₀) ?_
      show Gm p e below T10 m 58 #[iv p0, iv p1, iv p2, iv p3, iv p4, iv ((p1 &&& (255 : Int32)).toUInt32.toUInt16.toUInt32.toInt32), iv ((p2 &&& (255 : Int32)).toUInt32.toUInt16.toUInt32.toInt32), iv ((p3 &&& (255 : Int32)).toUInt32.toUInt16.toUInt32.toInt32), iv ((p4 &&& (255 : Int32)).toUInt32.toUInt16.toUInt32.toInt32)] [(.int (1 : Int32)), (.ref b10), (.ref b10)] _
      obtain ⟨T11, h11, k11, X11, e11, E11, A11, st11⟩ := newP X10 hx hZ (hw _ (List.mem_of_getElem? (i := 8) rfl)) e10 (g := (mkF m 58 #[iv p0, iv p1, iv p2, iv p3, iv p4, iv ((p1 &&& (255 : Int32)).toUInt32.toUInt16.toUInt32.toInt32), iv ((p2 &&& (255 : Int32)).toUInt32.toUInt16.toUInt32.toInt32), iv ((p3 &&& (255 : Int32)).toUInt32.toUInt16.toUInt32.toInt32), iv ((p4 &&& (255 : Int32)).toUInt32.toUInt16.toUInt32.toInt32)] [(.int (1 : Int32)), (.ref b10), (.ref b10)])) rfl (Jvm.hb hby d1_58) rfl (by decide) (cap := 1) (by decide) (by decide) (by decide) (by decide)
      obtain ⟨b11, g11⟩ : ∃ z, z = h10.size := ⟨_, rfl⟩
      rw [← g11] at A11 st11
      have g_b11 : n0 ≤ b11 := Nat.le_trans Z10 (Nat.le_of_eq g11.symm)
      have ne_b10_b11 : b10 ≠ b11 := Nat.ne_of_lt (Nat.lt_of_lt_of_le A10.lt (Nat.le_of_eq g11.symm))
      have sz_b11 : h0.size ≤ b11 := Nat.le_trans K10.1 (Nat.le_of_eq g11.symm)
      have K11 : Keep h0 h11 [] := Keep.ext K10 E11
      have Z11 : n0 ≤ h11.size := Nat.le_trans Z10 E11.1
      have C11 := CHr.trans C10 (CHr.ext E11 C10.1)
      have hk11 : h0.size ≤ h11.size := Nat.le_trans hk10 E11.1
      have sf_b11 := Safe.ext E11 C10.1 (Safe.new (Nat.le_of_eq g11.symm))
      have V11 : Af Z h11 b11 .char 1 (fun _ => defaultValue .char) := Af.new A11 (by decide) rfl rfl
      refine own_go st11 ?_
      show Gm p e below T11 m 60 #[iv p0, iv p1, iv p2, iv p3, iv p4, iv ((p1 &&& (255 : Int32)).toUInt32.toUInt16.toUInt32.toInt32), iv ((p2 &&& (255 : Int32)).toUInt32.toUInt16.toUInt32.toInt32), iv ((p3 &&& (255 : Int32)).toUInt32.toUInt16.toUInt32.toInt32), iv ((p4 &&& (255 : Int32)).toUInt32.toUInt16.toUInt32.toInt32)] [(.ref b11), (.ref b10), (.ref b10)] _
      refine own_go (fun t₀ k₀ => XS.dup X11.here hx rfl (Jvm.hb hby d1_60) rfl rfl k₀) ?_
      show Gm p e below T11 m 61 #[iv p0, iv p1, iv p2, iv p3, iv p4, iv ((p1 &&& (255 : Int32)).toUInt32.toUInt16.toUInt32.toInt32), iv ((p2 &&& (255 : Int32)).toUInt32.toUInt16.toUInt32.toInt32), iv ((p3 &&& (255 : Int32)).toUInt32.toUInt16.toUInt32.toInt32), iv ((p4 &&& (255 : Int32)).toUInt32.toUInt16.toUInt32.toInt32)] [(.ref b11), (.ref b11), (.ref b10), (.ref b10)] _
      refine own_go (fun t₀ k₀ => XS.iconst X11.here hx rfl (Jvm.hb hby d1_61) k₀) ?_
      show Gm p e below T11 m 62 #[iv p0, iv p1, iv p2, iv p3, iv p4, iv ((p1 &&& (255 : Int32)).toUInt32.toUInt16.toUInt32.toInt32), iv ((p2 &&& (255 : Int32)).toUInt32.toUInt16.toUInt32.toInt32), iv ((p3 &&& (255 : Int32)).toUInt32.toUInt16.toUInt32.toInt32), iv ((p4 &&& (255 : Int32)).toUInt32.toUInt16.toUInt32.toInt32)] [(.int (0 : Int32)), (.ref b11), (.ref b11), (.ref b10), (.ref b10)] _
      refine own_go (fun t₀ k₀ => XS.iload X11.here hx rfl (Jvm.hb hby d1_62) rfl k₀) ?_
      show Gm p e below T11 m 64 #[iv p0, iv p1, iv p2, iv p3, iv p4, iv ((p1 &&& (255 : Int32)).toUInt32.toUInt16.toUInt32.toInt32), iv ((p2 &&& (255 : Int32)).toUInt32.toUInt16.toUInt32.toInt32), iv ((p3 &&& (255 : Int32)).toUInt32.toUInt16.toUInt32.toInt32), iv ((p4 &&& (255 : Int32)).toUInt32.toUInt16.toUInt32.toInt32)] [(.int ((p1 &&& (255 : Int32)).toUInt32.toUInt16.toUInt32.toInt32)), (.int (0 : Int32)), (.ref b11), (.ref b11), (.ref b10), (.ref b10)] _
      obtain ⟨T12, h12, X12, e12, W12, A12, st12⟩ := own_stC X11 hx hZ e11 V11 (j := (0 : Int32)) (k := 0) (by decide) rfl (by decide) (y := (own_ch p1)) rfl (g := (mkF m 64 #[iv p0, iv p1, iv p2, iv p3, iv p4, iv ((p1 &&& (255 : Int32)).toUInt32.toUInt16.toUInt32.toInt32), iv ((p2 &&& (255 : Int32)).toUInt32.toUInt16.toUInt32.toInt32), iv ((p3 &&& (255 : Int32)).toUInt32.toUInt16.toUInt32.toInt32), iv ((p4 &&& (255 : Int32)).toUInt32.toUInt16.toUInt32.toInt32)] [(.int ((p1 &&& (255 : Int32)).toUInt32.toUInt16.toUInt32.toInt32)), (.int (0 : Int32)), (.ref b11), (.ref b11), (.ref b10), (.ref b10)])) rfl rfl (Jvm.hb hby d1_64)
      have N12 := Fr.snoc X12 N0 g_b11
      have Z12 : n0 ≤ h12.size := W12.size ▸ Z11
      have K12 : Keep h0 h12 [] := Keep.wr K11 W12 (Or.inr sz_b11)
      have C12 := CHr.trans C11 (CHr.wr W12 sf_b11 C11.1)
      have hk12 : h0.size ≤ h12.size := W12.size ▸ hk11
      refine own_go st12 ?_
      show Gm p e below T12 m 65 #[iv p0, iv p1, iv p2, iv p3, iv p4, iv ((p1 &&& (255 : Int32)).toUInt32.toUInt16.toUInt32.toInt32), iv ((p2 &&& (255 : Int32)).toUInt32.toUInt16.toUInt32.toInt32), iv ((p3 &&& (255 : Int32)).toUInt32.toUInt16.toUInt32.toInt32), iv ((p4 &&& (255 : Int32)).toUInt32.toUInt16.toUInt32.toInt32)] [(.ref b11), (.ref b10), (.ref b10)] _
      have f13 := ((A10.ext E11).wr W12)
      have f14 := (Fld.other W12 (F_value_b10.ext E11) (Or.inl ne_b10_b11))
      have f15 := (Fld.other W12 (F_coder_b10.ext E11) (Or.inl ne_b10_b11))
      have f16 := (((S_c.ext E10).ext E11).wr W12)
      obtain ⟨_, _, ⟨T17, L17, k17, n17⟩, -, X17, ⟨Lc17, hQ17, l17, y17, z17⟩, st17⟩ := X12.specialBack hx (y := (⟨"java/lang/String", "<init>", "([C)V"⟩ : MethodName)) rfl hown (mvT hZ (hw _ (List.mem_of_getElem? (i := 9) rfl))) (mvT hZ (hw _ (List.mem_of_getElem? (i := 10) rfl))) (mvT hZ (hw _ (List.mem_of_getElem? (i := 11) rfl))) (by decide) (backOf (W := 1) (rmC_1 l Z a0 hw [] b10 b11 (fun i => if i = 0 then (.int (own_ch p1)) else (fun _ => defaultValue .char) i) (own_ch p1) cs h12 n0 Z12 f13 f14 f15 A12 rfl (own_ch_le _) f16 hcs g_b10) hZ (hw _ (List.mem_of_getElem? (i := 11) rfl)) (hw _ (List.mem_of_getElem? (i := 7) rfl)) (by decide) (by decide)) (g := (mkF m 65 #[iv p0, iv p1, iv p2, iv p3, iv p4, iv ((p1 &&& (255 : Int32)).toUInt32.toUInt16.toUInt32.toInt32), iv ((p2 &&& (255 : Int32)).toUInt32.toUInt16.toUInt32.toInt32), iv ((p3 &&& (255 : Int32)).toUInt32.toUInt16.toUInt32.toInt32), iv ((p4 &&& (255 : Int32)).toUInt32.toUInt16.toUInt32.toInt32)] [(.ref b11), (.ref b10), (.ref b10)])) rfl (by rw [hml]; rfl) (Steps.refl _) (a := b10) (argsL := [(.ref b11)]) (rest := [(.ref b10)]) (lenOf own_pd4 rfl) rfl (by show 2 * 0 + _ ≤ _; exact Nat.le_of_eq rfl) (Jvm.hb hby d1_65) (fun _ _ => ⟨rfl, e12, (by decide : 2 + 1 ≤ _), (by decide : 5 + 1 ≤ _)⟩)
      dsimp only [Pt.U, Pt.locs, Pt.cells, Pt.slots] at X17 l17 y17 z17 st17 hQ17
      subst l17 y17 z17
      obtain ⟨bq17, fq17, rfl, Nq17, Kc17, Ec17, Fc17, Fv17, Aq17, hq17_0⟩ := hQ17
      have N17 := Fr.app N12 Nq17
      refine own_go (fun t k => st17.trans k) ?_
      have f18 := (Safe.wr W12 sf_b11 C11.1 (Safe.ext E11 C10.1 sf_b10))
      have Z17 : n0 ≤ T17.heap.size := Nat.le_trans Z12 Kc17.1
      have K17 : Keep h0 T17.heap [] := Keep.trans K12 Kc17 (allS (Or.inr sz_b10) all0)
      have C17 := CHr.trans C12 (CHr.keep Kc17 (sfS f18 sf0) C12.1)
      have hk17 : h0.size ≤ T17.heap.size := Nat.le_trans hk12 Kc17.1
      show Gm p e below T17 m 68 #[iv p0, iv p1, iv p2, iv p3, iv p4, iv ((p1 &&& (255 : Int32)).toUInt32.toUInt16.toUInt32.toInt32), iv ((p2 &&& (255 : Int32)).toUInt32.toUInt16.toUInt32.toInt32), iv ((p3 &&& (255 : Int32)).toUInt32.toUInt16.toUInt32.toInt32), iv ((p4 &&& (255 : Int32)).toUInt32.toUInt16.toUInt32.toInt32)] [(.ref b10)] _
      have hl : lenS p0 = 1 := by unfold lenS; rw [if_neg c1, if_pos c9]
      have hv : ∀ i, i < 1 → fq17 i = .int (chS p1 p2 p3 p4 i) := fun i hi => by
        rcases (by omega : i = 0) with rfl
        · exact hq17_0
      exact own_retAW X17 hx hlk hZ (own_ew hw) hS0 hk17 C17 rfl Bd.returns rfl (Jvm.hb hby d1_68) rfl ⟨b10, bq17, 1, fq17, rfl, N17, own_stX (Z := Z) K17, sz_b10, Ec17, Fc17, Fv17, Aq17, hl.symm, hv⟩ (by decide) (by decide)
    · have hfork := trivial
      refine own_go (fun t₀ k₀ => XS.icmpYes X0.here hx rfl (pc0 := 50) (pc' := 69) rfl (Jvm.hb hby d1_50) rfl (XT.ii_ne_t c9) (by decide) (by decide) k₀) ?_
      show Gm p e below s₁ m 69 #[iv p0, iv p1, iv p2, iv p3, iv p4, iv ((p1 &&& (255 : Int32)).toUInt32.toUInt16.toUInt32.toInt32), iv ((p2 &&& (255 : Int32)).toUInt32.toUInt16.toUInt32.toInt32), iv ((p3 &&& (255 : Int32)).toUInt32.toUInt16.toUInt32.toInt32), iv ((p4 &&& (255 : Int32)).toUInt32.toUInt16.toUInt32.toInt32)] [] _
      refine own_go (fun t₀ k₀ => XS.iloadN X0.here hx rfl (Jvm.hb hby d1_69) rfl k₀) ?_
      show Gm p e below s₁ m 70 #[iv p0, iv p1, iv p2, iv p3, iv p4, iv ((p1 &&& (255 : Int32)).toUInt32.toUInt16.toUInt32.toInt32), iv ((p2 &&& (255 : Int32)).toUInt32.toUInt16.toUInt32.toInt32), iv ((p3 &&& (255 : Int32)).toUInt32.toUInt16.toUInt32.toInt32), iv ((p4 &&& (255 : Int32)).toUInt32.toUInt16.toUInt32.toInt32)] [(.int p0)] _
      refine own_go (fun t₀ k₀ => XS.iconst X0.here hx rfl (Jvm.hb hby d1_70) k₀) ?_
      show Gm p e below s₁ m 71 #[iv p0, iv p1, iv p2, iv p3, iv p4, iv ((p1 &&& (255 : Int32)).toUInt32.toUInt16.toUInt32.toInt32), iv ((p2 &&& (255 : Int32)).toUInt32.toUInt16.toUInt32.toInt32), iv ((p3 &&& (255 : Int32)).toUInt32.toUInt16.toUInt32.toInt32), iv ((p4 &&& (255 : Int32)).toUInt32.toUInt16.toUInt32.toInt32)] [(.int (2 : Int32)), (.int p0)] _
      by_cases c19 : p0 = (2 : Int32)
      · have hfork := trivial
        refine own_go (fun t₀ k₀ => XS.icmpNo X0.here hx rfl (Jvm.hb hby d1_71) rfl (XT.ii_ne_f c19) k₀) ?_
        show Gm p e below s₁ m 74 #[iv p0, iv p1, iv p2, iv p3, iv p4, iv ((p1 &&& (255 : Int32)).toUInt32.toUInt16.toUInt32.toInt32), iv ((p2 &&& (255 : Int32)).toUInt32.toUInt16.toUInt32.toInt32), iv ((p3 &&& (255 : Int32)).toUInt32.toUInt16.toUInt32.toInt32), iv ((p4 &&& (255 : Int32)).toUInt32.toUInt16.toUInt32.toInt32)] [] _
        obtain ⟨T20, h20, X20, e20, E20, A20, D20, -, st20⟩ := newO X0 hx hZ hown (hw _ (List.mem_of_getElem? (i := 5) rfl)) (hw _ (List.mem_of_getElem? (i := 6) rfl)) (hw _ (List.mem_of_getElem? (i := 7) rfl)) e0 (g := (mkF m 74 #[iv p0, iv p1, iv p2, iv p3, iv p4, iv ((p1 &&& (255 : Int32)).toUInt32.toUInt16.toUInt32.toInt32), iv ((p2 &&& (255 : Int32)).toUInt32.toUInt16.toUInt32.toInt32), iv ((p3 &&& (255 : Int32)).toUInt32.toUInt16.toUInt32.toInt32), iv ((p4 &&& (255 : Int32)).toUInt32.toUInt16.toUInt32.toInt32)] [])) rfl (Jvm.hb hby d1_74) (by decide) (by decide)
        obtain ⟨b20, g20⟩ : ∃ z, z = h0.size := ⟨_, rfl⟩
        rw [← g20] at A20 D20 st20
        have g_b20 : n0 ≤ b20 := Nat.le_trans Z0 (Nat.le_of_eq g20.symm)
        have sz_b20 : h0.size ≤ b20 := Nat.le_trans (Keep.refl h0 []).1 (Nat.le_of_eq g20.symm)
        have K20 : Keep h0 h20 [] := Keep.ext (Keep.refl h0 []) E20
        have Z20 : n0 ≤ h20.size := Nat.le_trans Z0 E20.1
        have C20 := CHr.trans C0 (CHr.ext E20 C0.1)
        have hk20 : h0.size ≤ h20.size := Nat.le_trans hk0 E20.1
        have sf_b20 := Safe.ext E20 C0.1 (Safe.new (Nat.le_of_eq g20.symm))
        have F_value_b20 : Fld Z h20 b20 "java/lang/String" "value" "[B" .null := D20 (Or.inr (hw _ (List.mem_of_getElem? (i := 21) rfl))) (ty := (.array .byte)) (by decide)
        have F_coder_b20 : Fld Z h20 b20 "java/lang/String" "coder" "B" (.int (0 : Int32)) := D20 (Or.inr (hw _ (List.mem_of_getElem? (i := 22) rfl))) (ty := .byte) (by decide)
        refine own_go st20 ?_
        show Gm p e below T20 m 77 #[iv p0, iv p1, iv p2, iv p3, iv p4, iv ((p1 &&& (255 : Int32)).toUInt32.toUInt16.toUInt32.toInt32), iv ((p2 &&& (255 : Int32)).toUInt32.toUInt16.toUInt32.toInt32), iv ((p3 &&& (255 : Int32)).toUInt32.toUInt16.toUInt32.toInt32), iv ((p4 &&& (255 : Int32)).toUInt32.toUInt16.toUInt32.toInt32)] [(.ref b20)] _
        refine own_go (fun t₀ k₀ => XS.dup X20.here hx rfl (Jvm.hb hby d1_77) rfl rfl k₀) ?_
        show Gm p e below T20 m 78 #[iv p0, iv p1, iv p2, iv p3, iv p4, iv ((p1 &&& (255 : Int32)).toUInt32.toUInt16.toUInt32.toInt32), iv ((p2 &&& (255 : Int32)).toUInt32.toUInt16.toUInt32.toInt32), iv ((p3 &&& (255 : Int32)).toUInt32.toUInt16.toUInt32.toInt32), iv ((p4 &&& (255 : Int32)).toUInt32.toUInt16.toUInt32.toInt32)] [(.ref b20), (.ref b20)] _
        refine own_go (fun t₀ k₀ => XS.iconst X20.here hx rfl (Jvm.hb hby d1_78) k₀) ?_
        show Gm p e below T20 m 79 #[iv p0, iv p1, iv p2, iv p3, iv p4, iv ((p1 &&& (255 : Int32)).toUInt32.toUInt16.toUInt32.toInt32), iv ((p2 &&& (255 : Int32)).toUInt32.toUInt16.toUInt32.toInt32), iv ((p3 &&& (255 : Int32)).toUInt32.toUInt16.toUInt32.toInt32), iv ((p4 &&& (255 : Int32)).toUInt32.toUInt16.toUInt32.toInt32)] [(.int (2 : Int32)), (.ref b20), (.ref b20)] _
        obtain ⟨T21, h21, k21, X21, e21, E21, A21, st21⟩ := newP X20 hx hZ (hw _ (List.mem_of_getElem? (i := 8) rfl)) e20 (g := (mkF m 79 #[iv p0, iv p1, iv p2, iv p3, iv p4, iv ((p1 &&& (255 : Int32)).toUInt32.toUInt16.toUInt32.toInt32), iv ((p2 &&& (255 : Int32)).toUInt32.toUInt16.toUInt32.toInt32), iv ((p3 &&& (255 : Int32)).toUInt32.toUInt16.toUInt32.toInt32), iv ((p4 &&& (255 : Int32)).toUInt32.toUInt16.toUInt32.toInt32)] [(.int (2 : Int32)), (.ref b20), (.ref b20)])) rfl (Jvm.hb hby d1_79) rfl (by decide) (cap := 2) (by decide) (by decide) (by decide) (by decide)
        obtain ⟨b21, g21⟩ : ∃ z, z = h20.size := ⟨_, rfl⟩
        rw [← g21] at A21 st21
        have g_b21 : n0 ≤ b21 := Nat.le_trans Z20 (Nat.le_of_eq g21.symm)
        have ne_b20_b21 : b20 ≠ b21 := Nat.ne_of_lt (Nat.lt_of_lt_of_le A20.lt (Nat.le_of_eq g21.symm))
        have sz_b21 : h0.size ≤ b21 := Nat.le_trans K20.1 (Nat.le_of_eq g21.symm)
        have K21 : Keep h0 h21 [] := Keep.ext K20 E21
        have Z21 : n0 ≤ h21.size := Nat.le_trans Z20 E21.1
        have C21 := CHr.trans C20 (CHr.ext E21 C20.1)
        have hk21 : h0.size ≤ h21.size := Nat.le_trans hk20 E21.1
        have sf_b21 := Safe.ext E21 C20.1 (Safe.new (Nat.le_of_eq g21.symm))
        have V21 : Af Z h21 b21 .char 2 (fun _ => defaultValue .char) := Af.new A21 (by decide) rfl rfl
        refine own_go st21 ?_
        show Gm p e below T21 m 81 #[iv p0, iv p1, iv p2, iv p3, iv p4, iv ((p1 &&& (255 : Int32)).toUInt32.toUInt16.toUInt32.toInt32), iv ((p2 &&& (255 : Int32)).toUInt32.toUInt16.toUInt32.toInt32), iv ((p3 &&& (255 : Int32)).toUInt32.toUInt16.toUInt32.toInt32), iv ((p4 &&& (255 : Int32)).toUInt32.toUInt16.toUInt32.toInt32)] [(.ref b21), (.ref b20), (.ref b20)] _
        refine own_go (fun t₀ k₀ => XS.dup X21.here hx rfl (Jvm.hb hby d1_81) rfl rfl k₀) ?_
        show Gm p e below T21 m 82 #[iv p0, iv p1, iv p2, iv p3, iv p4, iv ((p1 &&& (255 : Int32)).toUInt32.toUInt16.toUInt32.toInt32), iv ((p2 &&& (255 : Int32)).toUInt32.toUInt16.toUInt32.toInt32), iv ((p3 &&& (255 : Int32)).toUInt32.toUInt16.toUInt32.toInt32), iv ((p4 &&& (255 : Int32)).toUInt32.toUInt16.toUInt32.toInt32)] [(.ref b21), (.ref b21), (.ref b20), (.ref b20)] _
        refine own_go (fun t₀ k₀ => XS.iconst X21.here hx rfl (Jvm.hb hby d1_82) k₀) ?_
        show Gm p e below T21 m 83 #[iv p0, iv p1, iv p2, iv p3, iv p4, iv ((p1 &&& (255 : Int32)).toUInt32.toUInt16.toUInt32.toInt32), iv ((p2 &&& (255 : Int32)).toUInt32.toUInt16.toUInt32.toInt32), iv ((p3 &&& (255 : Int32)).toUInt32.toUInt16.toUInt32.toInt32), iv ((p4 &&& (255 : Int32)).toUInt32.toUInt16.toUInt32.toInt32)] [(.int (0 : Int32)), (.ref b21), (.ref b21), (.ref b20), (.ref b20)] _
        refine own_go (fun t₀ k₀ => XS.iload X21.here hx rfl (Jvm.hb hby d1_83) rfl k₀) ?_
        show Gm p e below T21 m 85 #[iv p0, iv p1, iv p2, iv p3, iv p4, iv ((p1 &&& (255 : Int32)).toUInt32.toUInt16.toUInt32.toInt32), iv ((p2 &&& (255 : Int32)).toUInt32.toUInt16.toUInt32.toInt32), iv ((p3 &&& (255 : Int32)).toUInt32.toUInt16.toUInt32.toInt32), iv ((p4 &&& (255 : Int32)).toUInt32.toUInt16.toUInt32.toInt32)] [(.int ((p1 &&& (255 : Int32)).toUInt32.toUInt16.toUInt32.toInt32)), (.int (0 : Int32)), (.ref b21), (.ref b21), (.ref b20), (.ref b20)] _
        obtain ⟨T22, h22, X22, e22, W22, A22, st22⟩ := own_stC X21 hx hZ e21 V21 (j := (0 : Int32)) (k := 0) (by decide) rfl (by decide) (y := (own_ch p1)) rfl (g := (mkF m 85 #[iv p0, iv p1, iv p2, iv p3, iv p4, iv ((p1 &&& (255 : Int32)).toUInt32.toUInt16.toUInt32.toInt32), iv ((p2 &&& (255 : Int32)).toUInt32.toUInt16.toUInt32.toInt32), iv ((p3 &&& (255 : Int32)).toUInt32.toUInt16.toUInt32.toInt32), iv ((p4 &&& (255 : Int32)).toUInt32.toUInt16.toUInt32.toInt32)] [(.int ((p1 &&& (255 : Int32)).toUInt32.toUInt16.toUInt32.toInt32)), (.int (0 : Int32)), (.ref b21), (.ref b21), (.ref b20), (.ref b20)])) rfl rfl (Jvm.hb hby d1_85)
        have N22 := Fr.snoc X22 N0 g_b21
        have Z22 : n0 ≤ h22.size := W22.size ▸ Z21
        have K22 : Keep h0 h22 [] := Keep.wr K21 W22 (Or.inr sz_b21)
        have C22 := CHr.trans C21 (CHr.wr W22 sf_b21 C21.1)
        have hk22 : h0.size ≤ h22.size := W22.size ▸ hk21
        refine own_go st22 ?_
        show Gm p e below T22 m 86 #[iv p0, iv p1, iv p2, iv p3, iv p4, iv ((p1 &&& (255 : Int32)).toUInt32.toUInt16.toUInt32.toInt32), iv ((p2 &&& (255 : Int32)).toUInt32.toUInt16.toUInt32.toInt32), iv ((p3 &&& (255 : Int32)).toUInt32.toUInt16.toUInt32.toInt32), iv ((p4 &&& (255 : Int32)).toUInt32.toUInt16.toUInt32.toInt32)] [(.ref b21), (.ref b20), (.ref b20)] _
        refine own_go (fun t₀ k₀ => XS.dup X22.here hx rfl (Jvm.hb hby d1_86) rfl rfl k₀) ?_
        show Gm p e below T22 m 87 #[iv p0, iv p1, iv p2, iv p3, iv p4, iv ((p1 &&& (255 : Int32)).toUInt32.toUInt16.toUInt32.toInt32), iv ((p2 &&& (255 : Int32)).toUInt32.toUInt16.toUInt32.toInt32), iv ((p3 &&& (255 : Int32)).toUInt32.toUInt16.toUInt32.toInt32), iv ((p4 &&& (255 : Int32)).toUInt32.toUInt16.toUInt32.toInt32)] [(.ref b21), (.ref b21), (.ref b20), (.ref b20)] _
        refine own_go (fun t₀ k₀ => XS.iconst X22.here hx rfl (Jvm.hb hby d1_87) k₀) ?_
        show Gm p e below T22 m 88 #[iv p0, iv p1, iv p2, iv p3, iv p4, iv ((p1 &&& (255 : Int32)).toUInt32.toUInt16.toUInt32.toInt32), iv ((p2 &&& (255 : Int32)).toUInt32.toUInt16.toUInt32.toInt32), iv ((p3 &&& (255 : Int32)).toUInt32.toUInt16.toUInt32.toInt32), iv ((p4 &&& (255 : Int32)).toUInt32.toUInt16.toUInt32.toInt32)] [(.int (1 : Int32)), (.ref b21), (.ref b21), (.ref b20), (.ref b20)] _
        refine own_go (fun t₀ k₀ => XS.iload X22.here hx rfl (Jvm.hb hby d1_88) rfl k₀) ?_
        show Gm p e below T22 m 90 #[iv p0, iv p1, iv p2, iv p3, iv p4, iv ((p1 &&& (255 : Int32)).toUInt32.toUInt16.toUInt32.toInt32), iv ((p2 &&& (255 : Int32)).toUInt32.toUInt16.toUInt32.toInt32), iv ((p3 &&& (255 : Int32)).toUInt32.toUInt16.toUInt32.toInt32), iv ((p4 &&& (255 : Int32)).toUInt32.toUInt16.toUInt32.toInt32)] [(.int ((p2 &&& (255 : Int32)).toUInt32.toUInt16.toUInt32.toInt32)), (.int (1 : Int32)), (.ref b21), (.ref b21), (.ref b20), (.ref b20)] _
        obtain ⟨T23, h23, X23, e23, W23, A23, st23⟩ := own_stC X22 hx hZ e22 A22 (j := (1 : Int32)) (k := 1) (by decide) rfl (by decide) (y := (own_ch p2)) rfl (g := (mkF m 90 #[iv p0, iv p1, iv p2, iv p3, iv p4, iv ((p1 &&& (255 : Int32)).toUInt32.toUInt16.toUInt32.toInt32), iv ((p2 &&& (255 : Int32)).toUInt32.toUInt16.toUInt32.toInt32), iv ((p3 &&& (255 : Int32)).toUInt32.toUInt16.toUInt32.toInt32), iv ((p4 &&& (255 : Int32)).toUInt32.toUInt16.toUInt32.toInt32)] [(.int ((p2 &&& (255 : Int32)).toUInt32.toUInt16.toUInt32.toInt32)), (.int (1 : Int32)), (.ref b21), (.ref b21), (.ref b20), (.ref b20)])) rfl rfl (Jvm.hb hby d1_90)
        have f24 := (Safe.wr W22 sf_b21 C21.1 sf_b21)
        have N23 := Fr.snoc X23 N22 g_b21
        have Z23 : n0 ≤ h23.size := W23.size ▸ Z22
        have K23 : Keep h0 h23 [] := Keep.wr K22 W23 (Or.inr sz_b21)
        have C23 := CHr.trans C22 (CHr.wr W23 f24 C22.1)
        have hk23 : h0.size ≤ h23.size := W23.size ▸ hk22
        refine own_go st23 ?_
        show Gm p e below T23 m 91 #[iv p0, iv p1, iv p2, iv p3, iv p4, iv ((p1 &&& (255 : Int32)).toUInt32.toUInt16.toUInt32.toInt32), iv ((p2 &&& (255 : Int32)).toUInt32.toUInt16.toUInt32.toInt32), iv ((p3 &&& (255 : Int32)).toUInt32.toUInt16.toUInt32.toInt32), iv ((p4 &&& (255 : Int32)).toUInt32.toUInt16.toUInt32.toInt32)] [(.ref b21), (.ref b20), (.ref b20)] _
        have f25 := (((A20.ext E21).wr W22).wr W23)
        have f26 := (Fld.other W23 (Fld.other W22 (F_value_b20.ext E21) (Or.inl ne_b20_b21)) (Or.inl ne_b20_b21))
        have f27 := (Fld.other W23 (Fld.other W22 (F_coder_b20.ext E21) (Or.inl ne_b20_b21)) (Or.inl ne_b20_b21))
        have f28 := ((((S_c.ext E20).ext E21).wr W22).wr W23)
        obtain ⟨_, _, ⟨T29, L29, k29, n29⟩, -, X29, ⟨Lc29, hQ29, l29, y29, z29⟩, st29⟩ := X23.specialBack hx (y := (⟨"java/lang/String", "<init>", "([C)V"⟩ : MethodName)) rfl hown (mvT hZ (hw _ (List.mem_of_getElem? (i := 9) rfl))) (mvT hZ (hw _ (List.mem_of_getElem? (i := 10) rfl))) (mvT hZ (hw _ (List.mem_of_getElem? (i := 11) rfl))) (by decide) (backOf (W := 1) (rmC_2 l Z a0 hw [] b20 b21 (fun i => if i = 1 then (.int (own_ch p2)) else (fun i => if i = 0 then (.int (own_ch p1)) else (fun _ => defaultValue .char) i) i) (own_ch p1) (own_ch p2) cs h23 n0 Z23 f25 f26 f27 A23 rfl rfl (own_ch_le _) (own_ch_le _) f28 hcs g_b20) hZ (hw _ (List.mem_of_getElem? (i := 11) rfl)) (hw _ (List.mem_of_getElem? (i := 7) rfl)) (by decide) (by decide)) (g := (mkF m 91 #[iv p0, iv p1, iv p2, iv p3, iv p4, iv ((p1 &&& (255 : Int32)).toUInt32.toUInt16.toUInt32.toInt32), iv ((p2 &&& (255 : Int32)).toUInt32.toUInt16.toUInt32.toInt32), iv ((p3 &&& (255 : Int32)).toUInt32.toUInt16.toUInt32.toInt32), iv ((p4 &&& (255 : Int32)).toUInt32.toUInt16.toUInt32.toInt32)] [(.ref b21), (.ref b20), (.ref b20)])) rfl (by rw [hml]; rfl) (Steps.refl _) (a := b20) (argsL := [(.ref b21)]) (rest := [(.ref b20)]) (lenOf own_pd4 rfl) rfl (by show 2 * 0 + _ ≤ _; exact Nat.le_of_eq rfl) (Jvm.hb hby d1_91) (fun _ _ => ⟨rfl, e23, (by decide : 2 + 1 ≤ _), (by decide : 6 + 2 ≤ _)⟩)
        dsimp only [Pt.U, Pt.locs, Pt.cells, Pt.slots] at X29 l29 y29 z29 st29 hQ29
        subst l29 y29 z29
        obtain ⟨bq29, fq29, rfl, Nq29, Kc29, Ec29, Fc29, Fv29, Aq29, hq29_0, hq29_1⟩ := hQ29
        have N29 := Fr.app N23 Nq29
        refine own_go (fun t k => st29.trans k) ?_
        have f30 := (Safe.wr W23 f24 C22.1 (Safe.wr W22 sf_b21 C21.1 (Safe.ext E21 C20.1 sf_b20)))
        have Z29 : n0 ≤ T29.heap.size := Nat.le_trans Z23 Kc29.1
        have K29 : Keep h0 T29.heap [] := Keep.trans K23 Kc29 (allS (Or.inr sz_b20) all0)
        have C29 := CHr.trans C23 (CHr.keep Kc29 (sfS f30 sf0) C23.1)
        have hk29 : h0.size ≤ T29.heap.size := Nat.le_trans hk23 Kc29.1
        show Gm p e below T29 m 94 #[iv p0, iv p1, iv p2, iv p3, iv p4, iv ((p1 &&& (255 : Int32)).toUInt32.toUInt16.toUInt32.toInt32), iv ((p2 &&& (255 : Int32)).toUInt32.toUInt16.toUInt32.toInt32), iv ((p3 &&& (255 : Int32)).toUInt32.toUInt16.toUInt32.toInt32), iv ((p4 &&& (255 : Int32)).toUInt32.toUInt16.toUInt32.toInt32)] [(.ref b20)] _
        have hl : lenS p0 = 2 := by unfold lenS; rw [if_neg c1, if_neg c9, if_pos c19]
        have hv : ∀ i, i < 2 → fq29 i = .int (chS p1 p2 p3 p4 i) := fun i hi => by
          rcases (by omega : i = 0 ∨ i = 1) with rfl | rfl
          · exact hq29_0
          · exact hq29_1
        exact own_retAW X29 hx hlk hZ (own_ew hw) hS0 hk29 C29 rfl Bd.returns rfl (Jvm.hb hby d1_94) rfl ⟨b20, bq29, 2, fq29, rfl, N29, own_stX (Z := Z) K29, sz_b20, Ec29, Fc29, Fv29, Aq29, hl.symm, hv⟩ (by decide) (by decide)
      · have hfork := trivial
        refine own_go (fun t₀ k₀ => XS.icmpYes X0.here hx rfl (pc0 := 71) (pc' := 95) rfl (Jvm.hb hby d1_71) rfl (XT.ii_ne_t c19) (by decide) (by decide) k₀) ?_
        show Gm p e below s₁ m 95 #[iv p0, iv p1, iv p2, iv p3, iv p4, iv ((p1 &&& (255 : Int32)).toUInt32.toUInt16.toUInt32.toInt32), iv ((p2 &&& (255 : Int32)).toUInt32.toUInt16.toUInt32.toInt32), iv ((p3 &&& (255 : Int32)).toUInt32.toUInt16.toUInt32.toInt32), iv ((p4 &&& (255 : Int32)).toUInt32.toUInt16.toUInt32.toInt32)] [] _
        refine own_go (fun t₀ k₀ => XS.iloadN X0.here hx rfl (Jvm.hb hby d1_95) rfl k₀) ?_
        show Gm p e below s₁ m 96 #[iv p0, iv p1, iv p2, iv p3, iv p4, iv ((p1 &&& (255 : Int32)).toUInt32.toUInt16.toUInt32.toInt32), iv ((p2 &&& (255 : Int32)).toUInt32.toUInt16.toUInt32.toInt32), iv ((p3 &&& (255 : Int32)).toUInt32.toUInt16.toUInt32.toInt32), iv ((p4 &&& (255 : Int32)).toUInt32.toUInt16.toUInt32.toInt32)] [(.int p0)] _
        refine own_go (fun t₀ k₀ => XS.iconst X0.here hx rfl (Jvm.hb hby d1_96) k₀) ?_
        show Gm p e below s₁ m 97 #[iv p0, iv p1, iv p2, iv p3, iv p4, iv ((p1 &&& (255 : Int32)).toUInt32.toUInt16.toUInt32.toInt32), iv ((p2 &&& (255 : Int32)).toUInt32.toUInt16.toUInt32.toInt32), iv ((p3 &&& (255 : Int32)).toUInt32.toUInt16.toUInt32.toInt32), iv ((p4 &&& (255 : Int32)).toUInt32.toUInt16.toUInt32.toInt32)] [(.int (3 : Int32)), (.int p0)] _
        by_cases c31 : p0 = (3 : Int32)
        · have hfork := trivial
          refine own_go (fun t₀ k₀ => XS.icmpNo X0.here hx rfl (Jvm.hb hby d1_97) rfl (XT.ii_ne_f c31) k₀) ?_
          show Gm p e below s₁ m 100 #[iv p0, iv p1, iv p2, iv p3, iv p4, iv ((p1 &&& (255 : Int32)).toUInt32.toUInt16.toUInt32.toInt32), iv ((p2 &&& (255 : Int32)).toUInt32.toUInt16.toUInt32.toInt32), iv ((p3 &&& (255 : Int32)).toUInt32.toUInt16.toUInt32.toInt32), iv ((p4 &&& (255 : Int32)).toUInt32.toUInt16.toUInt32.toInt32)] [] _
          obtain ⟨T32, h32, X32, e32, E32, A32, D32, -, st32⟩ := newO X0 hx hZ hown (hw _ (List.mem_of_getElem? (i := 5) rfl)) (hw _ (List.mem_of_getElem? (i := 6) rfl)) (hw _ (List.mem_of_getElem? (i := 7) rfl)) e0 (g := (mkF m 100 #[iv p0, iv p1, iv p2, iv p3, iv p4, iv ((p1 &&& (255 : Int32)).toUInt32.toUInt16.toUInt32.toInt32), iv ((p2 &&& (255 : Int32)).toUInt32.toUInt16.toUInt32.toInt32), iv ((p3 &&& (255 : Int32)).toUInt32.toUInt16.toUInt32.toInt32), iv ((p4 &&& (255 : Int32)).toUInt32.toUInt16.toUInt32.toInt32)] [])) rfl (Jvm.hb hby d1_100) (by decide) (by decide)
          obtain ⟨b32, g32⟩ : ∃ z, z = h0.size := ⟨_, rfl⟩
          rw [← g32] at A32 D32 st32
          have g_b32 : n0 ≤ b32 := Nat.le_trans Z0 (Nat.le_of_eq g32.symm)
          have sz_b32 : h0.size ≤ b32 := Nat.le_trans (Keep.refl h0 []).1 (Nat.le_of_eq g32.symm)
          have K32 : Keep h0 h32 [] := Keep.ext (Keep.refl h0 []) E32
          have Z32 : n0 ≤ h32.size := Nat.le_trans Z0 E32.1
          have C32 := CHr.trans C0 (CHr.ext E32 C0.1)
          have hk32 : h0.size ≤ h32.size := Nat.le_trans hk0 E32.1
          have sf_b32 := Safe.ext E32 C0.1 (Safe.new (Nat.le_of_eq g32.symm))
          have F_value_b32 : Fld Z h32 b32 "java/lang/String" "value" "[B" .null := D32 (Or.inr (hw _ (List.mem_of_getElem? (i := 21) rfl))) (ty := (.array .byte)) (by decide)
          have F_coder_b32 : Fld Z h32 b32 "java/lang/String" "coder" "B" (.int (0 : Int32)) := D32 (Or.inr (hw _ (List.mem_of_getElem? (i := 22) rfl))) (ty := .byte) (by decide)
          refine own_go st32 ?_
          show Gm p e below T32 m 103 #[iv p0, iv p1, iv p2, iv p3, iv p4, iv ((p1 &&& (255 : Int32)).toUInt32.toUInt16.toUInt32.toInt32), iv ((p2 &&& (255 : Int32)).toUInt32.toUInt16.toUInt32.toInt32), iv ((p3 &&& (255 : Int32)).toUInt32.toUInt16.toUInt32.toInt32), iv ((p4 &&& (255 : Int32)).toUInt32.toUInt16.toUInt32.toInt32)] [(.ref b32)] _
          refine own_go (fun t₀ k₀ => XS.dup X32.here hx rfl (Jvm.hb hby d1_103) rfl rfl k₀) ?_
          show Gm p e below T32 m 104 #[iv p0, iv p1, iv p2, iv p3, iv p4, iv ((p1 &&& (255 : Int32)).toUInt32.toUInt16.toUInt32.toInt32), iv ((p2 &&& (255 : Int32)).toUInt32.toUInt16.toUInt32.toInt32), iv ((p3 &&& (255 : Int32)).toUInt32.toUInt16.toUInt32.toInt32), iv ((p4 &&& (255 : Int32)).toUInt32.toUInt16.toUInt32.toInt32)] [(.ref b32), (.ref b32)] _
          refine own_go (fun t₀ k₀ => XS.iconst X32.here hx rfl (Jvm.hb hby d1_104) k₀) ?_
          show Gm p e below T32 m 105 #[iv p0, iv p1, iv p2, iv p3, iv p4, iv ((p1 &&& (255 : Int32)).toUInt32.toUInt16.toUInt32.toInt32), iv ((p2 &&& (255 : Int32)).toUInt32.toUInt16.toUInt32.toInt32), iv ((p3 &&& (255 : Int32)).toUInt32.toUInt16.toUInt32.toInt32), iv ((p4 &&& (255 : Int32)).toUInt32.toUInt16.toUInt32.toInt32)] [(.int (3 : Int32)), (.ref b32), (.ref b32)] _
          obtain ⟨T33, h33, k33, X33, e33, E33, A33, st33⟩ := newP X32 hx hZ (hw _ (List.mem_of_getElem? (i := 8) rfl)) e32 (g := (mkF m 105 #[iv p0, iv p1, iv p2, iv p3, iv p4, iv ((p1 &&& (255 : Int32)).toUInt32.toUInt16.toUInt32.toInt32), iv ((p2 &&& (255 : Int32)).toUInt32.toUInt16.toUInt32.toInt32), iv ((p3 &&& (255 : Int32)).toUInt32.toUInt16.toUInt32.toInt32), iv ((p4 &&& (255 : Int32)).toUInt32.toUInt16.toUInt32.toInt32)] [(.int (3 : Int32)), (.ref b32), (.ref b32)])) rfl (Jvm.hb hby d1_105) rfl (by decide) (cap := 3) (by decide) (by decide) (by decide) (by decide)
          obtain ⟨b33, g33⟩ : ∃ z, z = h32.size := ⟨_, rfl⟩
          rw [← g33] at A33 st33
          have g_b33 : n0 ≤ b33 := Nat.le_trans Z32 (Nat.le_of_eq g33.symm)
          have ne_b32_b33 : b32 ≠ b33 := Nat.ne_of_lt (Nat.lt_of_lt_of_le A32.lt (Nat.le_of_eq g33.symm))
          have sz_b33 : h0.size ≤ b33 := Nat.le_trans K32.1 (Nat.le_of_eq g33.symm)
          have K33 : Keep h0 h33 [] := Keep.ext K32 E33
          have Z33 : n0 ≤ h33.size := Nat.le_trans Z32 E33.1
          have C33 := CHr.trans C32 (CHr.ext E33 C32.1)
          have hk33 : h0.size ≤ h33.size := Nat.le_trans hk32 E33.1
          have sf_b33 := Safe.ext E33 C32.1 (Safe.new (Nat.le_of_eq g33.symm))
          have V33 : Af Z h33 b33 .char 3 (fun _ => defaultValue .char) := Af.new A33 (by decide) rfl rfl
          refine own_go st33 ?_
          show Gm p e below T33 m 107 #[iv p0, iv p1, iv p2, iv p3, iv p4, iv ((p1 &&& (255 : Int32)).toUInt32.toUInt16.toUInt32.toInt32), iv ((p2 &&& (255 : Int32)).toUInt32.toUInt16.toUInt32.toInt32), iv ((p3 &&& (255 : Int32)).toUInt32.toUInt16.toUInt32.toInt32), iv ((p4 &&& (255 : Int32)).toUInt32.toUInt16.toUInt32.toInt32)] [(.ref b33), (.ref b32), (.ref b32)] _
          refine own_go (fun t₀ k₀ => XS.dup X33.here hx rfl (Jvm.hb hby d1_107) rfl rfl k₀) ?_
          show Gm p e below T33 m 108 #[iv p0, iv p1, iv p2, iv p3, iv p4, iv ((p1 &&& (255 : Int32)).toUInt32.toUInt16.toUInt32.toInt32), iv ((p2 &&& (255 : Int32)).toUInt32.toUInt16.toUInt32.toInt32), iv ((p3 &&& (255 : Int32)).toUInt32.toUInt16.toUInt32.toInt32), iv ((p4 &&& (255 : Int32)).toUInt32.toUInt16.toUInt32.toInt32)] [(.ref b33), (.ref b33), (.ref b32), (.ref b32)] _
          refine own_go (fun t₀ k₀ => XS.iconst X33.here hx rfl (Jvm.hb hby d1_108) k₀) ?_
          show Gm p e below T33 m 109 #[iv p0, iv p1, iv p2, iv p3, iv p4, iv ((p1 &&& (255 : Int32)).toUInt32.toUInt16.toUInt32.toInt32), iv ((p2 &&& (255 : Int32)).toUInt32.toUInt16.toUInt32.toInt32), iv ((p3 &&& (255 : Int32)).toUInt32.toUInt16.toUInt32.toInt32), iv ((p4 &&& (255 : Int32)).toUInt32.toUInt16.toUInt32.toInt32)] [(.int (0 : Int32)), (.ref b33), (.ref b33), (.ref b32), (.ref b32)] _
          refine own_go (fun t₀ k₀ => XS.iload X33.here hx rfl (Jvm.hb hby d1_109) rfl k₀) ?_
          show Gm p e below T33 m 111 #[iv p0, iv p1, iv p2, iv p3, iv p4, iv ((p1 &&& (255 : Int32)).toUInt32.toUInt16.toUInt32.toInt32), iv ((p2 &&& (255 : Int32)).toUInt32.toUInt16.toUInt32.toInt32), iv ((p3 &&& (255 : Int32)).toUInt32.toUInt16.toUInt32.toInt32), iv ((p4 &&& (255 : Int32)).toUInt32.toUInt16.toUInt32.toInt32)] [(.int ((p1 &&& (255 : Int32)).toUInt32.toUInt16.toUInt32.toInt32)), (.int (0 : Int32)), (.ref b33), (.ref b33), (.ref b32), (.ref b32)] _
          obtain ⟨T34, h34, X34, e34, W34, A34, st34⟩ := own_stC X33 hx hZ e33 V33 (j := (0 : Int32)) (k := 0) (by decide) rfl (by decide) (y := (own_ch p1)) rfl (g := (mkF m 111 #[iv p0, iv p1, iv p2, iv p3, iv p4, iv ((p1 &&& (255 : Int32)).toUInt32.toUInt16.toUInt32.toInt32), iv ((p2 &&& (255 : Int32)).toUInt32.toUInt16.toUInt32.toInt32), iv ((p3 &&& (255 : Int32)).toUInt32.toUInt16.toUInt32.toInt32), iv ((p4 &&& (255 : Int32)).toUInt32.toUInt16.toUInt32.toInt32)] [(.int ((p1 &&& (255 : Int32)).toUInt32.toUInt16.toUInt32.toInt32)), (.int (0 : Int32)), (.ref b33), (.ref b33), (.ref b32), (.ref b32)])) rfl rfl (Jvm.hb hby d1_111)
          have N34 := Fr.snoc X34 N0 g_b33
          have Z34 : n0 ≤ h34.size := W34.size ▸ Z33
          have K34 : Keep h0 h34 [] := Keep.wr K33 W34 (Or.inr sz_b33)
          have C34 := CHr.trans C33 (CHr.wr W34 sf_b33 C33.1)
          have hk34 : h0.size ≤ h34.size := W34.size ▸ hk33
          refine own_go st34 ?_
          show Gm p e below T34 m 112 #[iv p0, iv p1, iv p2, iv p3, iv p4, iv ((p1 &&& (255 : Int32)).toUInt32.toUInt16.toUInt32.toInt32), iv ((p2 &&& (255 : Int32)).toUInt32.toUInt16.toUInt32.toInt32), iv ((p3 &&& (255 : Int32)).toUInt32.toUInt16.toUInt32.toInt32), iv ((p4 &&& (255 : Int32)).toUInt32.toUInt16.toUInt32.toInt32)] [(.ref b33), (.ref b32), (.ref b32)] _
          refine own_go (fun t₀ k₀ => XS.dup X34.here hx rfl (Jvm.hb hby d1_112) rfl rfl k₀) ?_
          show Gm p e below T34 m 113 #[iv p0, iv p1, iv p2, iv p3, iv p4, iv ((p1 &&& (255 : Int32)).toUInt32.toUInt16.toUInt32.toInt32), iv ((p2 &&& (255 : Int32)).toUInt32.toUInt16.toUInt32.toInt32), iv ((p3 &&& (255 : Int32)).toUInt32.toUInt16.toUInt32.toInt32), iv ((p4 &&& (255 : Int32)).toUInt32.toUInt16.toUInt32.toInt32)] [(.ref b33), (.ref b33), (.ref b32), (.ref b32)] _
          refine own_go (fun t₀ k₀ => XS.iconst X34.here hx rfl (Jvm.hb hby d1_113) k₀) ?_
          show Gm p e below T34 m 114 #[iv p0, iv p1, iv p2, iv p3, iv p4, iv ((p1 &&& (255 : Int32)).toUInt32.toUInt16.toUInt32.toInt32), iv ((p2 &&& (255 : Int32)).toUInt32.toUInt16.toUInt32.toInt32), iv ((p3 &&& (255 : Int32)).toUInt32.toUInt16.toUInt32.toInt32), iv ((p4 &&& (255 : Int32)).toUInt32.toUInt16.toUInt32.toInt32)] [(.int (1 : Int32)), (.ref b33), (.ref b33), (.ref b32), (.ref b32)] _
          refine own_go (fun t₀ k₀ => XS.iload X34.here hx rfl (Jvm.hb hby d1_114) rfl k₀) ?_
          show Gm p e below T34 m 116 #[iv p0, iv p1, iv p2, iv p3, iv p4, iv ((p1 &&& (255 : Int32)).toUInt32.toUInt16.toUInt32.toInt32), iv ((p2 &&& (255 : Int32)).toUInt32.toUInt16.toUInt32.toInt32), iv ((p3 &&& (255 : Int32)).toUInt32.toUInt16.toUInt32.toInt32), iv ((p4 &&& (255 : Int32)).toUInt32.toUInt16.toUInt32.toInt32)] [(.int ((p2 &&& (255 : Int32)).toUInt32.toUInt16.toUInt32.toInt32)), (.int (1 : Int32)), (.ref b33), (.ref b33), (.ref b32), (.ref b32)] _
          obtain ⟨T35, h35, X35, e35, W35, A35, st35⟩ := own_stC X34 hx hZ e34 A34 (j := (1 : Int32)) (k := 1) (by decide) rfl (by decide) (y := (own_ch p2)) rfl (g := (mkF m 116 #[iv p0, iv p1, iv p2, iv p3, iv p4, iv ((p1 &&& (255 : Int32)).toUInt32.toUInt16.toUInt32.toInt32), iv ((p2 &&& (255 : Int32)).toUInt32.toUInt16.toUInt32.toInt32), iv ((p3 &&& (255 : Int32)).toUInt32.toUInt16.toUInt32.toInt32), iv ((p4 &&& (255 : Int32)).toUInt32.toUInt16.toUInt32.toInt32)] [(.int ((p2 &&& (255 : Int32)).toUInt32.toUInt16.toUInt32.toInt32)), (.int (1 : Int32)), (.ref b33), (.ref b33), (.ref b32), (.ref b32)])) rfl rfl (Jvm.hb hby d1_116)
          have f36 := (Safe.wr W34 sf_b33 C33.1 sf_b33)
          have N35 := Fr.snoc X35 N34 g_b33
          have Z35 : n0 ≤ h35.size := W35.size ▸ Z34
          have K35 : Keep h0 h35 [] := Keep.wr K34 W35 (Or.inr sz_b33)
          have C35 := CHr.trans C34 (CHr.wr W35 f36 C34.1)
          have hk35 : h0.size ≤ h35.size := W35.size ▸ hk34
          refine own_go st35 ?_
          show Gm p e below T35 m 117 #[iv p0, iv p1, iv p2, iv p3, iv p4, iv ((p1 &&& (255 : Int32)).toUInt32.toUInt16.toUInt32.toInt32), iv ((p2 &&& (255 : Int32)).toUInt32.toUInt16.toUInt32.toInt32), iv ((p3 &&& (255 : Int32)).toUInt32.toUInt16.toUInt32.toInt32), iv ((p4 &&& (255 : Int32)).toUInt32.toUInt16.toUInt32.toInt32)] [(.ref b33), (.ref b32), (.ref b32)] _
          refine own_go (fun t₀ k₀ => XS.dup X35.here hx rfl (Jvm.hb hby d1_117) rfl rfl k₀) ?_
          show Gm p e below T35 m 118 #[iv p0, iv p1, iv p2, iv p3, iv p4, iv ((p1 &&& (255 : Int32)).toUInt32.toUInt16.toUInt32.toInt32), iv ((p2 &&& (255 : Int32)).toUInt32.toUInt16.toUInt32.toInt32), iv ((p3 &&& (255 : Int32)).toUInt32.toUInt16.toUInt32.toInt32), iv ((p4 &&& (255 : Int32)).toUInt32.toUInt16.toUInt32.toInt32)] [(.ref b33), (.ref b33), (.ref b32), (.ref b32)] _
          refine own_go (fun t₀ k₀ => XS.iconst X35.here hx rfl (Jvm.hb hby d1_118) k₀) ?_
          show Gm p e below T35 m 119 #[iv p0, iv p1, iv p2, iv p3, iv p4, iv ((p1 &&& (255 : Int32)).toUInt32.toUInt16.toUInt32.toInt32), iv ((p2 &&& (255 : Int32)).toUInt32.toUInt16.toUInt32.toInt32), iv ((p3 &&& (255 : Int32)).toUInt32.toUInt16.toUInt32.toInt32), iv ((p4 &&& (255 : Int32)).toUInt32.toUInt16.toUInt32.toInt32)] [(.int (2 : Int32)), (.ref b33), (.ref b33), (.ref b32), (.ref b32)] _
          refine own_go (fun t₀ k₀ => XS.iload X35.here hx rfl (Jvm.hb hby d1_119) rfl k₀) ?_
          show Gm p e below T35 m 121 #[iv p0, iv p1, iv p2, iv p3, iv p4, iv ((p1 &&& (255 : Int32)).toUInt32.toUInt16.toUInt32.toInt32), iv ((p2 &&& (255 : Int32)).toUInt32.toUInt16.toUInt32.toInt32), iv ((p3 &&& (255 : Int32)).toUInt32.toUInt16.toUInt32.toInt32), iv ((p4 &&& (255 : Int32)).toUInt32.toUInt16.toUInt32.toInt32)] [(.int ((p3 &&& (255 : Int32)).toUInt32.toUInt16.toUInt32.toInt32)), (.int (2 : Int32)), (.ref b33), (.ref b33), (.ref b32), (.ref b32)] _
          obtain ⟨T37, h37, X37, e37, W37, A37, st37⟩ := own_stC X35 hx hZ e35 A35 (j := (2 : Int32)) (k := 2) (by decide) rfl (by decide) (y := (own_ch p3)) rfl (g := (mkF m 121 #[iv p0, iv p1, iv p2, iv p3, iv p4, iv ((p1 &&& (255 : Int32)).toUInt32.toUInt16.toUInt32.toInt32), iv ((p2 &&& (255 : Int32)).toUInt32.toUInt16.toUInt32.toInt32), iv ((p3 &&& (255 : Int32)).toUInt32.toUInt16.toUInt32.toInt32), iv ((p4 &&& (255 : Int32)).toUInt32.toUInt16.toUInt32.toInt32)] [(.int ((p3 &&& (255 : Int32)).toUInt32.toUInt16.toUInt32.toInt32)), (.int (2 : Int32)), (.ref b33), (.ref b33), (.ref b32), (.ref b32)])) rfl rfl (Jvm.hb hby d1_121)
          have f38 := (Safe.wr W35 f36 C34.1 f36)
          have N37 := Fr.snoc X37 N35 g_b33
          have Z37 : n0 ≤ h37.size := W37.size ▸ Z35
          have K37 : Keep h0 h37 [] := Keep.wr K35 W37 (Or.inr sz_b33)
          have C37 := CHr.trans C35 (CHr.wr W37 f38 C35.1)
          have hk37 : h0.size ≤ h37.size := W37.size ▸ hk35
          refine own_go st37 ?_
          show Gm p e below T37 m 122 #[iv p0, iv p1, iv p2, iv p3, iv p4, iv ((p1 &&& (255 : Int32)).toUInt32.toUInt16.toUInt32.toInt32), iv ((p2 &&& (255 : Int32)).toUInt32.toUInt16.toUInt32.toInt32), iv ((p3 &&& (255 : Int32)).toUInt32.toUInt16.toUInt32.toInt32), iv ((p4 &&& (255 : Int32)).toUInt32.toUInt16.toUInt32.toInt32)] [(.ref b33), (.ref b32), (.ref b32)] _
          have f39 := ((((A32.ext E33).wr W34).wr W35).wr W37)
          have f40 := (Fld.other W37 (Fld.other W35 (Fld.other W34 (F_value_b32.ext E33) (Or.inl ne_b32_b33)) (Or.inl ne_b32_b33)) (Or.inl ne_b32_b33))
          have f41 := (Fld.other W37 (Fld.other W35 (Fld.other W34 (F_coder_b32.ext E33) (Or.inl ne_b32_b33)) (Or.inl ne_b32_b33)) (Or.inl ne_b32_b33))
          have f42 := (((((S_c.ext E32).ext E33).wr W34).wr W35).wr W37)
          obtain ⟨_, _, ⟨T43, L43, k43, n43⟩, -, X43, ⟨Lc43, hQ43, l43, y43, z43⟩, st43⟩ := X37.specialBack hx (y := (⟨"java/lang/String", "<init>", "([C)V"⟩ : MethodName)) rfl hown (mvT hZ (hw _ (List.mem_of_getElem? (i := 9) rfl))) (mvT hZ (hw _ (List.mem_of_getElem? (i := 10) rfl))) (mvT hZ (hw _ (List.mem_of_getElem? (i := 11) rfl))) (by decide) (backOf (W := 1) (rmC_3 l Z a0 hw [] b32 b33 (fun i => if i = 2 then (.int (own_ch p3)) else (fun i => if i = 1 then (.int (own_ch p2)) else (fun i => if i = 0 then (.int (own_ch p1)) else (fun _ => defaultValue .char) i) i) i) (own_ch p1) (own_ch p2) (own_ch p3) cs h37 n0 Z37 f39 f40 f41 A37 rfl rfl rfl (own_ch_le _) (own_ch_le _) (own_ch_le _) f42 hcs g_b32) hZ (hw _ (List.mem_of_getElem? (i := 11) rfl)) (hw _ (List.mem_of_getElem? (i := 7) rfl)) (by decide) (by decide)) (g := (mkF m 122 #[iv p0, iv p1, iv p2, iv p3, iv p4, iv ((p1 &&& (255 : Int32)).toUInt32.toUInt16.toUInt32.toInt32), iv ((p2 &&& (255 : Int32)).toUInt32.toUInt16.toUInt32.toInt32), iv ((p3 &&& (255 : Int32)).toUInt32.toUInt16.toUInt32.toInt32), iv ((p4 &&& (255 : Int32)).toUInt32.toUInt16.toUInt32.toInt32)] [(.ref b33), (.ref b32), (.ref b32)])) rfl (by rw [hml]; rfl) (Steps.refl _) (a := b32) (argsL := [(.ref b33)]) (rest := [(.ref b32)]) (lenOf own_pd4 rfl) rfl (by show 2 * 0 + _ ≤ _; exact Nat.le_of_eq rfl) (Jvm.hb hby d1_122) (fun _ _ => ⟨rfl, e37, (by decide : 2 + 1 ≤ _), (by decide : 7 + 3 ≤ _)⟩)
          dsimp only [Pt.U, Pt.locs, Pt.cells, Pt.slots] at X43 l43 y43 z43 st43 hQ43
          subst l43 y43 z43
          obtain ⟨bq43, fq43, rfl, Nq43, Kc43, Ec43, Fc43, Fv43, Aq43, hq43_0, hq43_1, hq43_2⟩ := hQ43
          have N43 := Fr.app N37 Nq43
          refine own_go (fun t k => st43.trans k) ?_
          have f44 := (Safe.wr W37 f38 C35.1 (Safe.wr W35 f36 C34.1 (Safe.wr W34 sf_b33 C33.1 (Safe.ext E33 C32.1 sf_b32))))
          have Z43 : n0 ≤ T43.heap.size := Nat.le_trans Z37 Kc43.1
          have K43 : Keep h0 T43.heap [] := Keep.trans K37 Kc43 (allS (Or.inr sz_b32) all0)
          have C43 := CHr.trans C37 (CHr.keep Kc43 (sfS f44 sf0) C37.1)
          have hk43 : h0.size ≤ T43.heap.size := Nat.le_trans hk37 Kc43.1
          show Gm p e below T43 m 125 #[iv p0, iv p1, iv p2, iv p3, iv p4, iv ((p1 &&& (255 : Int32)).toUInt32.toUInt16.toUInt32.toInt32), iv ((p2 &&& (255 : Int32)).toUInt32.toUInt16.toUInt32.toInt32), iv ((p3 &&& (255 : Int32)).toUInt32.toUInt16.toUInt32.toInt32), iv ((p4 &&& (255 : Int32)).toUInt32.toUInt16.toUInt32.toInt32)] [(.ref b32)] _
          have hl : lenS p0 = 3 := by unfold lenS; rw [if_neg c1, if_neg c9, if_neg c19, if_pos c31]
          have hv : ∀ i, i < 3 → fq43 i = .int (chS p1 p2 p3 p4 i) := fun i hi => by
            rcases (by omega : i = 0 ∨ i = 1 ∨ i = 2) with rfl | rfl | rfl
            · exact hq43_0
            · exact hq43_1
            · exact hq43_2
          exact own_retAW X43 hx hlk hZ (own_ew hw) hS0 hk43 C43 rfl Bd.returns rfl (Jvm.hb hby d1_125) rfl ⟨b32, bq43, 3, fq43, rfl, N43, own_stX (Z := Z) K43, sz_b32, Ec43, Fc43, Fv43, Aq43, hl.symm, hv⟩ (by decide) (by decide)
        · have hfork := trivial
          refine own_go (fun t₀ k₀ => XS.icmpYes X0.here hx rfl (pc0 := 97) (pc' := 126) rfl (Jvm.hb hby d1_97) rfl (XT.ii_ne_t c31) (by decide) (by decide) k₀) ?_
          show Gm p e below s₁ m 126 #[iv p0, iv p1, iv p2, iv p3, iv p4, iv ((p1 &&& (255 : Int32)).toUInt32.toUInt16.toUInt32.toInt32), iv ((p2 &&& (255 : Int32)).toUInt32.toUInt16.toUInt32.toInt32), iv ((p3 &&& (255 : Int32)).toUInt32.toUInt16.toUInt32.toInt32), iv ((p4 &&& (255 : Int32)).toUInt32.toUInt16.toUInt32.toInt32)] [] _
          obtain ⟨T45, h45, X45, e45, E45, A45, D45, -, st45⟩ := newO X0 hx hZ hown (hw _ (List.mem_of_getElem? (i := 5) rfl)) (hw _ (List.mem_of_getElem? (i := 6) rfl)) (hw _ (List.mem_of_getElem? (i := 7) rfl)) e0 (g := (mkF m 126 #[iv p0, iv p1, iv p2, iv p3, iv p4, iv ((p1 &&& (255 : Int32)).toUInt32.toUInt16.toUInt32.toInt32), iv ((p2 &&& (255 : Int32)).toUInt32.toUInt16.toUInt32.toInt32), iv ((p3 &&& (255 : Int32)).toUInt32.toUInt16.toUInt32.toInt32), iv ((p4 &&& (255 : Int32)).toUInt32.toUInt16.toUInt32.toInt32)] [])) rfl (Jvm.hb hby d1_126) (by decide) (by decide)
          obtain ⟨b45, g45⟩ : ∃ z, z = h0.size := ⟨_, rfl⟩
          rw [← g45] at A45 D45 st45
          have g_b45 : n0 ≤ b45 := Nat.le_trans Z0 (Nat.le_of_eq g45.symm)
          have sz_b45 : h0.size ≤ b45 := Nat.le_trans (Keep.refl h0 []).1 (Nat.le_of_eq g45.symm)
          have K45 : Keep h0 h45 [] := Keep.ext (Keep.refl h0 []) E45
          have Z45 : n0 ≤ h45.size := Nat.le_trans Z0 E45.1
          have C45 := CHr.trans C0 (CHr.ext E45 C0.1)
          have hk45 : h0.size ≤ h45.size := Nat.le_trans hk0 E45.1
          have sf_b45 := Safe.ext E45 C0.1 (Safe.new (Nat.le_of_eq g45.symm))
          have F_value_b45 : Fld Z h45 b45 "java/lang/String" "value" "[B" .null := D45 (Or.inr (hw _ (List.mem_of_getElem? (i := 21) rfl))) (ty := (.array .byte)) (by decide)
          have F_coder_b45 : Fld Z h45 b45 "java/lang/String" "coder" "B" (.int (0 : Int32)) := D45 (Or.inr (hw _ (List.mem_of_getElem? (i := 22) rfl))) (ty := .byte) (by decide)
          refine own_go st45 ?_
          show Gm p e below T45 m 129 #[iv p0, iv p1, iv p2, iv p3, iv p4, iv ((p1 &&& (255 : Int32)).toUInt32.toUInt16.toUInt32.toInt32), iv ((p2 &&& (255 : Int32)).toUInt32.toUInt16.toUInt32.toInt32), iv ((p3 &&& (255 : Int32)).toUInt32.toUInt16.toUInt32.toInt32), iv ((p4 &&& (255 : Int32)).toUInt32.toUInt16.toUInt32.toInt32)] [(.ref b45)] _
          refine own_go (fun t₀ k₀ => XS.dup X45.here hx rfl (Jvm.hb hby d1_129) rfl rfl k₀) ?_
          show Gm p e below T45 m 130 #[iv p0, iv p1, iv p2, iv p3, iv p4, iv ((p1 &&& (255 : Int32)).toUInt32.toUInt16.toUInt32.toInt32), iv ((p2 &&& (255 : Int32)).toUInt32.toUInt16.toUInt32.toInt32), iv ((p3 &&& (255 : Int32)).toUInt32.toUInt16.toUInt32.toInt32), iv ((p4 &&& (255 : Int32)).toUInt32.toUInt16.toUInt32.toInt32)] [(.ref b45), (.ref b45)] _
          refine own_go (fun t₀ k₀ => XS.iconst X45.here hx rfl (Jvm.hb hby d1_130) k₀) ?_
          show Gm p e below T45 m 131 #[iv p0, iv p1, iv p2, iv p3, iv p4, iv ((p1 &&& (255 : Int32)).toUInt32.toUInt16.toUInt32.toInt32), iv ((p2 &&& (255 : Int32)).toUInt32.toUInt16.toUInt32.toInt32), iv ((p3 &&& (255 : Int32)).toUInt32.toUInt16.toUInt32.toInt32), iv ((p4 &&& (255 : Int32)).toUInt32.toUInt16.toUInt32.toInt32)] [(.int (4 : Int32)), (.ref b45), (.ref b45)] _
          obtain ⟨T46, h46, k46, X46, e46, E46, A46, st46⟩ := newP X45 hx hZ (hw _ (List.mem_of_getElem? (i := 8) rfl)) e45 (g := (mkF m 131 #[iv p0, iv p1, iv p2, iv p3, iv p4, iv ((p1 &&& (255 : Int32)).toUInt32.toUInt16.toUInt32.toInt32), iv ((p2 &&& (255 : Int32)).toUInt32.toUInt16.toUInt32.toInt32), iv ((p3 &&& (255 : Int32)).toUInt32.toUInt16.toUInt32.toInt32), iv ((p4 &&& (255 : Int32)).toUInt32.toUInt16.toUInt32.toInt32)] [(.int (4 : Int32)), (.ref b45), (.ref b45)])) rfl (Jvm.hb hby d1_131) rfl (by decide) (cap := 4) (by decide) (by decide) (by decide) (by decide)
          obtain ⟨b46, g46⟩ : ∃ z, z = h45.size := ⟨_, rfl⟩
          rw [← g46] at A46 st46
          have g_b46 : n0 ≤ b46 := Nat.le_trans Z45 (Nat.le_of_eq g46.symm)
          have ne_b45_b46 : b45 ≠ b46 := Nat.ne_of_lt (Nat.lt_of_lt_of_le A45.lt (Nat.le_of_eq g46.symm))
          have sz_b46 : h0.size ≤ b46 := Nat.le_trans K45.1 (Nat.le_of_eq g46.symm)
          have K46 : Keep h0 h46 [] := Keep.ext K45 E46
          have Z46 : n0 ≤ h46.size := Nat.le_trans Z45 E46.1
          have C46 := CHr.trans C45 (CHr.ext E46 C45.1)
          have hk46 : h0.size ≤ h46.size := Nat.le_trans hk45 E46.1
          have sf_b46 := Safe.ext E46 C45.1 (Safe.new (Nat.le_of_eq g46.symm))
          have V46 : Af Z h46 b46 .char 4 (fun _ => defaultValue .char) := Af.new A46 (by decide) rfl rfl
          refine own_go st46 ?_
          show Gm p e below T46 m 133 #[iv p0, iv p1, iv p2, iv p3, iv p4, iv ((p1 &&& (255 : Int32)).toUInt32.toUInt16.toUInt32.toInt32), iv ((p2 &&& (255 : Int32)).toUInt32.toUInt16.toUInt32.toInt32), iv ((p3 &&& (255 : Int32)).toUInt32.toUInt16.toUInt32.toInt32), iv ((p4 &&& (255 : Int32)).toUInt32.toUInt16.toUInt32.toInt32)] [(.ref b46), (.ref b45), (.ref b45)] _
          refine own_go (fun t₀ k₀ => XS.dup X46.here hx rfl (Jvm.hb hby d1_133) rfl rfl k₀) ?_
          show Gm p e below T46 m 134 #[iv p0, iv p1, iv p2, iv p3, iv p4, iv ((p1 &&& (255 : Int32)).toUInt32.toUInt16.toUInt32.toInt32), iv ((p2 &&& (255 : Int32)).toUInt32.toUInt16.toUInt32.toInt32), iv ((p3 &&& (255 : Int32)).toUInt32.toUInt16.toUInt32.toInt32), iv ((p4 &&& (255 : Int32)).toUInt32.toUInt16.toUInt32.toInt32)] [(.ref b46), (.ref b46), (.ref b45), (.ref b45)] _
          refine own_go (fun t₀ k₀ => XS.iconst X46.here hx rfl (Jvm.hb hby d1_134) k₀) ?_
          show Gm p e below T46 m 135 #[iv p0, iv p1, iv p2, iv p3, iv p4, iv ((p1 &&& (255 : Int32)).toUInt32.toUInt16.toUInt32.toInt32), iv ((p2 &&& (255 : Int32)).toUInt32.toUInt16.toUInt32.toInt32), iv ((p3 &&& (255 : Int32)).toUInt32.toUInt16.toUInt32.toInt32), iv ((p4 &&& (255 : Int32)).toUInt32.toUInt16.toUInt32.toInt32)] [(.int (0 : Int32)), (.ref b46), (.ref b46), (.ref b45), (.ref b45)] _
          refine own_go (fun t₀ k₀ => XS.iload X46.here hx rfl (Jvm.hb hby d1_135) rfl k₀) ?_
          show Gm p e below T46 m 137 #[iv p0, iv p1, iv p2, iv p3, iv p4, iv ((p1 &&& (255 : Int32)).toUInt32.toUInt16.toUInt32.toInt32), iv ((p2 &&& (255 : Int32)).toUInt32.toUInt16.toUInt32.toInt32), iv ((p3 &&& (255 : Int32)).toUInt32.toUInt16.toUInt32.toInt32), iv ((p4 &&& (255 : Int32)).toUInt32.toUInt16.toUInt32.toInt32)] [(.int ((p1 &&& (255 : Int32)).toUInt32.toUInt16.toUInt32.toInt32)), (.int (0 : Int32)), (.ref b46), (.ref b46), (.ref b45), (.ref b45)] _
          obtain ⟨T47, h47, X47, e47, W47, A47, st47⟩ := own_stC X46 hx hZ e46 V46 (j := (0 : Int32)) (k := 0) (by decide) rfl (by decide) (y := (own_ch p1)) rfl (g := (mkF m 137 #[iv p0, iv p1, iv p2, iv p3, iv p4, iv ((p1 &&& (255 : Int32)).toUInt32.toUInt16.toUInt32.toInt32), iv ((p2 &&& (255 : Int32)).toUInt32.toUInt16.toUInt32.toInt32), iv ((p3 &&& (255 : Int32)).toUInt32.toUInt16.toUInt32.toInt32), iv ((p4 &&& (255 : Int32)).toUInt32.toUInt16.toUInt32.toInt32)] [(.int ((p1 &&& (255 : Int32)).toUInt32.toUInt16.toUInt32.toInt32)), (.int (0 : Int32)), (.ref b46), (.ref b46), (.ref b45), (.ref b45)])) rfl rfl (Jvm.hb hby d1_137)
          have N47 := Fr.snoc X47 N0 g_b46
          have Z47 : n0 ≤ h47.size := W47.size ▸ Z46
          have K47 : Keep h0 h47 [] := Keep.wr K46 W47 (Or.inr sz_b46)
          have C47 := CHr.trans C46 (CHr.wr W47 sf_b46 C46.1)
          have hk47 : h0.size ≤ h47.size := W47.size ▸ hk46
          refine own_go st47 ?_
          show Gm p e below T47 m 138 #[iv p0, iv p1, iv p2, iv p3, iv p4, iv ((p1 &&& (255 : Int32)).toUInt32.toUInt16.toUInt32.toInt32), iv ((p2 &&& (255 : Int32)).toUInt32.toUInt16.toUInt32.toInt32), iv ((p3 &&& (255 : Int32)).toUInt32.toUInt16.toUInt32.toInt32), iv ((p4 &&& (255 : Int32)).toUInt32.toUInt16.toUInt32.toInt32)] [(.ref b46), (.ref b45), (.ref b45)] _
          refine own_go (fun t₀ k₀ => XS.dup X47.here hx rfl (Jvm.hb hby d1_138) rfl rfl k₀) ?_
          show Gm p e below T47 m 139 #[iv p0, iv p1, iv p2, iv p3, iv p4, iv ((p1 &&& (255 : Int32)).toUInt32.toUInt16.toUInt32.toInt32), iv ((p2 &&& (255 : Int32)).toUInt32.toUInt16.toUInt32.toInt32), iv ((p3 &&& (255 : Int32)).toUInt32.toUInt16.toUInt32.toInt32), iv ((p4 &&& (255 : Int32)).toUInt32.toUInt16.toUInt32.toInt32)] [(.ref b46), (.ref b46), (.ref b45), (.ref b45)] _
          refine own_go (fun t₀ k₀ => XS.iconst X47.here hx rfl (Jvm.hb hby d1_139) k₀) ?_
          show Gm p e below T47 m 140 #[iv p0, iv p1, iv p2, iv p3, iv p4, iv ((p1 &&& (255 : Int32)).toUInt32.toUInt16.toUInt32.toInt32), iv ((p2 &&& (255 : Int32)).toUInt32.toUInt16.toUInt32.toInt32), iv ((p3 &&& (255 : Int32)).toUInt32.toUInt16.toUInt32.toInt32), iv ((p4 &&& (255 : Int32)).toUInt32.toUInt16.toUInt32.toInt32)] [(.int (1 : Int32)), (.ref b46), (.ref b46), (.ref b45), (.ref b45)] _
          refine own_go (fun t₀ k₀ => XS.iload X47.here hx rfl (Jvm.hb hby d1_140) rfl k₀) ?_
          show Gm p e below T47 m 142 #[iv p0, iv p1, iv p2, iv p3, iv p4, iv ((p1 &&& (255 : Int32)).toUInt32.toUInt16.toUInt32.toInt32), iv ((p2 &&& (255 : Int32)).toUInt32.toUInt16.toUInt32.toInt32), iv ((p3 &&& (255 : Int32)).toUInt32.toUInt16.toUInt32.toInt32), iv ((p4 &&& (255 : Int32)).toUInt32.toUInt16.toUInt32.toInt32)] [(.int ((p2 &&& (255 : Int32)).toUInt32.toUInt16.toUInt32.toInt32)), (.int (1 : Int32)), (.ref b46), (.ref b46), (.ref b45), (.ref b45)] _
          obtain ⟨T48, h48, X48, e48, W48, A48, st48⟩ := own_stC X47 hx hZ e47 A47 (j := (1 : Int32)) (k := 1) (by decide) rfl (by decide) (y := (own_ch p2)) rfl (g := (mkF m 142 #[iv p0, iv p1, iv p2, iv p3, iv p4, iv ((p1 &&& (255 : Int32)).toUInt32.toUInt16.toUInt32.toInt32), iv ((p2 &&& (255 : Int32)).toUInt32.toUInt16.toUInt32.toInt32), iv ((p3 &&& (255 : Int32)).toUInt32.toUInt16.toUInt32.toInt32), iv ((p4 &&& (255 : Int32)).toUInt32.toUInt16.toUInt32.toInt32)] [(.int ((p2 &&& (255 : Int32)).toUInt32.toUInt16.toUInt32.toInt32)), (.int (1 : Int32)), (.ref b46), (.ref b46), (.ref b45), (.ref b45)])) rfl rfl (Jvm.hb hby d1_142)
          have f49 := (Safe.wr W47 sf_b46 C46.1 sf_b46)
          have N48 := Fr.snoc X48 N47 g_b46
          have Z48 : n0 ≤ h48.size := W48.size ▸ Z47
          have K48 : Keep h0 h48 [] := Keep.wr K47 W48 (Or.inr sz_b46)
          have C48 := CHr.trans C47 (CHr.wr W48 f49 C47.1)
          have hk48 : h0.size ≤ h48.size := W48.size ▸ hk47
          refine own_go st48 ?_
          show Gm p e below T48 m 143 #[iv p0, iv p1, iv p2, iv p3, iv p4, iv ((p1 &&& (255 : Int32)).toUInt32.toUInt16.toUInt32.toInt32), iv ((p2 &&& (255 : Int32)).toUInt32.toUInt16.toUInt32.toInt32), iv ((p3 &&& (255 : Int32)).toUInt32.toUInt16.toUInt32.toInt32), iv ((p4 &&& (255 : Int32)).toUInt32.toUInt16.toUInt32.toInt32)] [(.ref b46), (.ref b45), (.ref b45)] _
          refine own_go (fun t₀ k₀ => XS.dup X48.here hx rfl (Jvm.hb hby d1_143) rfl rfl k₀) ?_
          show Gm p e below T48 m 144 #[iv p0, iv p1, iv p2, iv p3, iv p4, iv ((p1 &&& (255 : Int32)).toUInt32.toUInt16.toUInt32.toInt32), iv ((p2 &&& (255 : Int32)).toUInt32.toUInt16.toUInt32.toInt32), iv ((p3 &&& (255 : Int32)).toUInt32.toUInt16.toUInt32.toInt32), iv ((p4 &&& (255 : Int32)).toUInt32.toUInt16.toUInt32.toInt32)] [(.ref b46), (.ref b46), (.ref b45), (.ref b45)] _
          refine own_go (fun t₀ k₀ => XS.iconst X48.here hx rfl (Jvm.hb hby d1_144) k₀) ?_
          show Gm p e below T48 m 145 #[iv p0, iv p1, iv p2, iv p3, iv p4, iv ((p1 &&& (255 : Int32)).toUInt32.toUInt16.toUInt32.toInt32), iv ((p2 &&& (255 : Int32)).toUInt32.toUInt16.toUInt32.toInt32), iv ((p3 &&& (255 : Int32)).toUInt32.toUInt16.toUInt32.toInt32), iv ((p4 &&& (255 : Int32)).toUInt32.toUInt16.toUInt32.toInt32)] [(.int (2 : Int32)), (.ref b46), (.ref b46), (.ref b45), (.ref b45)] _
          refine own_go (fun t₀ k₀ => XS.iload X48.here hx rfl (Jvm.hb hby d1_145) rfl k₀) ?_
          show Gm p e below T48 m 147 #[iv p0, iv p1, iv p2, iv p3, iv p4, iv ((p1 &&& (255 : Int32)).toUInt32.toUInt16.toUInt32.toInt32), iv ((p2 &&& (255 : Int32)).toUInt32.toUInt16.toUInt32.toInt32), iv ((p3 &&& (255 : Int32)).toUInt32.toUInt16.toUInt32.toInt32), iv ((p4 &&& (255 : Int32)).toUInt32.toUInt16.toUInt32.toInt32)] [(.int ((p3 &&& (255 : Int32)).toUInt32.toUInt16.toUInt32.toInt32)), (.int (2 : Int32)), (.ref b46), (.ref b46), (.ref b45), (.ref b45)] _
          obtain ⟨T50, h50, X50, e50, W50, A50, st50⟩ := own_stC X48 hx hZ e48 A48 (j := (2 : Int32)) (k := 2) (by decide) rfl (by decide) (y := (own_ch p3)) rfl (g := (mkF m 147 #[iv p0, iv p1, iv p2, iv p3, iv p4, iv ((p1 &&& (255 : Int32)).toUInt32.toUInt16.toUInt32.toInt32), iv ((p2 &&& (255 : Int32)).toUInt32.toUInt16.toUInt32.toInt32), iv ((p3 &&& (255 : Int32)).toUInt32.toUInt16.toUInt32.toInt32), iv ((p4 &&& (255 : Int32)).toUInt32.toUInt16.toUInt32.toInt32)] [(.int ((p3 &&& (255 : Int32)).toUInt32.toUInt16.toUInt32.toInt32)), (.int (2 : Int32)), (.ref b46), (.ref b46), (.ref b45), (.ref b45)])) rfl rfl (Jvm.hb hby d1_147)
          have f51 := (Safe.wr W48 f49 C47.1 f49)
          have N50 := Fr.snoc X50 N48 g_b46
          have Z50 : n0 ≤ h50.size := W50.size ▸ Z48
          have K50 : Keep h0 h50 [] := Keep.wr K48 W50 (Or.inr sz_b46)
          have C50 := CHr.trans C48 (CHr.wr W50 f51 C48.1)
          have hk50 : h0.size ≤ h50.size := W50.size ▸ hk48
          refine own_go st50 ?_
          show Gm p e below T50 m 148 #[iv p0, iv p1, iv p2, iv p3, iv p4, iv ((p1 &&& (255 : Int32)).toUInt32.toUInt16.toUInt32.toInt32), iv ((p2 &&& (255 : Int32)).toUInt32.toUInt16.toUInt32.toInt32), iv ((p3 &&& (255 : Int32)).toUInt32.toUInt16.toUInt32.toInt32), iv ((p4 &&& (255 : Int32)).toUInt32.toUInt16.toUInt32.toInt32)] [(.ref b46), (.ref b45), (.ref b45)] _
          refine own_go (fun t₀ k₀ => XS.dup X50.here hx rfl (Jvm.hb hby d1_148) rfl rfl k₀) ?_
          show Gm p e below T50 m 149 #[iv p0, iv p1, iv p2, iv p3, iv p4, iv ((p1 &&& (255 : Int32)).toUInt32.toUInt16.toUInt32.toInt32), iv ((p2 &&& (255 : Int32)).toUInt32.toUInt16.toUInt32.toInt32), iv ((p3 &&& (255 : Int32)).toUInt32.toUInt16.toUInt32.toInt32), iv ((p4 &&& (255 : Int32)).toUInt32.toUInt16.toUInt32.toInt32)] [(.ref b46), (.ref b46), (.ref b45), (.ref b45)] _
          refine own_go (fun t₀ k₀ => XS.iconst X50.here hx rfl (Jvm.hb hby d1_149) k₀) ?_
          show Gm p e below T50 m 150 #[iv p0, iv p1, iv p2, iv p3, iv p4, iv ((p1 &&& (255 : Int32)).toUInt32.toUInt16.toUInt32.toInt32), iv ((p2 &&& (255 : Int32)).toUInt32.toUInt16.toUInt32.toInt32), iv ((p3 &&& (255 : Int32)).toUInt32.toUInt16.toUInt32.toInt32), iv ((p4 &&& (255 : Int32)).toUInt32.toUInt16.toUInt32.toInt32)] [(.int (3 : Int32)), (.ref b46), (.ref b46), (.ref b45), (.ref b45)] _
          refine own_go (fun t₀ k₀ => XS.iload X50.here hx rfl (Jvm.hb hby d1_150) rfl k₀) ?_
          show Gm p e below T50 m 152 #[iv p0, iv p1, iv p2, iv p3, iv p4, iv ((p1 &&& (255 : Int32)).toUInt32.toUInt16.toUInt32.toInt32), iv ((p2 &&& (255 : Int32)).toUInt32.toUInt16.toUInt32.toInt32), iv ((p3 &&& (255 : Int32)).toUInt32.toUInt16.toUInt32.toInt32), iv ((p4 &&& (255 : Int32)).toUInt32.toUInt16.toUInt32.toInt32)] [(.int ((p4 &&& (255 : Int32)).toUInt32.toUInt16.toUInt32.toInt32)), (.int (3 : Int32)), (.ref b46), (.ref b46), (.ref b45), (.ref b45)] _
          obtain ⟨T52, h52, X52, e52, W52, A52, st52⟩ := own_stC X50 hx hZ e50 A50 (j := (3 : Int32)) (k := 3) (by decide) rfl (by decide) (y := (own_ch p4)) rfl (g := (mkF m 152 #[iv p0, iv p1, iv p2, iv p3, iv p4, iv ((p1 &&& (255 : Int32)).toUInt32.toUInt16.toUInt32.toInt32), iv ((p2 &&& (255 : Int32)).toUInt32.toUInt16.toUInt32.toInt32), iv ((p3 &&& (255 : Int32)).toUInt32.toUInt16.toUInt32.toInt32), iv ((p4 &&& (255 : Int32)).toUInt32.toUInt16.toUInt32.toInt32)] [(.int ((p4 &&& (255 : Int32)).toUInt32.toUInt16.toUInt32.toInt32)), (.int (3 : Int32)), (.ref b46), (.ref b46), (.ref b45), (.ref b45)])) rfl rfl (Jvm.hb hby d1_152)
          have f53 := (Safe.wr W50 f51 C48.1 f51)
          have N52 := Fr.snoc X52 N50 g_b46
          have Z52 : n0 ≤ h52.size := W52.size ▸ Z50
          have K52 : Keep h0 h52 [] := Keep.wr K50 W52 (Or.inr sz_b46)
          have C52 := CHr.trans C50 (CHr.wr W52 f53 C50.1)
          have hk52 : h0.size ≤ h52.size := W52.size ▸ hk50
          refine own_go st52 ?_
          show Gm p e below T52 m 153 #[iv p0, iv p1, iv p2, iv p3, iv p4, iv ((p1 &&& (255 : Int32)).toUInt32.toUInt16.toUInt32.toInt32), iv ((p2 &&& (255 : Int32)).toUInt32.toUInt16.toUInt32.toInt32), iv ((p3 &&& (255 : Int32)).toUInt32.toUInt16.toUInt32.toInt32), iv ((p4 &&& (255 : Int32)).toUInt32.toUInt16.toUInt32.toInt32)] [(.ref b46), (.ref b45), (.ref b45)] _
          have f54 := (((((A45.ext E46).wr W47).wr W48).wr W50).wr W52)
          have f55 := (Fld.other W52 (Fld.other W50 (Fld.other W48 (Fld.other W47 (F_value_b45.ext E46) (Or.inl ne_b45_b46)) (Or.inl ne_b45_b46)) (Or.inl ne_b45_b46)) (Or.inl ne_b45_b46))
          have f56 := (Fld.other W52 (Fld.other W50 (Fld.other W48 (Fld.other W47 (F_coder_b45.ext E46) (Or.inl ne_b45_b46)) (Or.inl ne_b45_b46)) (Or.inl ne_b45_b46)) (Or.inl ne_b45_b46))
          have f57 := ((((((S_c.ext E45).ext E46).wr W47).wr W48).wr W50).wr W52)
          obtain ⟨_, _, ⟨T58, L58, k58, n58⟩, -, X58, ⟨Lc58, hQ58, l58, y58, z58⟩, st58⟩ := X52.specialBack hx (y := (⟨"java/lang/String", "<init>", "([C)V"⟩ : MethodName)) rfl hown (mvT hZ (hw _ (List.mem_of_getElem? (i := 9) rfl))) (mvT hZ (hw _ (List.mem_of_getElem? (i := 10) rfl))) (mvT hZ (hw _ (List.mem_of_getElem? (i := 11) rfl))) (by decide) (backOf (W := 1) (rmC_4 l Z a0 hw [] b45 b46 (fun i => if i = 3 then (.int (own_ch p4)) else (fun i => if i = 2 then (.int (own_ch p3)) else (fun i => if i = 1 then (.int (own_ch p2)) else (fun i => if i = 0 then (.int (own_ch p1)) else (fun _ => defaultValue .char) i) i) i) i) (own_ch p1) (own_ch p2) (own_ch p3) (own_ch p4) cs h52 n0 Z52 f54 f55 f56 A52 rfl rfl rfl rfl (own_ch_le _) (own_ch_le _) (own_ch_le _) (own_ch_le _) f57 hcs g_b45) hZ (hw _ (List.mem_of_getElem? (i := 11) rfl)) (hw _ (List.mem_of_getElem? (i := 7) rfl)) (by decide) (by decide)) (g := (mkF m 153 #[iv p0, iv p1, iv p2, iv p3, iv p4, iv ((p1 &&& (255 : Int32)).toUInt32.toUInt16.toUInt32.toInt32), iv ((p2 &&& (255 : Int32)).toUInt32.toUInt16.toUInt32.toInt32), iv ((p3 &&& (255 : Int32)).toUInt32.toUInt16.toUInt32.toInt32), iv ((p4 &&& (255 : Int32)).toUInt32.toUInt16.toUInt32.toInt32)] [(.ref b46), (.ref b45), (.ref b45)])) rfl (by rw [hml]; rfl) (Steps.refl _) (a := b45) (argsL := [(.ref b46)]) (rest := [(.ref b45)]) (lenOf own_pd4 rfl) rfl (by show 2 * 0 + _ ≤ _; exact Nat.le_of_eq rfl) (Jvm.hb hby d1_153) (fun _ _ => ⟨rfl, e52, (by decide : 2 + 1 ≤ _), (by decide : 8 + 4 ≤ _)⟩)
          dsimp only [Pt.U, Pt.locs, Pt.cells, Pt.slots] at X58 l58 y58 z58 st58 hQ58
          subst l58 y58 z58
          obtain ⟨bq58, fq58, rfl, Nq58, Kc58, Ec58, Fc58, Fv58, Aq58, hq58_0, hq58_1, hq58_2, hq58_3⟩ := hQ58
          have N58 := Fr.app N52 Nq58
          refine own_go (fun t k => st58.trans k) ?_
          have f59 := (Safe.wr W52 f53 C50.1 (Safe.wr W50 f51 C48.1 (Safe.wr W48 f49 C47.1 (Safe.wr W47 sf_b46 C46.1 (Safe.ext E46 C45.1 sf_b45)))))
          have Z58 : n0 ≤ T58.heap.size := Nat.le_trans Z52 Kc58.1
          have K58 : Keep h0 T58.heap [] := Keep.trans K52 Kc58 (allS (Or.inr sz_b45) all0)
          have C58 := CHr.trans C52 (CHr.keep Kc58 (sfS f59 sf0) C52.1)
          have hk58 : h0.size ≤ T58.heap.size := Nat.le_trans hk52 Kc58.1
          show Gm p e below T58 m 156 #[iv p0, iv p1, iv p2, iv p3, iv p4, iv ((p1 &&& (255 : Int32)).toUInt32.toUInt16.toUInt32.toInt32), iv ((p2 &&& (255 : Int32)).toUInt32.toUInt16.toUInt32.toInt32), iv ((p3 &&& (255 : Int32)).toUInt32.toUInt16.toUInt32.toInt32), iv ((p4 &&& (255 : Int32)).toUInt32.toUInt16.toUInt32.toInt32)] [(.ref b45)] _
          have hl : lenS p0 = 4 := by unfold lenS; rw [if_neg c1, if_neg c9, if_neg c19, if_neg c31]
          have hv : ∀ i, i < 4 → fq58 i = .int (chS p1 p2 p3 p4 i) := fun i hi => by
            rcases (by omega : i = 0 ∨ i = 1 ∨ i = 2 ∨ i = 3) with rfl | rfl | rfl | rfl
            · exact hq58_0
            · exact hq58_1
            · exact hq58_2
            · exact hq58_3
          exact own_retAW X58 hx hlk hZ (own_ew hw) hS0 hk58 C58 rfl Bd.returns rfl (Jvm.hb hby d1_156) rfl ⟨b45, bq58, 4, fq58, rfl, N58, own_stX (Z := Z) K58, sz_b45, Ec58, Fc58, Fv58, Aq58, hl.symm, hv⟩ (by decide) (by decide)
theorem d7_0 : decode jdk_31_method_11_code 0 = .ok (.aload_n 0, 1) := by decide +kernel
theorem d7_1 : decode jdk_31_method_11_code 1 = .ok (.ifnonnull 12, 3) := by decide +kernel
theorem d7_13 : decode jdk_31_method_11_code 13 = .ok (.aload_n 0, 1) := by decide +kernel
theorem d7_14 : decode jdk_31_method_11_code 14 = .ok (.areturn, 1) := by decide +kernel
theorem own_pn_rmR : plainName "java/util/Objects" = true := by first | (simp [plainName, overriddenIn]; done) | decide +kernel
theorem own_ef_rmR (m : MethodId) (r0 : Addr) (r1 : Addr) : entryFrame m #[(.ref r0), (.ref r1)] 2 = mkF m 0 #[.val (.ref r0), .val (.ref r1)] [] := by first | (simp [entryFrame, mkF, argsToLocals, Value.category]; done) | rfl
def QR (Z : State) (r0 : Addr) (r1 : Addr) (h0 : Heap) (n0 : Nat) (v : Option Value) (h : Heap) (L : List Loc) : Prop := v = some (.ref r0) ∧ Fr n0 L ∧ h = h0
set_option maxRecDepth 65536 in
set_option maxHeartbeats 40000000 in
theorem rmR (l : Launch) (Z : State) (a0 : Array Value) (hw : ∀ d ∈ tables_1, d.before a0 Z = true) (ws : List Jvm.Cond) (r0 : Addr) (r1 : Addr) (h0 : Heap) (n0 : Nat) (Z0 : n0 ≤ h0.size) :
    MetFree l (⟨"java/util/Objects", "requireNonNull", "(Ljava/lang/Object;Ljava/lang/String;)Ljava/lang/Object;"⟩ : MethodName) (head1 (Jvm.Cond.code (⟨"java/util/Objects", "requireNonNull", "(Ljava/lang/Object;Ljava/lang/String;)Ljava/lang/Object;"⟩ : MethodName) jdk_31_method_11_code 2 (some (.object "java/lang/Object")) :: ws) ({ frames := 0, cells := 0, slots := 0, locals := 0 } : Room)) (fun a U => a = #[(.ref r0), (.ref r1)] ∧ Z.Warmed39 U.vm ∧ U.heap = h0) (fun _ _ _ _ _ => True) (fun _ U o U' => ∃ v L, o = .returned v ∧ QR Z r0 r1 h0 n0 v U'.heap L ∧ FrameEnd U o U' L ({ frames := 0, cells := 0, slots := 0, locals := 0 } : Room).cells ({ frames := 0, cells := 0, slots := 0, locals := 0 } : Room).slots) := by
  refine MetFree.of_bodySF (plainFor_of_name own_pn_rmR) hisR ?_
  intro p e s m args below meth cO s₁ Bd hml0 hP hK
  obtain ⟨rfl, hZ, hh⟩ := hP
  have hx := Bd.exec
  have hby := Bd.bytes
  have hml : cO.maxLocals = 2 := hml0
  have hown : s.vm.findClass "java/util/Objects" = some m.cls := findClass_of_methodNamed Bd.named
  have hnm := (name_of_methodNamed Bd.named Bd.method).1
  have hlk : meth.locks = false := BodyLoose.notSynchronized Bd
  have X0 : Stand p l e ({ frames := 0, cells := 0, slots := 0, locals := 0 } : Room) s m #[(.ref r0), (.ref r1)] below meth cO s₁ [] 0 0 := Stand.of_body Bd
  have e0 : s₁.heap = h0 := by rw [← hh, Bd.state]; rfl
  have N0 := Fr.nil n0
  refine own_in (own_ef_rmR m r0 r1) ?_
  show Gm p e below s₁ m 0 #[rv r0, rv r1] [] _
  refine own_go (fun t₀ k₀ => XS.aloadN X0.here hx rfl (Jvm.hb hby d7_0) rfl rfl k₀) ?_
  show Gm p e below s₁ m 1 #[rv r0, rv r1] [(.ref r0)] _
  refine own_go (fun t₀ k₀ => XS.ifnonnullYes X0.here hx rfl (pc0 := 1) (pc' := 13) rfl (Jvm.hb hby d7_1) rfl (by decide) (by decide) k₀) ?_
  show Gm p e below s₁ m 13 #[rv r0, rv r1] [] _
  refine own_go (fun t₀ k₀ => XS.aloadN X0.here hx rfl (Jvm.hb hby d7_13) rfl rfl k₀) ?_
  show Gm p e below s₁ m 14 #[rv r0, rv r1] [(.ref r0)] _
  exact own_retA X0 hx hlk rfl Bd.returns rfl (Jvm.hb hby d7_14) e0 ⟨rfl, N0, rfl⟩ (by decide) (by decide)
theorem d6_0 : decode prog_32_method_2_code 0 = .ok (.aload_n 0, 1) := by decide +kernel
theorem d6_1 : decode prog_32_method_2_code 1 = .ok (.invokespecial 7, 3) := by decide +kernel
theorem d6_4 : decode prog_32_method_2_code 4 = .ok (.aload_n 0, 1) := by decide +kernel
theorem d6_5 : decode prog_32_method_2_code 5 = .ok (.aload_n 1, 1) := by decide +kernel
theorem d6_6 : decode prog_32_method_2_code 6 = .ok (.ldc 12, 2) := by decide +kernel
theorem d6_8 : decode prog_32_method_2_code 8 = .ok (.invokestatic 14, 3) := by decide +kernel
theorem d6_11 : decode prog_32_method_2_code 11 = .ok (.checkcast 20, 3) := by decide +kernel
theorem d6_14 : decode prog_32_method_2_code 14 = .ok (.putfield 22, 3) := by decide +kernel
theorem d6_17 : decode prog_32_method_2_code 17 = .ok (.aload_n 0, 1) := by decide +kernel
theorem d6_18 : decode prog_32_method_2_code 18 = .ok (.iload_n 2, 1) := by decide +kernel
theorem d6_19 : decode prog_32_method_2_code 19 = .ok (.putfield 25, 3) := by decide +kernel
theorem d6_22 : decode prog_32_method_2_code 22 = .ok (.aload_n 0, 1) := by decide +kernel
theorem d6_23 : decode prog_32_method_2_code 23 = .ok (.iload_n 3, 1) := by decide +kernel
theorem d6_24 : decode prog_32_method_2_code 24 = .ok (.putfield 29, 3) := by decide +kernel
theorem d6_27 : decode prog_32_method_2_code 27 = .ok (.aload_n 0, 1) := by decide +kernel
theorem d6_28 : decode prog_32_method_2_code 28 = .ok (.aload 4, 2) := by decide +kernel
theorem d6_30 : decode prog_32_method_2_code 30 = .ok (.putfield 32, 3) := by decide +kernel
theorem d6_33 : decode prog_32_method_2_code 33 = .ok (.aload_n 0, 1) := by decide +kernel
theorem d6_34 : decode prog_32_method_2_code 34 = .ok (.iload 5, 2) := by decide +kernel
theorem d6_36 : decode prog_32_method_2_code 36 = .ok (.putfield 35, 3) := by decide +kernel
theorem d6_39 : decode prog_32_method_2_code 39 = .ok (.return_, 1) := by decide +kernel
theorem own_pd5 : parseMethodDescriptor "(Ljava/lang/Object;Ljava/lang/String;)Ljava/lang/Object;" = some ⟨[(.object "java/lang/Object"), (.object "java/lang/String")], some (.object "java/lang/Object")⟩ := by decide +kernel
theorem own_pn_rmI : plainName "com/example/gettone/gettone/core/Place" = true := by first | (simp [plainName, overriddenIn]; done) | decide +kernel
theorem own_ef_rmI (m : MethodId) (r0 : Addr) (r1 : Addr) : entryFrame m #[(.ref r0), (.ref r1), (.int (0 : Int32)), (.int (0 : Int32)), .null, (.int (1 : Int32))] 6 = mkF m 0 #[.val (.ref r0), .val (.ref r1), .val (.int (0 : Int32)), .val (.int (0 : Int32)), .val .null, .val (.int (1 : Int32))] [] := by first | (simp [entryFrame, mkF, argsToLocals, Value.category]; done) | rfl
def QI (Z : State) (r0 : Addr) (r1 : Addr) (h0 : Heap) (n0 : Nat) (v : Option Value) (h : Heap) (L : List Loc) : Prop := v = none ∧ Fr n0 L ∧ Keep h0 h [r0] ∧ Exa Z h r0 "com/example/gettone/gettone/core/Place" ∧ Fld Z h r0 "com/example/gettone/gettone/core/Place" "id" "Ljava/lang/String;" (.ref r1) ∧ Fld Z h r0 "com/example/gettone/gettone/core/Place" "environment" "Z" (.int (0 : Int32)) ∧ Fld Z h r0 "com/example/gettone/gettone/core/Place" "bad" "Z" (.int (0 : Int32)) ∧ Fld Z h r0 "com/example/gettone/gettone/core/Place" "origin" "Ljava/lang/String;" .null ∧ Fld Z h r0 "com/example/gettone/gettone/core/Place" "choice" "Z" (.int (1 : Int32))
set_option maxRecDepth 65536 in
set_option maxHeartbeats 40000000 in
theorem rmI (l : Launch) (Z : State) (a0 : Array Value) (hw : ∀ d ∈ tables_1, d.before a0 Z = true) (ws : List Jvm.Cond) (r0 : Addr) (r1 : Addr) (h0 : Heap) (n0 : Nat) (Z0 : n0 ≤ h0.size) (E_r0 : Exa Z h0 r0 "com/example/gettone/gettone/core/Place") (F_id : Fld Z h0 r0 "com/example/gettone/gettone/core/Place" "id" "Ljava/lang/String;" .null) (F_environment : Fld Z h0 r0 "com/example/gettone/gettone/core/Place" "environment" "Z" (.int (0 : Int32))) (F_bad : Fld Z h0 r0 "com/example/gettone/gettone/core/Place" "bad" "Z" (.int (0 : Int32))) (F_origin : Fld Z h0 r0 "com/example/gettone/gettone/core/Place" "origin" "Ljava/lang/String;" .null) (F_choice : Fld Z h0 r0 "com/example/gettone/gettone/core/Place" "choice" "Z" (.int (0 : Int32))) (E_r1 : Exa Z h0 r1 "java/lang/String") (g_r0 : n0 ≤ r0) :
    MetFree l (⟨"com/example/gettone/gettone/core/Place", "<init>", "(Ljava/lang/String;ZZLjava/lang/String;Z)V"⟩ : MethodName) (head1 (Jvm.Cond.code (⟨"com/example/gettone/gettone/core/Place", "<init>", "(Ljava/lang/String;ZZLjava/lang/String;Z)V"⟩ : MethodName) prog_32_method_2_code 6 none :: ws) ({ frames := 1, cells := 2, slots := 12, locals := 14 } : Room)) (fun a U => a = #[(.ref r0), (.ref r1), (.int (0 : Int32)), (.int (0 : Int32)), .null, (.int (1 : Int32))] ∧ Z.Warmed39 U.vm ∧ U.heap = h0 ∧ CHv Z own_EL U.vm h0 ∧ ∀ x ∈ [r0], Safe Z own_EL U.vm h0 x) (fun _ _ _ _ _ => True) (fun _ U o U' => ∃ v L, o = .returned v ∧ QI Z r0 r1 h0 n0 v U'.heap L ∧ CHr Z own_EL U.vm U.heap U'.vm U'.heap ∧ ReturnedEndW U o U' L ({ frames := 1, cells := 2, slots := 12, locals := 14 } : Room).cells ({ frames := 1, cells := 2, slots := 12, locals := 14 } : Room).slots) := by
  refine MetFree.of_bodySF (plainFor_of_name own_pn_rmI) hisR ?_
  intro p e s m args below meth cO s₁ Bd hml0 hP hK
  obtain ⟨rfl, hZ, hh, hH, hsf⟩ := hP
  have hZ : Z.Warmed39 (s.setVm s.vm).vm := hZ
  have hx := Bd.exec
  have hby := Bd.bytes
  have hml : cO.maxLocals = 6 := hml0
  have hown : (s.setVm s.vm).vm.findClass "com/example/gettone/gettone/core/Place" = some m.cls := findClass_of_methodNamed Bd.named
  have hnm := (name_of_methodNamed Bd.named Bd.method).1
  have hlk : meth.locks = false := BodyLoose.notSynchronized Bd
  have X0 : Stand p l e ({ frames := 1, cells := 2, slots := 12, locals := 14 } : Room) (s.setVm s.vm) m #[(.ref r0), (.ref r1), (.int (0 : Int32)), (.int (0 : Int32)), .null, (.int (1 : Int32))] below meth cO s₁ [] 0 0 := Stand.of_body Bd
  have hS0 : s.Since s.vm h0.size := (State.WarmedH.refl s).since _
  have hk0 : h0.size ≤ h0.size := Nat.le_refl _
  have C0 : CHr Z own_EL s.vm s.heap s.vm h0 := by rw [hh]; exact CHr.refl hH
  have sf_r0 : Safe Z own_EL s.vm h0 r0 := hsf _ (List.mem_of_getElem? (i := 0) rfl)
  have e0 : s₁.heap = h0 := by rw [← hh, Bd.state]; rfl
  have N0 := Fr.nil n0
  refine own_in (own_ef_rmI m r0 r1) ?_
  show Gm p e below s₁ m 0 #[rv r0, rv r1, iv (0 : Int32), iv (0 : Int32), .val .null, iv (1 : Int32)] [] _
  refine own_go (fun t₀ k₀ => XS.aloadN X0.here hx rfl (Jvm.hb hby d6_0) rfl rfl k₀) ?_
  show Gm p e below s₁ m 1 #[rv r0, rv r1, iv (0 : Int32), iv (0 : Int32), .val .null, iv (1 : Int32)] [(.ref r0)] _
  obtain ⟨T1, X1, e1, st1⟩ := initO X0 hx hZ hown (hw _ (List.mem_of_getElem? (i := 36) rfl)) (hw _ (List.mem_of_getElem? (i := 17) rfl)) (hw _ (List.mem_of_getElem? (i := 18) rfl)) e0 (g := (mkF m 1 #[rv r0, rv r1, iv (0 : Int32), iv (0 : Int32), .val .null, iv (1 : Int32)] [(.ref r0)])) rfl (by rw [hml]; rfl) rfl (Jvm.hb hby d6_1) (by decide) (W := 0) (by show 2 * 0 + _ ≤ _; exact Nat.le_of_eq rfl) (by decide)
  refine own_go st1 ?_
  show Gm p e below T1 m 4 #[rv r0, rv r1, iv (0 : Int32), iv (0 : Int32), .val .null, iv (1 : Int32)] [] _
  refine own_go (fun t₀ k₀ => XS.aloadN X1.here hx rfl (Jvm.hb hby d6_4) rfl rfl k₀) ?_
  show Gm p e below T1 m 5 #[rv r0, rv r1, iv (0 : Int32), iv (0 : Int32), .val .null, iv (1 : Int32)] [(.ref r0)] _
  refine own_go (fun t₀ k₀ => XS.aloadN X1.here hx rfl (Jvm.hb hby d6_5) rfl rfl k₀) ?_
  show Gm p e below T1 m 6 #[rv r0, rv r1, iv (0 : Int32), iv (0 : Int32), .val .null, iv (1 : Int32)] [(.ref r1), (.ref r0)] _
  obtain ⟨a2, T2, h2, k2, X2, e2, E2, hS2, hk2, hZ, hown, Cs2, -, st2⟩ := ldcOH X1 hx hZ hown (hw _ (List.mem_of_getElem? (i := 37) rfl)) (own_wS hw) e1 hS0 hk0 (own_ew hw) C0.1 (g := (mkF m 6 #[rv r0, rv r1, iv (0 : Int32), iv (0 : Int32), .val .null, iv (1 : Int32)] [(.ref r1), (.ref r0)])) rfl (Jvm.hb hby d6_6) (n := 8) (by decide) (by decide) (by decide) (by decide)
  have sq_r0_2 := CHr.safe Cs2 E_r0.lt sf_r0
  have C2 := CHr.trans C0 Cs2
  have Z2 : n0 ≤ h2.size := Nat.le_trans Z0 E2.1
  have K2 : Keep h0 h2 [r0] := Keep.ext (Keep.refl h0 [r0]) E2
  refine own_go st2 ?_
  show Gm p e below T2 m 8 #[rv r0, rv r1, iv (0 : Int32), iv (0 : Int32), .val .null, iv (1 : Int32)] [(.ref a2), (.ref r1), (.ref r0)] _
  obtain ⟨_, _, ⟨T3, L3, k3, n3⟩, -, X3, ⟨Lc3, hQ3, l3, y3, z3⟩, st3⟩ := Jvm.LawKit.callS X2 hx (y := (⟨"java/util/Objects", "requireNonNull", "(Ljava/lang/Object;Ljava/lang/String;)Ljava/lang/Object;"⟩ : MethodName)) hown (mvT hZ (hw _ (List.mem_of_getElem? (i := 38) rfl))) (mvT hZ (hw _ (List.mem_of_getElem? (i := 39) rfl))) (mvT hZ (hw _ (List.mem_of_getElem? (i := 40) rfl))) (mvT hZ (hw _ (List.mem_of_getElem? (i := 41) rfl))) (by decide) (backOf (W := 1) (rmR l Z a0 hw [] r1 a2 h2 n0 Z2) hZ (hw _ (List.mem_of_getElem? (i := 41) rfl)) (hw _ (List.mem_of_getElem? (i := 40) rfl)) (by decide) (by decide)) (g := (mkF m 8 #[rv r0, rv r1, iv (0 : Int32), iv (0 : Int32), .val .null, iv (1 : Int32)] [(.ref a2), (.ref r1), (.ref r0)])) rfl (by rw [hml]; rfl) (argsL := [(.ref r1), (.ref a2)]) (rest := [(.ref r0)]) (lenOf own_pd5 rfl) rfl (by show 2 * 0 + _ ≤ _; exact Nat.le_of_eq rfl) (Jvm.hb hby d6_8) (fun _ _ => ⟨rfl, e2, (by decide : 2 + 0 ≤ _), (by decide : 12 + 0 ≤ _)⟩)
  dsimp only [Pt.U, Pt.locs, Pt.cells, Pt.slots] at X3 l3 y3 z3 st3 hQ3
  subst l3 y3 z3
  obtain ⟨rfl, Nq3, eq3⟩ := hQ3
  have N3 := Fr.app N0 Nq3
  have e3 : T3.heap = h2 := eq3
  refine own_go st3 ?_
  show Gm p e below T3 m 11 #[rv r0, rv r1, iv (0 : Int32), iv (0 : Int32), .val .null, iv (1 : Int32)] [(.ref r1), (.ref r0)] _
  have f4 := (E_r1.ext E2)
  obtain ⟨T5, X5, e5, st5⟩ := castY X3 hx hZ hown (hw _ (List.mem_of_getElem? (i := 42) rfl)) e3 (Ins.self f4) (g := (mkF m 11 #[rv r0, rv r1, iv (0 : Int32), iv (0 : Int32), .val .null, iv (1 : Int32)] [(.ref r1), (.ref r0)])) rfl rfl (Jvm.hb hby d6_11)
  refine own_go st5 ?_
  show Gm p e below T5 m 14 #[rv r0, rv r1, iv (0 : Int32), iv (0 : Int32), .val .null, iv (1 : Int32)] [(.ref r1), (.ref r0)] _
  have f6 := (E_r0.ext E2)
  have f7 := (F_id.ext E2)
  obtain ⟨T8, h8, X8, e8, W8, st8⟩ := putF X5 hx hZ hown (host := "") (Or.inl (hw _ (List.mem_of_getElem? (i := 43) rfl))) Via.refl e5 f7 f6 (Or.inr ⟨(hw _ (List.mem_of_getElem? (i := 44) rfl)), rfl, hnm⟩) (hw _ (List.mem_of_getElem? (i := 32) rfl)) (ty := (.object "java/lang/String")) (by decide) rfl rfl (g := (mkF m 14 #[rv r0, rv r1, iv (0 : Int32), iv (0 : Int32), .val .null, iv (1 : Int32)] [(.ref r1), (.ref r0)])) rfl rfl (Jvm.hb hby d6_14)
  have Fw8 := Fld.same W8 f7
  have N8 := Fr.snoc X8 N3 g_r0
  have Z8 : n0 ≤ h8.size := W8.size ▸ Z2
  have K8 : Keep h0 h8 [r0] := Keep.wr K2 W8 (Or.inl (List.mem_of_getElem? (i := 0) rfl))
  have C8 := CHr.trans C2 (CHr.wr W8 sq_r0_2 C2.1)
  have hk8 : k2 ≤ h8.size := W8.size ▸ hk2
  refine own_go st8 ?_
  show Gm p e below T8 m 17 #[rv r0, rv r1, iv (0 : Int32), iv (0 : Int32), .val .null, iv (1 : Int32)] [] _
  refine own_go (fun t₀ k₀ => XS.aloadN X8.here hx rfl (Jvm.hb hby d6_17) rfl rfl k₀) ?_
  show Gm p e below T8 m 18 #[rv r0, rv r1, iv (0 : Int32), iv (0 : Int32), .val .null, iv (1 : Int32)] [(.ref r0)] _
  refine own_go (fun t₀ k₀ => XS.iloadN X8.here hx rfl (Jvm.hb hby d6_18) rfl k₀) ?_
  show Gm p e below T8 m 19 #[rv r0, rv r1, iv (0 : Int32), iv (0 : Int32), .val .null, iv (1 : Int32)] [(.int (0 : Int32)), (.ref r0)] _
  have f9 := (f6.wr W8)
  have f10 := (Fld.other W8 (F_environment.ext E2) (Or.inr (slot_ne (Or.inr (hw _ (List.mem_of_getElem? (i := 46) rfl))) (Or.inr (hw _ (List.mem_of_getElem? (i := 44) rfl))) (by decide) (t := .boolean) (t' := (.object "java/lang/String")) (by decide) (by decide))))
  obtain ⟨T11, h11, X11, e11, W11, st11⟩ := putFN X8 hx hZ hown (hw _ (List.mem_of_getElem? (i := 45) rfl)) Via.refl e8 f10 f9 (Or.inr ⟨(hw _ (List.mem_of_getElem? (i := 46) rfl)), rfl, hnm⟩) (hw _ (List.mem_of_getElem? (i := 32) rfl)) (ty := .boolean) (v' := (.int (0 : Int32))) (by decide) rfl rfl (g := (mkF m 19 #[rv r0, rv r1, iv (0 : Int32), iv (0 : Int32), .val .null, iv (1 : Int32)] [(.int (0 : Int32)), (.ref r0)])) rfl rfl (Jvm.hb hby d6_19)
  have Fw11 := Fld.same W11 f10
  have f12 := (Safe.wr W8 sq_r0_2 C2.1 sq_r0_2)
  have N11 := Fr.snoc X11 N8 g_r0
  have Z11 : n0 ≤ h11.size := W11.size ▸ Z8
  have K11 : Keep h0 h11 [r0] := Keep.wr K8 W11 (Or.inl (List.mem_of_getElem? (i := 0) rfl))
  have C11 := CHr.trans C8 (CHr.wr W11 f12 C8.1)
  have hk11 : k2 ≤ h11.size := W11.size ▸ hk8
  refine own_go st11 ?_
  show Gm p e below T11 m 22 #[rv r0, rv r1, iv (0 : Int32), iv (0 : Int32), .val .null, iv (1 : Int32)] [] _
  refine own_go (fun t₀ k₀ => XS.aloadN X11.here hx rfl (Jvm.hb hby d6_22) rfl rfl k₀) ?_
  show Gm p e below T11 m 23 #[rv r0, rv r1, iv (0 : Int32), iv (0 : Int32), .val .null, iv (1 : Int32)] [(.ref r0)] _
  refine own_go (fun t₀ k₀ => XS.iloadN X11.here hx rfl (Jvm.hb hby d6_23) rfl k₀) ?_
  show Gm p e below T11 m 24 #[rv r0, rv r1, iv (0 : Int32), iv (0 : Int32), .val .null, iv (1 : Int32)] [(.int (0 : Int32)), (.ref r0)] _
  have f13 := (f9.wr W11)
  have f14 := (Fld.other W11 (Fld.other W8 (F_bad.ext E2) (Or.inr (slot_ne (Or.inr (hw _ (List.mem_of_getElem? (i := 48) rfl))) (Or.inr (hw _ (List.mem_of_getElem? (i := 44) rfl))) (by decide) (t := .boolean) (t' := (.object "java/lang/String")) (by decide) (by decide)))) (Or.inr (slot_ne (Or.inr (hw _ (List.mem_of_getElem? (i := 48) rfl))) (Or.inr (hw _ (List.mem_of_getElem? (i := 46) rfl))) (by decide) (t := .boolean) (t' := .boolean) (by decide) (by decide))))
  obtain ⟨T15, h15, X15, e15, W15, st15⟩ := putFN X11 hx hZ hown (hw _ (List.mem_of_getElem? (i := 47) rfl)) Via.refl e11 f14 f13 (Or.inr ⟨(hw _ (List.mem_of_getElem? (i := 48) rfl)), rfl, hnm⟩) (hw _ (List.mem_of_getElem? (i := 32) rfl)) (ty := .boolean) (v' := (.int (0 : Int32))) (by decide) rfl rfl (g := (mkF m 24 #[rv r0, rv r1, iv (0 : Int32), iv (0 : Int32), .val .null, iv (1 : Int32)] [(.int (0 : Int32)), (.ref r0)])) rfl rfl (Jvm.hb hby d6_24)
  have Fw15 := Fld.same W15 f14
  have f16 := (Safe.wr W11 f12 C8.1 f12)
  have N15 := Fr.snoc X15 N11 g_r0
  have Z15 : n0 ≤ h15.size := W15.size ▸ Z11
  have K15 : Keep h0 h15 [r0] := Keep.wr K11 W15 (Or.inl (List.mem_of_getElem? (i := 0) rfl))
  have C15 := CHr.trans C11 (CHr.wr W15 f16 C11.1)
  have hk15 : k2 ≤ h15.size := W15.size ▸ hk11
  refine own_go st15 ?_
  show Gm p e below T15 m 27 #[rv r0, rv r1, iv (0 : Int32), iv (0 : Int32), .val .null, iv (1 : Int32)] [] _
  refine own_go (fun t₀ k₀ => XS.aloadN X15.here hx rfl (Jvm.hb hby d6_27) rfl rfl k₀) ?_
  show Gm p e below T15 m 28 #[rv r0, rv r1, iv (0 : Int32), iv (0 : Int32), .val .null, iv (1 : Int32)] [(.ref r0)] _
  refine own_go (fun t₀ k₀ => XS.aload X15.here hx rfl (Jvm.hb hby d6_28) rfl rfl k₀) ?_
  show Gm p e below T15 m 30 #[rv r0, rv r1, iv (0 : Int32), iv (0 : Int32), .val .null, iv (1 : Int32)] [.null, (.ref r0)] _
  have f17 := (f13.wr W15)
  have f18 := (Fld.other W15 (Fld.other W11 (Fld.other W8 (F_origin.ext E2) (Or.inr (slot_ne (Or.inr (hw _ (List.mem_of_getElem? (i := 50) rfl))) (Or.inr (hw _ (List.mem_of_getElem? (i := 44) rfl))) (by decide) (t := (.object "java/lang/String")) (t' := (.object "java/lang/String")) (by decide) (by decide)))) (Or.inr (slot_ne (Or.inr (hw _ (List.mem_of_getElem? (i := 50) rfl))) (Or.inr (hw _ (List.mem_of_getElem? (i := 46) rfl))) (by decide) (t := (.object "java/lang/String")) (t' := .boolean) (by decide) (by decide)))) (Or.inr (slot_ne (Or.inr (hw _ (List.mem_of_getElem? (i := 50) rfl))) (Or.inr (hw _ (List.mem_of_getElem? (i := 48) rfl))) (by decide) (t := (.object "java/lang/String")) (t' := .boolean) (by decide) (by decide))))
  obtain ⟨T19, h19, X19, e19, W19, st19⟩ := putF X15 hx hZ hown (host := "") (Or.inl (hw _ (List.mem_of_getElem? (i := 49) rfl))) Via.refl e15 f18 f17 (Or.inr ⟨(hw _ (List.mem_of_getElem? (i := 50) rfl)), rfl, hnm⟩) (hw _ (List.mem_of_getElem? (i := 32) rfl)) (ty := (.object "java/lang/String")) (by decide) rfl rfl (g := (mkF m 30 #[rv r0, rv r1, iv (0 : Int32), iv (0 : Int32), .val .null, iv (1 : Int32)] [.null, (.ref r0)])) rfl rfl (Jvm.hb hby d6_30)
  have Fw19 := Fld.same W19 f18
  have f20 := (Safe.wr W15 f16 C11.1 f16)
  have N19 := Fr.snoc X19 N15 g_r0
  have Z19 : n0 ≤ h19.size := W19.size ▸ Z15
  have K19 : Keep h0 h19 [r0] := Keep.wr K15 W19 (Or.inl (List.mem_of_getElem? (i := 0) rfl))
  have C19 := CHr.trans C15 (CHr.wr W19 f20 C15.1)
  have hk19 : k2 ≤ h19.size := W19.size ▸ hk15
  refine own_go st19 ?_
  show Gm p e below T19 m 33 #[rv r0, rv r1, iv (0 : Int32), iv (0 : Int32), .val .null, iv (1 : Int32)] [] _
  refine own_go (fun t₀ k₀ => XS.aloadN X19.here hx rfl (Jvm.hb hby d6_33) rfl rfl k₀) ?_
  show Gm p e below T19 m 34 #[rv r0, rv r1, iv (0 : Int32), iv (0 : Int32), .val .null, iv (1 : Int32)] [(.ref r0)] _
  refine own_go (fun t₀ k₀ => XS.iload X19.here hx rfl (Jvm.hb hby d6_34) rfl k₀) ?_
  show Gm p e below T19 m 36 #[rv r0, rv r1, iv (0 : Int32), iv (0 : Int32), .val .null, iv (1 : Int32)] [(.int (1 : Int32)), (.ref r0)] _
  have f21 := (f17.wr W19)
  have f22 := (Fld.other W19 (Fld.other W15 (Fld.other W11 (Fld.other W8 (F_choice.ext E2) (Or.inr (slot_ne (Or.inr (hw _ (List.mem_of_getElem? (i := 52) rfl))) (Or.inr (hw _ (List.mem_of_getElem? (i := 44) rfl))) (by decide) (t := .boolean) (t' := (.object "java/lang/String")) (by decide) (by decide)))) (Or.inr (slot_ne (Or.inr (hw _ (List.mem_of_getElem? (i := 52) rfl))) (Or.inr (hw _ (List.mem_of_getElem? (i := 46) rfl))) (by decide) (t := .boolean) (t' := .boolean) (by decide) (by decide)))) (Or.inr (slot_ne (Or.inr (hw _ (List.mem_of_getElem? (i := 52) rfl))) (Or.inr (hw _ (List.mem_of_getElem? (i := 48) rfl))) (by decide) (t := .boolean) (t' := .boolean) (by decide) (by decide)))) (Or.inr (slot_ne (Or.inr (hw _ (List.mem_of_getElem? (i := 52) rfl))) (Or.inr (hw _ (List.mem_of_getElem? (i := 50) rfl))) (by decide) (t := .boolean) (t' := (.object "java/lang/String")) (by decide) (by decide))))
  obtain ⟨T23, h23, X23, e23, W23, st23⟩ := putFN X19 hx hZ hown (hw _ (List.mem_of_getElem? (i := 51) rfl)) Via.refl e19 f22 f21 (Or.inr ⟨(hw _ (List.mem_of_getElem? (i := 52) rfl)), rfl, hnm⟩) (hw _ (List.mem_of_getElem? (i := 32) rfl)) (ty := .boolean) (v' := (.int (1 : Int32))) (by decide) rfl rfl (g := (mkF m 36 #[rv r0, rv r1, iv (0 : Int32), iv (0 : Int32), .val .null, iv (1 : Int32)] [(.int (1 : Int32)), (.ref r0)])) rfl rfl (Jvm.hb hby d6_36)
  have Fw23 := Fld.same W23 f22
  have f24 := (Safe.wr W19 f20 C15.1 f20)
  have N23 := Fr.snoc X23 N19 g_r0
  have Z23 : n0 ≤ h23.size := W23.size ▸ Z19
  have K23 : Keep h0 h23 [r0] := Keep.wr K19 W23 (Or.inl (List.mem_of_getElem? (i := 0) rfl))
  have C23 := CHr.trans C19 (CHr.wr W23 f24 C19.1)
  have hk23 : k2 ≤ h23.size := W23.size ▸ hk19
  refine own_go st23 ?_
  show Gm p e below T23 m 39 #[rv r0, rv r1, iv (0 : Int32), iv (0 : Int32), .val .null, iv (1 : Int32)] [] _
  have f25 := (f21.wr W23)
  have f26 := (Fld.other W23 (Fld.other W19 (Fld.other W15 (Fld.other W11 Fw8 (Or.inr (slot_ne (Or.inr (hw _ (List.mem_of_getElem? (i := 44) rfl))) (Or.inr (hw _ (List.mem_of_getElem? (i := 46) rfl))) (by decide) (t := (.object "java/lang/String")) (t' := .boolean) (by decide) (by decide)))) (Or.inr (slot_ne (Or.inr (hw _ (List.mem_of_getElem? (i := 44) rfl))) (Or.inr (hw _ (List.mem_of_getElem? (i := 48) rfl))) (by decide) (t := (.object "java/lang/String")) (t' := .boolean) (by decide) (by decide)))) (Or.inr (slot_ne (Or.inr (hw _ (List.mem_of_getElem? (i := 44) rfl))) (Or.inr (hw _ (List.mem_of_getElem? (i := 50) rfl))) (by decide) (t := (.object "java/lang/String")) (t' := (.object "java/lang/String")) (by decide) (by decide)))) (Or.inr (slot_ne (Or.inr (hw _ (List.mem_of_getElem? (i := 44) rfl))) (Or.inr (hw _ (List.mem_of_getElem? (i := 52) rfl))) (by decide) (t := (.object "java/lang/String")) (t' := .boolean) (by decide) (by decide))))
  have f27 := (Fld.other W23 (Fld.other W19 (Fld.other W15 Fw11 (Or.inr (slot_ne (Or.inr (hw _ (List.mem_of_getElem? (i := 46) rfl))) (Or.inr (hw _ (List.mem_of_getElem? (i := 48) rfl))) (by decide) (t := .boolean) (t' := .boolean) (by decide) (by decide)))) (Or.inr (slot_ne (Or.inr (hw _ (List.mem_of_getElem? (i := 46) rfl))) (Or.inr (hw _ (List.mem_of_getElem? (i := 50) rfl))) (by decide) (t := .boolean) (t' := (.object "java/lang/String")) (by decide) (by decide)))) (Or.inr (slot_ne (Or.inr (hw _ (List.mem_of_getElem? (i := 46) rfl))) (Or.inr (hw _ (List.mem_of_getElem? (i := 52) rfl))) (by decide) (t := .boolean) (t' := .boolean) (by decide) (by decide))))
  have f28 := (Fld.other W23 (Fld.other W19 Fw15 (Or.inr (slot_ne (Or.inr (hw _ (List.mem_of_getElem? (i := 48) rfl))) (Or.inr (hw _ (List.mem_of_getElem? (i := 50) rfl))) (by decide) (t := .boolean) (t' := (.object "java/lang/String")) (by decide) (by decide)))) (Or.inr (slot_ne (Or.inr (hw _ (List.mem_of_getElem? (i := 48) rfl))) (Or.inr (hw _ (List.mem_of_getElem? (i := 52) rfl))) (by decide) (t := .boolean) (t' := .boolean) (by decide) (by decide))))
  have f29 := (Fld.other W23 Fw19 (Or.inr (slot_ne (Or.inr (hw _ (List.mem_of_getElem? (i := 50) rfl))) (Or.inr (hw _ (List.mem_of_getElem? (i := 52) rfl))) (by decide) (t := (.object "java/lang/String")) (t' := .boolean) (by decide) (by decide))))
  exact own_retVW X23 hx hlk hZ (own_ew hw) hS2 hk23 C23 Bd.returns (Jvm.hb hby d6_39) e23 ⟨rfl, N23, K23, f25, f26, f27, f28, f29, Fw23⟩ (by decide) (by decide)
theorem d5_0 : decode prog_32_method_3_code 0 = .ok (.new 2, 3) := by decide +kernel
theorem d5_3 : decode prog_32_method_3_code 3 = .ok (.dup, 1) := by decide +kernel
theorem d5_4 : decode prog_32_method_3_code 4 = .ok (.aload_n 0, 1) := by decide +kernel
theorem d5_5 : decode prog_32_method_3_code 5 = .ok (.iconst 0, 1) := by decide +kernel
theorem d5_6 : decode prog_32_method_3_code 6 = .ok (.iconst 0, 1) := by decide +kernel
theorem d5_7 : decode prog_32_method_3_code 7 = .ok (.aconst_null, 1) := by decide +kernel
theorem d5_8 : decode prog_32_method_3_code 8 = .ok (.iconst 1, 1) := by decide +kernel
theorem d5_9 : decode prog_32_method_3_code 9 = .ok (.invokespecial 1, 3) := by decide +kernel
theorem d5_12 : decode prog_32_method_3_code 12 = .ok (.areturn, 1) := by decide +kernel
theorem own_pd6 : parseMethodDescriptor "(Ljava/lang/String;ZZLjava/lang/String;Z)V" = some ⟨[(.object "java/lang/String"), .boolean, .boolean, (.object "java/lang/String"), .boolean], none⟩ := by decide +kernel
theorem own_pn_rmN : plainName "com/example/gettone/gettone/core/Place" = true := by first | (simp [plainName, overriddenIn]; done) | decide +kernel
theorem own_ef_rmN (m : MethodId) (r0 : Addr) : entryFrame m #[(.ref r0)] 1 = mkF m 0 #[.val (.ref r0)] [] := by first | (simp [entryFrame, mkF, argsToLocals, Value.category]; done) | rfl
def QN (Z : State) (r0 : Addr) (h0 : Heap) (n0 : Nat) (v : Option Value) (h : Heap) (L : List Loc) : Prop := ∃ x : Addr, v = some (.ref x) ∧ Fr n0 L ∧ Ext h0 h ∧ h0.size ≤ x ∧ Exa Z h x "com/example/gettone/gettone/core/Place" ∧ Fld Z h x "com/example/gettone/gettone/core/Place" "id" "Ljava/lang/String;" (.ref r0) ∧ Fld Z h x "com/example/gettone/gettone/core/Place" "environment" "Z" (.int (0 : Int32)) ∧ Fld Z h x "com/example/gettone/gettone/core/Place" "bad" "Z" (.int (0 : Int32)) ∧ Fld Z h x "com/example/gettone/gettone/core/Place" "origin" "Ljava/lang/String;" .null ∧ Fld Z h x "com/example/gettone/gettone/core/Place" "choice" "Z" (.int (1 : Int32))
set_option maxRecDepth 65536 in
set_option maxHeartbeats 40000000 in
theorem rmN (l : Launch) (Z : State) (a0 : Array Value) (hw : ∀ d ∈ tables_1, d.before a0 Z = true) (ws : List Jvm.Cond) (r0 : Addr) (h0 : Heap) (n0 : Nat) (Z0 : n0 ≤ h0.size) (E_r0 : Exa Z h0 r0 "java/lang/String") :
    MetFree l (⟨"com/example/gettone/gettone/core/Place", "choice", "(Ljava/lang/String;)Lcom/example/gettone/gettone/core/Place;"⟩ : MethodName) (head1 (Jvm.Cond.code (⟨"com/example/gettone/gettone/core/Place", "choice", "(Ljava/lang/String;)Lcom/example/gettone/gettone/core/Place;"⟩ : MethodName) prog_32_method_3_code 1 (some (.object "com/example/gettone/gettone/core/Place")) :: ws) ({ frames := 2, cells := 3, slots := 17, locals := 32 } : Room)) (fun a U => a = #[(.ref r0)] ∧ Z.Warmed39 U.vm ∧ U.heap = h0 ∧ CHv Z own_EL U.vm h0 ∧ ∀ x ∈ ([] : List Addr), Safe Z own_EL U.vm h0 x) (fun _ _ _ _ _ => True) (fun _ U o U' => ∃ v L, o = .returned v ∧ QN Z r0 h0 n0 v U'.heap L ∧ CHr Z own_EL U.vm U.heap U'.vm U'.heap ∧ ReturnedEndW U o U' L ({ frames := 2, cells := 3, slots := 17, locals := 32 } : Room).cells ({ frames := 2, cells := 3, slots := 17, locals := 32 } : Room).slots) := by
  refine MetFree.of_bodySF (plainFor_of_name own_pn_rmN) hisR ?_
  intro p e s m args below meth cO s₁ Bd hml0 hP hK
  obtain ⟨rfl, hZ, hh, hH, hsf⟩ := hP
  have hZ : Z.Warmed39 (s.setVm s.vm).vm := hZ
  have hx := Bd.exec
  have hby := Bd.bytes
  have hml : cO.maxLocals = 1 := hml0
  have hown : (s.setVm s.vm).vm.findClass "com/example/gettone/gettone/core/Place" = some m.cls := findClass_of_methodNamed Bd.named
  have hnm := (name_of_methodNamed Bd.named Bd.method).1
  have hlk : meth.locks = false := BodyLoose.notSynchronized Bd
  have X0 : Stand p l e ({ frames := 2, cells := 3, slots := 17, locals := 32 } : Room) (s.setVm s.vm) m #[(.ref r0)] below meth cO s₁ [] 0 0 := Stand.of_body Bd
  have hS0 : s.Since s.vm h0.size := (State.WarmedH.refl s).since _
  have hk0 : h0.size ≤ h0.size := Nat.le_refl _
  have C0 : CHr Z own_EL s.vm s.heap s.vm h0 := by rw [hh]; exact CHr.refl hH
  have e0 : s₁.heap = h0 := by rw [← hh, Bd.state]; rfl
  have N0 := Fr.nil n0
  refine own_in (own_ef_rmN m r0) ?_
  show Gm p e below s₁ m 0 #[rv r0] [] _
  obtain ⟨T1, h1, X1, e1, E1, A1, D1, -, st1⟩ := newO X0 hx hZ hown (hw _ (List.mem_of_getElem? (i := 31) rfl)) (hw _ (List.mem_of_getElem? (i := 32) rfl)) (hw _ (List.mem_of_getElem? (i := 29) rfl)) e0 (g := (mkF m 0 #[rv r0] [])) rfl (Jvm.hb hby d5_0) (by decide) (by decide)
  obtain ⟨b1, g1⟩ : ∃ z, z = h0.size := ⟨_, rfl⟩
  rw [← g1] at A1 D1 st1
  have g_b1 : n0 ≤ b1 := Nat.le_trans Z0 (Nat.le_of_eq g1.symm)
  have ne_r0_b1 : r0 ≠ b1 := Nat.ne_of_lt (Nat.lt_of_lt_of_le E_r0.lt (Nat.le_of_eq g1.symm))
  have sz_b1 : h0.size ≤ b1 := Nat.le_trans (Keep.refl h0 []).1 (Nat.le_of_eq g1.symm)
  have K1 : Keep h0 h1 [] := Keep.ext (Keep.refl h0 []) E1
  have Z1 : n0 ≤ h1.size := Nat.le_trans Z0 E1.1
  have C1 := CHr.trans C0 (CHr.ext E1 C0.1)
  have hk1 : h0.size ≤ h1.size := Nat.le_trans hk0 E1.1
  have sf_b1 := Safe.ext E1 C0.1 (Safe.new (Nat.le_of_eq g1.symm))
  have F_id_b1 : Fld Z h1 b1 "com/example/gettone/gettone/core/Place" "id" "Ljava/lang/String;" .null := D1 (Or.inr (hw _ (List.mem_of_getElem? (i := 44) rfl))) (ty := (.object "java/lang/String")) (by decide)
  have F_environment_b1 : Fld Z h1 b1 "com/example/gettone/gettone/core/Place" "environment" "Z" (.int (0 : Int32)) := D1 (Or.inr (hw _ (List.mem_of_getElem? (i := 46) rfl))) (ty := .boolean) (by decide)
  have F_bad_b1 : Fld Z h1 b1 "com/example/gettone/gettone/core/Place" "bad" "Z" (.int (0 : Int32)) := D1 (Or.inr (hw _ (List.mem_of_getElem? (i := 48) rfl))) (ty := .boolean) (by decide)
  have F_origin_b1 : Fld Z h1 b1 "com/example/gettone/gettone/core/Place" "origin" "Ljava/lang/String;" .null := D1 (Or.inr (hw _ (List.mem_of_getElem? (i := 50) rfl))) (ty := (.object "java/lang/String")) (by decide)
  have F_choice_b1 : Fld Z h1 b1 "com/example/gettone/gettone/core/Place" "choice" "Z" (.int (0 : Int32)) := D1 (Or.inr (hw _ (List.mem_of_getElem? (i := 52) rfl))) (ty := .boolean) (by decide)
  refine own_go st1 ?_
  show Gm p e below T1 m 3 #[rv r0] [(.ref b1)] _
  refine own_go (fun t₀ k₀ => XS.dup X1.here hx rfl (Jvm.hb hby d5_3) rfl rfl k₀) ?_
  show Gm p e below T1 m 4 #[rv r0] [(.ref b1), (.ref b1)] _
  refine own_go (fun t₀ k₀ => XS.aloadN X1.here hx rfl (Jvm.hb hby d5_4) rfl rfl k₀) ?_
  show Gm p e below T1 m 5 #[rv r0] [(.ref r0), (.ref b1), (.ref b1)] _
  refine own_go (fun t₀ k₀ => XS.iconst X1.here hx rfl (Jvm.hb hby d5_5) k₀) ?_
  show Gm p e below T1 m 6 #[rv r0] [(.int (0 : Int32)), (.ref r0), (.ref b1), (.ref b1)] _
  refine own_go (fun t₀ k₀ => XS.iconst X1.here hx rfl (Jvm.hb hby d5_6) k₀) ?_
  show Gm p e below T1 m 7 #[rv r0] [(.int (0 : Int32)), (.int (0 : Int32)), (.ref r0), (.ref b1), (.ref b1)] _
  refine own_go (fun t₀ k₀ => XS.aconstNull X1.here hx rfl (Jvm.hb hby d5_7) k₀) ?_
  show Gm p e below T1 m 8 #[rv r0] [.null, (.int (0 : Int32)), (.int (0 : Int32)), (.ref r0), (.ref b1), (.ref b1)] _
  refine own_go (fun t₀ k₀ => XS.iconst X1.here hx rfl (Jvm.hb hby d5_8) k₀) ?_
  show Gm p e below T1 m 9 #[rv r0] [(.int (1 : Int32)), .null, (.int (0 : Int32)), (.int (0 : Int32)), (.ref r0), (.ref b1), (.ref b1)] _
  have f2 := (E_r0.ext E1)
  obtain ⟨_, _, ⟨T3, L3, q3, n3⟩, -, X3, hs3, hg3, ⟨Lc3, hQ3, l3, y3, z3, Cs3⟩, st3⟩ := X1.specialBackS hx (y := (⟨"com/example/gettone/gettone/core/Place", "<init>", "(Ljava/lang/String;ZZLjava/lang/String;Z)V"⟩ : MethodName)) rfl hown (mvT hZ (hw _ (List.mem_of_getElem? (i := 33) rfl))) (mvT hZ (hw _ (List.mem_of_getElem? (i := 34) rfl))) (mvT hZ (hw _ (List.mem_of_getElem? (i := 35) rfl))) (by decide) (own_backW (W := 1) (rmI l Z a0 hw [] b1 r0 h1 n0 Z1 A1 F_id_b1 F_environment_b1 F_bad_b1 F_origin_b1 F_choice_b1 f2 g_b1) hZ (hw _ (List.mem_of_getElem? (i := 35) rfl)) (hw _ (List.mem_of_getElem? (i := 29) rfl)) (by decide) (by decide) (own_ew hw) C1.1 (own_hsS ⟨A1.lt, sf_b1⟩ own_hs0)) (g := (mkF m 9 #[rv r0] [(.int (1 : Int32)), .null, (.int (0 : Int32)), (.int (0 : Int32)), (.ref r0), (.ref b1), (.ref b1)])) rfl (by rw [hml]; rfl) (Steps.refl _) (a := b1) (argsL := [(.ref r0), (.int (0 : Int32)), (.int (0 : Int32)), .null, (.int (1 : Int32))]) (rest := [(.ref b1)]) (lenOf own_pd6 rfl) rfl (by show 2 * 0 + _ ≤ _; exact Nat.le_of_eq rfl) (Jvm.hb hby d5_9) (fun _ _ => ⟨rfl, e1, (by decide : 1 + 2 ≤ _), (by decide : 5 + 12 ≤ _)⟩)
  dsimp only [Pt.U, Pt.locs, Pt.cells, Pt.slots] at X3 hs3 hg3 l3 y3 z3 st3 hQ3 Cs3
  subst l3 y3 z3
  have hS3 : s.Since T3.vm T3.heap.size := foldS hS0 (by rw [e1]; exact hk1) hs3 hg3
  have hZ : Z.Warmed39 (s.setVm T3.vm).vm := State.Warmed39.trans (t := s.setVm s.vm) hZ hs3.1
  have hown : (s.setVm T3.vm).vm.findClass "com/example/gettone/gettone/core/Place" = some m.cls := by rw [show (s.setVm T3.vm).vm = T3.vm from rfl, hs3.1.alike.findClass]; exact hown
  have X3 : Stand p l e _ (s.setVm T3.vm) m _ below meth cO T3 _ _ _ := X3
  have hk3 : T3.heap.size ≤ T3.heap.size := Nat.le_refl _
  obtain ⟨rfl, Nq3, Kc3, Ec3, F3_id, F3_environment, F3_bad, F3_origin, F3_choice⟩ := hQ3
  have N3 := Fr.app N0 Nq3
  have sq_b1_3 := CHr.safe Cs3 A1.lt sf_b1
  have C3 := CHr.trans C1 Cs3
  refine own_go (fun t k => st3.trans k) ?_
  have Z3 : n0 ≤ T3.heap.size := Nat.le_trans Z1 Kc3.1
  have K3 : Keep h0 T3.heap [] := Keep.trans K1 Kc3 (allS (Or.inr sz_b1) all0)
  show Gm p e below T3 m 12 #[rv r0] [(.ref b1)] _
  exact own_retAW X3 hx hlk hZ (own_ew hw) hS3 hk3 C3 rfl Bd.returns rfl (Jvm.hb hby d5_12) rfl ⟨b1, rfl, N3, own_stX (Z := Z) K3, sz_b1, Ec3, F3_id, F3_environment, F3_bad, F3_origin, F3_choice⟩ (by decide) (by decide)
theorem d8_0 : decode prog_32_method_4_code 0 = .ok (.aload_n 0, 1) := by decide +kernel
theorem d8_1 : decode prog_32_method_4_code 1 = .ok (.getfield 22, 3) := by decide +kernel
theorem d8_4 : decode prog_32_method_4_code 4 = .ok (.areturn, 1) := by decide +kernel
theorem own_pn_rm_id : plainName "com/example/gettone/gettone/core/Place" = true := by first | (simp [plainName, overriddenIn]; done) | decide +kernel
theorem own_ef_rm_id (m : MethodId) (r0 : Addr) : entryFrame m #[(.ref r0)] 1 = mkF m 0 #[.val (.ref r0)] [] := by first | (simp [entryFrame, mkF, argsToLocals, Value.category]; done) | rfl
def Q_id (Z : State) (r0 : Addr) (q : Addr) (h0 : Heap) (n0 : Nat) (v : Option Value) (h : Heap) (L : List Loc) : Prop := v = some (.ref q) ∧ Fr n0 L ∧ h = h0
set_option maxRecDepth 65536 in
set_option maxHeartbeats 40000000 in
theorem rm_id (l : Launch) (Z : State) (a0 : Array Value) (hw : ∀ d ∈ tables_1, d.before a0 Z = true) (ws : List Jvm.Cond) (r0 : Addr) (q : Addr) (h0 : Heap) (n0 : Nat) (Z0 : n0 ≤ h0.size) (F_i : Fld Z h0 r0 "com/example/gettone/gettone/core/Place" "id" "Ljava/lang/String;" (.ref q)) :
    MetFree l (⟨"com/example/gettone/gettone/core/Place", "id", "()Ljava/lang/String;"⟩ : MethodName) (head1 (Jvm.Cond.code (⟨"com/example/gettone/gettone/core/Place", "id", "()Ljava/lang/String;"⟩ : MethodName) prog_32_method_4_code 1 (some (.object "java/lang/String")) :: ws) ({ frames := 0, cells := 0, slots := 0, locals := 0 } : Room)) (fun a U => a = #[(.ref r0)] ∧ Z.Warmed39 U.vm ∧ U.heap = h0) (fun _ _ _ _ _ => True) (fun _ U o U' => ∃ v L, o = .returned v ∧ Q_id Z r0 q h0 n0 v U'.heap L ∧ FrameEnd U o U' L ({ frames := 0, cells := 0, slots := 0, locals := 0 } : Room).cells ({ frames := 0, cells := 0, slots := 0, locals := 0 } : Room).slots) := by
  refine MetFree.of_bodySF (plainFor_of_name own_pn_rm_id) hisR ?_
  intro p e s m args below meth cO s₁ Bd hml0 hP hK
  obtain ⟨rfl, hZ, hh⟩ := hP
  have hx := Bd.exec
  have hby := Bd.bytes
  have hml : cO.maxLocals = 1 := hml0
  have hown : s.vm.findClass "com/example/gettone/gettone/core/Place" = some m.cls := findClass_of_methodNamed Bd.named
  have hnm := (name_of_methodNamed Bd.named Bd.method).1
  have hlk : meth.locks = false := BodyLoose.notSynchronized Bd
  have X0 : Stand p l e ({ frames := 0, cells := 0, slots := 0, locals := 0 } : Room) s m #[(.ref r0)] below meth cO s₁ [] 0 0 := Stand.of_body Bd
  have e0 : s₁.heap = h0 := by rw [← hh, Bd.state]; rfl
  have N0 := Fr.nil n0
  refine own_in (own_ef_rm_id m r0) ?_
  show Gm p e below s₁ m 0 #[rv r0] [] _
  refine own_go (fun t₀ k₀ => XS.aloadN X0.here hx rfl (Jvm.hb hby d8_0) rfl rfl k₀) ?_
  show Gm p e below s₁ m 1 #[rv r0] [(.ref r0)] _
  obtain ⟨T1, X1, e1, st1⟩ := getF X0 hx hZ hown (host := "") (Or.inl (hw _ (List.mem_of_getElem? (i := 43) rfl))) Via.refl e0 F_i (g := (mkF m 1 #[rv r0] [(.ref r0)])) rfl rfl (Jvm.hb hby d8_1)
  refine own_go st1 ?_
  show Gm p e below T1 m 4 #[rv r0] [(.ref q)] _
  exact own_retA X1 hx hlk rfl Bd.returns rfl (Jvm.hb hby d8_4) e1 ⟨rfl, N0, rfl⟩ (by decide) (by decide)
theorem d11_0 : decode prog_32_method_9_code 0 = .ok (.aload_n 0, 1) := by decide +kernel
theorem d11_1 : decode prog_32_method_9_code 1 = .ok (.getfield 22, 3) := by decide +kernel
theorem d11_4 : decode prog_32_method_9_code 4 = .ok (.areturn, 1) := by decide +kernel
theorem own_pn_rm_toString : plainName "com/example/gettone/gettone/core/Place" = true := by first | (simp [plainName, overriddenIn]; done) | decide +kernel
theorem own_ef_rm_toString (m : MethodId) (r0 : Addr) : entryFrame m #[(.ref r0)] 1 = mkF m 0 #[.val (.ref r0)] [] := by first | (simp [entryFrame, mkF, argsToLocals, Value.category]; done) | rfl
def Q_toString (Z : State) (r0 : Addr) (q : Addr) (h0 : Heap) (n0 : Nat) (v : Option Value) (h : Heap) (L : List Loc) : Prop := v = some (.ref q) ∧ Fr n0 L ∧ h = h0
set_option maxRecDepth 65536 in
set_option maxHeartbeats 40000000 in
theorem rm_toString (l : Launch) (Z : State) (a0 : Array Value) (hw : ∀ d ∈ tables_1, d.before a0 Z = true) (ws : List Jvm.Cond) (r0 : Addr) (q : Addr) (h0 : Heap) (n0 : Nat) (Z0 : n0 ≤ h0.size) (F_i : Fld Z h0 r0 "com/example/gettone/gettone/core/Place" "id" "Ljava/lang/String;" (.ref q)) :
    MetFree l (⟨"com/example/gettone/gettone/core/Place", "toString", "()Ljava/lang/String;"⟩ : MethodName) (head1 (Jvm.Cond.code (⟨"com/example/gettone/gettone/core/Place", "toString", "()Ljava/lang/String;"⟩ : MethodName) prog_32_method_9_code 1 (some (.object "java/lang/String")) :: ws) ({ frames := 0, cells := 0, slots := 0, locals := 0 } : Room)) (fun a U => a = #[(.ref r0)] ∧ Z.Warmed39 U.vm ∧ U.heap = h0) (fun _ _ _ _ _ => True) (fun _ U o U' => ∃ v L, o = .returned v ∧ Q_toString Z r0 q h0 n0 v U'.heap L ∧ FrameEnd U o U' L ({ frames := 0, cells := 0, slots := 0, locals := 0 } : Room).cells ({ frames := 0, cells := 0, slots := 0, locals := 0 } : Room).slots) := by
  refine MetFree.of_bodySF (plainFor_of_name own_pn_rm_toString) hisR ?_
  intro p e s m args below meth cO s₁ Bd hml0 hP hK
  obtain ⟨rfl, hZ, hh⟩ := hP
  have hx := Bd.exec
  have hby := Bd.bytes
  have hml : cO.maxLocals = 1 := hml0
  have hown : s.vm.findClass "com/example/gettone/gettone/core/Place" = some m.cls := findClass_of_methodNamed Bd.named
  have hnm := (name_of_methodNamed Bd.named Bd.method).1
  have hlk : meth.locks = false := BodyLoose.notSynchronized Bd
  have X0 : Stand p l e ({ frames := 0, cells := 0, slots := 0, locals := 0 } : Room) s m #[(.ref r0)] below meth cO s₁ [] 0 0 := Stand.of_body Bd
  have e0 : s₁.heap = h0 := by rw [← hh, Bd.state]; rfl
  have N0 := Fr.nil n0
  refine own_in (own_ef_rm_toString m r0) ?_
  show Gm p e below s₁ m 0 #[rv r0] [] _
  refine own_go (fun t₀ k₀ => XS.aloadN X0.here hx rfl (Jvm.hb hby d11_0) rfl rfl k₀) ?_
  show Gm p e below s₁ m 1 #[rv r0] [(.ref r0)] _
  obtain ⟨T1, X1, e1, st1⟩ := getF X0 hx hZ hown (host := "") (Or.inl (hw _ (List.mem_of_getElem? (i := 43) rfl))) Via.refl e0 F_i (g := (mkF m 1 #[rv r0] [(.ref r0)])) rfl rfl (Jvm.hb hby d11_1)
  refine own_go st1 ?_
  show Gm p e below T1 m 4 #[rv r0] [(.ref q)] _
  exact own_retA X1 hx hlk rfl Bd.returns rfl (Jvm.hb hby d11_4) e1 ⟨rfl, N0, rfl⟩ (by decide) (by decide)
theorem d12_0 : decode prog_32_method_5_code 0 = .ok (.aload_n 0, 1) := by decide +kernel
theorem d12_1 : decode prog_32_method_5_code 1 = .ok (.getfield 25, 3) := by decide +kernel
theorem d12_4 : decode prog_32_method_5_code 4 = .ok (.ireturn, 1) := by decide +kernel
theorem own_pn_rm_isEnvironment : plainName "com/example/gettone/gettone/core/Place" = true := by first | (simp [plainName, overriddenIn]; done) | decide +kernel
theorem own_ef_rm_isEnvironment (m : MethodId) (r0 : Addr) : entryFrame m #[(.ref r0)] 1 = mkF m 0 #[.val (.ref r0)] [] := by first | (simp [entryFrame, mkF, argsToLocals, Value.category]; done) | rfl
def Q_isEnvironment (Z : State) (r0 : Addr) (h0 : Heap) (n0 : Nat) (v : Option Value) (h : Heap) (L : List Loc) : Prop := v = some (.int (0 : Int32)) ∧ Fr n0 L ∧ h = h0
set_option maxRecDepth 65536 in
set_option maxHeartbeats 40000000 in
theorem rm_isEnvironment (l : Launch) (Z : State) (a0 : Array Value) (hw : ∀ d ∈ tables_1, d.before a0 Z = true) (ws : List Jvm.Cond) (r0 : Addr) (h0 : Heap) (n0 : Nat) (Z0 : n0 ≤ h0.size) (F_i : Fld Z h0 r0 "com/example/gettone/gettone/core/Place" "environment" "Z" (.int (0 : Int32))) :
    MetFree l (⟨"com/example/gettone/gettone/core/Place", "isEnvironment", "()Z"⟩ : MethodName) (head1 (Jvm.Cond.code (⟨"com/example/gettone/gettone/core/Place", "isEnvironment", "()Z"⟩ : MethodName) prog_32_method_5_code 1 (some .boolean) :: ws) ({ frames := 0, cells := 0, slots := 0, locals := 0 } : Room)) (fun a U => a = #[(.ref r0)] ∧ Z.Warmed39 U.vm ∧ U.heap = h0) (fun _ _ _ _ _ => True) (fun _ U o U' => ∃ v L, o = .returned v ∧ Q_isEnvironment Z r0 h0 n0 v U'.heap L ∧ FrameEnd U o U' L ({ frames := 0, cells := 0, slots := 0, locals := 0 } : Room).cells ({ frames := 0, cells := 0, slots := 0, locals := 0 } : Room).slots) := by
  refine MetFree.of_bodySF (plainFor_of_name own_pn_rm_isEnvironment) hisR ?_
  intro p e s m args below meth cO s₁ Bd hml0 hP hK
  obtain ⟨rfl, hZ, hh⟩ := hP
  have hx := Bd.exec
  have hby := Bd.bytes
  have hml : cO.maxLocals = 1 := hml0
  have hown : s.vm.findClass "com/example/gettone/gettone/core/Place" = some m.cls := findClass_of_methodNamed Bd.named
  have hnm := (name_of_methodNamed Bd.named Bd.method).1
  have hlk : meth.locks = false := BodyLoose.notSynchronized Bd
  have X0 : Stand p l e ({ frames := 0, cells := 0, slots := 0, locals := 0 } : Room) s m #[(.ref r0)] below meth cO s₁ [] 0 0 := Stand.of_body Bd
  have e0 : s₁.heap = h0 := by rw [← hh, Bd.state]; rfl
  have N0 := Fr.nil n0
  refine own_in (own_ef_rm_isEnvironment m r0) ?_
  show Gm p e below s₁ m 0 #[rv r0] [] _
  refine own_go (fun t₀ k₀ => XS.aloadN X0.here hx rfl (Jvm.hb hby d12_0) rfl rfl k₀) ?_
  show Gm p e below s₁ m 1 #[rv r0] [(.ref r0)] _
  obtain ⟨T1, X1, e1, st1⟩ := getF X0 hx hZ hown (host := "") (Or.inl (hw _ (List.mem_of_getElem? (i := 45) rfl))) Via.refl e0 F_i (g := (mkF m 1 #[rv r0] [(.ref r0)])) rfl rfl (Jvm.hb hby d12_1)
  refine own_go st1 ?_
  show Gm p e below T1 m 4 #[rv r0] [(.int (0 : Int32))] _
  exact own_retI X1 hx hlk (t := .boolean) Bd.returns rfl (by simp) (Jvm.hb hby d12_4) e1 ⟨rfl, N0, rfl⟩ (by decide) (by decide)
theorem d13_0 : decode prog_32_method_6_code 0 = .ok (.aload_n 0, 1) := by decide +kernel
theorem d13_1 : decode prog_32_method_6_code 1 = .ok (.getfield 29, 3) := by decide +kernel
theorem d13_4 : decode prog_32_method_6_code 4 = .ok (.ireturn, 1) := by decide +kernel
theorem own_pn_rm_isBad : plainName "com/example/gettone/gettone/core/Place" = true := by first | (simp [plainName, overriddenIn]; done) | decide +kernel
theorem own_ef_rm_isBad (m : MethodId) (r0 : Addr) : entryFrame m #[(.ref r0)] 1 = mkF m 0 #[.val (.ref r0)] [] := by first | (simp [entryFrame, mkF, argsToLocals, Value.category]; done) | rfl
def Q_isBad (Z : State) (r0 : Addr) (h0 : Heap) (n0 : Nat) (v : Option Value) (h : Heap) (L : List Loc) : Prop := v = some (.int (0 : Int32)) ∧ Fr n0 L ∧ h = h0
set_option maxRecDepth 65536 in
set_option maxHeartbeats 40000000 in
theorem rm_isBad (l : Launch) (Z : State) (a0 : Array Value) (hw : ∀ d ∈ tables_1, d.before a0 Z = true) (ws : List Jvm.Cond) (r0 : Addr) (h0 : Heap) (n0 : Nat) (Z0 : n0 ≤ h0.size) (F_i : Fld Z h0 r0 "com/example/gettone/gettone/core/Place" "bad" "Z" (.int (0 : Int32))) :
    MetFree l (⟨"com/example/gettone/gettone/core/Place", "isBad", "()Z"⟩ : MethodName) (head1 (Jvm.Cond.code (⟨"com/example/gettone/gettone/core/Place", "isBad", "()Z"⟩ : MethodName) prog_32_method_6_code 1 (some .boolean) :: ws) ({ frames := 0, cells := 0, slots := 0, locals := 0 } : Room)) (fun a U => a = #[(.ref r0)] ∧ Z.Warmed39 U.vm ∧ U.heap = h0) (fun _ _ _ _ _ => True) (fun _ U o U' => ∃ v L, o = .returned v ∧ Q_isBad Z r0 h0 n0 v U'.heap L ∧ FrameEnd U o U' L ({ frames := 0, cells := 0, slots := 0, locals := 0 } : Room).cells ({ frames := 0, cells := 0, slots := 0, locals := 0 } : Room).slots) := by
  refine MetFree.of_bodySF (plainFor_of_name own_pn_rm_isBad) hisR ?_
  intro p e s m args below meth cO s₁ Bd hml0 hP hK
  obtain ⟨rfl, hZ, hh⟩ := hP
  have hx := Bd.exec
  have hby := Bd.bytes
  have hml : cO.maxLocals = 1 := hml0
  have hown : s.vm.findClass "com/example/gettone/gettone/core/Place" = some m.cls := findClass_of_methodNamed Bd.named
  have hnm := (name_of_methodNamed Bd.named Bd.method).1
  have hlk : meth.locks = false := BodyLoose.notSynchronized Bd
  have X0 : Stand p l e ({ frames := 0, cells := 0, slots := 0, locals := 0 } : Room) s m #[(.ref r0)] below meth cO s₁ [] 0 0 := Stand.of_body Bd
  have e0 : s₁.heap = h0 := by rw [← hh, Bd.state]; rfl
  have N0 := Fr.nil n0
  refine own_in (own_ef_rm_isBad m r0) ?_
  show Gm p e below s₁ m 0 #[rv r0] [] _
  refine own_go (fun t₀ k₀ => XS.aloadN X0.here hx rfl (Jvm.hb hby d13_0) rfl rfl k₀) ?_
  show Gm p e below s₁ m 1 #[rv r0] [(.ref r0)] _
  obtain ⟨T1, X1, e1, st1⟩ := getF X0 hx hZ hown (host := "") (Or.inl (hw _ (List.mem_of_getElem? (i := 47) rfl))) Via.refl e0 F_i (g := (mkF m 1 #[rv r0] [(.ref r0)])) rfl rfl (Jvm.hb hby d13_1)
  refine own_go st1 ?_
  show Gm p e below T1 m 4 #[rv r0] [(.int (0 : Int32))] _
  exact own_retI X1 hx hlk (t := .boolean) Bd.returns rfl (by simp) (Jvm.hb hby d13_4) e1 ⟨rfl, N0, rfl⟩ (by decide) (by decide)
theorem d14_0 : decode prog_32_method_8_code 0 = .ok (.aload_n 0, 1) := by decide +kernel
theorem d14_1 : decode prog_32_method_8_code 1 = .ok (.getfield 35, 3) := by decide +kernel
theorem d14_4 : decode prog_32_method_8_code 4 = .ok (.ireturn, 1) := by decide +kernel
theorem own_pn_rm_isChoice : plainName "com/example/gettone/gettone/core/Place" = true := by first | (simp [plainName, overriddenIn]; done) | decide +kernel
theorem own_ef_rm_isChoice (m : MethodId) (r0 : Addr) : entryFrame m #[(.ref r0)] 1 = mkF m 0 #[.val (.ref r0)] [] := by first | (simp [entryFrame, mkF, argsToLocals, Value.category]; done) | rfl
def Q_isChoice (Z : State) (r0 : Addr) (h0 : Heap) (n0 : Nat) (v : Option Value) (h : Heap) (L : List Loc) : Prop := v = some (.int (1 : Int32)) ∧ Fr n0 L ∧ h = h0
set_option maxRecDepth 65536 in
set_option maxHeartbeats 40000000 in
theorem rm_isChoice (l : Launch) (Z : State) (a0 : Array Value) (hw : ∀ d ∈ tables_1, d.before a0 Z = true) (ws : List Jvm.Cond) (r0 : Addr) (h0 : Heap) (n0 : Nat) (Z0 : n0 ≤ h0.size) (F_i : Fld Z h0 r0 "com/example/gettone/gettone/core/Place" "choice" "Z" (.int (1 : Int32))) :
    MetFree l (⟨"com/example/gettone/gettone/core/Place", "isChoice", "()Z"⟩ : MethodName) (head1 (Jvm.Cond.code (⟨"com/example/gettone/gettone/core/Place", "isChoice", "()Z"⟩ : MethodName) prog_32_method_8_code 1 (some .boolean) :: ws) ({ frames := 0, cells := 0, slots := 0, locals := 0 } : Room)) (fun a U => a = #[(.ref r0)] ∧ Z.Warmed39 U.vm ∧ U.heap = h0) (fun _ _ _ _ _ => True) (fun _ U o U' => ∃ v L, o = .returned v ∧ Q_isChoice Z r0 h0 n0 v U'.heap L ∧ FrameEnd U o U' L ({ frames := 0, cells := 0, slots := 0, locals := 0 } : Room).cells ({ frames := 0, cells := 0, slots := 0, locals := 0 } : Room).slots) := by
  refine MetFree.of_bodySF (plainFor_of_name own_pn_rm_isChoice) hisR ?_
  intro p e s m args below meth cO s₁ Bd hml0 hP hK
  obtain ⟨rfl, hZ, hh⟩ := hP
  have hx := Bd.exec
  have hby := Bd.bytes
  have hml : cO.maxLocals = 1 := hml0
  have hown : s.vm.findClass "com/example/gettone/gettone/core/Place" = some m.cls := findClass_of_methodNamed Bd.named
  have hnm := (name_of_methodNamed Bd.named Bd.method).1
  have hlk : meth.locks = false := BodyLoose.notSynchronized Bd
  have X0 : Stand p l e ({ frames := 0, cells := 0, slots := 0, locals := 0 } : Room) s m #[(.ref r0)] below meth cO s₁ [] 0 0 := Stand.of_body Bd
  have e0 : s₁.heap = h0 := by rw [← hh, Bd.state]; rfl
  have N0 := Fr.nil n0
  refine own_in (own_ef_rm_isChoice m r0) ?_
  show Gm p e below s₁ m 0 #[rv r0] [] _
  refine own_go (fun t₀ k₀ => XS.aloadN X0.here hx rfl (Jvm.hb hby d14_0) rfl rfl k₀) ?_
  show Gm p e below s₁ m 1 #[rv r0] [(.ref r0)] _
  obtain ⟨T1, X1, e1, st1⟩ := getF X0 hx hZ hown (host := "") (Or.inl (hw _ (List.mem_of_getElem? (i := 51) rfl))) Via.refl e0 F_i (g := (mkF m 1 #[rv r0] [(.ref r0)])) rfl rfl (Jvm.hb hby d14_1)
  refine own_go st1 ?_
  show Gm p e below T1 m 4 #[rv r0] [(.int (1 : Int32))] _
  exact own_retI X1 hx hlk (t := .boolean) Bd.returns rfl (by simp) (Jvm.hb hby d14_4) e1 ⟨rfl, N0, rfl⟩ (by decide) (by decide)
theorem d16_0 : decode jdk_32_method_4_code 0 = .ok (.aload_n 0, 1) := by decide +kernel
theorem d16_1 : decode jdk_32_method_4_code 1 = .ok (.ifnonnull 9, 3) := by decide +kernel
theorem d16_4 : decode jdk_32_method_4_code 4 = .ok (.getstatic 1, 3) := by decide +kernel
theorem d16_7 : decode jdk_32_method_4_code 7 = .ok (.goto 11, 3) := by decide +kernel
theorem d16_18 : decode jdk_32_method_4_code 18 = .ok (.areturn, 1) := by decide +kernel
theorem own_pn_rm_of : plainName "java/util/Optional" = true := by first | (simp [plainName, overriddenIn]; done) | decide +kernel
theorem own_ef_rm_of (m : MethodId)  : entryFrame m #[.null] 1 = mkF m 0 #[.val .null] [] := by first | (simp [entryFrame, mkF, argsToLocals, Value.category]; done) | rfl
def Q_of (Z : State) (aE : Addr) (h0 : Heap) (n0 : Nat) (v : Option Value) (h : Heap) (L : List Loc) : Prop := v = some (.ref aE) ∧ Fr n0 L ∧ h = h0
set_option maxRecDepth 65536 in
set_option maxHeartbeats 40000000 in
theorem rm_of (l : Launch) (Z : State) (a0 : Array Value) (hw : ∀ d ∈ tables_1, d.before a0 Z = true) (ws : List Jvm.Cond) (aE : Addr) (h0 : Heap) (n0 : Nat) (Z0 : n0 ≤ h0.size) (S_e : Sta Z h0 "java/util/Optional" "EMPTY" "Ljava/util/Optional;" (.ref aE)) :
    MetFree l (⟨"java/util/Optional", "ofNullable", "(Ljava/lang/Object;)Ljava/util/Optional;"⟩ : MethodName) (head1 (Jvm.Cond.code (⟨"java/util/Optional", "ofNullable", "(Ljava/lang/Object;)Ljava/util/Optional;"⟩ : MethodName) jdk_32_method_4_code 1 (some (.object "java/util/Optional")) :: ws) ({ frames := 0, cells := 0, slots := 0, locals := 0 } : Room)) (fun a U => a = #[.null] ∧ Z.Warmed39 U.vm ∧ U.heap = h0) (fun _ _ _ _ _ => True) (fun _ U o U' => ∃ v L, o = .returned v ∧ Q_of Z aE h0 n0 v U'.heap L ∧ FrameEnd U o U' L ({ frames := 0, cells := 0, slots := 0, locals := 0 } : Room).cells ({ frames := 0, cells := 0, slots := 0, locals := 0 } : Room).slots) := by
  refine MetFree.of_bodySF (plainFor_of_name own_pn_rm_of) hisR ?_
  intro p e s m args below meth cO s₁ Bd hml0 hP hK
  obtain ⟨rfl, hZ, hh⟩ := hP
  have hx := Bd.exec
  have hby := Bd.bytes
  have hml : cO.maxLocals = 1 := hml0
  have hown : s.vm.findClass "java/util/Optional" = some m.cls := findClass_of_methodNamed Bd.named
  have hnm := (name_of_methodNamed Bd.named Bd.method).1
  have hlk : meth.locks = false := BodyLoose.notSynchronized Bd
  have X0 : Stand p l e ({ frames := 0, cells := 0, slots := 0, locals := 0 } : Room) s m #[.null] below meth cO s₁ [] 0 0 := Stand.of_body Bd
  have e0 : s₁.heap = h0 := by rw [← hh, Bd.state]; rfl
  have N0 := Fr.nil n0
  refine own_in (own_ef_rm_of m ) ?_
  show Gm p e below s₁ m 0 #[.val .null] [] _
  refine own_go (fun t₀ k₀ => XS.aloadN X0.here hx rfl (Jvm.hb hby d16_0) rfl rfl k₀) ?_
  show Gm p e below s₁ m 1 #[.val .null] [.null] _
  refine own_go (fun t₀ k₀ => XS.ifnonnullNo X0.here hx rfl (Jvm.hb hby d16_1) rfl k₀) ?_
  show Gm p e below s₁ m 4 #[.val .null] [] _
  obtain ⟨T1, X1, e1, st1⟩ := getS2 X0 hx hZ hown (host := "") (Or.inl (hw _ (List.mem_of_getElem? (i := 98) rfl))) Via.refl e0 S_e (g := (mkF m 4 #[.val .null] [])) rfl (Jvm.hb hby d16_4)
  refine own_go st1 ?_
  show Gm p e below T1 m 7 #[.val .null] [(.ref aE)] _
  refine own_go (fun t₀ k₀ => XS.goto X1.here hx rfl (pc0 := 7) (pc' := 18) rfl (Jvm.hb hby d16_7) (by decide) (by decide) k₀) ?_
  show Gm p e below T1 m 18 #[.val .null] [(.ref aE)] _
  exact own_retA X1 hx hlk rfl Bd.returns rfl (Jvm.hb hby d16_18) e1 ⟨rfl, N0, rfl⟩ (by decide) (by decide)
theorem d15_0 : decode prog_32_method_7_code 0 = .ok (.aload_n 0, 1) := by decide +kernel
theorem d15_1 : decode prog_32_method_7_code 1 = .ok (.getfield 32, 3) := by decide +kernel
theorem d15_4 : decode prog_32_method_7_code 4 = .ok (.invokestatic 38, 3) := by decide +kernel
theorem d15_7 : decode prog_32_method_7_code 7 = .ok (.areturn, 1) := by decide +kernel
theorem own_pd7 : parseMethodDescriptor "(Ljava/lang/Object;)Ljava/util/Optional;" = some ⟨[(.object "java/lang/Object")], some (.object "java/util/Optional")⟩ := by decide +kernel
theorem own_pn_rm_origin : plainName "com/example/gettone/gettone/core/Place" = true := by first | (simp [plainName, overriddenIn]; done) | decide +kernel
theorem own_ef_rm_origin (m : MethodId) (r0 : Addr) : entryFrame m #[(.ref r0)] 1 = mkF m 0 #[.val (.ref r0)] [] := by first | (simp [entryFrame, mkF, argsToLocals, Value.category]; done) | rfl
def Q_origin (Z : State) (r0 : Addr) (aE : Addr) (h0 : Heap) (n0 : Nat) (v : Option Value) (h : Heap) (L : List Loc) : Prop := v = some (.ref aE) ∧ Fr n0 L ∧ h = h0
set_option maxRecDepth 65536 in
set_option maxHeartbeats 40000000 in
theorem rm_origin (l : Launch) (Z : State) (a0 : Array Value) (hw : ∀ d ∈ tables_1, d.before a0 Z = true) (ws : List Jvm.Cond) (r0 : Addr) (aE : Addr) (h0 : Heap) (n0 : Nat) (Z0 : n0 ≤ h0.size) (S_e : Sta Z h0 "java/util/Optional" "EMPTY" "Ljava/util/Optional;" (.ref aE)) (F_o : Fld Z h0 r0 "com/example/gettone/gettone/core/Place" "origin" "Ljava/lang/String;" .null) :
    MetFree l (⟨"com/example/gettone/gettone/core/Place", "origin", "()Ljava/util/Optional;"⟩ : MethodName) (head1 (Jvm.Cond.code (⟨"com/example/gettone/gettone/core/Place", "origin", "()Ljava/util/Optional;"⟩ : MethodName) prog_32_method_7_code 1 (some (.object "java/util/Optional")) :: ws) ({ frames := 1, cells := 0, slots := 0, locals := 12 } : Room)) (fun a U => a = #[(.ref r0)] ∧ Z.Warmed39 U.vm ∧ U.heap = h0) (fun _ _ _ _ _ => True) (fun _ U o U' => ∃ v L, o = .returned v ∧ Q_origin Z r0 aE h0 n0 v U'.heap L ∧ FrameEnd U o U' L ({ frames := 1, cells := 0, slots := 0, locals := 12 } : Room).cells ({ frames := 1, cells := 0, slots := 0, locals := 12 } : Room).slots) := by
  refine MetFree.of_bodySF (plainFor_of_name own_pn_rm_origin) hisR ?_
  intro p e s m args below meth cO s₁ Bd hml0 hP hK
  obtain ⟨rfl, hZ, hh⟩ := hP
  have hx := Bd.exec
  have hby := Bd.bytes
  have hml : cO.maxLocals = 1 := hml0
  have hown : s.vm.findClass "com/example/gettone/gettone/core/Place" = some m.cls := findClass_of_methodNamed Bd.named
  have hnm := (name_of_methodNamed Bd.named Bd.method).1
  have hlk : meth.locks = false := BodyLoose.notSynchronized Bd
  have X0 : Stand p l e ({ frames := 1, cells := 0, slots := 0, locals := 12 } : Room) s m #[(.ref r0)] below meth cO s₁ [] 0 0 := Stand.of_body Bd
  have e0 : s₁.heap = h0 := by rw [← hh, Bd.state]; rfl
  have N0 := Fr.nil n0
  refine own_in (own_ef_rm_origin m r0) ?_
  show Gm p e below s₁ m 0 #[rv r0] [] _
  refine own_go (fun t₀ k₀ => XS.aloadN X0.here hx rfl (Jvm.hb hby d15_0) rfl rfl k₀) ?_
  show Gm p e below s₁ m 1 #[rv r0] [(.ref r0)] _
  obtain ⟨T1, X1, e1, st1⟩ := getF X0 hx hZ hown (host := "") (Or.inl (hw _ (List.mem_of_getElem? (i := 49) rfl))) Via.refl e0 F_o (g := (mkF m 1 #[rv r0] [(.ref r0)])) rfl rfl (Jvm.hb hby d15_1)
  refine own_go st1 ?_
  show Gm p e below T1 m 4 #[rv r0] [.null] _
  obtain ⟨_, _, ⟨T2, L2, k2, n2⟩, -, X2, ⟨Lc2, hQ2, l2, y2, z2⟩, st2⟩ := Jvm.LawKit.callS X1 hx (y := (⟨"java/util/Optional", "ofNullable", "(Ljava/lang/Object;)Ljava/util/Optional;"⟩ : MethodName)) hown (mvT hZ (hw _ (List.mem_of_getElem? (i := 94) rfl))) (mvT hZ (hw _ (List.mem_of_getElem? (i := 95) rfl))) (mvT hZ (hw _ (List.mem_of_getElem? (i := 96) rfl))) (mvT hZ (hw _ (List.mem_of_getElem? (i := 97) rfl))) (by decide) (backOf (W := 0) (rm_of l Z a0 hw [] aE h0 n0 Z0 S_e) hZ (hw _ (List.mem_of_getElem? (i := 97) rfl)) (hw _ (List.mem_of_getElem? (i := 96) rfl)) (by decide) (by decide)) (g := (mkF m 4 #[rv r0] [.null])) rfl (by rw [hml]; rfl) (argsL := [.null]) (rest := []) (lenOf own_pd7 rfl) rfl (by show 2 * 0 + _ ≤ _; exact Nat.le_of_eq rfl) (Jvm.hb hby d15_4) (fun _ _ => ⟨rfl, e1, (by decide : 0 + 0 ≤ _), (by decide : 0 + 0 ≤ _)⟩)
  dsimp only [Pt.U, Pt.locs, Pt.cells, Pt.slots] at X2 l2 y2 z2 st2 hQ2
  subst l2 y2 z2
  obtain ⟨rfl, Nq2, eq2⟩ := hQ2
  have N2 := Fr.app N0 Nq2
  have e2 : T2.heap = h0 := eq2
  refine own_go st2 ?_
  show Gm p e below T2 m 7 #[rv r0] [(.ref aE)] _
  exact own_retA X2 hx hlk rfl Bd.returns rfl (Jvm.hb hby d15_7) e2 ⟨rfl, N2, rfl⟩ (by decide) (by decide)
theorem d17_0 : decode jdk_32_method_6_code 0 = .ok (.aload_n 0, 1) := by decide +kernel
theorem d17_1 : decode jdk_32_method_6_code 1 = .ok (.getfield 13, 3) := by decide +kernel
theorem d17_4 : decode jdk_32_method_6_code 4 = .ok (.ifnull 7, 3) := by decide +kernel
theorem d17_11 : decode jdk_32_method_6_code 11 = .ok (.iconst 0, 1) := by decide +kernel
theorem d17_12 : decode jdk_32_method_6_code 12 = .ok (.ireturn, 1) := by decide +kernel
theorem own_pn_rm_isPresent : plainName "java/util/Optional" = true := by first | (simp [plainName, overriddenIn]; done) | decide +kernel
theorem own_ef_rm_isPresent (m : MethodId) (r0 : Addr) : entryFrame m #[(.ref r0)] 1 = mkF m 0 #[.val (.ref r0)] [] := by first | (simp [entryFrame, mkF, argsToLocals, Value.category]; done) | rfl
def Q_isPresent (Z : State) (r0 : Addr) (h0 : Heap) (n0 : Nat) (v : Option Value) (h : Heap) (L : List Loc) : Prop := v = some (.int (0 : Int32)) ∧ Fr n0 L ∧ h = h0
set_option maxRecDepth 65536 in
set_option maxHeartbeats 40000000 in
theorem rm_isPresent (l : Launch) (Z : State) (a0 : Array Value) (hw : ∀ d ∈ tables_1, d.before a0 Z = true) (ws : List Jvm.Cond) (r0 : Addr) (h0 : Heap) (n0 : Nat) (Z0 : n0 ≤ h0.size) (F_o : Fld Z h0 r0 "java/util/Optional" "value" "Ljava/lang/Object;" .null) :
    MetFree l (⟨"java/util/Optional", "isPresent", "()Z"⟩ : MethodName) (head1 (Jvm.Cond.code (⟨"java/util/Optional", "isPresent", "()Z"⟩ : MethodName) jdk_32_method_6_code 1 (some .boolean) :: ws) ({ frames := 0, cells := 0, slots := 0, locals := 0 } : Room)) (fun a U => a = #[(.ref r0)] ∧ Z.Warmed39 U.vm ∧ U.heap = h0) (fun _ _ _ _ _ => True) (fun _ U o U' => ∃ v L, o = .returned v ∧ Q_isPresent Z r0 h0 n0 v U'.heap L ∧ FrameEnd U o U' L ({ frames := 0, cells := 0, slots := 0, locals := 0 } : Room).cells ({ frames := 0, cells := 0, slots := 0, locals := 0 } : Room).slots) := by
  refine MetFree.of_bodySF (plainFor_of_name own_pn_rm_isPresent) hisR ?_
  intro p e s m args below meth cO s₁ Bd hml0 hP hK
  obtain ⟨rfl, hZ, hh⟩ := hP
  have hx := Bd.exec
  have hby := Bd.bytes
  have hml : cO.maxLocals = 1 := hml0
  have hown : s.vm.findClass "java/util/Optional" = some m.cls := findClass_of_methodNamed Bd.named
  have hnm := (name_of_methodNamed Bd.named Bd.method).1
  have hlk : meth.locks = false := BodyLoose.notSynchronized Bd
  have X0 : Stand p l e ({ frames := 0, cells := 0, slots := 0, locals := 0 } : Room) s m #[(.ref r0)] below meth cO s₁ [] 0 0 := Stand.of_body Bd
  have e0 : s₁.heap = h0 := by rw [← hh, Bd.state]; rfl
  have N0 := Fr.nil n0
  refine own_in (own_ef_rm_isPresent m r0) ?_
  show Gm p e below s₁ m 0 #[rv r0] [] _
  refine own_go (fun t₀ k₀ => XS.aloadN X0.here hx rfl (Jvm.hb hby d17_0) rfl rfl k₀) ?_
  show Gm p e below s₁ m 1 #[rv r0] [(.ref r0)] _
  obtain ⟨T1, X1, e1, st1⟩ := getF X0 hx hZ hown (host := "") (Or.inl (hw _ (List.mem_of_getElem? (i := 104) rfl))) Via.refl e0 F_o (g := (mkF m 1 #[rv r0] [(.ref r0)])) rfl rfl (Jvm.hb hby d17_1)
  refine own_go st1 ?_
  show Gm p e below T1 m 4 #[rv r0] [.null] _
  refine own_go (fun t₀ k₀ => XS.ifnullYes X1.here hx rfl (pc0 := 4) (pc' := 11) rfl (Jvm.hb hby d17_4) rfl (by decide) (by decide) k₀) ?_
  show Gm p e below T1 m 11 #[rv r0] [] _
  refine own_go (fun t₀ k₀ => XS.iconst X1.here hx rfl (Jvm.hb hby d17_11) k₀) ?_
  show Gm p e below T1 m 12 #[rv r0] [(.int (0 : Int32))] _
  exact own_retI X1 hx hlk (t := .boolean) Bd.returns rfl (by simp) (Jvm.hb hby d17_12) e1 ⟨rfl, N0, rfl⟩ (by decide) (by decide)
theorem d10_0 : decode jdk_43_method_13_code 0 = .ok (.aload_n 0, 1) := by decide +kernel
theorem d10_1 : decode jdk_43_method_13_code 1 = .ok (.arraylength, 1) := by decide +kernel
theorem d10_2 : decode jdk_43_method_13_code 2 = .ok (.aload_n 1, 1) := by decide +kernel
theorem d10_3 : decode jdk_43_method_13_code 3 = .ok (.arraylength, 1) := by decide +kernel
theorem d10_4 : decode jdk_43_method_13_code 4 = .ok (.if_icmp .ne 30, 3) := by decide +kernel
theorem d10_7 : decode jdk_43_method_13_code 7 = .ok (.iconst 0, 1) := by decide +kernel
theorem d10_8 : decode jdk_43_method_13_code 8 = .ok (.istore_n 2, 1) := by decide +kernel
theorem d10_9 : decode jdk_43_method_13_code 9 = .ok (.iload_n 2, 1) := by decide +kernel
theorem d10_10 : decode jdk_43_method_13_code 10 = .ok (.aload_n 0, 1) := by decide +kernel
theorem d10_11 : decode jdk_43_method_13_code 11 = .ok (.arraylength, 1) := by decide +kernel
theorem d10_12 : decode jdk_43_method_13_code 12 = .ok (.if_icmp .ge 20, 3) := by decide +kernel
theorem d10_32 : decode jdk_43_method_13_code 32 = .ok (.iconst 1, 1) := by decide +kernel
theorem d10_33 : decode jdk_43_method_13_code 33 = .ok (.ireturn, 1) := by decide +kernel
theorem own_pn_rmL_0 : plainName "java/lang/StringLatin1" = true := by first | (simp [plainName, overriddenIn]; done) | decide +kernel
theorem own_ef_rmL_0 (m : MethodId) (r0 : Addr) (r1 : Addr) : entryFrame m #[(.ref r0), (.ref r1)] 3 = mkF m 0 #[.val (.ref r0), .val (.ref r1), .unset] [] := by first | (simp [entryFrame, mkF, argsToLocals, Value.category]; done) | rfl
def QL_0 (Z : State) (r0 : Addr) (r1 : Addr) (f : Nat → Value) (g : Nat → Value) (h0 : Heap) (n0 : Nat) (v : Option Value) (h : Heap) (L : List Loc) : Prop := v = some (.int (1 : Int32)) ∧ Fr n0 L ∧ h = h0
set_option maxRecDepth 65536 in
set_option maxHeartbeats 40000000 in
theorem rmL_0 (l : Launch) (Z : State) (a0 : Array Value) (hw : ∀ d ∈ tables_1, d.before a0 Z = true) (ws : List Jvm.Cond) (r0 : Addr) (r1 : Addr) (f : Nat → Value) (g : Nat → Value) (h0 : Heap) (n0 : Nat) (Z0 : n0 ≤ h0.size) (A : Af Z h0 r0 .byte 0 f) (B : Af Z h0 r1 .byte 0 g) :
    MetFree l (⟨"java/lang/StringLatin1", "equals", "([B[B)Z"⟩ : MethodName) (head1 (Jvm.Cond.code (⟨"java/lang/StringLatin1", "equals", "([B[B)Z"⟩ : MethodName) jdk_43_method_13_code 3 (some .boolean) :: ws) ({ frames := 0, cells := 0, slots := 0, locals := 0 } : Room)) (fun a U => a = #[(.ref r0), (.ref r1)] ∧ Z.Warmed39 U.vm ∧ U.heap = h0) (fun _ _ _ _ _ => True) (fun _ U o U' => ∃ v L, o = .returned v ∧ QL_0 Z r0 r1 f g h0 n0 v U'.heap L ∧ FrameEnd U o U' L ({ frames := 0, cells := 0, slots := 0, locals := 0 } : Room).cells ({ frames := 0, cells := 0, slots := 0, locals := 0 } : Room).slots) := by
  refine MetFree.of_bodySF (plainFor_of_name own_pn_rmL_0) hisR ?_
  intro p e s m args below meth cO s₁ Bd hml0 hP hK
  obtain ⟨rfl, hZ, hh⟩ := hP
  have hx := Bd.exec
  have hby := Bd.bytes
  have hml : cO.maxLocals = 3 := hml0
  have hown : s.vm.findClass "java/lang/StringLatin1" = some m.cls := findClass_of_methodNamed Bd.named
  have hnm := (name_of_methodNamed Bd.named Bd.method).1
  have hlk : meth.locks = false := BodyLoose.notSynchronized Bd
  have X0 : Stand p l e ({ frames := 0, cells := 0, slots := 0, locals := 0 } : Room) s m #[(.ref r0), (.ref r1)] below meth cO s₁ [] 0 0 := Stand.of_body Bd
  have e0 : s₁.heap = h0 := by rw [← hh, Bd.state]; rfl
  have N0 := Fr.nil n0
  refine own_in (own_ef_rmL_0 m r0 r1) ?_
  show Gm p e below s₁ m 0 #[rv r0, rv r1, .unset] [] _
  refine own_go (fun t₀ k₀ => XS.aloadN X0.here hx rfl (Jvm.hb hby d10_0) rfl rfl k₀) ?_
  show Gm p e below s₁ m 1 #[rv r0, rv r1, .unset] [(.ref r0)] _
  refine own_go (fun t₀ k₀ => own_len X0 hx hZ e0 A (z := (0 : Int32)) rfl (g := (mkF m 1 #[rv r0, rv r1, .unset] [(.ref r0)])) rfl rfl (Jvm.hb hby d10_1) k₀) ?_
  show Gm p e below s₁ m 2 #[rv r0, rv r1, .unset] [(.int (0 : Int32))] _
  refine own_go (fun t₀ k₀ => XS.aloadN X0.here hx rfl (Jvm.hb hby d10_2) rfl rfl k₀) ?_
  show Gm p e below s₁ m 3 #[rv r0, rv r1, .unset] [(.ref r1), (.int (0 : Int32))] _
  refine own_go (fun t₀ k₀ => own_len X0 hx hZ e0 B (z := (0 : Int32)) rfl (g := (mkF m 3 #[rv r0, rv r1, .unset] [(.ref r1), (.int (0 : Int32))])) rfl rfl (Jvm.hb hby d10_3) k₀) ?_
  show Gm p e below s₁ m 4 #[rv r0, rv r1, .unset] [(.int (0 : Int32)), (.int (0 : Int32))] _
  refine own_go (fun t₀ k₀ => XS.icmpNo X0.here hx rfl (Jvm.hb hby d10_4) rfl (XT.ii_ne_f (by decide)) k₀) ?_
  show Gm p e below s₁ m 7 #[rv r0, rv r1, .unset] [] _
  refine own_go (fun t₀ k₀ => XS.iconst X0.here hx rfl (Jvm.hb hby d10_7) k₀) ?_
  show Gm p e below s₁ m 8 #[rv r0, rv r1, .unset] [(.int (0 : Int32))] _
  refine own_go (fun t₀ k₀ => XS.istoreN X0.here hx rfl (Jvm.hb hby d10_8) rfl (l' := #[rv r0, rv r1, iv (0 : Int32)]) rfl k₀) ?_
  show Gm p e below s₁ m 9 #[rv r0, rv r1, iv (0 : Int32)] [] _
  refine own_go (fun t₀ k₀ => XS.iloadN X0.here hx rfl (Jvm.hb hby d10_9) rfl k₀) ?_
  show Gm p e below s₁ m 10 #[rv r0, rv r1, iv (0 : Int32)] [(.int (0 : Int32))] _
  refine own_go (fun t₀ k₀ => XS.aloadN X0.here hx rfl (Jvm.hb hby d10_10) rfl rfl k₀) ?_
  show Gm p e below s₁ m 11 #[rv r0, rv r1, iv (0 : Int32)] [(.ref r0), (.int (0 : Int32))] _
  refine own_go (fun t₀ k₀ => own_len X0 hx hZ e0 A (z := (0 : Int32)) rfl (g := (mkF m 11 #[rv r0, rv r1, iv (0 : Int32)] [(.ref r0), (.int (0 : Int32))])) rfl rfl (Jvm.hb hby d10_11) k₀) ?_
  show Gm p e below s₁ m 12 #[rv r0, rv r1, iv (0 : Int32)] [(.int (0 : Int32)), (.int (0 : Int32))] _
  refine own_go (fun t₀ k₀ => XS.icmpYes X0.here hx rfl (pc0 := 12) (pc' := 32) rfl (Jvm.hb hby d10_12) rfl (XT.ii_ge_t (by decide)) (by decide) (by decide) k₀) ?_
  show Gm p e below s₁ m 32 #[rv r0, rv r1, iv (0 : Int32)] [] _
  refine own_go (fun t₀ k₀ => XS.iconst X0.here hx rfl (Jvm.hb hby d10_32) k₀) ?_
  show Gm p e below s₁ m 33 #[rv r0, rv r1, iv (0 : Int32)] [(.int (1 : Int32))] _
  exact own_retI X0 hx hlk (t := .boolean) Bd.returns rfl (by simp) (Jvm.hb hby d10_33) e0 ⟨rfl, N0, rfl⟩ (by decide) (by decide)
def QE (h0 : Heap) (n0 : Nat) (v : Option Value) (h : Heap) (L : List Loc) : Prop := v = some (.int (1 : Int32)) ∧ Fr n0 L ∧ h = h0
theorem d9_0 : decode jdk_42_method_66_code 0 = .ok (.aload_n 0, 1) := by decide +kernel
theorem d9_1 : decode jdk_42_method_66_code 1 = .ok (.aload_n 1, 1) := by decide +kernel
theorem d9_2 : decode jdk_42_method_66_code 2 = .ok (.if_acmp .ne 5, 3) := by decide +kernel
theorem d9_5 : decode jdk_42_method_66_code 5 = .ok (.iconst 1, 1) := by decide +kernel
theorem d9_6 : decode jdk_42_method_66_code 6 = .ok (.ireturn, 1) := by decide +kernel
theorem d9_7 : decode jdk_42_method_66_code 7 = .ok (.aload_n 1, 1) := by decide +kernel
theorem d9_8 : decode jdk_42_method_66_code 8 = .ok (.instanceof 10, 3) := by decide +kernel
theorem d9_11 : decode jdk_42_method_66_code 11 = .ok (.ifCond .eq 43, 3) := by decide +kernel
theorem d9_14 : decode jdk_42_method_66_code 14 = .ok (.aload_n 1, 1) := by decide +kernel
theorem d9_15 : decode jdk_42_method_66_code 15 = .ok (.checkcast 10, 3) := by decide +kernel
theorem d9_18 : decode jdk_42_method_66_code 18 = .ok (.astore_n 2, 1) := by decide +kernel
theorem d9_19 : decode jdk_42_method_66_code 19 = .ok (.getstatic 38, 3) := by decide +kernel
theorem d9_22 : decode jdk_42_method_66_code 22 = .ok (.ifCond .eq 14, 3) := by decide +kernel
theorem d9_25 : decode jdk_42_method_66_code 25 = .ok (.aload_n 0, 1) := by decide +kernel
theorem d9_26 : decode jdk_42_method_66_code 26 = .ok (.getfield 15, 3) := by decide +kernel
theorem d9_29 : decode jdk_42_method_66_code 29 = .ok (.aload_n 2, 1) := by decide +kernel
theorem d9_30 : decode jdk_42_method_66_code 30 = .ok (.getfield 15, 3) := by decide +kernel
theorem d9_33 : decode jdk_42_method_66_code 33 = .ok (.if_icmp .ne 21, 3) := by decide +kernel
theorem d9_36 : decode jdk_42_method_66_code 36 = .ok (.aload_n 0, 1) := by decide +kernel
theorem d9_37 : decode jdk_42_method_66_code 37 = .ok (.getfield 9, 3) := by decide +kernel
theorem d9_40 : decode jdk_42_method_66_code 40 = .ok (.aload_n 2, 1) := by decide +kernel
theorem d9_41 : decode jdk_42_method_66_code 41 = .ok (.getfield 9, 3) := by decide +kernel
theorem d9_44 : decode jdk_42_method_66_code 44 = .ok (.invokestatic 541, 3) := by decide +kernel
theorem d9_47 : decode jdk_42_method_66_code 47 = .ok (.ifCond .eq 7, 3) := by decide +kernel
theorem d9_50 : decode jdk_42_method_66_code 50 = .ok (.iconst 1, 1) := by decide +kernel
theorem d9_51 : decode jdk_42_method_66_code 51 = .ok (.goto 4, 3) := by decide +kernel
theorem d9_55 : decode jdk_42_method_66_code 55 = .ok (.ireturn, 1) := by decide +kernel
theorem own_pd8 : parseMethodDescriptor "([B[B)Z" = some ⟨[(.array .byte), (.array .byte)], some .boolean⟩ := by decide +kernel
theorem own_pn_rmE_0 : plainName "java/lang/String" = true := by first | (simp [plainName, overriddenIn]; done) | decide +kernel
theorem own_ef_rmE_0 (m : MethodId) (r0 : Addr) (r1 : Addr) : entryFrame m #[(.ref r0), (.ref r1)] 3 = mkF m 0 #[.val (.ref r0), .val (.ref r1), .unset] [] := by first | (simp [entryFrame, mkF, argsToLocals, Value.category]; done) | rfl
set_option maxRecDepth 65536 in
set_option maxHeartbeats 40000000 in
theorem rmE_0 (l : Launch) (Z : State) (a0 : Array Value) (hw : ∀ d ∈ tables_1, d.before a0 Z = true) (ws : List Jvm.Cond) (r0 : Addr) (r1 : Addr) (b0 : Addr) (b1 : Addr) (f : Nat → Value) (g : Nat → Value) (cs : Int32) (h0 : Heap) (n0 : Nat) (Z0 : n0 ≤ h0.size) (E_r1 : Exa Z h0 r1 "java/lang/String") (F_c0 : Fld Z h0 r0 "java/lang/String" "coder" "B" (.int (0 : Int32))) (F_c1 : Fld Z h0 r1 "java/lang/String" "coder" "B" (.int (0 : Int32))) (F_v0 : Fld Z h0 r0 "java/lang/String" "value" "[B" (.ref b0)) (F_v1 : Fld Z h0 r1 "java/lang/String" "value" "[B" (.ref b1)) (A : Af Z h0 b0 .byte 0 f) (B : Af Z h0 b1 .byte 0 g) (S_c : Sta Z h0 "java/lang/String" "COMPACT_STRINGS" "Z" (.int cs)) (hcs : ¬ cs = 0) :
    MetFree l (⟨"java/lang/String", "equals", "(Ljava/lang/Object;)Z"⟩ : MethodName) (head1 (Jvm.Cond.code (⟨"java/lang/String", "equals", "(Ljava/lang/Object;)Z"⟩ : MethodName) jdk_42_method_66_code 3 (some .boolean) :: ws) ({ frames := 1, cells := 0, slots := 0, locals := 14 } : Room)) (fun a U => a = #[(.ref r0), (.ref r1)] ∧ Z.Warmed39 U.vm ∧ U.heap = h0) (fun _ _ _ _ _ => True) (fun _ U o U' => ∃ v L, o = .returned v ∧ QE h0 n0 v U'.heap L ∧ FrameEnd U o U' L ({ frames := 1, cells := 0, slots := 0, locals := 14 } : Room).cells ({ frames := 1, cells := 0, slots := 0, locals := 14 } : Room).slots) := by
  refine MetFree.of_bodySF (plainFor_of_name own_pn_rmE_0) hisR ?_
  intro p e s m args below meth cO s₁ Bd hml0 hP hK
  obtain ⟨rfl, hZ, hh⟩ := hP
  have hx := Bd.exec
  have hby := Bd.bytes
  have hml : cO.maxLocals = 3 := hml0
  have hown : s.vm.findClass "java/lang/String" = some m.cls := findClass_of_methodNamed Bd.named
  have hnm := (name_of_methodNamed Bd.named Bd.method).1
  have hlk : meth.locks = false := BodyLoose.notSynchronized Bd
  have X0 : Stand p l e ({ frames := 1, cells := 0, slots := 0, locals := 14 } : Room) s m #[(.ref r0), (.ref r1)] below meth cO s₁ [] 0 0 := Stand.of_body Bd
  have e0 : s₁.heap = h0 := by rw [← hh, Bd.state]; rfl
  have N0 := Fr.nil n0
  refine own_in (own_ef_rmE_0 m r0 r1) ?_
  show Gm p e below s₁ m 0 #[rv r0, rv r1, .unset] [] _
  refine own_go (fun t₀ k₀ => XS.aloadN X0.here hx rfl (Jvm.hb hby d9_0) rfl rfl k₀) ?_
  show Gm p e below s₁ m 1 #[rv r0, rv r1, .unset] [(.ref r0)] _
  refine own_go (fun t₀ k₀ => XS.aloadN X0.here hx rfl (Jvm.hb hby d9_1) rfl rfl k₀) ?_
  show Gm p e below s₁ m 2 #[rv r0, rv r1, .unset] [(.ref r1), (.ref r0)] _
  by_cases c1 : r0 = r1
  · have hfork := trivial
    refine own_go (fun t₀ k₀ => XT.acmpNo X0.here hx rfl (Jvm.hb hby d9_2) rfl rfl rfl (XT.aa_ne_f (congrArg Value.ref c1)) k₀) ?_
    show Gm p e below s₁ m 5 #[rv r0, rv r1, .unset] [] _
    refine own_go (fun t₀ k₀ => XS.iconst X0.here hx rfl (Jvm.hb hby d9_5) k₀) ?_
    show Gm p e below s₁ m 6 #[rv r0, rv r1, .unset] [(.int (1 : Int32))] _
    exact own_retI X0 hx hlk (t := .boolean) Bd.returns rfl (by simp) (Jvm.hb hby d9_6) e0 ⟨rfl, N0, rfl⟩ (by decide) (by decide)
  · have hfork := trivial
    refine own_go (fun t₀ k₀ => XT.acmpYes X0.here hx rfl (pc0 := 2) (pc' := 7) rfl (Jvm.hb hby d9_2) rfl rfl rfl (XT.aa_ne_t (fun q => c1 (Value.ref.inj q))) (by decide) (by decide) k₀) ?_
    show Gm p e below s₁ m 7 #[rv r0, rv r1, .unset] [] _
    refine own_go (fun t₀ k₀ => XS.aloadN X0.here hx rfl (Jvm.hb hby d9_7) rfl rfl k₀) ?_
    show Gm p e below s₁ m 8 #[rv r0, rv r1, .unset] [(.ref r1)] _
    obtain ⟨T2, X2, e2, st2⟩ := instY X0 hx hZ hown (hw _ (List.mem_of_getElem? (i := 63) rfl)) e0 (Ins.self E_r1) (g := (mkF m 8 #[rv r0, rv r1, .unset] [(.ref r1)])) rfl rfl (Jvm.hb hby d9_8)
    refine own_go st2 ?_
    show Gm p e below T2 m 11 #[rv r0, rv r1, .unset] [(.int (1 : Int32))] _
    refine own_go (fun t₀ k₀ => XS.ifNo X2.here hx rfl (Jvm.hb hby d9_11) rfl (XT.i0_eq_f (by decide)) k₀) ?_
    show Gm p e below T2 m 14 #[rv r0, rv r1, .unset] [] _
    refine own_go (fun t₀ k₀ => XS.aloadN X2.here hx rfl (Jvm.hb hby d9_14) rfl rfl k₀) ?_
    show Gm p e below T2 m 15 #[rv r0, rv r1, .unset] [(.ref r1)] _
    obtain ⟨T3, X3, e3, st3⟩ := castY X2 hx hZ hown (hw _ (List.mem_of_getElem? (i := 63) rfl)) e2 (Ins.self E_r1) (g := (mkF m 15 #[rv r0, rv r1, .unset] [(.ref r1)])) rfl rfl (Jvm.hb hby d9_15)
    refine own_go st3 ?_
    show Gm p e below T3 m 18 #[rv r0, rv r1, .unset] [(.ref r1)] _
    refine own_go (fun t₀ k₀ => XS.astoreN X3.here hx rfl (Jvm.hb hby d9_18) rfl rfl (l' := #[rv r0, rv r1, rv r1]) rfl k₀) ?_
    show Gm p e below T3 m 19 #[rv r0, rv r1, rv r1] [] _
    obtain ⟨T4, X4, e4, st4⟩ := getS2 X3 hx hZ hown (host := "") (Or.inl (hw _ (List.mem_of_getElem? (i := 64) rfl))) Via.refl e3 S_c (g := (mkF m 19 #[rv r0, rv r1, rv r1] [])) rfl (Jvm.hb hby d9_19)
    refine own_go st4 ?_
    show Gm p e below T4 m 22 #[rv r0, rv r1, rv r1] [(.int cs)] _
    refine own_go (fun t₀ k₀ => XS.ifNo X4.here hx rfl (Jvm.hb hby d9_22) rfl (XT.i0_eq_f hcs) k₀) ?_
    show Gm p e below T4 m 25 #[rv r0, rv r1, rv r1] [] _
    refine own_go (fun t₀ k₀ => XS.aloadN X4.here hx rfl (Jvm.hb hby d9_25) rfl rfl k₀) ?_
    show Gm p e below T4 m 26 #[rv r0, rv r1, rv r1] [(.ref r0)] _
    obtain ⟨T5, X5, e5, st5⟩ := getF X4 hx hZ hown (host := "") (Or.inl (hw _ (List.mem_of_getElem? (i := 26) rfl))) Via.refl e4 F_c0 (g := (mkF m 26 #[rv r0, rv r1, rv r1] [(.ref r0)])) rfl rfl (Jvm.hb hby d9_26)
    refine own_go st5 ?_
    show Gm p e below T5 m 29 #[rv r0, rv r1, rv r1] [(.int (0 : Int32))] _
    refine own_go (fun t₀ k₀ => XS.aloadN X5.here hx rfl (Jvm.hb hby d9_29) rfl rfl k₀) ?_
    show Gm p e below T5 m 30 #[rv r0, rv r1, rv r1] [(.ref r1), (.int (0 : Int32))] _
    obtain ⟨T6, X6, e6, st6⟩ := getF X5 hx hZ hown (host := "") (Or.inl (hw _ (List.mem_of_getElem? (i := 26) rfl))) Via.refl e5 F_c1 (g := (mkF m 30 #[rv r0, rv r1, rv r1] [(.ref r1), (.int (0 : Int32))])) rfl rfl (Jvm.hb hby d9_30)
    refine own_go st6 ?_
    show Gm p e below T6 m 33 #[rv r0, rv r1, rv r1] [(.int (0 : Int32)), (.int (0 : Int32))] _
    refine own_go (fun t₀ k₀ => XS.icmpNo X6.here hx rfl (Jvm.hb hby d9_33) rfl (XT.ii_ne_f (by decide)) k₀) ?_
    show Gm p e below T6 m 36 #[rv r0, rv r1, rv r1] [] _
    refine own_go (fun t₀ k₀ => XS.aloadN X6.here hx rfl (Jvm.hb hby d9_36) rfl rfl k₀) ?_
    show Gm p e below T6 m 37 #[rv r0, rv r1, rv r1] [(.ref r0)] _
    obtain ⟨T7, X7, e7, st7⟩ := getF X6 hx hZ hown (host := "") (Or.inl (hw _ (List.mem_of_getElem? (i := 25) rfl))) Via.refl e6 F_v0 (g := (mkF m 37 #[rv r0, rv r1, rv r1] [(.ref r0)])) rfl rfl (Jvm.hb hby d9_37)
    refine own_go st7 ?_
    show Gm p e below T7 m 40 #[rv r0, rv r1, rv r1] [(.ref b0)] _
    refine own_go (fun t₀ k₀ => XS.aloadN X7.here hx rfl (Jvm.hb hby d9_40) rfl rfl k₀) ?_
    show Gm p e below T7 m 41 #[rv r0, rv r1, rv r1] [(.ref r1), (.ref b0)] _
    obtain ⟨T8, X8, e8, st8⟩ := getF X7 hx hZ hown (host := "") (Or.inl (hw _ (List.mem_of_getElem? (i := 25) rfl))) Via.refl e7 F_v1 (g := (mkF m 41 #[rv r0, rv r1, rv r1] [(.ref r1), (.ref b0)])) rfl rfl (Jvm.hb hby d9_41)
    refine own_go st8 ?_
    show Gm p e below T8 m 44 #[rv r0, rv r1, rv r1] [(.ref b1), (.ref b0)] _
    obtain ⟨_, _, ⟨T9, L9, k9, n9⟩, -, X9, ⟨Lc9, hQ9, l9, y9, z9⟩, st9⟩ := Jvm.LawKit.callS X8 hx (y := (⟨"java/lang/StringLatin1", "equals", "([B[B)Z"⟩ : MethodName)) hown (mvT hZ (hw _ (List.mem_of_getElem? (i := 65) rfl))) (mvT hZ (hw _ (List.mem_of_getElem? (i := 66) rfl))) (mvT hZ (hw _ (List.mem_of_getElem? (i := 67) rfl))) (mvT hZ (hw _ (List.mem_of_getElem? (i := 68) rfl))) (by decide) (backOf (W := 0) (rmL_0 l Z a0 hw [] b0 b1 f g  h0 n0 Z0 A B ) hZ (hw _ (List.mem_of_getElem? (i := 68) rfl)) (hw _ (List.mem_of_getElem? (i := 67) rfl)) (by decide) (by decide)) (g := (mkF m 44 #[rv r0, rv r1, rv r1] [(.ref b1), (.ref b0)])) rfl (by rw [hml]; rfl) (argsL := [(.ref b0), (.ref b1)]) (rest := []) (lenOf own_pd8 rfl) rfl (by show 2 * 0 + _ ≤ _; exact Nat.le_of_eq rfl) (Jvm.hb hby d9_44) (fun _ _ => ⟨rfl, e8, (by decide : 0 + 0 ≤ _), (by decide : 0 + 0 ≤ _)⟩)
    dsimp only [Pt.U, Pt.locs, Pt.cells, Pt.slots] at X9 l9 y9 z9 st9 hQ9
    subst l9 y9 z9
    obtain ⟨rfl, Nq9, eq9⟩ := hQ9
    have N9 := Fr.app N0 Nq9
    have e9 : T9.heap = h0 := eq9
    refine own_go st9 ?_
    show Gm p e below T9 m 47 #[rv r0, rv r1, rv r1] [(.int (1 : Int32))] _
    refine own_go (fun t₀ k₀ => XS.ifNo X9.here hx rfl (Jvm.hb hby d9_47) rfl (XT.i0_eq_f (by decide)) k₀) ?_
    show Gm p e below T9 m 50 #[rv r0, rv r1, rv r1] [] _
    refine own_go (fun t₀ k₀ => XS.iconst X9.here hx rfl (Jvm.hb hby d9_50) k₀) ?_
    show Gm p e below T9 m 51 #[rv r0, rv r1, rv r1] [(.int (1 : Int32))] _
    refine own_go (fun t₀ k₀ => XS.goto X9.here hx rfl (pc0 := 51) (pc' := 55) rfl (Jvm.hb hby d9_51) (by decide) (by decide) k₀) ?_
    show Gm p e below T9 m 55 #[rv r0, rv r1, rv r1] [(.int (1 : Int32))] _
    exact own_retI X9 hx hlk (t := .boolean) Bd.returns rfl (by simp) (Jvm.hb hby d9_55) e9 ⟨rfl, N9, rfl⟩ (by decide) (by decide)
theorem d10_15 : decode jdk_43_method_13_code 15 = .ok (.aload_n 0, 1) := by decide +kernel
theorem d10_16 : decode jdk_43_method_13_code 16 = .ok (.iload_n 2, 1) := by decide +kernel
theorem d10_17 : decode jdk_43_method_13_code 17 = .ok (.baload, 1) := by decide +kernel
theorem d10_18 : decode jdk_43_method_13_code 18 = .ok (.aload_n 1, 1) := by decide +kernel
theorem d10_19 : decode jdk_43_method_13_code 19 = .ok (.iload_n 2, 1) := by decide +kernel
theorem d10_20 : decode jdk_43_method_13_code 20 = .ok (.baload, 1) := by decide +kernel
theorem d10_21 : decode jdk_43_method_13_code 21 = .ok (.if_icmp .eq 5, 3) := by decide +kernel
theorem d10_26 : decode jdk_43_method_13_code 26 = .ok (.iinc 2 1, 3) := by decide +kernel
theorem d10_29 : decode jdk_43_method_13_code 29 = .ok (.goto (-20), 3) := by decide +kernel
theorem own_pn_rmL_1 : plainName "java/lang/StringLatin1" = true := by first | (simp [plainName, overriddenIn]; done) | decide +kernel
theorem own_ef_rmL_1 (m : MethodId) (r0 : Addr) (r1 : Addr) : entryFrame m #[(.ref r0), (.ref r1)] 3 = mkF m 0 #[.val (.ref r0), .val (.ref r1), .unset] [] := by first | (simp [entryFrame, mkF, argsToLocals, Value.category]; done) | rfl
def QL_1 (Z : State) (r0 : Addr) (r1 : Addr) (f : Nat → Value) (g : Nat → Value) (x0 : Int32) (h0 : Heap) (n0 : Nat) (v : Option Value) (h : Heap) (L : List Loc) : Prop := v = some (.int (1 : Int32)) ∧ Fr n0 L ∧ h = h0
set_option maxRecDepth 65536 in
set_option maxHeartbeats 40000000 in
theorem rmL_1 (l : Launch) (Z : State) (a0 : Array Value) (hw : ∀ d ∈ tables_1, d.before a0 Z = true) (ws : List Jvm.Cond) (r0 : Addr) (r1 : Addr) (f : Nat → Value) (g : Nat → Value) (x0 : Int32) (h0 : Heap) (n0 : Nat) (Z0 : n0 ≤ h0.size) (A : Af Z h0 r0 .byte 1 f) (B : Af Z h0 r1 .byte 1 g) (hf_0 : f 0 = .int x0) (hg_0 : g 0 = .int x0) :
    MetFree l (⟨"java/lang/StringLatin1", "equals", "([B[B)Z"⟩ : MethodName) (head1 (Jvm.Cond.code (⟨"java/lang/StringLatin1", "equals", "([B[B)Z"⟩ : MethodName) jdk_43_method_13_code 3 (some .boolean) :: ws) ({ frames := 0, cells := 0, slots := 0, locals := 0 } : Room)) (fun a U => a = #[(.ref r0), (.ref r1)] ∧ Z.Warmed39 U.vm ∧ U.heap = h0) (fun _ _ _ _ _ => True) (fun _ U o U' => ∃ v L, o = .returned v ∧ QL_1 Z r0 r1 f g x0 h0 n0 v U'.heap L ∧ FrameEnd U o U' L ({ frames := 0, cells := 0, slots := 0, locals := 0 } : Room).cells ({ frames := 0, cells := 0, slots := 0, locals := 0 } : Room).slots) := by
  refine MetFree.of_bodySF (plainFor_of_name own_pn_rmL_1) hisR ?_
  intro p e s m args below meth cO s₁ Bd hml0 hP hK
  obtain ⟨rfl, hZ, hh⟩ := hP
  have hx := Bd.exec
  have hby := Bd.bytes
  have hml : cO.maxLocals = 3 := hml0
  have hown : s.vm.findClass "java/lang/StringLatin1" = some m.cls := findClass_of_methodNamed Bd.named
  have hnm := (name_of_methodNamed Bd.named Bd.method).1
  have hlk : meth.locks = false := BodyLoose.notSynchronized Bd
  have X0 : Stand p l e ({ frames := 0, cells := 0, slots := 0, locals := 0 } : Room) s m #[(.ref r0), (.ref r1)] below meth cO s₁ [] 0 0 := Stand.of_body Bd
  have e0 : s₁.heap = h0 := by rw [← hh, Bd.state]; rfl
  have N0 := Fr.nil n0
  refine own_in (own_ef_rmL_1 m r0 r1) ?_
  show Gm p e below s₁ m 0 #[rv r0, rv r1, .unset] [] _
  refine own_go (fun t₀ k₀ => XS.aloadN X0.here hx rfl (Jvm.hb hby d10_0) rfl rfl k₀) ?_
  show Gm p e below s₁ m 1 #[rv r0, rv r1, .unset] [(.ref r0)] _
  refine own_go (fun t₀ k₀ => own_len X0 hx hZ e0 A (z := (1 : Int32)) rfl (g := (mkF m 1 #[rv r0, rv r1, .unset] [(.ref r0)])) rfl rfl (Jvm.hb hby d10_1) k₀) ?_
  show Gm p e below s₁ m 2 #[rv r0, rv r1, .unset] [(.int (1 : Int32))] _
  refine own_go (fun t₀ k₀ => XS.aloadN X0.here hx rfl (Jvm.hb hby d10_2) rfl rfl k₀) ?_
  show Gm p e below s₁ m 3 #[rv r0, rv r1, .unset] [(.ref r1), (.int (1 : Int32))] _
  refine own_go (fun t₀ k₀ => own_len X0 hx hZ e0 B (z := (1 : Int32)) rfl (g := (mkF m 3 #[rv r0, rv r1, .unset] [(.ref r1), (.int (1 : Int32))])) rfl rfl (Jvm.hb hby d10_3) k₀) ?_
  show Gm p e below s₁ m 4 #[rv r0, rv r1, .unset] [(.int (1 : Int32)), (.int (1 : Int32))] _
  refine own_go (fun t₀ k₀ => XS.icmpNo X0.here hx rfl (Jvm.hb hby d10_4) rfl (XT.ii_ne_f (by decide)) k₀) ?_
  show Gm p e below s₁ m 7 #[rv r0, rv r1, .unset] [] _
  refine own_go (fun t₀ k₀ => XS.iconst X0.here hx rfl (Jvm.hb hby d10_7) k₀) ?_
  show Gm p e below s₁ m 8 #[rv r0, rv r1, .unset] [(.int (0 : Int32))] _
  refine own_go (fun t₀ k₀ => XS.istoreN X0.here hx rfl (Jvm.hb hby d10_8) rfl (l' := #[rv r0, rv r1, iv (0 : Int32)]) rfl k₀) ?_
  show Gm p e below s₁ m 9 #[rv r0, rv r1, iv (0 : Int32)] [] _
  refine own_go (fun t₀ k₀ => XS.iloadN X0.here hx rfl (Jvm.hb hby d10_9) rfl k₀) ?_
  show Gm p e below s₁ m 10 #[rv r0, rv r1, iv (0 : Int32)] [(.int (0 : Int32))] _
  refine own_go (fun t₀ k₀ => XS.aloadN X0.here hx rfl (Jvm.hb hby d10_10) rfl rfl k₀) ?_
  show Gm p e below s₁ m 11 #[rv r0, rv r1, iv (0 : Int32)] [(.ref r0), (.int (0 : Int32))] _
  refine own_go (fun t₀ k₀ => own_len X0 hx hZ e0 A (z := (1 : Int32)) rfl (g := (mkF m 11 #[rv r0, rv r1, iv (0 : Int32)] [(.ref r0), (.int (0 : Int32))])) rfl rfl (Jvm.hb hby d10_11) k₀) ?_
  show Gm p e below s₁ m 12 #[rv r0, rv r1, iv (0 : Int32)] [(.int (1 : Int32)), (.int (0 : Int32))] _
  refine own_go (fun t₀ k₀ => XS.icmpNo X0.here hx rfl (Jvm.hb hby d10_12) rfl (XT.ii_ge_f (by decide)) k₀) ?_
  show Gm p e below s₁ m 15 #[rv r0, rv r1, iv (0 : Int32)] [] _
  refine own_go (fun t₀ k₀ => XS.aloadN X0.here hx rfl (Jvm.hb hby d10_15) rfl rfl k₀) ?_
  show Gm p e below s₁ m 16 #[rv r0, rv r1, iv (0 : Int32)] [(.ref r0)] _
  refine own_go (fun t₀ k₀ => XS.iloadN X0.here hx rfl (Jvm.hb hby d10_16) rfl k₀) ?_
  show Gm p e below s₁ m 17 #[rv r0, rv r1, iv (0 : Int32)] [(.int (0 : Int32)), (.ref r0)] _
  refine own_go (fun t₀ k₀ => own_ldB X0 hx hZ e0 A (j := (0 : Int32)) (k := 0) (by decide) rfl (by decide) (w := (.int x0)) hf_0 (g := (mkF m 17 #[rv r0, rv r1, iv (0 : Int32)] [(.int (0 : Int32)), (.ref r0)])) rfl rfl (Jvm.hb hby d10_17) k₀) ?_
  show Gm p e below s₁ m 18 #[rv r0, rv r1, iv (0 : Int32)] [(.int x0)] _
  refine own_go (fun t₀ k₀ => XS.aloadN X0.here hx rfl (Jvm.hb hby d10_18) rfl rfl k₀) ?_
  show Gm p e below s₁ m 19 #[rv r0, rv r1, iv (0 : Int32)] [(.ref r1), (.int x0)] _
  refine own_go (fun t₀ k₀ => XS.iloadN X0.here hx rfl (Jvm.hb hby d10_19) rfl k₀) ?_
  show Gm p e below s₁ m 20 #[rv r0, rv r1, iv (0 : Int32)] [(.int (0 : Int32)), (.ref r1), (.int x0)] _
  refine own_go (fun t₀ k₀ => own_ldB X0 hx hZ e0 B (j := (0 : Int32)) (k := 0) (by decide) rfl (by decide) (w := (.int x0)) hg_0 (g := (mkF m 20 #[rv r0, rv r1, iv (0 : Int32)] [(.int (0 : Int32)), (.ref r1), (.int x0)])) rfl rfl (Jvm.hb hby d10_20) k₀) ?_
  show Gm p e below s₁ m 21 #[rv r0, rv r1, iv (0 : Int32)] [(.int x0), (.int x0)] _
  refine own_go (fun t₀ k₀ => XS.icmpYes X0.here hx rfl (pc0 := 21) (pc' := 26) rfl (Jvm.hb hby d10_21) rfl (XT.ii_eq_t rfl) (by decide) (by decide) k₀) ?_
  show Gm p e below s₁ m 26 #[rv r0, rv r1, iv (0 : Int32)] [] _
  refine own_go (fun t₀ k₀ => XS.iinc X0.here hx rfl (Jvm.hb hby d10_26) rfl (l' := #[rv r0, rv r1, iv (1 : Int32)]) rfl k₀) ?_
  show Gm p e below s₁ m 29 #[rv r0, rv r1, iv (1 : Int32)] [] _
  refine own_go (fun t₀ k₀ => XS.goto X0.here hx rfl (pc0 := 29) (pc' := 9) rfl (Jvm.hb hby d10_29) (by decide) (by decide) k₀) ?_
  show Gm p e below s₁ m 9 #[rv r0, rv r1, iv (1 : Int32)] [] _
  refine own_go (fun t₀ k₀ => XS.iloadN X0.here hx rfl (Jvm.hb hby d10_9) rfl k₀) ?_
  show Gm p e below s₁ m 10 #[rv r0, rv r1, iv (1 : Int32)] [(.int (1 : Int32))] _
  refine own_go (fun t₀ k₀ => XS.aloadN X0.here hx rfl (Jvm.hb hby d10_10) rfl rfl k₀) ?_
  show Gm p e below s₁ m 11 #[rv r0, rv r1, iv (1 : Int32)] [(.ref r0), (.int (1 : Int32))] _
  refine own_go (fun t₀ k₀ => own_len X0 hx hZ e0 A (z := (1 : Int32)) rfl (g := (mkF m 11 #[rv r0, rv r1, iv (1 : Int32)] [(.ref r0), (.int (1 : Int32))])) rfl rfl (Jvm.hb hby d10_11) k₀) ?_
  show Gm p e below s₁ m 12 #[rv r0, rv r1, iv (1 : Int32)] [(.int (1 : Int32)), (.int (1 : Int32))] _
  refine own_go (fun t₀ k₀ => XS.icmpYes X0.here hx rfl (pc0 := 12) (pc' := 32) rfl (Jvm.hb hby d10_12) rfl (XT.ii_ge_t (by decide)) (by decide) (by decide) k₀) ?_
  show Gm p e below s₁ m 32 #[rv r0, rv r1, iv (1 : Int32)] [] _
  refine own_go (fun t₀ k₀ => XS.iconst X0.here hx rfl (Jvm.hb hby d10_32) k₀) ?_
  show Gm p e below s₁ m 33 #[rv r0, rv r1, iv (1 : Int32)] [(.int (1 : Int32))] _
  exact own_retI X0 hx hlk (t := .boolean) Bd.returns rfl (by simp) (Jvm.hb hby d10_33) e0 ⟨rfl, N0, rfl⟩ (by decide) (by decide)
theorem own_pn_rmE_1 : plainName "java/lang/String" = true := by first | (simp [plainName, overriddenIn]; done) | decide +kernel
theorem own_ef_rmE_1 (m : MethodId) (r0 : Addr) (r1 : Addr) : entryFrame m #[(.ref r0), (.ref r1)] 3 = mkF m 0 #[.val (.ref r0), .val (.ref r1), .unset] [] := by first | (simp [entryFrame, mkF, argsToLocals, Value.category]; done) | rfl
set_option maxRecDepth 65536 in
set_option maxHeartbeats 40000000 in
theorem rmE_1 (l : Launch) (Z : State) (a0 : Array Value) (hw : ∀ d ∈ tables_1, d.before a0 Z = true) (ws : List Jvm.Cond) (r0 : Addr) (r1 : Addr) (b0 : Addr) (b1 : Addr) (f : Nat → Value) (g : Nat → Value) (x0 : Int32) (cs : Int32) (h0 : Heap) (n0 : Nat) (Z0 : n0 ≤ h0.size) (E_r1 : Exa Z h0 r1 "java/lang/String") (F_c0 : Fld Z h0 r0 "java/lang/String" "coder" "B" (.int (0 : Int32))) (F_c1 : Fld Z h0 r1 "java/lang/String" "coder" "B" (.int (0 : Int32))) (F_v0 : Fld Z h0 r0 "java/lang/String" "value" "[B" (.ref b0)) (F_v1 : Fld Z h0 r1 "java/lang/String" "value" "[B" (.ref b1)) (A : Af Z h0 b0 .byte 1 f) (B : Af Z h0 b1 .byte 1 g) (hf_0 : f 0 = .int x0) (hg_0 : g 0 = .int x0) (S_c : Sta Z h0 "java/lang/String" "COMPACT_STRINGS" "Z" (.int cs)) (hcs : ¬ cs = 0) :
    MetFree l (⟨"java/lang/String", "equals", "(Ljava/lang/Object;)Z"⟩ : MethodName) (head1 (Jvm.Cond.code (⟨"java/lang/String", "equals", "(Ljava/lang/Object;)Z"⟩ : MethodName) jdk_42_method_66_code 3 (some .boolean) :: ws) ({ frames := 1, cells := 0, slots := 0, locals := 14 } : Room)) (fun a U => a = #[(.ref r0), (.ref r1)] ∧ Z.Warmed39 U.vm ∧ U.heap = h0) (fun _ _ _ _ _ => True) (fun _ U o U' => ∃ v L, o = .returned v ∧ QE h0 n0 v U'.heap L ∧ FrameEnd U o U' L ({ frames := 1, cells := 0, slots := 0, locals := 14 } : Room).cells ({ frames := 1, cells := 0, slots := 0, locals := 14 } : Room).slots) := by
  refine MetFree.of_bodySF (plainFor_of_name own_pn_rmE_1) hisR ?_
  intro p e s m args below meth cO s₁ Bd hml0 hP hK
  obtain ⟨rfl, hZ, hh⟩ := hP
  have hx := Bd.exec
  have hby := Bd.bytes
  have hml : cO.maxLocals = 3 := hml0
  have hown : s.vm.findClass "java/lang/String" = some m.cls := findClass_of_methodNamed Bd.named
  have hnm := (name_of_methodNamed Bd.named Bd.method).1
  have hlk : meth.locks = false := BodyLoose.notSynchronized Bd
  have X0 : Stand p l e ({ frames := 1, cells := 0, slots := 0, locals := 14 } : Room) s m #[(.ref r0), (.ref r1)] below meth cO s₁ [] 0 0 := Stand.of_body Bd
  have e0 : s₁.heap = h0 := by rw [← hh, Bd.state]; rfl
  have N0 := Fr.nil n0
  refine own_in (own_ef_rmE_1 m r0 r1) ?_
  show Gm p e below s₁ m 0 #[rv r0, rv r1, .unset] [] _
  refine own_go (fun t₀ k₀ => XS.aloadN X0.here hx rfl (Jvm.hb hby d9_0) rfl rfl k₀) ?_
  show Gm p e below s₁ m 1 #[rv r0, rv r1, .unset] [(.ref r0)] _
  refine own_go (fun t₀ k₀ => XS.aloadN X0.here hx rfl (Jvm.hb hby d9_1) rfl rfl k₀) ?_
  show Gm p e below s₁ m 2 #[rv r0, rv r1, .unset] [(.ref r1), (.ref r0)] _
  by_cases c1 : r0 = r1
  · have hfork := trivial
    refine own_go (fun t₀ k₀ => XT.acmpNo X0.here hx rfl (Jvm.hb hby d9_2) rfl rfl rfl (XT.aa_ne_f (congrArg Value.ref c1)) k₀) ?_
    show Gm p e below s₁ m 5 #[rv r0, rv r1, .unset] [] _
    refine own_go (fun t₀ k₀ => XS.iconst X0.here hx rfl (Jvm.hb hby d9_5) k₀) ?_
    show Gm p e below s₁ m 6 #[rv r0, rv r1, .unset] [(.int (1 : Int32))] _
    exact own_retI X0 hx hlk (t := .boolean) Bd.returns rfl (by simp) (Jvm.hb hby d9_6) e0 ⟨rfl, N0, rfl⟩ (by decide) (by decide)
  · have hfork := trivial
    refine own_go (fun t₀ k₀ => XT.acmpYes X0.here hx rfl (pc0 := 2) (pc' := 7) rfl (Jvm.hb hby d9_2) rfl rfl rfl (XT.aa_ne_t (fun q => c1 (Value.ref.inj q))) (by decide) (by decide) k₀) ?_
    show Gm p e below s₁ m 7 #[rv r0, rv r1, .unset] [] _
    refine own_go (fun t₀ k₀ => XS.aloadN X0.here hx rfl (Jvm.hb hby d9_7) rfl rfl k₀) ?_
    show Gm p e below s₁ m 8 #[rv r0, rv r1, .unset] [(.ref r1)] _
    obtain ⟨T2, X2, e2, st2⟩ := instY X0 hx hZ hown (hw _ (List.mem_of_getElem? (i := 63) rfl)) e0 (Ins.self E_r1) (g := (mkF m 8 #[rv r0, rv r1, .unset] [(.ref r1)])) rfl rfl (Jvm.hb hby d9_8)
    refine own_go st2 ?_
    show Gm p e below T2 m 11 #[rv r0, rv r1, .unset] [(.int (1 : Int32))] _
    refine own_go (fun t₀ k₀ => XS.ifNo X2.here hx rfl (Jvm.hb hby d9_11) rfl (XT.i0_eq_f (by decide)) k₀) ?_
    show Gm p e below T2 m 14 #[rv r0, rv r1, .unset] [] _
    refine own_go (fun t₀ k₀ => XS.aloadN X2.here hx rfl (Jvm.hb hby d9_14) rfl rfl k₀) ?_
    show Gm p e below T2 m 15 #[rv r0, rv r1, .unset] [(.ref r1)] _
    obtain ⟨T3, X3, e3, st3⟩ := castY X2 hx hZ hown (hw _ (List.mem_of_getElem? (i := 63) rfl)) e2 (Ins.self E_r1) (g := (mkF m 15 #[rv r0, rv r1, .unset] [(.ref r1)])) rfl rfl (Jvm.hb hby d9_15)
    refine own_go st3 ?_
    show Gm p e below T3 m 18 #[rv r0, rv r1, .unset] [(.ref r1)] _
    refine own_go (fun t₀ k₀ => XS.astoreN X3.here hx rfl (Jvm.hb hby d9_18) rfl rfl (l' := #[rv r0, rv r1, rv r1]) rfl k₀) ?_
    show Gm p e below T3 m 19 #[rv r0, rv r1, rv r1] [] _
    obtain ⟨T4, X4, e4, st4⟩ := getS2 X3 hx hZ hown (host := "") (Or.inl (hw _ (List.mem_of_getElem? (i := 64) rfl))) Via.refl e3 S_c (g := (mkF m 19 #[rv r0, rv r1, rv r1] [])) rfl (Jvm.hb hby d9_19)
    refine own_go st4 ?_
    show Gm p e below T4 m 22 #[rv r0, rv r1, rv r1] [(.int cs)] _
    refine own_go (fun t₀ k₀ => XS.ifNo X4.here hx rfl (Jvm.hb hby d9_22) rfl (XT.i0_eq_f hcs) k₀) ?_
    show Gm p e below T4 m 25 #[rv r0, rv r1, rv r1] [] _
    refine own_go (fun t₀ k₀ => XS.aloadN X4.here hx rfl (Jvm.hb hby d9_25) rfl rfl k₀) ?_
    show Gm p e below T4 m 26 #[rv r0, rv r1, rv r1] [(.ref r0)] _
    obtain ⟨T5, X5, e5, st5⟩ := getF X4 hx hZ hown (host := "") (Or.inl (hw _ (List.mem_of_getElem? (i := 26) rfl))) Via.refl e4 F_c0 (g := (mkF m 26 #[rv r0, rv r1, rv r1] [(.ref r0)])) rfl rfl (Jvm.hb hby d9_26)
    refine own_go st5 ?_
    show Gm p e below T5 m 29 #[rv r0, rv r1, rv r1] [(.int (0 : Int32))] _
    refine own_go (fun t₀ k₀ => XS.aloadN X5.here hx rfl (Jvm.hb hby d9_29) rfl rfl k₀) ?_
    show Gm p e below T5 m 30 #[rv r0, rv r1, rv r1] [(.ref r1), (.int (0 : Int32))] _
    obtain ⟨T6, X6, e6, st6⟩ := getF X5 hx hZ hown (host := "") (Or.inl (hw _ (List.mem_of_getElem? (i := 26) rfl))) Via.refl e5 F_c1 (g := (mkF m 30 #[rv r0, rv r1, rv r1] [(.ref r1), (.int (0 : Int32))])) rfl rfl (Jvm.hb hby d9_30)
    refine own_go st6 ?_
    show Gm p e below T6 m 33 #[rv r0, rv r1, rv r1] [(.int (0 : Int32)), (.int (0 : Int32))] _
    refine own_go (fun t₀ k₀ => XS.icmpNo X6.here hx rfl (Jvm.hb hby d9_33) rfl (XT.ii_ne_f (by decide)) k₀) ?_
    show Gm p e below T6 m 36 #[rv r0, rv r1, rv r1] [] _
    refine own_go (fun t₀ k₀ => XS.aloadN X6.here hx rfl (Jvm.hb hby d9_36) rfl rfl k₀) ?_
    show Gm p e below T6 m 37 #[rv r0, rv r1, rv r1] [(.ref r0)] _
    obtain ⟨T7, X7, e7, st7⟩ := getF X6 hx hZ hown (host := "") (Or.inl (hw _ (List.mem_of_getElem? (i := 25) rfl))) Via.refl e6 F_v0 (g := (mkF m 37 #[rv r0, rv r1, rv r1] [(.ref r0)])) rfl rfl (Jvm.hb hby d9_37)
    refine own_go st7 ?_
    show Gm p e below T7 m 40 #[rv r0, rv r1, rv r1] [(.ref b0)] _
    refine own_go (fun t₀ k₀ => XS.aloadN X7.here hx rfl (Jvm.hb hby d9_40) rfl rfl k₀) ?_
    show Gm p e below T7 m 41 #[rv r0, rv r1, rv r1] [(.ref r1), (.ref b0)] _
    obtain ⟨T8, X8, e8, st8⟩ := getF X7 hx hZ hown (host := "") (Or.inl (hw _ (List.mem_of_getElem? (i := 25) rfl))) Via.refl e7 F_v1 (g := (mkF m 41 #[rv r0, rv r1, rv r1] [(.ref r1), (.ref b0)])) rfl rfl (Jvm.hb hby d9_41)
    refine own_go st8 ?_
    show Gm p e below T8 m 44 #[rv r0, rv r1, rv r1] [(.ref b1), (.ref b0)] _
    obtain ⟨_, _, ⟨T9, L9, k9, n9⟩, -, X9, ⟨Lc9, hQ9, l9, y9, z9⟩, st9⟩ := Jvm.LawKit.callS X8 hx (y := (⟨"java/lang/StringLatin1", "equals", "([B[B)Z"⟩ : MethodName)) hown (mvT hZ (hw _ (List.mem_of_getElem? (i := 65) rfl))) (mvT hZ (hw _ (List.mem_of_getElem? (i := 66) rfl))) (mvT hZ (hw _ (List.mem_of_getElem? (i := 67) rfl))) (mvT hZ (hw _ (List.mem_of_getElem? (i := 68) rfl))) (by decide) (backOf (W := 0) (rmL_1 l Z a0 hw [] b0 b1 f g x0 h0 n0 Z0 A B hf_0 hg_0) hZ (hw _ (List.mem_of_getElem? (i := 68) rfl)) (hw _ (List.mem_of_getElem? (i := 67) rfl)) (by decide) (by decide)) (g := (mkF m 44 #[rv r0, rv r1, rv r1] [(.ref b1), (.ref b0)])) rfl (by rw [hml]; rfl) (argsL := [(.ref b0), (.ref b1)]) (rest := []) (lenOf own_pd8 rfl) rfl (by show 2 * 0 + _ ≤ _; exact Nat.le_of_eq rfl) (Jvm.hb hby d9_44) (fun _ _ => ⟨rfl, e8, (by decide : 0 + 0 ≤ _), (by decide : 0 + 0 ≤ _)⟩)
    dsimp only [Pt.U, Pt.locs, Pt.cells, Pt.slots] at X9 l9 y9 z9 st9 hQ9
    subst l9 y9 z9
    obtain ⟨rfl, Nq9, eq9⟩ := hQ9
    have N9 := Fr.app N0 Nq9
    have e9 : T9.heap = h0 := eq9
    refine own_go st9 ?_
    show Gm p e below T9 m 47 #[rv r0, rv r1, rv r1] [(.int (1 : Int32))] _
    refine own_go (fun t₀ k₀ => XS.ifNo X9.here hx rfl (Jvm.hb hby d9_47) rfl (XT.i0_eq_f (by decide)) k₀) ?_
    show Gm p e below T9 m 50 #[rv r0, rv r1, rv r1] [] _
    refine own_go (fun t₀ k₀ => XS.iconst X9.here hx rfl (Jvm.hb hby d9_50) k₀) ?_
    show Gm p e below T9 m 51 #[rv r0, rv r1, rv r1] [(.int (1 : Int32))] _
    refine own_go (fun t₀ k₀ => XS.goto X9.here hx rfl (pc0 := 51) (pc' := 55) rfl (Jvm.hb hby d9_51) (by decide) (by decide) k₀) ?_
    show Gm p e below T9 m 55 #[rv r0, rv r1, rv r1] [(.int (1 : Int32))] _
    exact own_retI X9 hx hlk (t := .boolean) Bd.returns rfl (by simp) (Jvm.hb hby d9_55) e9 ⟨rfl, N9, rfl⟩ (by decide) (by decide)
theorem own_pn_rmL_2 : plainName "java/lang/StringLatin1" = true := by first | (simp [plainName, overriddenIn]; done) | decide +kernel
theorem own_ef_rmL_2 (m : MethodId) (r0 : Addr) (r1 : Addr) : entryFrame m #[(.ref r0), (.ref r1)] 3 = mkF m 0 #[.val (.ref r0), .val (.ref r1), .unset] [] := by first | (simp [entryFrame, mkF, argsToLocals, Value.category]; done) | rfl
def QL_2 (Z : State) (r0 : Addr) (r1 : Addr) (f : Nat → Value) (g : Nat → Value) (x0 : Int32) (x1 : Int32) (h0 : Heap) (n0 : Nat) (v : Option Value) (h : Heap) (L : List Loc) : Prop := v = some (.int (1 : Int32)) ∧ Fr n0 L ∧ h = h0
set_option maxRecDepth 65536 in
set_option maxHeartbeats 40000000 in
theorem rmL_2 (l : Launch) (Z : State) (a0 : Array Value) (hw : ∀ d ∈ tables_1, d.before a0 Z = true) (ws : List Jvm.Cond) (r0 : Addr) (r1 : Addr) (f : Nat → Value) (g : Nat → Value) (x0 : Int32) (x1 : Int32) (h0 : Heap) (n0 : Nat) (Z0 : n0 ≤ h0.size) (A : Af Z h0 r0 .byte 2 f) (B : Af Z h0 r1 .byte 2 g) (hf_0 : f 0 = .int x0) (hf_1 : f 1 = .int x1) (hg_0 : g 0 = .int x0) (hg_1 : g 1 = .int x1) :
    MetFree l (⟨"java/lang/StringLatin1", "equals", "([B[B)Z"⟩ : MethodName) (head1 (Jvm.Cond.code (⟨"java/lang/StringLatin1", "equals", "([B[B)Z"⟩ : MethodName) jdk_43_method_13_code 3 (some .boolean) :: ws) ({ frames := 0, cells := 0, slots := 0, locals := 0 } : Room)) (fun a U => a = #[(.ref r0), (.ref r1)] ∧ Z.Warmed39 U.vm ∧ U.heap = h0) (fun _ _ _ _ _ => True) (fun _ U o U' => ∃ v L, o = .returned v ∧ QL_2 Z r0 r1 f g x0 x1 h0 n0 v U'.heap L ∧ FrameEnd U o U' L ({ frames := 0, cells := 0, slots := 0, locals := 0 } : Room).cells ({ frames := 0, cells := 0, slots := 0, locals := 0 } : Room).slots) := by
  refine MetFree.of_bodySF (plainFor_of_name own_pn_rmL_2) hisR ?_
  intro p e s m args below meth cO s₁ Bd hml0 hP hK
  obtain ⟨rfl, hZ, hh⟩ := hP
  have hx := Bd.exec
  have hby := Bd.bytes
  have hml : cO.maxLocals = 3 := hml0
  have hown : s.vm.findClass "java/lang/StringLatin1" = some m.cls := findClass_of_methodNamed Bd.named
  have hnm := (name_of_methodNamed Bd.named Bd.method).1
  have hlk : meth.locks = false := BodyLoose.notSynchronized Bd
  have X0 : Stand p l e ({ frames := 0, cells := 0, slots := 0, locals := 0 } : Room) s m #[(.ref r0), (.ref r1)] below meth cO s₁ [] 0 0 := Stand.of_body Bd
  have e0 : s₁.heap = h0 := by rw [← hh, Bd.state]; rfl
  have N0 := Fr.nil n0
  refine own_in (own_ef_rmL_2 m r0 r1) ?_
  show Gm p e below s₁ m 0 #[rv r0, rv r1, .unset] [] _
  refine own_go (fun t₀ k₀ => XS.aloadN X0.here hx rfl (Jvm.hb hby d10_0) rfl rfl k₀) ?_
  show Gm p e below s₁ m 1 #[rv r0, rv r1, .unset] [(.ref r0)] _
  refine own_go (fun t₀ k₀ => own_len X0 hx hZ e0 A (z := (2 : Int32)) rfl (g := (mkF m 1 #[rv r0, rv r1, .unset] [(.ref r0)])) rfl rfl (Jvm.hb hby d10_1) k₀) ?_
  show Gm p e below s₁ m 2 #[rv r0, rv r1, .unset] [(.int (2 : Int32))] _
  refine own_go (fun t₀ k₀ => XS.aloadN X0.here hx rfl (Jvm.hb hby d10_2) rfl rfl k₀) ?_
  show Gm p e below s₁ m 3 #[rv r0, rv r1, .unset] [(.ref r1), (.int (2 : Int32))] _
  refine own_go (fun t₀ k₀ => own_len X0 hx hZ e0 B (z := (2 : Int32)) rfl (g := (mkF m 3 #[rv r0, rv r1, .unset] [(.ref r1), (.int (2 : Int32))])) rfl rfl (Jvm.hb hby d10_3) k₀) ?_
  show Gm p e below s₁ m 4 #[rv r0, rv r1, .unset] [(.int (2 : Int32)), (.int (2 : Int32))] _
  refine own_go (fun t₀ k₀ => XS.icmpNo X0.here hx rfl (Jvm.hb hby d10_4) rfl (XT.ii_ne_f (by decide)) k₀) ?_
  show Gm p e below s₁ m 7 #[rv r0, rv r1, .unset] [] _
  refine own_go (fun t₀ k₀ => XS.iconst X0.here hx rfl (Jvm.hb hby d10_7) k₀) ?_
  show Gm p e below s₁ m 8 #[rv r0, rv r1, .unset] [(.int (0 : Int32))] _
  refine own_go (fun t₀ k₀ => XS.istoreN X0.here hx rfl (Jvm.hb hby d10_8) rfl (l' := #[rv r0, rv r1, iv (0 : Int32)]) rfl k₀) ?_
  show Gm p e below s₁ m 9 #[rv r0, rv r1, iv (0 : Int32)] [] _
  refine own_go (fun t₀ k₀ => XS.iloadN X0.here hx rfl (Jvm.hb hby d10_9) rfl k₀) ?_
  show Gm p e below s₁ m 10 #[rv r0, rv r1, iv (0 : Int32)] [(.int (0 : Int32))] _
  refine own_go (fun t₀ k₀ => XS.aloadN X0.here hx rfl (Jvm.hb hby d10_10) rfl rfl k₀) ?_
  show Gm p e below s₁ m 11 #[rv r0, rv r1, iv (0 : Int32)] [(.ref r0), (.int (0 : Int32))] _
  refine own_go (fun t₀ k₀ => own_len X0 hx hZ e0 A (z := (2 : Int32)) rfl (g := (mkF m 11 #[rv r0, rv r1, iv (0 : Int32)] [(.ref r0), (.int (0 : Int32))])) rfl rfl (Jvm.hb hby d10_11) k₀) ?_
  show Gm p e below s₁ m 12 #[rv r0, rv r1, iv (0 : Int32)] [(.int (2 : Int32)), (.int (0 : Int32))] _
  refine own_go (fun t₀ k₀ => XS.icmpNo X0.here hx rfl (Jvm.hb hby d10_12) rfl (XT.ii_ge_f (by decide)) k₀) ?_
  show Gm p e below s₁ m 15 #[rv r0, rv r1, iv (0 : Int32)] [] _
  refine own_go (fun t₀ k₀ => XS.aloadN X0.here hx rfl (Jvm.hb hby d10_15) rfl rfl k₀) ?_
  show Gm p e below s₁ m 16 #[rv r0, rv r1, iv (0 : Int32)] [(.ref r0)] _
  refine own_go (fun t₀ k₀ => XS.iloadN X0.here hx rfl (Jvm.hb hby d10_16) rfl k₀) ?_
  show Gm p e below s₁ m 17 #[rv r0, rv r1, iv (0 : Int32)] [(.int (0 : Int32)), (.ref r0)] _
  refine own_go (fun t₀ k₀ => own_ldB X0 hx hZ e0 A (j := (0 : Int32)) (k := 0) (by decide) rfl (by decide) (w := (.int x0)) hf_0 (g := (mkF m 17 #[rv r0, rv r1, iv (0 : Int32)] [(.int (0 : Int32)), (.ref r0)])) rfl rfl (Jvm.hb hby d10_17) k₀) ?_
  show Gm p e below s₁ m 18 #[rv r0, rv r1, iv (0 : Int32)] [(.int x0)] _
  refine own_go (fun t₀ k₀ => XS.aloadN X0.here hx rfl (Jvm.hb hby d10_18) rfl rfl k₀) ?_
  show Gm p e below s₁ m 19 #[rv r0, rv r1, iv (0 : Int32)] [(.ref r1), (.int x0)] _
  refine own_go (fun t₀ k₀ => XS.iloadN X0.here hx rfl (Jvm.hb hby d10_19) rfl k₀) ?_
  show Gm p e below s₁ m 20 #[rv r0, rv r1, iv (0 : Int32)] [(.int (0 : Int32)), (.ref r1), (.int x0)] _
  refine own_go (fun t₀ k₀ => own_ldB X0 hx hZ e0 B (j := (0 : Int32)) (k := 0) (by decide) rfl (by decide) (w := (.int x0)) hg_0 (g := (mkF m 20 #[rv r0, rv r1, iv (0 : Int32)] [(.int (0 : Int32)), (.ref r1), (.int x0)])) rfl rfl (Jvm.hb hby d10_20) k₀) ?_
  show Gm p e below s₁ m 21 #[rv r0, rv r1, iv (0 : Int32)] [(.int x0), (.int x0)] _
  refine own_go (fun t₀ k₀ => XS.icmpYes X0.here hx rfl (pc0 := 21) (pc' := 26) rfl (Jvm.hb hby d10_21) rfl (XT.ii_eq_t rfl) (by decide) (by decide) k₀) ?_
  show Gm p e below s₁ m 26 #[rv r0, rv r1, iv (0 : Int32)] [] _
  refine own_go (fun t₀ k₀ => XS.iinc X0.here hx rfl (Jvm.hb hby d10_26) rfl (l' := #[rv r0, rv r1, iv (1 : Int32)]) rfl k₀) ?_
  show Gm p e below s₁ m 29 #[rv r0, rv r1, iv (1 : Int32)] [] _
  refine own_go (fun t₀ k₀ => XS.goto X0.here hx rfl (pc0 := 29) (pc' := 9) rfl (Jvm.hb hby d10_29) (by decide) (by decide) k₀) ?_
  show Gm p e below s₁ m 9 #[rv r0, rv r1, iv (1 : Int32)] [] _
  refine own_go (fun t₀ k₀ => XS.iloadN X0.here hx rfl (Jvm.hb hby d10_9) rfl k₀) ?_
  show Gm p e below s₁ m 10 #[rv r0, rv r1, iv (1 : Int32)] [(.int (1 : Int32))] _
  refine own_go (fun t₀ k₀ => XS.aloadN X0.here hx rfl (Jvm.hb hby d10_10) rfl rfl k₀) ?_
  show Gm p e below s₁ m 11 #[rv r0, rv r1, iv (1 : Int32)] [(.ref r0), (.int (1 : Int32))] _
  refine own_go (fun t₀ k₀ => own_len X0 hx hZ e0 A (z := (2 : Int32)) rfl (g := (mkF m 11 #[rv r0, rv r1, iv (1 : Int32)] [(.ref r0), (.int (1 : Int32))])) rfl rfl (Jvm.hb hby d10_11) k₀) ?_
  show Gm p e below s₁ m 12 #[rv r0, rv r1, iv (1 : Int32)] [(.int (2 : Int32)), (.int (1 : Int32))] _
  refine own_go (fun t₀ k₀ => XS.icmpNo X0.here hx rfl (Jvm.hb hby d10_12) rfl (XT.ii_ge_f (by decide)) k₀) ?_
  show Gm p e below s₁ m 15 #[rv r0, rv r1, iv (1 : Int32)] [] _
  refine own_go (fun t₀ k₀ => XS.aloadN X0.here hx rfl (Jvm.hb hby d10_15) rfl rfl k₀) ?_
  show Gm p e below s₁ m 16 #[rv r0, rv r1, iv (1 : Int32)] [(.ref r0)] _
  refine own_go (fun t₀ k₀ => XS.iloadN X0.here hx rfl (Jvm.hb hby d10_16) rfl k₀) ?_
  show Gm p e below s₁ m 17 #[rv r0, rv r1, iv (1 : Int32)] [(.int (1 : Int32)), (.ref r0)] _
  refine own_go (fun t₀ k₀ => own_ldB X0 hx hZ e0 A (j := (1 : Int32)) (k := 1) (by decide) rfl (by decide) (w := (.int x1)) hf_1 (g := (mkF m 17 #[rv r0, rv r1, iv (1 : Int32)] [(.int (1 : Int32)), (.ref r0)])) rfl rfl (Jvm.hb hby d10_17) k₀) ?_
  show Gm p e below s₁ m 18 #[rv r0, rv r1, iv (1 : Int32)] [(.int x1)] _
  refine own_go (fun t₀ k₀ => XS.aloadN X0.here hx rfl (Jvm.hb hby d10_18) rfl rfl k₀) ?_
  show Gm p e below s₁ m 19 #[rv r0, rv r1, iv (1 : Int32)] [(.ref r1), (.int x1)] _
  refine own_go (fun t₀ k₀ => XS.iloadN X0.here hx rfl (Jvm.hb hby d10_19) rfl k₀) ?_
  show Gm p e below s₁ m 20 #[rv r0, rv r1, iv (1 : Int32)] [(.int (1 : Int32)), (.ref r1), (.int x1)] _
  refine own_go (fun t₀ k₀ => own_ldB X0 hx hZ e0 B (j := (1 : Int32)) (k := 1) (by decide) rfl (by decide) (w := (.int x1)) hg_1 (g := (mkF m 20 #[rv r0, rv r1, iv (1 : Int32)] [(.int (1 : Int32)), (.ref r1), (.int x1)])) rfl rfl (Jvm.hb hby d10_20) k₀) ?_
  show Gm p e below s₁ m 21 #[rv r0, rv r1, iv (1 : Int32)] [(.int x1), (.int x1)] _
  refine own_go (fun t₀ k₀ => XS.icmpYes X0.here hx rfl (pc0 := 21) (pc' := 26) rfl (Jvm.hb hby d10_21) rfl (XT.ii_eq_t rfl) (by decide) (by decide) k₀) ?_
  show Gm p e below s₁ m 26 #[rv r0, rv r1, iv (1 : Int32)] [] _
  refine own_go (fun t₀ k₀ => XS.iinc X0.here hx rfl (Jvm.hb hby d10_26) rfl (l' := #[rv r0, rv r1, iv (2 : Int32)]) rfl k₀) ?_
  show Gm p e below s₁ m 29 #[rv r0, rv r1, iv (2 : Int32)] [] _
  refine own_go (fun t₀ k₀ => XS.goto X0.here hx rfl (pc0 := 29) (pc' := 9) rfl (Jvm.hb hby d10_29) (by decide) (by decide) k₀) ?_
  show Gm p e below s₁ m 9 #[rv r0, rv r1, iv (2 : Int32)] [] _
  refine own_go (fun t₀ k₀ => XS.iloadN X0.here hx rfl (Jvm.hb hby d10_9) rfl k₀) ?_
  show Gm p e below s₁ m 10 #[rv r0, rv r1, iv (2 : Int32)] [(.int (2 : Int32))] _
  refine own_go (fun t₀ k₀ => XS.aloadN X0.here hx rfl (Jvm.hb hby d10_10) rfl rfl k₀) ?_
  show Gm p e below s₁ m 11 #[rv r0, rv r1, iv (2 : Int32)] [(.ref r0), (.int (2 : Int32))] _
  refine own_go (fun t₀ k₀ => own_len X0 hx hZ e0 A (z := (2 : Int32)) rfl (g := (mkF m 11 #[rv r0, rv r1, iv (2 : Int32)] [(.ref r0), (.int (2 : Int32))])) rfl rfl (Jvm.hb hby d10_11) k₀) ?_
  show Gm p e below s₁ m 12 #[rv r0, rv r1, iv (2 : Int32)] [(.int (2 : Int32)), (.int (2 : Int32))] _
  refine own_go (fun t₀ k₀ => XS.icmpYes X0.here hx rfl (pc0 := 12) (pc' := 32) rfl (Jvm.hb hby d10_12) rfl (XT.ii_ge_t (by decide)) (by decide) (by decide) k₀) ?_
  show Gm p e below s₁ m 32 #[rv r0, rv r1, iv (2 : Int32)] [] _
  refine own_go (fun t₀ k₀ => XS.iconst X0.here hx rfl (Jvm.hb hby d10_32) k₀) ?_
  show Gm p e below s₁ m 33 #[rv r0, rv r1, iv (2 : Int32)] [(.int (1 : Int32))] _
  exact own_retI X0 hx hlk (t := .boolean) Bd.returns rfl (by simp) (Jvm.hb hby d10_33) e0 ⟨rfl, N0, rfl⟩ (by decide) (by decide)
theorem own_pn_rmE_2 : plainName "java/lang/String" = true := by first | (simp [plainName, overriddenIn]; done) | decide +kernel
theorem own_ef_rmE_2 (m : MethodId) (r0 : Addr) (r1 : Addr) : entryFrame m #[(.ref r0), (.ref r1)] 3 = mkF m 0 #[.val (.ref r0), .val (.ref r1), .unset] [] := by first | (simp [entryFrame, mkF, argsToLocals, Value.category]; done) | rfl
set_option maxRecDepth 65536 in
set_option maxHeartbeats 40000000 in
theorem rmE_2 (l : Launch) (Z : State) (a0 : Array Value) (hw : ∀ d ∈ tables_1, d.before a0 Z = true) (ws : List Jvm.Cond) (r0 : Addr) (r1 : Addr) (b0 : Addr) (b1 : Addr) (f : Nat → Value) (g : Nat → Value) (x0 : Int32) (x1 : Int32) (cs : Int32) (h0 : Heap) (n0 : Nat) (Z0 : n0 ≤ h0.size) (E_r1 : Exa Z h0 r1 "java/lang/String") (F_c0 : Fld Z h0 r0 "java/lang/String" "coder" "B" (.int (0 : Int32))) (F_c1 : Fld Z h0 r1 "java/lang/String" "coder" "B" (.int (0 : Int32))) (F_v0 : Fld Z h0 r0 "java/lang/String" "value" "[B" (.ref b0)) (F_v1 : Fld Z h0 r1 "java/lang/String" "value" "[B" (.ref b1)) (A : Af Z h0 b0 .byte 2 f) (B : Af Z h0 b1 .byte 2 g) (hf_0 : f 0 = .int x0) (hf_1 : f 1 = .int x1) (hg_0 : g 0 = .int x0) (hg_1 : g 1 = .int x1) (S_c : Sta Z h0 "java/lang/String" "COMPACT_STRINGS" "Z" (.int cs)) (hcs : ¬ cs = 0) :
    MetFree l (⟨"java/lang/String", "equals", "(Ljava/lang/Object;)Z"⟩ : MethodName) (head1 (Jvm.Cond.code (⟨"java/lang/String", "equals", "(Ljava/lang/Object;)Z"⟩ : MethodName) jdk_42_method_66_code 3 (some .boolean) :: ws) ({ frames := 1, cells := 0, slots := 0, locals := 14 } : Room)) (fun a U => a = #[(.ref r0), (.ref r1)] ∧ Z.Warmed39 U.vm ∧ U.heap = h0) (fun _ _ _ _ _ => True) (fun _ U o U' => ∃ v L, o = .returned v ∧ QE h0 n0 v U'.heap L ∧ FrameEnd U o U' L ({ frames := 1, cells := 0, slots := 0, locals := 14 } : Room).cells ({ frames := 1, cells := 0, slots := 0, locals := 14 } : Room).slots) := by
  refine MetFree.of_bodySF (plainFor_of_name own_pn_rmE_2) hisR ?_
  intro p e s m args below meth cO s₁ Bd hml0 hP hK
  obtain ⟨rfl, hZ, hh⟩ := hP
  have hx := Bd.exec
  have hby := Bd.bytes
  have hml : cO.maxLocals = 3 := hml0
  have hown : s.vm.findClass "java/lang/String" = some m.cls := findClass_of_methodNamed Bd.named
  have hnm := (name_of_methodNamed Bd.named Bd.method).1
  have hlk : meth.locks = false := BodyLoose.notSynchronized Bd
  have X0 : Stand p l e ({ frames := 1, cells := 0, slots := 0, locals := 14 } : Room) s m #[(.ref r0), (.ref r1)] below meth cO s₁ [] 0 0 := Stand.of_body Bd
  have e0 : s₁.heap = h0 := by rw [← hh, Bd.state]; rfl
  have N0 := Fr.nil n0
  refine own_in (own_ef_rmE_2 m r0 r1) ?_
  show Gm p e below s₁ m 0 #[rv r0, rv r1, .unset] [] _
  refine own_go (fun t₀ k₀ => XS.aloadN X0.here hx rfl (Jvm.hb hby d9_0) rfl rfl k₀) ?_
  show Gm p e below s₁ m 1 #[rv r0, rv r1, .unset] [(.ref r0)] _
  refine own_go (fun t₀ k₀ => XS.aloadN X0.here hx rfl (Jvm.hb hby d9_1) rfl rfl k₀) ?_
  show Gm p e below s₁ m 2 #[rv r0, rv r1, .unset] [(.ref r1), (.ref r0)] _
  by_cases c1 : r0 = r1
  · have hfork := trivial
    refine own_go (fun t₀ k₀ => XT.acmpNo X0.here hx rfl (Jvm.hb hby d9_2) rfl rfl rfl (XT.aa_ne_f (congrArg Value.ref c1)) k₀) ?_
    show Gm p e below s₁ m 5 #[rv r0, rv r1, .unset] [] _
    refine own_go (fun t₀ k₀ => XS.iconst X0.here hx rfl (Jvm.hb hby d9_5) k₀) ?_
    show Gm p e below s₁ m 6 #[rv r0, rv r1, .unset] [(.int (1 : Int32))] _
    exact own_retI X0 hx hlk (t := .boolean) Bd.returns rfl (by simp) (Jvm.hb hby d9_6) e0 ⟨rfl, N0, rfl⟩ (by decide) (by decide)
  · have hfork := trivial
    refine own_go (fun t₀ k₀ => XT.acmpYes X0.here hx rfl (pc0 := 2) (pc' := 7) rfl (Jvm.hb hby d9_2) rfl rfl rfl (XT.aa_ne_t (fun q => c1 (Value.ref.inj q))) (by decide) (by decide) k₀) ?_
    show Gm p e below s₁ m 7 #[rv r0, rv r1, .unset] [] _
    refine own_go (fun t₀ k₀ => XS.aloadN X0.here hx rfl (Jvm.hb hby d9_7) rfl rfl k₀) ?_
    show Gm p e below s₁ m 8 #[rv r0, rv r1, .unset] [(.ref r1)] _
    obtain ⟨T2, X2, e2, st2⟩ := instY X0 hx hZ hown (hw _ (List.mem_of_getElem? (i := 63) rfl)) e0 (Ins.self E_r1) (g := (mkF m 8 #[rv r0, rv r1, .unset] [(.ref r1)])) rfl rfl (Jvm.hb hby d9_8)
    refine own_go st2 ?_
    show Gm p e below T2 m 11 #[rv r0, rv r1, .unset] [(.int (1 : Int32))] _
    refine own_go (fun t₀ k₀ => XS.ifNo X2.here hx rfl (Jvm.hb hby d9_11) rfl (XT.i0_eq_f (by decide)) k₀) ?_
    show Gm p e below T2 m 14 #[rv r0, rv r1, .unset] [] _
    refine own_go (fun t₀ k₀ => XS.aloadN X2.here hx rfl (Jvm.hb hby d9_14) rfl rfl k₀) ?_
    show Gm p e below T2 m 15 #[rv r0, rv r1, .unset] [(.ref r1)] _
    obtain ⟨T3, X3, e3, st3⟩ := castY X2 hx hZ hown (hw _ (List.mem_of_getElem? (i := 63) rfl)) e2 (Ins.self E_r1) (g := (mkF m 15 #[rv r0, rv r1, .unset] [(.ref r1)])) rfl rfl (Jvm.hb hby d9_15)
    refine own_go st3 ?_
    show Gm p e below T3 m 18 #[rv r0, rv r1, .unset] [(.ref r1)] _
    refine own_go (fun t₀ k₀ => XS.astoreN X3.here hx rfl (Jvm.hb hby d9_18) rfl rfl (l' := #[rv r0, rv r1, rv r1]) rfl k₀) ?_
    show Gm p e below T3 m 19 #[rv r0, rv r1, rv r1] [] _
    obtain ⟨T4, X4, e4, st4⟩ := getS2 X3 hx hZ hown (host := "") (Or.inl (hw _ (List.mem_of_getElem? (i := 64) rfl))) Via.refl e3 S_c (g := (mkF m 19 #[rv r0, rv r1, rv r1] [])) rfl (Jvm.hb hby d9_19)
    refine own_go st4 ?_
    show Gm p e below T4 m 22 #[rv r0, rv r1, rv r1] [(.int cs)] _
    refine own_go (fun t₀ k₀ => XS.ifNo X4.here hx rfl (Jvm.hb hby d9_22) rfl (XT.i0_eq_f hcs) k₀) ?_
    show Gm p e below T4 m 25 #[rv r0, rv r1, rv r1] [] _
    refine own_go (fun t₀ k₀ => XS.aloadN X4.here hx rfl (Jvm.hb hby d9_25) rfl rfl k₀) ?_
    show Gm p e below T4 m 26 #[rv r0, rv r1, rv r1] [(.ref r0)] _
    obtain ⟨T5, X5, e5, st5⟩ := getF X4 hx hZ hown (host := "") (Or.inl (hw _ (List.mem_of_getElem? (i := 26) rfl))) Via.refl e4 F_c0 (g := (mkF m 26 #[rv r0, rv r1, rv r1] [(.ref r0)])) rfl rfl (Jvm.hb hby d9_26)
    refine own_go st5 ?_
    show Gm p e below T5 m 29 #[rv r0, rv r1, rv r1] [(.int (0 : Int32))] _
    refine own_go (fun t₀ k₀ => XS.aloadN X5.here hx rfl (Jvm.hb hby d9_29) rfl rfl k₀) ?_
    show Gm p e below T5 m 30 #[rv r0, rv r1, rv r1] [(.ref r1), (.int (0 : Int32))] _
    obtain ⟨T6, X6, e6, st6⟩ := getF X5 hx hZ hown (host := "") (Or.inl (hw _ (List.mem_of_getElem? (i := 26) rfl))) Via.refl e5 F_c1 (g := (mkF m 30 #[rv r0, rv r1, rv r1] [(.ref r1), (.int (0 : Int32))])) rfl rfl (Jvm.hb hby d9_30)
    refine own_go st6 ?_
    show Gm p e below T6 m 33 #[rv r0, rv r1, rv r1] [(.int (0 : Int32)), (.int (0 : Int32))] _
    refine own_go (fun t₀ k₀ => XS.icmpNo X6.here hx rfl (Jvm.hb hby d9_33) rfl (XT.ii_ne_f (by decide)) k₀) ?_
    show Gm p e below T6 m 36 #[rv r0, rv r1, rv r1] [] _
    refine own_go (fun t₀ k₀ => XS.aloadN X6.here hx rfl (Jvm.hb hby d9_36) rfl rfl k₀) ?_
    show Gm p e below T6 m 37 #[rv r0, rv r1, rv r1] [(.ref r0)] _
    obtain ⟨T7, X7, e7, st7⟩ := getF X6 hx hZ hown (host := "") (Or.inl (hw _ (List.mem_of_getElem? (i := 25) rfl))) Via.refl e6 F_v0 (g := (mkF m 37 #[rv r0, rv r1, rv r1] [(.ref r0)])) rfl rfl (Jvm.hb hby d9_37)
    refine own_go st7 ?_
    show Gm p e below T7 m 40 #[rv r0, rv r1, rv r1] [(.ref b0)] _
    refine own_go (fun t₀ k₀ => XS.aloadN X7.here hx rfl (Jvm.hb hby d9_40) rfl rfl k₀) ?_
    show Gm p e below T7 m 41 #[rv r0, rv r1, rv r1] [(.ref r1), (.ref b0)] _
    obtain ⟨T8, X8, e8, st8⟩ := getF X7 hx hZ hown (host := "") (Or.inl (hw _ (List.mem_of_getElem? (i := 25) rfl))) Via.refl e7 F_v1 (g := (mkF m 41 #[rv r0, rv r1, rv r1] [(.ref r1), (.ref b0)])) rfl rfl (Jvm.hb hby d9_41)
    refine own_go st8 ?_
    show Gm p e below T8 m 44 #[rv r0, rv r1, rv r1] [(.ref b1), (.ref b0)] _
    obtain ⟨_, _, ⟨T9, L9, k9, n9⟩, -, X9, ⟨Lc9, hQ9, l9, y9, z9⟩, st9⟩ := Jvm.LawKit.callS X8 hx (y := (⟨"java/lang/StringLatin1", "equals", "([B[B)Z"⟩ : MethodName)) hown (mvT hZ (hw _ (List.mem_of_getElem? (i := 65) rfl))) (mvT hZ (hw _ (List.mem_of_getElem? (i := 66) rfl))) (mvT hZ (hw _ (List.mem_of_getElem? (i := 67) rfl))) (mvT hZ (hw _ (List.mem_of_getElem? (i := 68) rfl))) (by decide) (backOf (W := 0) (rmL_2 l Z a0 hw [] b0 b1 f g x0 x1 h0 n0 Z0 A B hf_0 hf_1 hg_0 hg_1) hZ (hw _ (List.mem_of_getElem? (i := 68) rfl)) (hw _ (List.mem_of_getElem? (i := 67) rfl)) (by decide) (by decide)) (g := (mkF m 44 #[rv r0, rv r1, rv r1] [(.ref b1), (.ref b0)])) rfl (by rw [hml]; rfl) (argsL := [(.ref b0), (.ref b1)]) (rest := []) (lenOf own_pd8 rfl) rfl (by show 2 * 0 + _ ≤ _; exact Nat.le_of_eq rfl) (Jvm.hb hby d9_44) (fun _ _ => ⟨rfl, e8, (by decide : 0 + 0 ≤ _), (by decide : 0 + 0 ≤ _)⟩)
    dsimp only [Pt.U, Pt.locs, Pt.cells, Pt.slots] at X9 l9 y9 z9 st9 hQ9
    subst l9 y9 z9
    obtain ⟨rfl, Nq9, eq9⟩ := hQ9
    have N9 := Fr.app N0 Nq9
    have e9 : T9.heap = h0 := eq9
    refine own_go st9 ?_
    show Gm p e below T9 m 47 #[rv r0, rv r1, rv r1] [(.int (1 : Int32))] _
    refine own_go (fun t₀ k₀ => XS.ifNo X9.here hx rfl (Jvm.hb hby d9_47) rfl (XT.i0_eq_f (by decide)) k₀) ?_
    show Gm p e below T9 m 50 #[rv r0, rv r1, rv r1] [] _
    refine own_go (fun t₀ k₀ => XS.iconst X9.here hx rfl (Jvm.hb hby d9_50) k₀) ?_
    show Gm p e below T9 m 51 #[rv r0, rv r1, rv r1] [(.int (1 : Int32))] _
    refine own_go (fun t₀ k₀ => XS.goto X9.here hx rfl (pc0 := 51) (pc' := 55) rfl (Jvm.hb hby d9_51) (by decide) (by decide) k₀) ?_
    show Gm p e below T9 m 55 #[rv r0, rv r1, rv r1] [(.int (1 : Int32))] _
    exact own_retI X9 hx hlk (t := .boolean) Bd.returns rfl (by simp) (Jvm.hb hby d9_55) e9 ⟨rfl, N9, rfl⟩ (by decide) (by decide)
theorem own_pn_rmL_3 : plainName "java/lang/StringLatin1" = true := by first | (simp [plainName, overriddenIn]; done) | decide +kernel
theorem own_ef_rmL_3 (m : MethodId) (r0 : Addr) (r1 : Addr) : entryFrame m #[(.ref r0), (.ref r1)] 3 = mkF m 0 #[.val (.ref r0), .val (.ref r1), .unset] [] := by first | (simp [entryFrame, mkF, argsToLocals, Value.category]; done) | rfl
def QL_3 (Z : State) (r0 : Addr) (r1 : Addr) (f : Nat → Value) (g : Nat → Value) (x0 : Int32) (x1 : Int32) (x2 : Int32) (h0 : Heap) (n0 : Nat) (v : Option Value) (h : Heap) (L : List Loc) : Prop := v = some (.int (1 : Int32)) ∧ Fr n0 L ∧ h = h0
set_option maxRecDepth 65536 in
set_option maxHeartbeats 40000000 in
theorem rmL_3 (l : Launch) (Z : State) (a0 : Array Value) (hw : ∀ d ∈ tables_1, d.before a0 Z = true) (ws : List Jvm.Cond) (r0 : Addr) (r1 : Addr) (f : Nat → Value) (g : Nat → Value) (x0 : Int32) (x1 : Int32) (x2 : Int32) (h0 : Heap) (n0 : Nat) (Z0 : n0 ≤ h0.size) (A : Af Z h0 r0 .byte 3 f) (B : Af Z h0 r1 .byte 3 g) (hf_0 : f 0 = .int x0) (hf_1 : f 1 = .int x1) (hf_2 : f 2 = .int x2) (hg_0 : g 0 = .int x0) (hg_1 : g 1 = .int x1) (hg_2 : g 2 = .int x2) :
    MetFree l (⟨"java/lang/StringLatin1", "equals", "([B[B)Z"⟩ : MethodName) (head1 (Jvm.Cond.code (⟨"java/lang/StringLatin1", "equals", "([B[B)Z"⟩ : MethodName) jdk_43_method_13_code 3 (some .boolean) :: ws) ({ frames := 0, cells := 0, slots := 0, locals := 0 } : Room)) (fun a U => a = #[(.ref r0), (.ref r1)] ∧ Z.Warmed39 U.vm ∧ U.heap = h0) (fun _ _ _ _ _ => True) (fun _ U o U' => ∃ v L, o = .returned v ∧ QL_3 Z r0 r1 f g x0 x1 x2 h0 n0 v U'.heap L ∧ FrameEnd U o U' L ({ frames := 0, cells := 0, slots := 0, locals := 0 } : Room).cells ({ frames := 0, cells := 0, slots := 0, locals := 0 } : Room).slots) := by
  refine MetFree.of_bodySF (plainFor_of_name own_pn_rmL_3) hisR ?_
  intro p e s m args below meth cO s₁ Bd hml0 hP hK
  obtain ⟨rfl, hZ, hh⟩ := hP
  have hx := Bd.exec
  have hby := Bd.bytes
  have hml : cO.maxLocals = 3 := hml0
  have hown : s.vm.findClass "java/lang/StringLatin1" = some m.cls := findClass_of_methodNamed Bd.named
  have hnm := (name_of_methodNamed Bd.named Bd.method).1
  have hlk : meth.locks = false := BodyLoose.notSynchronized Bd
  have X0 : Stand p l e ({ frames := 0, cells := 0, slots := 0, locals := 0 } : Room) s m #[(.ref r0), (.ref r1)] below meth cO s₁ [] 0 0 := Stand.of_body Bd
  have e0 : s₁.heap = h0 := by rw [← hh, Bd.state]; rfl
  have N0 := Fr.nil n0
  refine own_in (own_ef_rmL_3 m r0 r1) ?_
  show Gm p e below s₁ m 0 #[rv r0, rv r1, .unset] [] _
  refine own_go (fun t₀ k₀ => XS.aloadN X0.here hx rfl (Jvm.hb hby d10_0) rfl rfl k₀) ?_
  show Gm p e below s₁ m 1 #[rv r0, rv r1, .unset] [(.ref r0)] _
  refine own_go (fun t₀ k₀ => own_len X0 hx hZ e0 A (z := (3 : Int32)) rfl (g := (mkF m 1 #[rv r0, rv r1, .unset] [(.ref r0)])) rfl rfl (Jvm.hb hby d10_1) k₀) ?_
  show Gm p e below s₁ m 2 #[rv r0, rv r1, .unset] [(.int (3 : Int32))] _
  refine own_go (fun t₀ k₀ => XS.aloadN X0.here hx rfl (Jvm.hb hby d10_2) rfl rfl k₀) ?_
  show Gm p e below s₁ m 3 #[rv r0, rv r1, .unset] [(.ref r1), (.int (3 : Int32))] _
  refine own_go (fun t₀ k₀ => own_len X0 hx hZ e0 B (z := (3 : Int32)) rfl (g := (mkF m 3 #[rv r0, rv r1, .unset] [(.ref r1), (.int (3 : Int32))])) rfl rfl (Jvm.hb hby d10_3) k₀) ?_
  show Gm p e below s₁ m 4 #[rv r0, rv r1, .unset] [(.int (3 : Int32)), (.int (3 : Int32))] _
  refine own_go (fun t₀ k₀ => XS.icmpNo X0.here hx rfl (Jvm.hb hby d10_4) rfl (XT.ii_ne_f (by decide)) k₀) ?_
  show Gm p e below s₁ m 7 #[rv r0, rv r1, .unset] [] _
  refine own_go (fun t₀ k₀ => XS.iconst X0.here hx rfl (Jvm.hb hby d10_7) k₀) ?_
  show Gm p e below s₁ m 8 #[rv r0, rv r1, .unset] [(.int (0 : Int32))] _
  refine own_go (fun t₀ k₀ => XS.istoreN X0.here hx rfl (Jvm.hb hby d10_8) rfl (l' := #[rv r0, rv r1, iv (0 : Int32)]) rfl k₀) ?_
  show Gm p e below s₁ m 9 #[rv r0, rv r1, iv (0 : Int32)] [] _
  refine own_go (fun t₀ k₀ => XS.iloadN X0.here hx rfl (Jvm.hb hby d10_9) rfl k₀) ?_
  show Gm p e below s₁ m 10 #[rv r0, rv r1, iv (0 : Int32)] [(.int (0 : Int32))] _
  refine own_go (fun t₀ k₀ => XS.aloadN X0.here hx rfl (Jvm.hb hby d10_10) rfl rfl k₀) ?_
  show Gm p e below s₁ m 11 #[rv r0, rv r1, iv (0 : Int32)] [(.ref r0), (.int (0 : Int32))] _
  refine own_go (fun t₀ k₀ => own_len X0 hx hZ e0 A (z := (3 : Int32)) rfl (g := (mkF m 11 #[rv r0, rv r1, iv (0 : Int32)] [(.ref r0), (.int (0 : Int32))])) rfl rfl (Jvm.hb hby d10_11) k₀) ?_
  show Gm p e below s₁ m 12 #[rv r0, rv r1, iv (0 : Int32)] [(.int (3 : Int32)), (.int (0 : Int32))] _
  refine own_go (fun t₀ k₀ => XS.icmpNo X0.here hx rfl (Jvm.hb hby d10_12) rfl (XT.ii_ge_f (by decide)) k₀) ?_
  show Gm p e below s₁ m 15 #[rv r0, rv r1, iv (0 : Int32)] [] _
  refine own_go (fun t₀ k₀ => XS.aloadN X0.here hx rfl (Jvm.hb hby d10_15) rfl rfl k₀) ?_
  show Gm p e below s₁ m 16 #[rv r0, rv r1, iv (0 : Int32)] [(.ref r0)] _
  refine own_go (fun t₀ k₀ => XS.iloadN X0.here hx rfl (Jvm.hb hby d10_16) rfl k₀) ?_
  show Gm p e below s₁ m 17 #[rv r0, rv r1, iv (0 : Int32)] [(.int (0 : Int32)), (.ref r0)] _
  refine own_go (fun t₀ k₀ => own_ldB X0 hx hZ e0 A (j := (0 : Int32)) (k := 0) (by decide) rfl (by decide) (w := (.int x0)) hf_0 (g := (mkF m 17 #[rv r0, rv r1, iv (0 : Int32)] [(.int (0 : Int32)), (.ref r0)])) rfl rfl (Jvm.hb hby d10_17) k₀) ?_
  show Gm p e below s₁ m 18 #[rv r0, rv r1, iv (0 : Int32)] [(.int x0)] _
  refine own_go (fun t₀ k₀ => XS.aloadN X0.here hx rfl (Jvm.hb hby d10_18) rfl rfl k₀) ?_
  show Gm p e below s₁ m 19 #[rv r0, rv r1, iv (0 : Int32)] [(.ref r1), (.int x0)] _
  refine own_go (fun t₀ k₀ => XS.iloadN X0.here hx rfl (Jvm.hb hby d10_19) rfl k₀) ?_
  show Gm p e below s₁ m 20 #[rv r0, rv r1, iv (0 : Int32)] [(.int (0 : Int32)), (.ref r1), (.int x0)] _
  refine own_go (fun t₀ k₀ => own_ldB X0 hx hZ e0 B (j := (0 : Int32)) (k := 0) (by decide) rfl (by decide) (w := (.int x0)) hg_0 (g := (mkF m 20 #[rv r0, rv r1, iv (0 : Int32)] [(.int (0 : Int32)), (.ref r1), (.int x0)])) rfl rfl (Jvm.hb hby d10_20) k₀) ?_
  show Gm p e below s₁ m 21 #[rv r0, rv r1, iv (0 : Int32)] [(.int x0), (.int x0)] _
  refine own_go (fun t₀ k₀ => XS.icmpYes X0.here hx rfl (pc0 := 21) (pc' := 26) rfl (Jvm.hb hby d10_21) rfl (XT.ii_eq_t rfl) (by decide) (by decide) k₀) ?_
  show Gm p e below s₁ m 26 #[rv r0, rv r1, iv (0 : Int32)] [] _
  refine own_go (fun t₀ k₀ => XS.iinc X0.here hx rfl (Jvm.hb hby d10_26) rfl (l' := #[rv r0, rv r1, iv (1 : Int32)]) rfl k₀) ?_
  show Gm p e below s₁ m 29 #[rv r0, rv r1, iv (1 : Int32)] [] _
  refine own_go (fun t₀ k₀ => XS.goto X0.here hx rfl (pc0 := 29) (pc' := 9) rfl (Jvm.hb hby d10_29) (by decide) (by decide) k₀) ?_
  show Gm p e below s₁ m 9 #[rv r0, rv r1, iv (1 : Int32)] [] _
  refine own_go (fun t₀ k₀ => XS.iloadN X0.here hx rfl (Jvm.hb hby d10_9) rfl k₀) ?_
  show Gm p e below s₁ m 10 #[rv r0, rv r1, iv (1 : Int32)] [(.int (1 : Int32))] _
  refine own_go (fun t₀ k₀ => XS.aloadN X0.here hx rfl (Jvm.hb hby d10_10) rfl rfl k₀) ?_
  show Gm p e below s₁ m 11 #[rv r0, rv r1, iv (1 : Int32)] [(.ref r0), (.int (1 : Int32))] _
  refine own_go (fun t₀ k₀ => own_len X0 hx hZ e0 A (z := (3 : Int32)) rfl (g := (mkF m 11 #[rv r0, rv r1, iv (1 : Int32)] [(.ref r0), (.int (1 : Int32))])) rfl rfl (Jvm.hb hby d10_11) k₀) ?_
  show Gm p e below s₁ m 12 #[rv r0, rv r1, iv (1 : Int32)] [(.int (3 : Int32)), (.int (1 : Int32))] _
  refine own_go (fun t₀ k₀ => XS.icmpNo X0.here hx rfl (Jvm.hb hby d10_12) rfl (XT.ii_ge_f (by decide)) k₀) ?_
  show Gm p e below s₁ m 15 #[rv r0, rv r1, iv (1 : Int32)] [] _
  refine own_go (fun t₀ k₀ => XS.aloadN X0.here hx rfl (Jvm.hb hby d10_15) rfl rfl k₀) ?_
  show Gm p e below s₁ m 16 #[rv r0, rv r1, iv (1 : Int32)] [(.ref r0)] _
  refine own_go (fun t₀ k₀ => XS.iloadN X0.here hx rfl (Jvm.hb hby d10_16) rfl k₀) ?_
  show Gm p e below s₁ m 17 #[rv r0, rv r1, iv (1 : Int32)] [(.int (1 : Int32)), (.ref r0)] _
  refine own_go (fun t₀ k₀ => own_ldB X0 hx hZ e0 A (j := (1 : Int32)) (k := 1) (by decide) rfl (by decide) (w := (.int x1)) hf_1 (g := (mkF m 17 #[rv r0, rv r1, iv (1 : Int32)] [(.int (1 : Int32)), (.ref r0)])) rfl rfl (Jvm.hb hby d10_17) k₀) ?_
  show Gm p e below s₁ m 18 #[rv r0, rv r1, iv (1 : Int32)] [(.int x1)] _
  refine own_go (fun t₀ k₀ => XS.aloadN X0.here hx rfl (Jvm.hb hby d10_18) rfl rfl k₀) ?_
  show Gm p e below s₁ m 19 #[rv r0, rv r1, iv (1 : Int32)] [(.ref r1), (.int x1)] _
  refine own_go (fun t₀ k₀ => XS.iloadN X0.here hx rfl (Jvm.hb hby d10_19) rfl k₀) ?_
  show Gm p e below s₁ m 20 #[rv r0, rv r1, iv (1 : Int32)] [(.int (1 : Int32)), (.ref r1), (.int x1)] _
  refine own_go (fun t₀ k₀ => own_ldB X0 hx hZ e0 B (j := (1 : Int32)) (k := 1) (by decide) rfl (by decide) (w := (.int x1)) hg_1 (g := (mkF m 20 #[rv r0, rv r1, iv (1 : Int32)] [(.int (1 : Int32)), (.ref r1), (.int x1)])) rfl rfl (Jvm.hb hby d10_20) k₀) ?_
  show Gm p e below s₁ m 21 #[rv r0, rv r1, iv (1 : Int32)] [(.int x1), (.int x1)] _
  refine own_go (fun t₀ k₀ => XS.icmpYes X0.here hx rfl (pc0 := 21) (pc' := 26) rfl (Jvm.hb hby d10_21) rfl (XT.ii_eq_t rfl) (by decide) (by decide) k₀) ?_
  show Gm p e below s₁ m 26 #[rv r0, rv r1, iv (1 : Int32)] [] _
  refine own_go (fun t₀ k₀ => XS.iinc X0.here hx rfl (Jvm.hb hby d10_26) rfl (l' := #[rv r0, rv r1, iv (2 : Int32)]) rfl k₀) ?_
  show Gm p e below s₁ m 29 #[rv r0, rv r1, iv (2 : Int32)] [] _
  refine own_go (fun t₀ k₀ => XS.goto X0.here hx rfl (pc0 := 29) (pc' := 9) rfl (Jvm.hb hby d10_29) (by decide) (by decide) k₀) ?_
  show Gm p e below s₁ m 9 #[rv r0, rv r1, iv (2 : Int32)] [] _
  refine own_go (fun t₀ k₀ => XS.iloadN X0.here hx rfl (Jvm.hb hby d10_9) rfl k₀) ?_
  show Gm p e below s₁ m 10 #[rv r0, rv r1, iv (2 : Int32)] [(.int (2 : Int32))] _
  refine own_go (fun t₀ k₀ => XS.aloadN X0.here hx rfl (Jvm.hb hby d10_10) rfl rfl k₀) ?_
  show Gm p e below s₁ m 11 #[rv r0, rv r1, iv (2 : Int32)] [(.ref r0), (.int (2 : Int32))] _
  refine own_go (fun t₀ k₀ => own_len X0 hx hZ e0 A (z := (3 : Int32)) rfl (g := (mkF m 11 #[rv r0, rv r1, iv (2 : Int32)] [(.ref r0), (.int (2 : Int32))])) rfl rfl (Jvm.hb hby d10_11) k₀) ?_
  show Gm p e below s₁ m 12 #[rv r0, rv r1, iv (2 : Int32)] [(.int (3 : Int32)), (.int (2 : Int32))] _
  refine own_go (fun t₀ k₀ => XS.icmpNo X0.here hx rfl (Jvm.hb hby d10_12) rfl (XT.ii_ge_f (by decide)) k₀) ?_
  show Gm p e below s₁ m 15 #[rv r0, rv r1, iv (2 : Int32)] [] _
  refine own_go (fun t₀ k₀ => XS.aloadN X0.here hx rfl (Jvm.hb hby d10_15) rfl rfl k₀) ?_
  show Gm p e below s₁ m 16 #[rv r0, rv r1, iv (2 : Int32)] [(.ref r0)] _
  refine own_go (fun t₀ k₀ => XS.iloadN X0.here hx rfl (Jvm.hb hby d10_16) rfl k₀) ?_
  show Gm p e below s₁ m 17 #[rv r0, rv r1, iv (2 : Int32)] [(.int (2 : Int32)), (.ref r0)] _
  refine own_go (fun t₀ k₀ => own_ldB X0 hx hZ e0 A (j := (2 : Int32)) (k := 2) (by decide) rfl (by decide) (w := (.int x2)) hf_2 (g := (mkF m 17 #[rv r0, rv r1, iv (2 : Int32)] [(.int (2 : Int32)), (.ref r0)])) rfl rfl (Jvm.hb hby d10_17) k₀) ?_
  show Gm p e below s₁ m 18 #[rv r0, rv r1, iv (2 : Int32)] [(.int x2)] _
  refine own_go (fun t₀ k₀ => XS.aloadN X0.here hx rfl (Jvm.hb hby d10_18) rfl rfl k₀) ?_
  show Gm p e below s₁ m 19 #[rv r0, rv r1, iv (2 : Int32)] [(.ref r1), (.int x2)] _
  refine own_go (fun t₀ k₀ => XS.iloadN X0.here hx rfl (Jvm.hb hby d10_19) rfl k₀) ?_
  show Gm p e below s₁ m 20 #[rv r0, rv r1, iv (2 : Int32)] [(.int (2 : Int32)), (.ref r1), (.int x2)] _
  refine own_go (fun t₀ k₀ => own_ldB X0 hx hZ e0 B (j := (2 : Int32)) (k := 2) (by decide) rfl (by decide) (w := (.int x2)) hg_2 (g := (mkF m 20 #[rv r0, rv r1, iv (2 : Int32)] [(.int (2 : Int32)), (.ref r1), (.int x2)])) rfl rfl (Jvm.hb hby d10_20) k₀) ?_
  show Gm p e below s₁ m 21 #[rv r0, rv r1, iv (2 : Int32)] [(.int x2), (.int x2)] _
  refine own_go (fun t₀ k₀ => XS.icmpYes X0.here hx rfl (pc0 := 21) (pc' := 26) rfl (Jvm.hb hby d10_21) rfl (XT.ii_eq_t rfl) (by decide) (by decide) k₀) ?_
  show Gm p e below s₁ m 26 #[rv r0, rv r1, iv (2 : Int32)] [] _
  refine own_go (fun t₀ k₀ => XS.iinc X0.here hx rfl (Jvm.hb hby d10_26) rfl (l' := #[rv r0, rv r1, iv (3 : Int32)]) rfl k₀) ?_
  show Gm p e below s₁ m 29 #[rv r0, rv r1, iv (3 : Int32)] [] _
  refine own_go (fun t₀ k₀ => XS.goto X0.here hx rfl (pc0 := 29) (pc' := 9) rfl (Jvm.hb hby d10_29) (by decide) (by decide) k₀) ?_
  show Gm p e below s₁ m 9 #[rv r0, rv r1, iv (3 : Int32)] [] _
  refine own_go (fun t₀ k₀ => XS.iloadN X0.here hx rfl (Jvm.hb hby d10_9) rfl k₀) ?_
  show Gm p e below s₁ m 10 #[rv r0, rv r1, iv (3 : Int32)] [(.int (3 : Int32))] _
  refine own_go (fun t₀ k₀ => XS.aloadN X0.here hx rfl (Jvm.hb hby d10_10) rfl rfl k₀) ?_
  show Gm p e below s₁ m 11 #[rv r0, rv r1, iv (3 : Int32)] [(.ref r0), (.int (3 : Int32))] _
  refine own_go (fun t₀ k₀ => own_len X0 hx hZ e0 A (z := (3 : Int32)) rfl (g := (mkF m 11 #[rv r0, rv r1, iv (3 : Int32)] [(.ref r0), (.int (3 : Int32))])) rfl rfl (Jvm.hb hby d10_11) k₀) ?_
  show Gm p e below s₁ m 12 #[rv r0, rv r1, iv (3 : Int32)] [(.int (3 : Int32)), (.int (3 : Int32))] _
  refine own_go (fun t₀ k₀ => XS.icmpYes X0.here hx rfl (pc0 := 12) (pc' := 32) rfl (Jvm.hb hby d10_12) rfl (XT.ii_ge_t (by decide)) (by decide) (by decide) k₀) ?_
  show Gm p e below s₁ m 32 #[rv r0, rv r1, iv (3 : Int32)] [] _
  refine own_go (fun t₀ k₀ => XS.iconst X0.here hx rfl (Jvm.hb hby d10_32) k₀) ?_
  show Gm p e below s₁ m 33 #[rv r0, rv r1, iv (3 : Int32)] [(.int (1 : Int32))] _
  exact own_retI X0 hx hlk (t := .boolean) Bd.returns rfl (by simp) (Jvm.hb hby d10_33) e0 ⟨rfl, N0, rfl⟩ (by decide) (by decide)
theorem own_pn_rmE_3 : plainName "java/lang/String" = true := by first | (simp [plainName, overriddenIn]; done) | decide +kernel
theorem own_ef_rmE_3 (m : MethodId) (r0 : Addr) (r1 : Addr) : entryFrame m #[(.ref r0), (.ref r1)] 3 = mkF m 0 #[.val (.ref r0), .val (.ref r1), .unset] [] := by first | (simp [entryFrame, mkF, argsToLocals, Value.category]; done) | rfl
set_option maxRecDepth 65536 in
set_option maxHeartbeats 40000000 in
theorem rmE_3 (l : Launch) (Z : State) (a0 : Array Value) (hw : ∀ d ∈ tables_1, d.before a0 Z = true) (ws : List Jvm.Cond) (r0 : Addr) (r1 : Addr) (b0 : Addr) (b1 : Addr) (f : Nat → Value) (g : Nat → Value) (x0 : Int32) (x1 : Int32) (x2 : Int32) (cs : Int32) (h0 : Heap) (n0 : Nat) (Z0 : n0 ≤ h0.size) (E_r1 : Exa Z h0 r1 "java/lang/String") (F_c0 : Fld Z h0 r0 "java/lang/String" "coder" "B" (.int (0 : Int32))) (F_c1 : Fld Z h0 r1 "java/lang/String" "coder" "B" (.int (0 : Int32))) (F_v0 : Fld Z h0 r0 "java/lang/String" "value" "[B" (.ref b0)) (F_v1 : Fld Z h0 r1 "java/lang/String" "value" "[B" (.ref b1)) (A : Af Z h0 b0 .byte 3 f) (B : Af Z h0 b1 .byte 3 g) (hf_0 : f 0 = .int x0) (hf_1 : f 1 = .int x1) (hf_2 : f 2 = .int x2) (hg_0 : g 0 = .int x0) (hg_1 : g 1 = .int x1) (hg_2 : g 2 = .int x2) (S_c : Sta Z h0 "java/lang/String" "COMPACT_STRINGS" "Z" (.int cs)) (hcs : ¬ cs = 0) :
    MetFree l (⟨"java/lang/String", "equals", "(Ljava/lang/Object;)Z"⟩ : MethodName) (head1 (Jvm.Cond.code (⟨"java/lang/String", "equals", "(Ljava/lang/Object;)Z"⟩ : MethodName) jdk_42_method_66_code 3 (some .boolean) :: ws) ({ frames := 1, cells := 0, slots := 0, locals := 14 } : Room)) (fun a U => a = #[(.ref r0), (.ref r1)] ∧ Z.Warmed39 U.vm ∧ U.heap = h0) (fun _ _ _ _ _ => True) (fun _ U o U' => ∃ v L, o = .returned v ∧ QE h0 n0 v U'.heap L ∧ FrameEnd U o U' L ({ frames := 1, cells := 0, slots := 0, locals := 14 } : Room).cells ({ frames := 1, cells := 0, slots := 0, locals := 14 } : Room).slots) := by
  refine MetFree.of_bodySF (plainFor_of_name own_pn_rmE_3) hisR ?_
  intro p e s m args below meth cO s₁ Bd hml0 hP hK
  obtain ⟨rfl, hZ, hh⟩ := hP
  have hx := Bd.exec
  have hby := Bd.bytes
  have hml : cO.maxLocals = 3 := hml0
  have hown : s.vm.findClass "java/lang/String" = some m.cls := findClass_of_methodNamed Bd.named
  have hnm := (name_of_methodNamed Bd.named Bd.method).1
  have hlk : meth.locks = false := BodyLoose.notSynchronized Bd
  have X0 : Stand p l e ({ frames := 1, cells := 0, slots := 0, locals := 14 } : Room) s m #[(.ref r0), (.ref r1)] below meth cO s₁ [] 0 0 := Stand.of_body Bd
  have e0 : s₁.heap = h0 := by rw [← hh, Bd.state]; rfl
  have N0 := Fr.nil n0
  refine own_in (own_ef_rmE_3 m r0 r1) ?_
  show Gm p e below s₁ m 0 #[rv r0, rv r1, .unset] [] _
  refine own_go (fun t₀ k₀ => XS.aloadN X0.here hx rfl (Jvm.hb hby d9_0) rfl rfl k₀) ?_
  show Gm p e below s₁ m 1 #[rv r0, rv r1, .unset] [(.ref r0)] _
  refine own_go (fun t₀ k₀ => XS.aloadN X0.here hx rfl (Jvm.hb hby d9_1) rfl rfl k₀) ?_
  show Gm p e below s₁ m 2 #[rv r0, rv r1, .unset] [(.ref r1), (.ref r0)] _
  by_cases c1 : r0 = r1
  · have hfork := trivial
    refine own_go (fun t₀ k₀ => XT.acmpNo X0.here hx rfl (Jvm.hb hby d9_2) rfl rfl rfl (XT.aa_ne_f (congrArg Value.ref c1)) k₀) ?_
    show Gm p e below s₁ m 5 #[rv r0, rv r1, .unset] [] _
    refine own_go (fun t₀ k₀ => XS.iconst X0.here hx rfl (Jvm.hb hby d9_5) k₀) ?_
    show Gm p e below s₁ m 6 #[rv r0, rv r1, .unset] [(.int (1 : Int32))] _
    exact own_retI X0 hx hlk (t := .boolean) Bd.returns rfl (by simp) (Jvm.hb hby d9_6) e0 ⟨rfl, N0, rfl⟩ (by decide) (by decide)
  · have hfork := trivial
    refine own_go (fun t₀ k₀ => XT.acmpYes X0.here hx rfl (pc0 := 2) (pc' := 7) rfl (Jvm.hb hby d9_2) rfl rfl rfl (XT.aa_ne_t (fun q => c1 (Value.ref.inj q))) (by decide) (by decide) k₀) ?_
    show Gm p e below s₁ m 7 #[rv r0, rv r1, .unset] [] _
    refine own_go (fun t₀ k₀ => XS.aloadN X0.here hx rfl (Jvm.hb hby d9_7) rfl rfl k₀) ?_
    show Gm p e below s₁ m 8 #[rv r0, rv r1, .unset] [(.ref r1)] _
    obtain ⟨T2, X2, e2, st2⟩ := instY X0 hx hZ hown (hw _ (List.mem_of_getElem? (i := 63) rfl)) e0 (Ins.self E_r1) (g := (mkF m 8 #[rv r0, rv r1, .unset] [(.ref r1)])) rfl rfl (Jvm.hb hby d9_8)
    refine own_go st2 ?_
    show Gm p e below T2 m 11 #[rv r0, rv r1, .unset] [(.int (1 : Int32))] _
    refine own_go (fun t₀ k₀ => XS.ifNo X2.here hx rfl (Jvm.hb hby d9_11) rfl (XT.i0_eq_f (by decide)) k₀) ?_
    show Gm p e below T2 m 14 #[rv r0, rv r1, .unset] [] _
    refine own_go (fun t₀ k₀ => XS.aloadN X2.here hx rfl (Jvm.hb hby d9_14) rfl rfl k₀) ?_
    show Gm p e below T2 m 15 #[rv r0, rv r1, .unset] [(.ref r1)] _
    obtain ⟨T3, X3, e3, st3⟩ := castY X2 hx hZ hown (hw _ (List.mem_of_getElem? (i := 63) rfl)) e2 (Ins.self E_r1) (g := (mkF m 15 #[rv r0, rv r1, .unset] [(.ref r1)])) rfl rfl (Jvm.hb hby d9_15)
    refine own_go st3 ?_
    show Gm p e below T3 m 18 #[rv r0, rv r1, .unset] [(.ref r1)] _
    refine own_go (fun t₀ k₀ => XS.astoreN X3.here hx rfl (Jvm.hb hby d9_18) rfl rfl (l' := #[rv r0, rv r1, rv r1]) rfl k₀) ?_
    show Gm p e below T3 m 19 #[rv r0, rv r1, rv r1] [] _
    obtain ⟨T4, X4, e4, st4⟩ := getS2 X3 hx hZ hown (host := "") (Or.inl (hw _ (List.mem_of_getElem? (i := 64) rfl))) Via.refl e3 S_c (g := (mkF m 19 #[rv r0, rv r1, rv r1] [])) rfl (Jvm.hb hby d9_19)
    refine own_go st4 ?_
    show Gm p e below T4 m 22 #[rv r0, rv r1, rv r1] [(.int cs)] _
    refine own_go (fun t₀ k₀ => XS.ifNo X4.here hx rfl (Jvm.hb hby d9_22) rfl (XT.i0_eq_f hcs) k₀) ?_
    show Gm p e below T4 m 25 #[rv r0, rv r1, rv r1] [] _
    refine own_go (fun t₀ k₀ => XS.aloadN X4.here hx rfl (Jvm.hb hby d9_25) rfl rfl k₀) ?_
    show Gm p e below T4 m 26 #[rv r0, rv r1, rv r1] [(.ref r0)] _
    obtain ⟨T5, X5, e5, st5⟩ := getF X4 hx hZ hown (host := "") (Or.inl (hw _ (List.mem_of_getElem? (i := 26) rfl))) Via.refl e4 F_c0 (g := (mkF m 26 #[rv r0, rv r1, rv r1] [(.ref r0)])) rfl rfl (Jvm.hb hby d9_26)
    refine own_go st5 ?_
    show Gm p e below T5 m 29 #[rv r0, rv r1, rv r1] [(.int (0 : Int32))] _
    refine own_go (fun t₀ k₀ => XS.aloadN X5.here hx rfl (Jvm.hb hby d9_29) rfl rfl k₀) ?_
    show Gm p e below T5 m 30 #[rv r0, rv r1, rv r1] [(.ref r1), (.int (0 : Int32))] _
    obtain ⟨T6, X6, e6, st6⟩ := getF X5 hx hZ hown (host := "") (Or.inl (hw _ (List.mem_of_getElem? (i := 26) rfl))) Via.refl e5 F_c1 (g := (mkF m 30 #[rv r0, rv r1, rv r1] [(.ref r1), (.int (0 : Int32))])) rfl rfl (Jvm.hb hby d9_30)
    refine own_go st6 ?_
    show Gm p e below T6 m 33 #[rv r0, rv r1, rv r1] [(.int (0 : Int32)), (.int (0 : Int32))] _
    refine own_go (fun t₀ k₀ => XS.icmpNo X6.here hx rfl (Jvm.hb hby d9_33) rfl (XT.ii_ne_f (by decide)) k₀) ?_
    show Gm p e below T6 m 36 #[rv r0, rv r1, rv r1] [] _
    refine own_go (fun t₀ k₀ => XS.aloadN X6.here hx rfl (Jvm.hb hby d9_36) rfl rfl k₀) ?_
    show Gm p e below T6 m 37 #[rv r0, rv r1, rv r1] [(.ref r0)] _
    obtain ⟨T7, X7, e7, st7⟩ := getF X6 hx hZ hown (host := "") (Or.inl (hw _ (List.mem_of_getElem? (i := 25) rfl))) Via.refl e6 F_v0 (g := (mkF m 37 #[rv r0, rv r1, rv r1] [(.ref r0)])) rfl rfl (Jvm.hb hby d9_37)
    refine own_go st7 ?_
    show Gm p e below T7 m 40 #[rv r0, rv r1, rv r1] [(.ref b0)] _
    refine own_go (fun t₀ k₀ => XS.aloadN X7.here hx rfl (Jvm.hb hby d9_40) rfl rfl k₀) ?_
    show Gm p e below T7 m 41 #[rv r0, rv r1, rv r1] [(.ref r1), (.ref b0)] _
    obtain ⟨T8, X8, e8, st8⟩ := getF X7 hx hZ hown (host := "") (Or.inl (hw _ (List.mem_of_getElem? (i := 25) rfl))) Via.refl e7 F_v1 (g := (mkF m 41 #[rv r0, rv r1, rv r1] [(.ref r1), (.ref b0)])) rfl rfl (Jvm.hb hby d9_41)
    refine own_go st8 ?_
    show Gm p e below T8 m 44 #[rv r0, rv r1, rv r1] [(.ref b1), (.ref b0)] _
    obtain ⟨_, _, ⟨T9, L9, k9, n9⟩, -, X9, ⟨Lc9, hQ9, l9, y9, z9⟩, st9⟩ := Jvm.LawKit.callS X8 hx (y := (⟨"java/lang/StringLatin1", "equals", "([B[B)Z"⟩ : MethodName)) hown (mvT hZ (hw _ (List.mem_of_getElem? (i := 65) rfl))) (mvT hZ (hw _ (List.mem_of_getElem? (i := 66) rfl))) (mvT hZ (hw _ (List.mem_of_getElem? (i := 67) rfl))) (mvT hZ (hw _ (List.mem_of_getElem? (i := 68) rfl))) (by decide) (backOf (W := 0) (rmL_3 l Z a0 hw [] b0 b1 f g x0 x1 x2 h0 n0 Z0 A B hf_0 hf_1 hf_2 hg_0 hg_1 hg_2) hZ (hw _ (List.mem_of_getElem? (i := 68) rfl)) (hw _ (List.mem_of_getElem? (i := 67) rfl)) (by decide) (by decide)) (g := (mkF m 44 #[rv r0, rv r1, rv r1] [(.ref b1), (.ref b0)])) rfl (by rw [hml]; rfl) (argsL := [(.ref b0), (.ref b1)]) (rest := []) (lenOf own_pd8 rfl) rfl (by show 2 * 0 + _ ≤ _; exact Nat.le_of_eq rfl) (Jvm.hb hby d9_44) (fun _ _ => ⟨rfl, e8, (by decide : 0 + 0 ≤ _), (by decide : 0 + 0 ≤ _)⟩)
    dsimp only [Pt.U, Pt.locs, Pt.cells, Pt.slots] at X9 l9 y9 z9 st9 hQ9
    subst l9 y9 z9
    obtain ⟨rfl, Nq9, eq9⟩ := hQ9
    have N9 := Fr.app N0 Nq9
    have e9 : T9.heap = h0 := eq9
    refine own_go st9 ?_
    show Gm p e below T9 m 47 #[rv r0, rv r1, rv r1] [(.int (1 : Int32))] _
    refine own_go (fun t₀ k₀ => XS.ifNo X9.here hx rfl (Jvm.hb hby d9_47) rfl (XT.i0_eq_f (by decide)) k₀) ?_
    show Gm p e below T9 m 50 #[rv r0, rv r1, rv r1] [] _
    refine own_go (fun t₀ k₀ => XS.iconst X9.here hx rfl (Jvm.hb hby d9_50) k₀) ?_
    show Gm p e below T9 m 51 #[rv r0, rv r1, rv r1] [(.int (1 : Int32))] _
    refine own_go (fun t₀ k₀ => XS.goto X9.here hx rfl (pc0 := 51) (pc' := 55) rfl (Jvm.hb hby d9_51) (by decide) (by decide) k₀) ?_
    show Gm p e below T9 m 55 #[rv r0, rv r1, rv r1] [(.int (1 : Int32))] _
    exact own_retI X9 hx hlk (t := .boolean) Bd.returns rfl (by simp) (Jvm.hb hby d9_55) e9 ⟨rfl, N9, rfl⟩ (by decide) (by decide)
theorem own_pn_rmL_4 : plainName "java/lang/StringLatin1" = true := by first | (simp [plainName, overriddenIn]; done) | decide +kernel
theorem own_ef_rmL_4 (m : MethodId) (r0 : Addr) (r1 : Addr) : entryFrame m #[(.ref r0), (.ref r1)] 3 = mkF m 0 #[.val (.ref r0), .val (.ref r1), .unset] [] := by first | (simp [entryFrame, mkF, argsToLocals, Value.category]; done) | rfl
def QL_4 (Z : State) (r0 : Addr) (r1 : Addr) (f : Nat → Value) (g : Nat → Value) (x0 : Int32) (x1 : Int32) (x2 : Int32) (x3 : Int32) (h0 : Heap) (n0 : Nat) (v : Option Value) (h : Heap) (L : List Loc) : Prop := v = some (.int (1 : Int32)) ∧ Fr n0 L ∧ h = h0
set_option maxRecDepth 65536 in
set_option maxHeartbeats 40000000 in
theorem rmL_4 (l : Launch) (Z : State) (a0 : Array Value) (hw : ∀ d ∈ tables_1, d.before a0 Z = true) (ws : List Jvm.Cond) (r0 : Addr) (r1 : Addr) (f : Nat → Value) (g : Nat → Value) (x0 : Int32) (x1 : Int32) (x2 : Int32) (x3 : Int32) (h0 : Heap) (n0 : Nat) (Z0 : n0 ≤ h0.size) (A : Af Z h0 r0 .byte 4 f) (B : Af Z h0 r1 .byte 4 g) (hf_0 : f 0 = .int x0) (hf_1 : f 1 = .int x1) (hf_2 : f 2 = .int x2) (hf_3 : f 3 = .int x3) (hg_0 : g 0 = .int x0) (hg_1 : g 1 = .int x1) (hg_2 : g 2 = .int x2) (hg_3 : g 3 = .int x3) :
    MetFree l (⟨"java/lang/StringLatin1", "equals", "([B[B)Z"⟩ : MethodName) (head1 (Jvm.Cond.code (⟨"java/lang/StringLatin1", "equals", "([B[B)Z"⟩ : MethodName) jdk_43_method_13_code 3 (some .boolean) :: ws) ({ frames := 0, cells := 0, slots := 0, locals := 0 } : Room)) (fun a U => a = #[(.ref r0), (.ref r1)] ∧ Z.Warmed39 U.vm ∧ U.heap = h0) (fun _ _ _ _ _ => True) (fun _ U o U' => ∃ v L, o = .returned v ∧ QL_4 Z r0 r1 f g x0 x1 x2 x3 h0 n0 v U'.heap L ∧ FrameEnd U o U' L ({ frames := 0, cells := 0, slots := 0, locals := 0 } : Room).cells ({ frames := 0, cells := 0, slots := 0, locals := 0 } : Room).slots) := by
  refine MetFree.of_bodySF (plainFor_of_name own_pn_rmL_4) hisR ?_
  intro p e s m args below meth cO s₁ Bd hml0 hP hK
  obtain ⟨rfl, hZ, hh⟩ := hP
  have hx := Bd.exec
  have hby := Bd.bytes
  have hml : cO.maxLocals = 3 := hml0
  have hown : s.vm.findClass "java/lang/StringLatin1" = some m.cls := findClass_of_methodNamed Bd.named
  have hnm := (name_of_methodNamed Bd.named Bd.method).1
  have hlk : meth.locks = false := BodyLoose.notSynchronized Bd
  have X0 : Stand p l e ({ frames := 0, cells := 0, slots := 0, locals := 0 } : Room) s m #[(.ref r0), (.ref r1)] below meth cO s₁ [] 0 0 := Stand.of_body Bd
  have e0 : s₁.heap = h0 := by rw [← hh, Bd.state]; rfl
  have N0 := Fr.nil n0
  refine own_in (own_ef_rmL_4 m r0 r1) ?_
  show Gm p e below s₁ m 0 #[rv r0, rv r1, .unset] [] _
  refine own_go (fun t₀ k₀ => XS.aloadN X0.here hx rfl (Jvm.hb hby d10_0) rfl rfl k₀) ?_
  show Gm p e below s₁ m 1 #[rv r0, rv r1, .unset] [(.ref r0)] _
  refine own_go (fun t₀ k₀ => own_len X0 hx hZ e0 A (z := (4 : Int32)) rfl (g := (mkF m 1 #[rv r0, rv r1, .unset] [(.ref r0)])) rfl rfl (Jvm.hb hby d10_1) k₀) ?_
  show Gm p e below s₁ m 2 #[rv r0, rv r1, .unset] [(.int (4 : Int32))] _
  refine own_go (fun t₀ k₀ => XS.aloadN X0.here hx rfl (Jvm.hb hby d10_2) rfl rfl k₀) ?_
  show Gm p e below s₁ m 3 #[rv r0, rv r1, .unset] [(.ref r1), (.int (4 : Int32))] _
  refine own_go (fun t₀ k₀ => own_len X0 hx hZ e0 B (z := (4 : Int32)) rfl (g := (mkF m 3 #[rv r0, rv r1, .unset] [(.ref r1), (.int (4 : Int32))])) rfl rfl (Jvm.hb hby d10_3) k₀) ?_
  show Gm p e below s₁ m 4 #[rv r0, rv r1, .unset] [(.int (4 : Int32)), (.int (4 : Int32))] _
  refine own_go (fun t₀ k₀ => XS.icmpNo X0.here hx rfl (Jvm.hb hby d10_4) rfl (XT.ii_ne_f (by decide)) k₀) ?_
  show Gm p e below s₁ m 7 #[rv r0, rv r1, .unset] [] _
  refine own_go (fun t₀ k₀ => XS.iconst X0.here hx rfl (Jvm.hb hby d10_7) k₀) ?_
  show Gm p e below s₁ m 8 #[rv r0, rv r1, .unset] [(.int (0 : Int32))] _
  refine own_go (fun t₀ k₀ => XS.istoreN X0.here hx rfl (Jvm.hb hby d10_8) rfl (l' := #[rv r0, rv r1, iv (0 : Int32)]) rfl k₀) ?_
  show Gm p e below s₁ m 9 #[rv r0, rv r1, iv (0 : Int32)] [] _
  refine own_go (fun t₀ k₀ => XS.iloadN X0.here hx rfl (Jvm.hb hby d10_9) rfl k₀) ?_
  show Gm p e below s₁ m 10 #[rv r0, rv r1, iv (0 : Int32)] [(.int (0 : Int32))] _
  refine own_go (fun t₀ k₀ => XS.aloadN X0.here hx rfl (Jvm.hb hby d10_10) rfl rfl k₀) ?_
  show Gm p e below s₁ m 11 #[rv r0, rv r1, iv (0 : Int32)] [(.ref r0), (.int (0 : Int32))] _
  refine own_go (fun t₀ k₀ => own_len X0 hx hZ e0 A (z := (4 : Int32)) rfl (g := (mkF m 11 #[rv r0, rv r1, iv (0 : Int32)] [(.ref r0), (.int (0 : Int32))])) rfl rfl (Jvm.hb hby d10_11) k₀) ?_
  show Gm p e below s₁ m 12 #[rv r0, rv r1, iv (0 : Int32)] [(.int (4 : Int32)), (.int (0 : Int32))] _
  refine own_go (fun t₀ k₀ => XS.icmpNo X0.here hx rfl (Jvm.hb hby d10_12) rfl (XT.ii_ge_f (by decide)) k₀) ?_
  show Gm p e below s₁ m 15 #[rv r0, rv r1, iv (0 : Int32)] [] _
  refine own_go (fun t₀ k₀ => XS.aloadN X0.here hx rfl (Jvm.hb hby d10_15) rfl rfl k₀) ?_
  show Gm p e below s₁ m 16 #[rv r0, rv r1, iv (0 : Int32)] [(.ref r0)] _
  refine own_go (fun t₀ k₀ => XS.iloadN X0.here hx rfl (Jvm.hb hby d10_16) rfl k₀) ?_
  show Gm p e below s₁ m 17 #[rv r0, rv r1, iv (0 : Int32)] [(.int (0 : Int32)), (.ref r0)] _
  refine own_go (fun t₀ k₀ => own_ldB X0 hx hZ e0 A (j := (0 : Int32)) (k := 0) (by decide) rfl (by decide) (w := (.int x0)) hf_0 (g := (mkF m 17 #[rv r0, rv r1, iv (0 : Int32)] [(.int (0 : Int32)), (.ref r0)])) rfl rfl (Jvm.hb hby d10_17) k₀) ?_
  show Gm p e below s₁ m 18 #[rv r0, rv r1, iv (0 : Int32)] [(.int x0)] _
  refine own_go (fun t₀ k₀ => XS.aloadN X0.here hx rfl (Jvm.hb hby d10_18) rfl rfl k₀) ?_
  show Gm p e below s₁ m 19 #[rv r0, rv r1, iv (0 : Int32)] [(.ref r1), (.int x0)] _
  refine own_go (fun t₀ k₀ => XS.iloadN X0.here hx rfl (Jvm.hb hby d10_19) rfl k₀) ?_
  show Gm p e below s₁ m 20 #[rv r0, rv r1, iv (0 : Int32)] [(.int (0 : Int32)), (.ref r1), (.int x0)] _
  refine own_go (fun t₀ k₀ => own_ldB X0 hx hZ e0 B (j := (0 : Int32)) (k := 0) (by decide) rfl (by decide) (w := (.int x0)) hg_0 (g := (mkF m 20 #[rv r0, rv r1, iv (0 : Int32)] [(.int (0 : Int32)), (.ref r1), (.int x0)])) rfl rfl (Jvm.hb hby d10_20) k₀) ?_
  show Gm p e below s₁ m 21 #[rv r0, rv r1, iv (0 : Int32)] [(.int x0), (.int x0)] _
  refine own_go (fun t₀ k₀ => XS.icmpYes X0.here hx rfl (pc0 := 21) (pc' := 26) rfl (Jvm.hb hby d10_21) rfl (XT.ii_eq_t rfl) (by decide) (by decide) k₀) ?_
  show Gm p e below s₁ m 26 #[rv r0, rv r1, iv (0 : Int32)] [] _
  refine own_go (fun t₀ k₀ => XS.iinc X0.here hx rfl (Jvm.hb hby d10_26) rfl (l' := #[rv r0, rv r1, iv (1 : Int32)]) rfl k₀) ?_
  show Gm p e below s₁ m 29 #[rv r0, rv r1, iv (1 : Int32)] [] _
  refine own_go (fun t₀ k₀ => XS.goto X0.here hx rfl (pc0 := 29) (pc' := 9) rfl (Jvm.hb hby d10_29) (by decide) (by decide) k₀) ?_
  show Gm p e below s₁ m 9 #[rv r0, rv r1, iv (1 : Int32)] [] _
  refine own_go (fun t₀ k₀ => XS.iloadN X0.here hx rfl (Jvm.hb hby d10_9) rfl k₀) ?_
  show Gm p e below s₁ m 10 #[rv r0, rv r1, iv (1 : Int32)] [(.int (1 : Int32))] _
  refine own_go (fun t₀ k₀ => XS.aloadN X0.here hx rfl (Jvm.hb hby d10_10) rfl rfl k₀) ?_
  show Gm p e below s₁ m 11 #[rv r0, rv r1, iv (1 : Int32)] [(.ref r0), (.int (1 : Int32))] _
  refine own_go (fun t₀ k₀ => own_len X0 hx hZ e0 A (z := (4 : Int32)) rfl (g := (mkF m 11 #[rv r0, rv r1, iv (1 : Int32)] [(.ref r0), (.int (1 : Int32))])) rfl rfl (Jvm.hb hby d10_11) k₀) ?_
  show Gm p e below s₁ m 12 #[rv r0, rv r1, iv (1 : Int32)] [(.int (4 : Int32)), (.int (1 : Int32))] _
  refine own_go (fun t₀ k₀ => XS.icmpNo X0.here hx rfl (Jvm.hb hby d10_12) rfl (XT.ii_ge_f (by decide)) k₀) ?_
  show Gm p e below s₁ m 15 #[rv r0, rv r1, iv (1 : Int32)] [] _
  refine own_go (fun t₀ k₀ => XS.aloadN X0.here hx rfl (Jvm.hb hby d10_15) rfl rfl k₀) ?_
  show Gm p e below s₁ m 16 #[rv r0, rv r1, iv (1 : Int32)] [(.ref r0)] _
  refine own_go (fun t₀ k₀ => XS.iloadN X0.here hx rfl (Jvm.hb hby d10_16) rfl k₀) ?_
  show Gm p e below s₁ m 17 #[rv r0, rv r1, iv (1 : Int32)] [(.int (1 : Int32)), (.ref r0)] _
  refine own_go (fun t₀ k₀ => own_ldB X0 hx hZ e0 A (j := (1 : Int32)) (k := 1) (by decide) rfl (by decide) (w := (.int x1)) hf_1 (g := (mkF m 17 #[rv r0, rv r1, iv (1 : Int32)] [(.int (1 : Int32)), (.ref r0)])) rfl rfl (Jvm.hb hby d10_17) k₀) ?_
  show Gm p e below s₁ m 18 #[rv r0, rv r1, iv (1 : Int32)] [(.int x1)] _
  refine own_go (fun t₀ k₀ => XS.aloadN X0.here hx rfl (Jvm.hb hby d10_18) rfl rfl k₀) ?_
  show Gm p e below s₁ m 19 #[rv r0, rv r1, iv (1 : Int32)] [(.ref r1), (.int x1)] _
  refine own_go (fun t₀ k₀ => XS.iloadN X0.here hx rfl (Jvm.hb hby d10_19) rfl k₀) ?_
  show Gm p e below s₁ m 20 #[rv r0, rv r1, iv (1 : Int32)] [(.int (1 : Int32)), (.ref r1), (.int x1)] _
  refine own_go (fun t₀ k₀ => own_ldB X0 hx hZ e0 B (j := (1 : Int32)) (k := 1) (by decide) rfl (by decide) (w := (.int x1)) hg_1 (g := (mkF m 20 #[rv r0, rv r1, iv (1 : Int32)] [(.int (1 : Int32)), (.ref r1), (.int x1)])) rfl rfl (Jvm.hb hby d10_20) k₀) ?_
  show Gm p e below s₁ m 21 #[rv r0, rv r1, iv (1 : Int32)] [(.int x1), (.int x1)] _
  refine own_go (fun t₀ k₀ => XS.icmpYes X0.here hx rfl (pc0 := 21) (pc' := 26) rfl (Jvm.hb hby d10_21) rfl (XT.ii_eq_t rfl) (by decide) (by decide) k₀) ?_
  show Gm p e below s₁ m 26 #[rv r0, rv r1, iv (1 : Int32)] [] _
  refine own_go (fun t₀ k₀ => XS.iinc X0.here hx rfl (Jvm.hb hby d10_26) rfl (l' := #[rv r0, rv r1, iv (2 : Int32)]) rfl k₀) ?_
  show Gm p e below s₁ m 29 #[rv r0, rv r1, iv (2 : Int32)] [] _
  refine own_go (fun t₀ k₀ => XS.goto X0.here hx rfl (pc0 := 29) (pc' := 9) rfl (Jvm.hb hby d10_29) (by decide) (by decide) k₀) ?_
  show Gm p e below s₁ m 9 #[rv r0, rv r1, iv (2 : Int32)] [] _
  refine own_go (fun t₀ k₀ => XS.iloadN X0.here hx rfl (Jvm.hb hby d10_9) rfl k₀) ?_
  show Gm p e below s₁ m 10 #[rv r0, rv r1, iv (2 : Int32)] [(.int (2 : Int32))] _
  refine own_go (fun t₀ k₀ => XS.aloadN X0.here hx rfl (Jvm.hb hby d10_10) rfl rfl k₀) ?_
  show Gm p e below s₁ m 11 #[rv r0, rv r1, iv (2 : Int32)] [(.ref r0), (.int (2 : Int32))] _
  refine own_go (fun t₀ k₀ => own_len X0 hx hZ e0 A (z := (4 : Int32)) rfl (g := (mkF m 11 #[rv r0, rv r1, iv (2 : Int32)] [(.ref r0), (.int (2 : Int32))])) rfl rfl (Jvm.hb hby d10_11) k₀) ?_
  show Gm p e below s₁ m 12 #[rv r0, rv r1, iv (2 : Int32)] [(.int (4 : Int32)), (.int (2 : Int32))] _
  refine own_go (fun t₀ k₀ => XS.icmpNo X0.here hx rfl (Jvm.hb hby d10_12) rfl (XT.ii_ge_f (by decide)) k₀) ?_
  show Gm p e below s₁ m 15 #[rv r0, rv r1, iv (2 : Int32)] [] _
  refine own_go (fun t₀ k₀ => XS.aloadN X0.here hx rfl (Jvm.hb hby d10_15) rfl rfl k₀) ?_
  show Gm p e below s₁ m 16 #[rv r0, rv r1, iv (2 : Int32)] [(.ref r0)] _
  refine own_go (fun t₀ k₀ => XS.iloadN X0.here hx rfl (Jvm.hb hby d10_16) rfl k₀) ?_
  show Gm p e below s₁ m 17 #[rv r0, rv r1, iv (2 : Int32)] [(.int (2 : Int32)), (.ref r0)] _
  refine own_go (fun t₀ k₀ => own_ldB X0 hx hZ e0 A (j := (2 : Int32)) (k := 2) (by decide) rfl (by decide) (w := (.int x2)) hf_2 (g := (mkF m 17 #[rv r0, rv r1, iv (2 : Int32)] [(.int (2 : Int32)), (.ref r0)])) rfl rfl (Jvm.hb hby d10_17) k₀) ?_
  show Gm p e below s₁ m 18 #[rv r0, rv r1, iv (2 : Int32)] [(.int x2)] _
  refine own_go (fun t₀ k₀ => XS.aloadN X0.here hx rfl (Jvm.hb hby d10_18) rfl rfl k₀) ?_
  show Gm p e below s₁ m 19 #[rv r0, rv r1, iv (2 : Int32)] [(.ref r1), (.int x2)] _
  refine own_go (fun t₀ k₀ => XS.iloadN X0.here hx rfl (Jvm.hb hby d10_19) rfl k₀) ?_
  show Gm p e below s₁ m 20 #[rv r0, rv r1, iv (2 : Int32)] [(.int (2 : Int32)), (.ref r1), (.int x2)] _
  refine own_go (fun t₀ k₀ => own_ldB X0 hx hZ e0 B (j := (2 : Int32)) (k := 2) (by decide) rfl (by decide) (w := (.int x2)) hg_2 (g := (mkF m 20 #[rv r0, rv r1, iv (2 : Int32)] [(.int (2 : Int32)), (.ref r1), (.int x2)])) rfl rfl (Jvm.hb hby d10_20) k₀) ?_
  show Gm p e below s₁ m 21 #[rv r0, rv r1, iv (2 : Int32)] [(.int x2), (.int x2)] _
  refine own_go (fun t₀ k₀ => XS.icmpYes X0.here hx rfl (pc0 := 21) (pc' := 26) rfl (Jvm.hb hby d10_21) rfl (XT.ii_eq_t rfl) (by decide) (by decide) k₀) ?_
  show Gm p e below s₁ m 26 #[rv r0, rv r1, iv (2 : Int32)] [] _
  refine own_go (fun t₀ k₀ => XS.iinc X0.here hx rfl (Jvm.hb hby d10_26) rfl (l' := #[rv r0, rv r1, iv (3 : Int32)]) rfl k₀) ?_
  show Gm p e below s₁ m 29 #[rv r0, rv r1, iv (3 : Int32)] [] _
  refine own_go (fun t₀ k₀ => XS.goto X0.here hx rfl (pc0 := 29) (pc' := 9) rfl (Jvm.hb hby d10_29) (by decide) (by decide) k₀) ?_
  show Gm p e below s₁ m 9 #[rv r0, rv r1, iv (3 : Int32)] [] _
  refine own_go (fun t₀ k₀ => XS.iloadN X0.here hx rfl (Jvm.hb hby d10_9) rfl k₀) ?_
  show Gm p e below s₁ m 10 #[rv r0, rv r1, iv (3 : Int32)] [(.int (3 : Int32))] _
  refine own_go (fun t₀ k₀ => XS.aloadN X0.here hx rfl (Jvm.hb hby d10_10) rfl rfl k₀) ?_
  show Gm p e below s₁ m 11 #[rv r0, rv r1, iv (3 : Int32)] [(.ref r0), (.int (3 : Int32))] _
  refine own_go (fun t₀ k₀ => own_len X0 hx hZ e0 A (z := (4 : Int32)) rfl (g := (mkF m 11 #[rv r0, rv r1, iv (3 : Int32)] [(.ref r0), (.int (3 : Int32))])) rfl rfl (Jvm.hb hby d10_11) k₀) ?_
  show Gm p e below s₁ m 12 #[rv r0, rv r1, iv (3 : Int32)] [(.int (4 : Int32)), (.int (3 : Int32))] _
  refine own_go (fun t₀ k₀ => XS.icmpNo X0.here hx rfl (Jvm.hb hby d10_12) rfl (XT.ii_ge_f (by decide)) k₀) ?_
  show Gm p e below s₁ m 15 #[rv r0, rv r1, iv (3 : Int32)] [] _
  refine own_go (fun t₀ k₀ => XS.aloadN X0.here hx rfl (Jvm.hb hby d10_15) rfl rfl k₀) ?_
  show Gm p e below s₁ m 16 #[rv r0, rv r1, iv (3 : Int32)] [(.ref r0)] _
  refine own_go (fun t₀ k₀ => XS.iloadN X0.here hx rfl (Jvm.hb hby d10_16) rfl k₀) ?_
  show Gm p e below s₁ m 17 #[rv r0, rv r1, iv (3 : Int32)] [(.int (3 : Int32)), (.ref r0)] _
  refine own_go (fun t₀ k₀ => own_ldB X0 hx hZ e0 A (j := (3 : Int32)) (k := 3) (by decide) rfl (by decide) (w := (.int x3)) hf_3 (g := (mkF m 17 #[rv r0, rv r1, iv (3 : Int32)] [(.int (3 : Int32)), (.ref r0)])) rfl rfl (Jvm.hb hby d10_17) k₀) ?_
  show Gm p e below s₁ m 18 #[rv r0, rv r1, iv (3 : Int32)] [(.int x3)] _
  refine own_go (fun t₀ k₀ => XS.aloadN X0.here hx rfl (Jvm.hb hby d10_18) rfl rfl k₀) ?_
  show Gm p e below s₁ m 19 #[rv r0, rv r1, iv (3 : Int32)] [(.ref r1), (.int x3)] _
  refine own_go (fun t₀ k₀ => XS.iloadN X0.here hx rfl (Jvm.hb hby d10_19) rfl k₀) ?_
  show Gm p e below s₁ m 20 #[rv r0, rv r1, iv (3 : Int32)] [(.int (3 : Int32)), (.ref r1), (.int x3)] _
  refine own_go (fun t₀ k₀ => own_ldB X0 hx hZ e0 B (j := (3 : Int32)) (k := 3) (by decide) rfl (by decide) (w := (.int x3)) hg_3 (g := (mkF m 20 #[rv r0, rv r1, iv (3 : Int32)] [(.int (3 : Int32)), (.ref r1), (.int x3)])) rfl rfl (Jvm.hb hby d10_20) k₀) ?_
  show Gm p e below s₁ m 21 #[rv r0, rv r1, iv (3 : Int32)] [(.int x3), (.int x3)] _
  refine own_go (fun t₀ k₀ => XS.icmpYes X0.here hx rfl (pc0 := 21) (pc' := 26) rfl (Jvm.hb hby d10_21) rfl (XT.ii_eq_t rfl) (by decide) (by decide) k₀) ?_
  show Gm p e below s₁ m 26 #[rv r0, rv r1, iv (3 : Int32)] [] _
  refine own_go (fun t₀ k₀ => XS.iinc X0.here hx rfl (Jvm.hb hby d10_26) rfl (l' := #[rv r0, rv r1, iv (4 : Int32)]) rfl k₀) ?_
  show Gm p e below s₁ m 29 #[rv r0, rv r1, iv (4 : Int32)] [] _
  refine own_go (fun t₀ k₀ => XS.goto X0.here hx rfl (pc0 := 29) (pc' := 9) rfl (Jvm.hb hby d10_29) (by decide) (by decide) k₀) ?_
  show Gm p e below s₁ m 9 #[rv r0, rv r1, iv (4 : Int32)] [] _
  refine own_go (fun t₀ k₀ => XS.iloadN X0.here hx rfl (Jvm.hb hby d10_9) rfl k₀) ?_
  show Gm p e below s₁ m 10 #[rv r0, rv r1, iv (4 : Int32)] [(.int (4 : Int32))] _
  refine own_go (fun t₀ k₀ => XS.aloadN X0.here hx rfl (Jvm.hb hby d10_10) rfl rfl k₀) ?_
  show Gm p e below s₁ m 11 #[rv r0, rv r1, iv (4 : Int32)] [(.ref r0), (.int (4 : Int32))] _
  refine own_go (fun t₀ k₀ => own_len X0 hx hZ e0 A (z := (4 : Int32)) rfl (g := (mkF m 11 #[rv r0, rv r1, iv (4 : Int32)] [(.ref r0), (.int (4 : Int32))])) rfl rfl (Jvm.hb hby d10_11) k₀) ?_
  show Gm p e below s₁ m 12 #[rv r0, rv r1, iv (4 : Int32)] [(.int (4 : Int32)), (.int (4 : Int32))] _
  refine own_go (fun t₀ k₀ => XS.icmpYes X0.here hx rfl (pc0 := 12) (pc' := 32) rfl (Jvm.hb hby d10_12) rfl (XT.ii_ge_t (by decide)) (by decide) (by decide) k₀) ?_
  show Gm p e below s₁ m 32 #[rv r0, rv r1, iv (4 : Int32)] [] _
  refine own_go (fun t₀ k₀ => XS.iconst X0.here hx rfl (Jvm.hb hby d10_32) k₀) ?_
  show Gm p e below s₁ m 33 #[rv r0, rv r1, iv (4 : Int32)] [(.int (1 : Int32))] _
  exact own_retI X0 hx hlk (t := .boolean) Bd.returns rfl (by simp) (Jvm.hb hby d10_33) e0 ⟨rfl, N0, rfl⟩ (by decide) (by decide)
theorem own_pn_rmE_4 : plainName "java/lang/String" = true := by first | (simp [plainName, overriddenIn]; done) | decide +kernel
theorem own_ef_rmE_4 (m : MethodId) (r0 : Addr) (r1 : Addr) : entryFrame m #[(.ref r0), (.ref r1)] 3 = mkF m 0 #[.val (.ref r0), .val (.ref r1), .unset] [] := by first | (simp [entryFrame, mkF, argsToLocals, Value.category]; done) | rfl
set_option maxRecDepth 65536 in
set_option maxHeartbeats 40000000 in
theorem rmE_4 (l : Launch) (Z : State) (a0 : Array Value) (hw : ∀ d ∈ tables_1, d.before a0 Z = true) (ws : List Jvm.Cond) (r0 : Addr) (r1 : Addr) (b0 : Addr) (b1 : Addr) (f : Nat → Value) (g : Nat → Value) (x0 : Int32) (x1 : Int32) (x2 : Int32) (x3 : Int32) (cs : Int32) (h0 : Heap) (n0 : Nat) (Z0 : n0 ≤ h0.size) (E_r1 : Exa Z h0 r1 "java/lang/String") (F_c0 : Fld Z h0 r0 "java/lang/String" "coder" "B" (.int (0 : Int32))) (F_c1 : Fld Z h0 r1 "java/lang/String" "coder" "B" (.int (0 : Int32))) (F_v0 : Fld Z h0 r0 "java/lang/String" "value" "[B" (.ref b0)) (F_v1 : Fld Z h0 r1 "java/lang/String" "value" "[B" (.ref b1)) (A : Af Z h0 b0 .byte 4 f) (B : Af Z h0 b1 .byte 4 g) (hf_0 : f 0 = .int x0) (hf_1 : f 1 = .int x1) (hf_2 : f 2 = .int x2) (hf_3 : f 3 = .int x3) (hg_0 : g 0 = .int x0) (hg_1 : g 1 = .int x1) (hg_2 : g 2 = .int x2) (hg_3 : g 3 = .int x3) (S_c : Sta Z h0 "java/lang/String" "COMPACT_STRINGS" "Z" (.int cs)) (hcs : ¬ cs = 0) :
    MetFree l (⟨"java/lang/String", "equals", "(Ljava/lang/Object;)Z"⟩ : MethodName) (head1 (Jvm.Cond.code (⟨"java/lang/String", "equals", "(Ljava/lang/Object;)Z"⟩ : MethodName) jdk_42_method_66_code 3 (some .boolean) :: ws) ({ frames := 1, cells := 0, slots := 0, locals := 14 } : Room)) (fun a U => a = #[(.ref r0), (.ref r1)] ∧ Z.Warmed39 U.vm ∧ U.heap = h0) (fun _ _ _ _ _ => True) (fun _ U o U' => ∃ v L, o = .returned v ∧ QE h0 n0 v U'.heap L ∧ FrameEnd U o U' L ({ frames := 1, cells := 0, slots := 0, locals := 14 } : Room).cells ({ frames := 1, cells := 0, slots := 0, locals := 14 } : Room).slots) := by
  refine MetFree.of_bodySF (plainFor_of_name own_pn_rmE_4) hisR ?_
  intro p e s m args below meth cO s₁ Bd hml0 hP hK
  obtain ⟨rfl, hZ, hh⟩ := hP
  have hx := Bd.exec
  have hby := Bd.bytes
  have hml : cO.maxLocals = 3 := hml0
  have hown : s.vm.findClass "java/lang/String" = some m.cls := findClass_of_methodNamed Bd.named
  have hnm := (name_of_methodNamed Bd.named Bd.method).1
  have hlk : meth.locks = false := BodyLoose.notSynchronized Bd
  have X0 : Stand p l e ({ frames := 1, cells := 0, slots := 0, locals := 14 } : Room) s m #[(.ref r0), (.ref r1)] below meth cO s₁ [] 0 0 := Stand.of_body Bd
  have e0 : s₁.heap = h0 := by rw [← hh, Bd.state]; rfl
  have N0 := Fr.nil n0
  refine own_in (own_ef_rmE_4 m r0 r1) ?_
  show Gm p e below s₁ m 0 #[rv r0, rv r1, .unset] [] _
  refine own_go (fun t₀ k₀ => XS.aloadN X0.here hx rfl (Jvm.hb hby d9_0) rfl rfl k₀) ?_
  show Gm p e below s₁ m 1 #[rv r0, rv r1, .unset] [(.ref r0)] _
  refine own_go (fun t₀ k₀ => XS.aloadN X0.here hx rfl (Jvm.hb hby d9_1) rfl rfl k₀) ?_
  show Gm p e below s₁ m 2 #[rv r0, rv r1, .unset] [(.ref r1), (.ref r0)] _
  by_cases c1 : r0 = r1
  · have hfork := trivial
    refine own_go (fun t₀ k₀ => XT.acmpNo X0.here hx rfl (Jvm.hb hby d9_2) rfl rfl rfl (XT.aa_ne_f (congrArg Value.ref c1)) k₀) ?_
    show Gm p e below s₁ m 5 #[rv r0, rv r1, .unset] [] _
    refine own_go (fun t₀ k₀ => XS.iconst X0.here hx rfl (Jvm.hb hby d9_5) k₀) ?_
    show Gm p e below s₁ m 6 #[rv r0, rv r1, .unset] [(.int (1 : Int32))] _
    exact own_retI X0 hx hlk (t := .boolean) Bd.returns rfl (by simp) (Jvm.hb hby d9_6) e0 ⟨rfl, N0, rfl⟩ (by decide) (by decide)
  · have hfork := trivial
    refine own_go (fun t₀ k₀ => XT.acmpYes X0.here hx rfl (pc0 := 2) (pc' := 7) rfl (Jvm.hb hby d9_2) rfl rfl rfl (XT.aa_ne_t (fun q => c1 (Value.ref.inj q))) (by decide) (by decide) k₀) ?_
    show Gm p e below s₁ m 7 #[rv r0, rv r1, .unset] [] _
    refine own_go (fun t₀ k₀ => XS.aloadN X0.here hx rfl (Jvm.hb hby d9_7) rfl rfl k₀) ?_
    show Gm p e below s₁ m 8 #[rv r0, rv r1, .unset] [(.ref r1)] _
    obtain ⟨T2, X2, e2, st2⟩ := instY X0 hx hZ hown (hw _ (List.mem_of_getElem? (i := 63) rfl)) e0 (Ins.self E_r1) (g := (mkF m 8 #[rv r0, rv r1, .unset] [(.ref r1)])) rfl rfl (Jvm.hb hby d9_8)
    refine own_go st2 ?_
    show Gm p e below T2 m 11 #[rv r0, rv r1, .unset] [(.int (1 : Int32))] _
    refine own_go (fun t₀ k₀ => XS.ifNo X2.here hx rfl (Jvm.hb hby d9_11) rfl (XT.i0_eq_f (by decide)) k₀) ?_
    show Gm p e below T2 m 14 #[rv r0, rv r1, .unset] [] _
    refine own_go (fun t₀ k₀ => XS.aloadN X2.here hx rfl (Jvm.hb hby d9_14) rfl rfl k₀) ?_
    show Gm p e below T2 m 15 #[rv r0, rv r1, .unset] [(.ref r1)] _
    obtain ⟨T3, X3, e3, st3⟩ := castY X2 hx hZ hown (hw _ (List.mem_of_getElem? (i := 63) rfl)) e2 (Ins.self E_r1) (g := (mkF m 15 #[rv r0, rv r1, .unset] [(.ref r1)])) rfl rfl (Jvm.hb hby d9_15)
    refine own_go st3 ?_
    show Gm p e below T3 m 18 #[rv r0, rv r1, .unset] [(.ref r1)] _
    refine own_go (fun t₀ k₀ => XS.astoreN X3.here hx rfl (Jvm.hb hby d9_18) rfl rfl (l' := #[rv r0, rv r1, rv r1]) rfl k₀) ?_
    show Gm p e below T3 m 19 #[rv r0, rv r1, rv r1] [] _
    obtain ⟨T4, X4, e4, st4⟩ := getS2 X3 hx hZ hown (host := "") (Or.inl (hw _ (List.mem_of_getElem? (i := 64) rfl))) Via.refl e3 S_c (g := (mkF m 19 #[rv r0, rv r1, rv r1] [])) rfl (Jvm.hb hby d9_19)
    refine own_go st4 ?_
    show Gm p e below T4 m 22 #[rv r0, rv r1, rv r1] [(.int cs)] _
    refine own_go (fun t₀ k₀ => XS.ifNo X4.here hx rfl (Jvm.hb hby d9_22) rfl (XT.i0_eq_f hcs) k₀) ?_
    show Gm p e below T4 m 25 #[rv r0, rv r1, rv r1] [] _
    refine own_go (fun t₀ k₀ => XS.aloadN X4.here hx rfl (Jvm.hb hby d9_25) rfl rfl k₀) ?_
    show Gm p e below T4 m 26 #[rv r0, rv r1, rv r1] [(.ref r0)] _
    obtain ⟨T5, X5, e5, st5⟩ := getF X4 hx hZ hown (host := "") (Or.inl (hw _ (List.mem_of_getElem? (i := 26) rfl))) Via.refl e4 F_c0 (g := (mkF m 26 #[rv r0, rv r1, rv r1] [(.ref r0)])) rfl rfl (Jvm.hb hby d9_26)
    refine own_go st5 ?_
    show Gm p e below T5 m 29 #[rv r0, rv r1, rv r1] [(.int (0 : Int32))] _
    refine own_go (fun t₀ k₀ => XS.aloadN X5.here hx rfl (Jvm.hb hby d9_29) rfl rfl k₀) ?_
    show Gm p e below T5 m 30 #[rv r0, rv r1, rv r1] [(.ref r1), (.int (0 : Int32))] _
    obtain ⟨T6, X6, e6, st6⟩ := getF X5 hx hZ hown (host := "") (Or.inl (hw _ (List.mem_of_getElem? (i := 26) rfl))) Via.refl e5 F_c1 (g := (mkF m 30 #[rv r0, rv r1, rv r1] [(.ref r1), (.int (0 : Int32))])) rfl rfl (Jvm.hb hby d9_30)
    refine own_go st6 ?_
    show Gm p e below T6 m 33 #[rv r0, rv r1, rv r1] [(.int (0 : Int32)), (.int (0 : Int32))] _
    refine own_go (fun t₀ k₀ => XS.icmpNo X6.here hx rfl (Jvm.hb hby d9_33) rfl (XT.ii_ne_f (by decide)) k₀) ?_
    show Gm p e below T6 m 36 #[rv r0, rv r1, rv r1] [] _
    refine own_go (fun t₀ k₀ => XS.aloadN X6.here hx rfl (Jvm.hb hby d9_36) rfl rfl k₀) ?_
    show Gm p e below T6 m 37 #[rv r0, rv r1, rv r1] [(.ref r0)] _
    obtain ⟨T7, X7, e7, st7⟩ := getF X6 hx hZ hown (host := "") (Or.inl (hw _ (List.mem_of_getElem? (i := 25) rfl))) Via.refl e6 F_v0 (g := (mkF m 37 #[rv r0, rv r1, rv r1] [(.ref r0)])) rfl rfl (Jvm.hb hby d9_37)
    refine own_go st7 ?_
    show Gm p e below T7 m 40 #[rv r0, rv r1, rv r1] [(.ref b0)] _
    refine own_go (fun t₀ k₀ => XS.aloadN X7.here hx rfl (Jvm.hb hby d9_40) rfl rfl k₀) ?_
    show Gm p e below T7 m 41 #[rv r0, rv r1, rv r1] [(.ref r1), (.ref b0)] _
    obtain ⟨T8, X8, e8, st8⟩ := getF X7 hx hZ hown (host := "") (Or.inl (hw _ (List.mem_of_getElem? (i := 25) rfl))) Via.refl e7 F_v1 (g := (mkF m 41 #[rv r0, rv r1, rv r1] [(.ref r1), (.ref b0)])) rfl rfl (Jvm.hb hby d9_41)
    refine own_go st8 ?_
    show Gm p e below T8 m 44 #[rv r0, rv r1, rv r1] [(.ref b1), (.ref b0)] _
    obtain ⟨_, _, ⟨T9, L9, k9, n9⟩, -, X9, ⟨Lc9, hQ9, l9, y9, z9⟩, st9⟩ := Jvm.LawKit.callS X8 hx (y := (⟨"java/lang/StringLatin1", "equals", "([B[B)Z"⟩ : MethodName)) hown (mvT hZ (hw _ (List.mem_of_getElem? (i := 65) rfl))) (mvT hZ (hw _ (List.mem_of_getElem? (i := 66) rfl))) (mvT hZ (hw _ (List.mem_of_getElem? (i := 67) rfl))) (mvT hZ (hw _ (List.mem_of_getElem? (i := 68) rfl))) (by decide) (backOf (W := 0) (rmL_4 l Z a0 hw [] b0 b1 f g x0 x1 x2 x3 h0 n0 Z0 A B hf_0 hf_1 hf_2 hf_3 hg_0 hg_1 hg_2 hg_3) hZ (hw _ (List.mem_of_getElem? (i := 68) rfl)) (hw _ (List.mem_of_getElem? (i := 67) rfl)) (by decide) (by decide)) (g := (mkF m 44 #[rv r0, rv r1, rv r1] [(.ref b1), (.ref b0)])) rfl (by rw [hml]; rfl) (argsL := [(.ref b0), (.ref b1)]) (rest := []) (lenOf own_pd8 rfl) rfl (by show 2 * 0 + _ ≤ _; exact Nat.le_of_eq rfl) (Jvm.hb hby d9_44) (fun _ _ => ⟨rfl, e8, (by decide : 0 + 0 ≤ _), (by decide : 0 + 0 ≤ _)⟩)
    dsimp only [Pt.U, Pt.locs, Pt.cells, Pt.slots] at X9 l9 y9 z9 st9 hQ9
    subst l9 y9 z9
    obtain ⟨rfl, Nq9, eq9⟩ := hQ9
    have N9 := Fr.app N0 Nq9
    have e9 : T9.heap = h0 := eq9
    refine own_go st9 ?_
    show Gm p e below T9 m 47 #[rv r0, rv r1, rv r1] [(.int (1 : Int32))] _
    refine own_go (fun t₀ k₀ => XS.ifNo X9.here hx rfl (Jvm.hb hby d9_47) rfl (XT.i0_eq_f (by decide)) k₀) ?_
    show Gm p e below T9 m 50 #[rv r0, rv r1, rv r1] [] _
    refine own_go (fun t₀ k₀ => XS.iconst X9.here hx rfl (Jvm.hb hby d9_50) k₀) ?_
    show Gm p e below T9 m 51 #[rv r0, rv r1, rv r1] [(.int (1 : Int32))] _
    refine own_go (fun t₀ k₀ => XS.goto X9.here hx rfl (pc0 := 51) (pc' := 55) rfl (Jvm.hb hby d9_51) (by decide) (by decide) k₀) ?_
    show Gm p e below T9 m 55 #[rv r0, rv r1, rv r1] [(.int (1 : Int32))] _
    exact own_retI X9 hx hlk (t := .boolean) Bd.returns rfl (by simp) (Jvm.hb hby d9_55) e9 ⟨rfl, N9, rfl⟩ (by decide) (by decide)
theorem rmE (l : Launch) (Z : State) (a0 : Array Value) (hw : ∀ d ∈ tables_1, d.before a0 Z = true) (ws : List Jvm.Cond) (r0 r1 b0 b1 : Addr) (n : Nat) (f g : Nat → Value) (x : Nat → Int32) (cs : Int32) (h0 : Heap) (n0 : Nat) (Z0 : n0 ≤ h0.size) (hn : n ≤ 4) (E_r1 : Exa Z h0 r1 "java/lang/String") (F_c0 : Fld Z h0 r0 "java/lang/String" "coder" "B" (.int (0 : Int32))) (F_c1 : Fld Z h0 r1 "java/lang/String" "coder" "B" (.int (0 : Int32))) (F_v0 : Fld Z h0 r0 "java/lang/String" "value" "[B" (.ref b0)) (F_v1 : Fld Z h0 r1 "java/lang/String" "value" "[B" (.ref b1)) (A : Af Z h0 b0 .byte n f) (B : Af Z h0 b1 .byte n g) (hf : ∀ i, i < n → f i = .int (x i)) (hg : ∀ i, i < n → g i = .int (x i)) (S_c : Sta Z h0 "java/lang/String" "COMPACT_STRINGS" "Z" (.int cs)) (hcs : ¬ cs = 0) :
    MetFree l (⟨"java/lang/String", "equals", "(Ljava/lang/Object;)Z"⟩ : MethodName) (head1 (Jvm.Cond.code (⟨"java/lang/String", "equals", "(Ljava/lang/Object;)Z"⟩ : MethodName) jdk_42_method_66_code 3 (some .boolean) :: ws) ({ frames := 1, cells := 0, slots := 0, locals := 14 } : Room)) (fun a U => a = #[.ref r0, .ref r1] ∧ Z.Warmed39 U.vm ∧ U.heap = h0) (fun _ _ _ _ _ => True) (fun _ U o U' => ∃ v L, o = .returned v ∧ QE h0 n0 v U'.heap L ∧ FrameEnd U o U' L ({ frames := 1, cells := 0, slots := 0, locals := 14 } : Room).cells ({ frames := 1, cells := 0, slots := 0, locals := 14 } : Room).slots) := by
  rcases (by omega : n = 0 ∨ n = 1 ∨ n = 2 ∨ n = 3 ∨ n = 4) with rfl | rfl | rfl | rfl | rfl
  · exact rmE_0 l Z a0 hw ws r0 r1 b0 b1 f g  cs h0 n0 Z0 E_r1 F_c0 F_c1 F_v0 F_v1 A B   S_c hcs
  · exact rmE_1 l Z a0 hw ws r0 r1 b0 b1 f g (x 0) cs h0 n0 Z0 E_r1 F_c0 F_c1 F_v0 F_v1 A B (hf 0 (by decide)) (hg 0 (by decide)) S_c hcs
  · exact rmE_2 l Z a0 hw ws r0 r1 b0 b1 f g (x 0) (x 1) cs h0 n0 Z0 E_r1 F_c0 F_c1 F_v0 F_v1 A B (hf 0 (by decide)) (hf 1 (by decide)) (hg 0 (by decide)) (hg 1 (by decide)) S_c hcs
  · exact rmE_3 l Z a0 hw ws r0 r1 b0 b1 f g (x 0) (x 1) (x 2) cs h0 n0 Z0 E_r1 F_c0 F_c1 F_v0 F_v1 A B (hf 0 (by decide)) (hf 1 (by decide)) (hf 2 (by decide)) (hg 0 (by decide)) (hg 1 (by decide)) (hg 2 (by decide)) S_c hcs
  · exact rmE_4 l Z a0 hw ws r0 r1 b0 b1 f g (x 0) (x 1) (x 2) (x 3) cs h0 n0 Z0 E_r1 F_c0 F_c1 F_v0 F_v1 A B (hf 0 (by decide)) (hf 1 (by decide)) (hf 2 (by decide)) (hf 3 (by decide)) (hg 0 (by decide)) (hg 1 (by decide)) (hg 2 (by decide)) (hg 3 (by decide)) S_c hcs
theorem own_pd9 : parseMethodDescriptor "(IIIII)Ljava/lang/String;" = some ⟨[.int, .int, .int, .int, .int], some (.object "java/lang/String")⟩ := by decide +kernel
theorem own_pd10 : parseMethodDescriptor "(Ljava/lang/String;)Lcom/example/gettone/gettone/core/Place;" = some ⟨[(.object "java/lang/String")], some (.object "com/example/gettone/gettone/core/Place")⟩ := by decide +kernel
theorem own_pd11 : parseMethodDescriptor "()Ljava/lang/String;" = some ⟨[], some (.object "java/lang/String")⟩ := by decide +kernel
theorem own_pd12 : parseMethodDescriptor "(Ljava/lang/Object;)Z" = some ⟨[(.object "java/lang/Object")], some .boolean⟩ := by decide +kernel
theorem own_pd13 : parseMethodDescriptor "()Z" = some ⟨[], some .boolean⟩ := by decide +kernel
theorem own_pd14 : parseMethodDescriptor "()Ljava/util/Optional;" = some ⟨[], some (.object "java/util/Optional")⟩ := by decide +kernel
theorem own_pn_rm0 : plainName "com/example/gettone/gettone/core/PlaceChoicePinLaw" = true := by first | (simp [plainName, overriddenIn]; done) | decide +kernel
theorem own_ef_rm0 (m : MethodId) (p0 : Int32) (p1 : Int32) (p2 : Int32) (p3 : Int32) (p4 : Int32) : entryFrame m #[(.int p0), (.int p1), (.int p2), (.int p3), (.int p4)] maxLocals = mkF m 0 #[.val (.int p0), .val (.int p1), .val (.int p2), .val (.int p3), .val (.int p4), .unset, .unset, .unset, .unset, .unset, .unset, .unset] [] := by first | (simp [entryFrame, mkF, argsToLocals, Value.category, maxLocals]; done) | rfl
def Q0 (Z : State) (p0 : Int32) (p1 : Int32) (p2 : Int32) (p3 : Int32) (p4 : Int32) (cs : Int32) (aE : Addr) (h0 : Heap) (n0 : Nat) (v : Option Value) (h : Heap) (L : List Loc) : Prop := v = some (.int 1) ∧ Fr n0 L
set_option maxRecDepth 65536 in
set_option maxHeartbeats 40000000 in
theorem rm0 (l : Launch) (Z : State) (a0 : Array Value) (hw : ∀ d ∈ tables_1, d.before a0 Z = true) (ws : List Jvm.Cond) (p0 : Int32) (p1 : Int32) (p2 : Int32) (p3 : Int32) (p4 : Int32) (cs : Int32) (aE : Addr) (h0 : Heap) (n0 : Nat) (Z0 : n0 ≤ h0.size) (S_c : Sta Z h0 "java/lang/String" "COMPACT_STRINGS" "Z" (.int cs)) (hcs : ¬ cs = 0) (S_e : Sta Z h0 "java/util/Optional" "EMPTY" "Ljava/util/Optional;" (.ref aE)) (E_e : Exa Z h0 aE "java/util/Optional") (F_e : Fld Z h0 aE "java/util/Optional" "value" "Ljava/lang/Object;" .null) :
    MetFree l x (head1 (Jvm.Cond.code x code maxLocals ret :: ws) room_1) (fun a U => a = #[(.int p0), (.int p1), (.int p2), (.int p3), (.int p4)] ∧ Z.Warmed39 U.vm ∧ U.heap = h0 ∧ CHv Z own_EL U.vm h0 ∧ ∀ x ∈ ([] : List Addr), Safe Z own_EL U.vm h0 x) (fun _ _ _ _ _ => True) (fun _ U o U' => ∃ v L, o = .returned v ∧ Q0 Z p0 p1 p2 p3 p4 cs aE h0 n0 v U'.heap L ∧ CHr Z own_EL U.vm U.heap U'.vm U'.heap ∧ ReturnedEndW U o U' L room_1.cells room_1.slots) := by
  refine MetFree.of_bodySF (plainFor_of_name own_pn_rm0) hisR ?_
  intro p e s m args below meth cO s₁ Bd hml0 hP hK
  obtain ⟨rfl, hZ, hh, hH, hsf⟩ := hP
  have hZ : Z.Warmed39 (s.setVm s.vm).vm := hZ
  have hx := Bd.exec
  have hby := Bd.bytes
  have hml : cO.maxLocals = 12 := hml0
  have hown : (s.setVm s.vm).vm.findClass "com/example/gettone/gettone/core/PlaceChoicePinLaw" = some m.cls := findClass_of_methodNamed Bd.named
  have hnm := (name_of_methodNamed Bd.named Bd.method).1
  have hlk : meth.locks = false := BodyLoose.notSynchronized Bd
  have X0 : Stand p l e room_1 (s.setVm s.vm) m #[(.int p0), (.int p1), (.int p2), (.int p3), (.int p4)] below meth cO s₁ [] 0 0 := Stand.of_body Bd
  have hS0 : s.Since s.vm h0.size := (State.WarmedH.refl s).since _
  have hk0 : h0.size ≤ h0.size := Nat.le_refl _
  have C0 : CHr Z own_EL s.vm s.heap s.vm h0 := by rw [hh]; exact CHr.refl hH
  have e0 : s₁.heap = h0 := by rw [← hh, Bd.state]; rfl
  have N0 := Fr.nil n0
  refine own_in (own_ef_rm0 m p0 p1 p2 p3 p4) ?_
  show Gm p e below s₁ m 0 #[iv p0, iv p1, iv p2, iv p3, iv p4, .unset, .unset, .unset, .unset, .unset, .unset, .unset] [] _
  refine own_go (fun t₀ k₀ => XS.iloadN X0.here hx rfl (Jvm.hb hby at_0) rfl k₀) ?_
  show Gm p e below s₁ m 1 #[iv p0, iv p1, iv p2, iv p3, iv p4, .unset, .unset, .unset, .unset, .unset, .unset, .unset] [(.int p0)] _
  refine own_go (fun t₀ k₀ => X0.ldcI hx hown (mvT hZ (hw _ (List.mem_of_getElem? (i := 0) rfl))) rfl (Jvm.hb hby at_1) k₀) ?_
  show Gm p e below s₁ m 3 #[iv p0, iv p1, iv p2, iv p3, iv p4, .unset, .unset, .unset, .unset, .unset, .unset, .unset] [(.int (2147483647 : Int32)), (.int p0)] _
  refine own_go (fun t₀ k₀ => XS.iand X0.here hx rfl (Jvm.hb hby at_3) rfl k₀) ?_
  show Gm p e below s₁ m 4 #[iv p0, iv p1, iv p2, iv p3, iv p4, .unset, .unset, .unset, .unset, .unset, .unset, .unset] [(.int (p0 &&& (2147483647 : Int32)))] _
  refine own_go (fun t₀ k₀ => XS.iconst X0.here hx rfl (Jvm.hb hby at_4) k₀) ?_
  show Gm p e below s₁ m 5 #[iv p0, iv p1, iv p2, iv p3, iv p4, .unset, .unset, .unset, .unset, .unset, .unset, .unset] [(.int (5 : Int32)), (.int (p0 &&& (2147483647 : Int32)))] _
  refine own_go (fun t₀ k₀ => iremM X0 hx rfl (Jvm.hb hby at_5) rfl (by decide) k₀) ?_
  show Gm p e below s₁ m 6 #[iv p0, iv p1, iv p2, iv p3, iv p4, .unset, .unset, .unset, .unset, .unset, .unset, .unset] [(.int ((p0 &&& (2147483647 : Int32)) % (5 : Int32)))] _
  refine own_go (fun t₀ k₀ => XS.istore X0.here hx rfl (Jvm.hb hby at_6) rfl (l' := #[iv p0, iv p1, iv p2, iv p3, iv p4, iv ((p0 &&& (2147483647 : Int32)) % (5 : Int32)), .unset, .unset, .unset, .unset, .unset, .unset]) rfl k₀) ?_
  show Gm p e below s₁ m 8 #[iv p0, iv p1, iv p2, iv p3, iv p4, iv ((p0 &&& (2147483647 : Int32)) % (5 : Int32)), .unset, .unset, .unset, .unset, .unset, .unset] [] _
  refine own_go (fun t₀ k₀ => XS.iload X0.here hx rfl (Jvm.hb hby at_8) rfl k₀) ?_
  show Gm p e below s₁ m 10 #[iv p0, iv p1, iv p2, iv p3, iv p4, iv ((p0 &&& (2147483647 : Int32)) % (5 : Int32)), .unset, .unset, .unset, .unset, .unset, .unset] [(.int ((p0 &&& (2147483647 : Int32)) % (5 : Int32)))] _
  refine own_go (fun t₀ k₀ => XS.iloadN X0.here hx rfl (Jvm.hb hby at_10) rfl k₀) ?_
  show Gm p e below s₁ m 11 #[iv p0, iv p1, iv p2, iv p3, iv p4, iv ((p0 &&& (2147483647 : Int32)) % (5 : Int32)), .unset, .unset, .unset, .unset, .unset, .unset] [(.int p1), (.int ((p0 &&& (2147483647 : Int32)) % (5 : Int32)))] _
  refine own_go (fun t₀ k₀ => XS.iloadN X0.here hx rfl (Jvm.hb hby at_11) rfl k₀) ?_
  show Gm p e below s₁ m 12 #[iv p0, iv p1, iv p2, iv p3, iv p4, iv ((p0 &&& (2147483647 : Int32)) % (5 : Int32)), .unset, .unset, .unset, .unset, .unset, .unset] [(.int p2), (.int p1), (.int ((p0 &&& (2147483647 : Int32)) % (5 : Int32)))] _
  refine own_go (fun t₀ k₀ => XS.iloadN X0.here hx rfl (Jvm.hb hby at_12) rfl k₀) ?_
  show Gm p e below s₁ m 13 #[iv p0, iv p1, iv p2, iv p3, iv p4, iv ((p0 &&& (2147483647 : Int32)) % (5 : Int32)), .unset, .unset, .unset, .unset, .unset, .unset] [(.int p3), (.int p2), (.int p1), (.int ((p0 &&& (2147483647 : Int32)) % (5 : Int32)))] _
  refine own_go (fun t₀ k₀ => XS.iload X0.here hx rfl (Jvm.hb hby at_13) rfl k₀) ?_
  show Gm p e below s₁ m 15 #[iv p0, iv p1, iv p2, iv p3, iv p4, iv ((p0 &&& (2147483647 : Int32)) % (5 : Int32)), .unset, .unset, .unset, .unset, .unset, .unset] [(.int p4), (.int p3), (.int p2), (.int p1), (.int ((p0 &&& (2147483647 : Int32)) % (5 : Int32)))] _
  obtain ⟨_, _, ⟨T1, L1, q1, n1⟩, -, X1, hs1, hg1, ⟨Lc1, hQ1, l1, y1, z1, Cs1⟩, st1⟩ := callSS X0 hx (y := (⟨"com/example/gettone/gettone/core/PlaceChoicePinLaw", "str", "(IIIII)Ljava/lang/String;"⟩ : MethodName)) hown (mvT hZ (hw _ (List.mem_of_getElem? (i := 1) rfl))) (mvT hZ (hw _ (List.mem_of_getElem? (i := 2) rfl))) (mvT hZ (hw _ (List.mem_of_getElem? (i := 3) rfl))) (mvT hZ (hw _ (List.mem_of_getElem? (i := 4) rfl))) (by decide) (own_backW (W := 0) (rmS l Z a0 hw [] ((p0 &&& (2147483647 : Int32)) % (5 : Int32)) p1 p2 p3 p4 cs h0 n0 Z0 S_c hcs) hZ (hw _ (List.mem_of_getElem? (i := 4) rfl)) (hw _ (List.mem_of_getElem? (i := 3) rfl)) (by decide) (by decide) (own_ew hw) C0.1 own_hs0) (g := (mkF m 15 #[iv p0, iv p1, iv p2, iv p3, iv p4, iv ((p0 &&& (2147483647 : Int32)) % (5 : Int32)), .unset, .unset, .unset, .unset, .unset, .unset] [(.int p4), (.int p3), (.int p2), (.int p1), (.int ((p0 &&& (2147483647 : Int32)) % (5 : Int32)))])) rfl (by rw [hml]; rfl) (argsL := [(.int ((p0 &&& (2147483647 : Int32)) % (5 : Int32))), (.int p1), (.int p2), (.int p3), (.int p4)]) (rest := []) (lenOf own_pd9 rfl) rfl (by show 2 * 0 + _ ≤ _; exact Nat.le_of_eq rfl) (Jvm.hb hby at_15) (fun _ _ => ⟨rfl, e0, (by decide : 0 + 6 ≤ _), (by decide : 0 + 12 ≤ _)⟩)
  dsimp only [Pt.U, Pt.locs, Pt.cells, Pt.slots] at X1 hs1 hg1 l1 y1 z1 st1 hQ1 Cs1
  subst l1 y1 z1
  have hS1 : s.Since T1.vm T1.heap.size := foldS hS0 (by rw [e0]; exact hk0) hs1 hg1
  have hZ : Z.Warmed39 (s.setVm T1.vm).vm := State.Warmed39.trans (t := s.setVm s.vm) hZ hs1.1
  have hown : (s.setVm T1.vm).vm.findClass "com/example/gettone/gettone/core/PlaceChoicePinLaw" = some m.cls := by rw [show (s.setVm T1.vm).vm = T1.vm from rfl, hs1.1.alike.findClass]; exact hown
  have X1 : Stand p l e _ (s.setVm T1.vm) m _ below meth cO T1 _ _ _ := X1
  have hk1 : T1.heap.size ≤ T1.heap.size := Nat.le_refl _
  obtain ⟨xs1, bs1, _, fs1, rfl, Nq1, Ex1, sz1, Ec1, Fc1, Fv1, As1, rfl, hv1⟩ := hQ1
  have N1 := Fr.app N0 Nq1
  have C1 := CHr.trans C0 Cs1
  refine own_go (fun t k => st1.trans k) ?_
  have Z1 : n0 ≤ T1.heap.size := Nat.le_trans Z0 Ex1.1
  show Gm p e below T1 m 18 #[iv p0, iv p1, iv p2, iv p3, iv p4, iv ((p0 &&& (2147483647 : Int32)) % (5 : Int32)), .unset, .unset, .unset, .unset, .unset, .unset] [(.ref xs1)] _
  refine own_go (fun t₀ k₀ => XS.astore X1.here hx rfl (Jvm.hb hby at_18) rfl rfl (l' := #[iv p0, iv p1, iv p2, iv p3, iv p4, iv ((p0 &&& (2147483647 : Int32)) % (5 : Int32)), rv xs1, .unset, .unset, .unset, .unset, .unset]) rfl k₀) ?_
  show Gm p e below T1 m 20 #[iv p0, iv p1, iv p2, iv p3, iv p4, iv ((p0 &&& (2147483647 : Int32)) % (5 : Int32)), rv xs1, .unset, .unset, .unset, .unset, .unset] [] _
  refine own_go (fun t₀ k₀ => XS.iload X1.here hx rfl (Jvm.hb hby at_20) rfl k₀) ?_
  show Gm p e below T1 m 22 #[iv p0, iv p1, iv p2, iv p3, iv p4, iv ((p0 &&& (2147483647 : Int32)) % (5 : Int32)), rv xs1, .unset, .unset, .unset, .unset, .unset] [(.int ((p0 &&& (2147483647 : Int32)) % (5 : Int32)))] _
  refine own_go (fun t₀ k₀ => XS.iloadN X1.here hx rfl (Jvm.hb hby at_22) rfl k₀) ?_
  show Gm p e below T1 m 23 #[iv p0, iv p1, iv p2, iv p3, iv p4, iv ((p0 &&& (2147483647 : Int32)) % (5 : Int32)), rv xs1, .unset, .unset, .unset, .unset, .unset] [(.int p1), (.int ((p0 &&& (2147483647 : Int32)) % (5 : Int32)))] _
  refine own_go (fun t₀ k₀ => XS.iloadN X1.here hx rfl (Jvm.hb hby at_23) rfl k₀) ?_
  show Gm p e below T1 m 24 #[iv p0, iv p1, iv p2, iv p3, iv p4, iv ((p0 &&& (2147483647 : Int32)) % (5 : Int32)), rv xs1, .unset, .unset, .unset, .unset, .unset] [(.int p2), (.int p1), (.int ((p0 &&& (2147483647 : Int32)) % (5 : Int32)))] _
  refine own_go (fun t₀ k₀ => XS.iloadN X1.here hx rfl (Jvm.hb hby at_24) rfl k₀) ?_
  show Gm p e below T1 m 25 #[iv p0, iv p1, iv p2, iv p3, iv p4, iv ((p0 &&& (2147483647 : Int32)) % (5 : Int32)), rv xs1, .unset, .unset, .unset, .unset, .unset] [(.int p3), (.int p2), (.int p1), (.int ((p0 &&& (2147483647 : Int32)) % (5 : Int32)))] _
  refine own_go (fun t₀ k₀ => XS.iload X1.here hx rfl (Jvm.hb hby at_25) rfl k₀) ?_
  show Gm p e below T1 m 27 #[iv p0, iv p1, iv p2, iv p3, iv p4, iv ((p0 &&& (2147483647 : Int32)) % (5 : Int32)), rv xs1, .unset, .unset, .unset, .unset, .unset] [(.int p4), (.int p3), (.int p2), (.int p1), (.int ((p0 &&& (2147483647 : Int32)) % (5 : Int32)))] _
  have f2 := (S_c.ext Ex1)
  obtain ⟨_, _, ⟨T3, L3, q3, n3⟩, -, X3, hs3, hg3, ⟨Lc3, hQ3, l3, y3, z3, Cs3⟩, st3⟩ := callSS X1 hx (y := (⟨"com/example/gettone/gettone/core/PlaceChoicePinLaw", "str", "(IIIII)Ljava/lang/String;"⟩ : MethodName)) hown (mvT hZ (hw _ (List.mem_of_getElem? (i := 1) rfl))) (mvT hZ (hw _ (List.mem_of_getElem? (i := 2) rfl))) (mvT hZ (hw _ (List.mem_of_getElem? (i := 3) rfl))) (mvT hZ (hw _ (List.mem_of_getElem? (i := 4) rfl))) (by decide) (own_backW (W := 0) (rmS l Z a0 hw [] ((p0 &&& (2147483647 : Int32)) % (5 : Int32)) p1 p2 p3 p4 cs T1.heap n0 Z1 f2 hcs) hZ (hw _ (List.mem_of_getElem? (i := 4) rfl)) (hw _ (List.mem_of_getElem? (i := 3) rfl)) (by decide) (by decide) (own_ew hw) C1.1 own_hs0) (g := (mkF m 27 #[iv p0, iv p1, iv p2, iv p3, iv p4, iv ((p0 &&& (2147483647 : Int32)) % (5 : Int32)), rv xs1, .unset, .unset, .unset, .unset, .unset] [(.int p4), (.int p3), (.int p2), (.int p1), (.int ((p0 &&& (2147483647 : Int32)) % (5 : Int32)))])) rfl (by rw [hml]; rfl) (argsL := [(.int ((p0 &&& (2147483647 : Int32)) % (5 : Int32))), (.int p1), (.int p2), (.int p3), (.int p4)]) (rest := []) (lenOf own_pd9 rfl) rfl (by show 2 * 0 + _ ≤ _; exact Nat.le_of_eq rfl) (Jvm.hb hby at_27) (fun _ _ => ⟨rfl, rfl, (by decide : 6 + 6 ≤ _), (by decide : 12 + 12 ≤ _)⟩)
  dsimp only [Pt.U, Pt.locs, Pt.cells, Pt.slots] at X3 hs3 hg3 l3 y3 z3 st3 hQ3 Cs3
  subst l3 y3 z3
  have hS3 : s.Since T3.vm T3.heap.size := foldS hS1 hk1 hs3 hg3
  have hZ : Z.Warmed39 (s.setVm T3.vm).vm := State.Warmed39.trans (t := s.setVm T1.vm) hZ hs3.1
  have hown : (s.setVm T3.vm).vm.findClass "com/example/gettone/gettone/core/PlaceChoicePinLaw" = some m.cls := by rw [show (s.setVm T3.vm).vm = T3.vm from rfl, hs3.1.alike.findClass]; exact hown
  have X3 : Stand p l e _ (s.setVm T3.vm) m _ below meth cO T3 _ _ _ := X3
  have hk3 : T3.heap.size ≤ T3.heap.size := Nat.le_refl _
  obtain ⟨xs3, bs3, _, fs3, rfl, Nq3, Ex3, sz3, Ec3, Fc3, Fv3, As3, rfl, hv3⟩ := hQ3
  have N3 := Fr.app N1 Nq3
  have C3 := CHr.trans C1 Cs3
  refine own_go (fun t k => st3.trans k) ?_
  have Z3 : n0 ≤ T3.heap.size := Nat.le_trans Z1 Ex3.1
  show Gm p e below T3 m 30 #[iv p0, iv p1, iv p2, iv p3, iv p4, iv ((p0 &&& (2147483647 : Int32)) % (5 : Int32)), rv xs1, .unset, .unset, .unset, .unset, .unset] [(.ref xs3)] _
  refine own_go (fun t₀ k₀ => XS.astore X3.here hx rfl (Jvm.hb hby at_30) rfl rfl (l' := #[iv p0, iv p1, iv p2, iv p3, iv p4, iv ((p0 &&& (2147483647 : Int32)) % (5 : Int32)), rv xs1, rv xs3, .unset, .unset, .unset, .unset]) rfl k₀) ?_
  show Gm p e below T3 m 32 #[iv p0, iv p1, iv p2, iv p3, iv p4, iv ((p0 &&& (2147483647 : Int32)) % (5 : Int32)), rv xs1, rv xs3, .unset, .unset, .unset, .unset] [] _
  refine own_go (fun t₀ k₀ => XS.aload X3.here hx rfl (Jvm.hb hby at_32) rfl rfl k₀) ?_
  show Gm p e below T3 m 34 #[iv p0, iv p1, iv p2, iv p3, iv p4, iv ((p0 &&& (2147483647 : Int32)) % (5 : Int32)), rv xs1, rv xs3, .unset, .unset, .unset, .unset] [(.ref xs1)] _
  have f4 := (Ec1.ext Ex3)
  obtain ⟨_, _, ⟨T5, L5, q5, n5⟩, -, X5, hs5, hg5, ⟨Lc5, hQ5, l5, y5, z5, Cs5⟩, st5⟩ := callSS X3 hx (y := (⟨"com/example/gettone/gettone/core/Place", "choice", "(Ljava/lang/String;)Lcom/example/gettone/gettone/core/Place;"⟩ : MethodName)) hown (mvT hZ (hw _ (List.mem_of_getElem? (i := 27) rfl))) (mvT hZ (hw _ (List.mem_of_getElem? (i := 28) rfl))) (mvT hZ (hw _ (List.mem_of_getElem? (i := 29) rfl))) (mvT hZ (hw _ (List.mem_of_getElem? (i := 30) rfl))) (by decide) (own_backW (W := 0) (rmN l Z a0 hw [] xs1 T3.heap n0 Z3 f4) hZ (hw _ (List.mem_of_getElem? (i := 30) rfl)) (hw _ (List.mem_of_getElem? (i := 29) rfl)) (by decide) (by decide) (own_ew hw) C3.1 own_hs0) (g := (mkF m 34 #[iv p0, iv p1, iv p2, iv p3, iv p4, iv ((p0 &&& (2147483647 : Int32)) % (5 : Int32)), rv xs1, rv xs3, .unset, .unset, .unset, .unset] [(.ref xs1)])) rfl (by rw [hml]; rfl) (argsL := [(.ref xs1)]) (rest := []) (lenOf own_pd10 rfl) rfl (by show 2 * 0 + _ ≤ _; exact Nat.le_of_eq rfl) (Jvm.hb hby at_34) (fun _ _ => ⟨rfl, rfl, (by decide : 12 + 3 ≤ _), (by decide : 24 + 17 ≤ _)⟩)
  dsimp only [Pt.U, Pt.locs, Pt.cells, Pt.slots] at X5 hs5 hg5 l5 y5 z5 st5 hQ5 Cs5
  subst l5 y5 z5
  have hS5 : s.Since T5.vm T5.heap.size := foldS hS3 hk3 hs5 hg5
  have hZ : Z.Warmed39 (s.setVm T5.vm).vm := State.Warmed39.trans (t := s.setVm T3.vm) hZ hs5.1
  have hown : (s.setVm T5.vm).vm.findClass "com/example/gettone/gettone/core/PlaceChoicePinLaw" = some m.cls := by rw [show (s.setVm T5.vm).vm = T5.vm from rfl, hs5.1.alike.findClass]; exact hown
  have X5 : Stand p l e _ (s.setVm T5.vm) m _ below meth cO T5 _ _ _ := X5
  have hk5 : T5.heap.size ≤ T5.heap.size := Nat.le_refl _
  obtain ⟨ys5, rfl, Nq5, Ex5, sz5, Ec5, F5_id, F5_environment, F5_bad, F5_origin, F5_choice⟩ := hQ5
  have N5 := Fr.app N3 Nq5
  have C5 := CHr.trans C3 Cs5
  refine own_go (fun t k => st5.trans k) ?_
  have Z5 : n0 ≤ T5.heap.size := Nat.le_trans Z3 Ex5.1
  show Gm p e below T5 m 37 #[iv p0, iv p1, iv p2, iv p3, iv p4, iv ((p0 &&& (2147483647 : Int32)) % (5 : Int32)), rv xs1, rv xs3, .unset, .unset, .unset, .unset] [(.ref ys5)] _
  refine own_go (fun t₀ k₀ => XS.astore X5.here hx rfl (Jvm.hb hby at_37) rfl rfl (l' := #[iv p0, iv p1, iv p2, iv p3, iv p4, iv ((p0 &&& (2147483647 : Int32)) % (5 : Int32)), rv xs1, rv xs3, rv ys5, .unset, .unset, .unset]) rfl k₀) ?_
  show Gm p e below T5 m 39 #[iv p0, iv p1, iv p2, iv p3, iv p4, iv ((p0 &&& (2147483647 : Int32)) % (5 : Int32)), rv xs1, rv xs3, rv ys5, .unset, .unset, .unset] [] _
  refine own_go (fun t₀ k₀ => XS.aload X5.here hx rfl (Jvm.hb hby at_39) rfl rfl k₀) ?_
  show Gm p e below T5 m 41 #[iv p0, iv p1, iv p2, iv p3, iv p4, iv ((p0 &&& (2147483647 : Int32)) % (5 : Int32)), rv xs1, rv xs3, rv ys5, .unset, .unset, .unset] [(.ref xs3)] _
  have f6 := (Ec3.ext Ex5)
  obtain ⟨_, _, ⟨T7, L7, q7, n7⟩, -, X7, hs7, hg7, ⟨Lc7, hQ7, l7, y7, z7, Cs7⟩, st7⟩ := callSS X5 hx (y := (⟨"com/example/gettone/gettone/core/Place", "choice", "(Ljava/lang/String;)Lcom/example/gettone/gettone/core/Place;"⟩ : MethodName)) hown (mvT hZ (hw _ (List.mem_of_getElem? (i := 27) rfl))) (mvT hZ (hw _ (List.mem_of_getElem? (i := 28) rfl))) (mvT hZ (hw _ (List.mem_of_getElem? (i := 29) rfl))) (mvT hZ (hw _ (List.mem_of_getElem? (i := 30) rfl))) (by decide) (own_backW (W := 0) (rmN l Z a0 hw [] xs3 T5.heap n0 Z5 f6) hZ (hw _ (List.mem_of_getElem? (i := 30) rfl)) (hw _ (List.mem_of_getElem? (i := 29) rfl)) (by decide) (by decide) (own_ew hw) C5.1 own_hs0) (g := (mkF m 41 #[iv p0, iv p1, iv p2, iv p3, iv p4, iv ((p0 &&& (2147483647 : Int32)) % (5 : Int32)), rv xs1, rv xs3, rv ys5, .unset, .unset, .unset] [(.ref xs3)])) rfl (by rw [hml]; rfl) (argsL := [(.ref xs3)]) (rest := []) (lenOf own_pd10 rfl) rfl (by show 2 * 0 + _ ≤ _; exact Nat.le_of_eq rfl) (Jvm.hb hby at_41) (fun _ _ => ⟨rfl, rfl, (by decide : 15 + 3 ≤ _), (by decide : 41 + 17 ≤ _)⟩)
  dsimp only [Pt.U, Pt.locs, Pt.cells, Pt.slots] at X7 hs7 hg7 l7 y7 z7 st7 hQ7 Cs7
  subst l7 y7 z7
  have hS7 : s.Since T7.vm T7.heap.size := foldS hS5 hk5 hs7 hg7
  have hZ : Z.Warmed39 (s.setVm T7.vm).vm := State.Warmed39.trans (t := s.setVm T5.vm) hZ hs7.1
  have hown : (s.setVm T7.vm).vm.findClass "com/example/gettone/gettone/core/PlaceChoicePinLaw" = some m.cls := by rw [show (s.setVm T7.vm).vm = T7.vm from rfl, hs7.1.alike.findClass]; exact hown
  have X7 : Stand p l e _ (s.setVm T7.vm) m _ below meth cO T7 _ _ _ := X7
  have hk7 : T7.heap.size ≤ T7.heap.size := Nat.le_refl _
  obtain ⟨ys7, rfl, Nq7, Ex7, sz7, Ec7, F7_id, F7_environment, F7_bad, F7_origin, F7_choice⟩ := hQ7
  have N7 := Fr.app N5 Nq7
  have C7 := CHr.trans C5 Cs7
  refine own_go (fun t k => st7.trans k) ?_
  have Z7 : n0 ≤ T7.heap.size := Nat.le_trans Z5 Ex7.1
  have ny7 : ys5 ≠ ys7 := Nat.ne_of_lt (Nat.lt_of_lt_of_le Ec5.lt sz7)
  show Gm p e below T7 m 44 #[iv p0, iv p1, iv p2, iv p3, iv p4, iv ((p0 &&& (2147483647 : Int32)) % (5 : Int32)), rv xs1, rv xs3, rv ys5, .unset, .unset, .unset] [(.ref ys7)] _
  refine own_go (fun t₀ k₀ => XS.astore X7.here hx rfl (Jvm.hb hby at_44) rfl rfl (l' := #[iv p0, iv p1, iv p2, iv p3, iv p4, iv ((p0 &&& (2147483647 : Int32)) % (5 : Int32)), rv xs1, rv xs3, rv ys5, rv ys7, .unset, .unset]) rfl k₀) ?_
  show Gm p e below T7 m 46 #[iv p0, iv p1, iv p2, iv p3, iv p4, iv ((p0 &&& (2147483647 : Int32)) % (5 : Int32)), rv xs1, rv xs3, rv ys5, rv ys7, .unset, .unset] [] _
  refine own_go (fun t₀ k₀ => XS.aload X7.here hx rfl (Jvm.hb hby at_46) rfl rfl k₀) ?_
  show Gm p e below T7 m 48 #[iv p0, iv p1, iv p2, iv p3, iv p4, iv ((p0 &&& (2147483647 : Int32)) % (5 : Int32)), rv xs1, rv xs3, rv ys5, rv ys7, .unset, .unset] [(.ref ys5)] _
  refine own_go (fun t₀ k₀ => XS.ifnullNo X7.here hx rfl (Jvm.hb hby at_48) rfl k₀) ?_
  show Gm p e below T7 m 51 #[iv p0, iv p1, iv p2, iv p3, iv p4, iv ((p0 &&& (2147483647 : Int32)) % (5 : Int32)), rv xs1, rv xs3, rv ys5, rv ys7, .unset, .unset] [] _
  refine own_go (fun t₀ k₀ => XS.aload X7.here hx rfl (Jvm.hb hby at_51) rfl rfl k₀) ?_
  show Gm p e below T7 m 53 #[iv p0, iv p1, iv p2, iv p3, iv p4, iv ((p0 &&& (2147483647 : Int32)) % (5 : Int32)), rv xs1, rv xs3, rv ys5, rv ys7, .unset, .unset] [(.ref ys7)] _
  refine own_go (fun t₀ k₀ => XS.ifnonnullYes X7.here hx rfl (pc0 := 53) (pc' := 58) rfl (Jvm.hb hby at_53) rfl (by decide) (by decide) k₀) ?_
  show Gm p e below T7 m 58 #[iv p0, iv p1, iv p2, iv p3, iv p4, iv ((p0 &&& (2147483647 : Int32)) % (5 : Int32)), rv xs1, rv xs3, rv ys5, rv ys7, .unset, .unset] [] _
  refine own_go (fun t₀ k₀ => XS.aload X7.here hx rfl (Jvm.hb hby at_58) rfl rfl k₀) ?_
  show Gm p e below T7 m 60 #[iv p0, iv p1, iv p2, iv p3, iv p4, iv ((p0 &&& (2147483647 : Int32)) % (5 : Int32)), rv xs1, rv xs3, rv ys5, rv ys7, .unset, .unset] [(.ref ys5)] _
  refine own_go (fun t₀ k₀ => XS.aload X7.here hx rfl (Jvm.hb hby at_60) rfl rfl k₀) ?_
  show Gm p e below T7 m 62 #[iv p0, iv p1, iv p2, iv p3, iv p4, iv ((p0 &&& (2147483647 : Int32)) % (5 : Int32)), rv xs1, rv xs3, rv ys5, rv ys7, .unset, .unset] [(.ref ys7), (.ref ys5)] _
  refine own_go (fun t₀ k₀ => XT.acmpYes X7.here hx rfl (pc0 := 62) (pc' := 67) rfl (Jvm.hb hby at_62) rfl rfl rfl (XT.aa_ne_t (fun q => ny7 (Value.ref.inj q))) (by decide) (by decide) k₀) ?_
  show Gm p e below T7 m 67 #[iv p0, iv p1, iv p2, iv p3, iv p4, iv ((p0 &&& (2147483647 : Int32)) % (5 : Int32)), rv xs1, rv xs3, rv ys5, rv ys7, .unset, .unset] [] _
  refine own_go (fun t₀ k₀ => XS.aload X7.here hx rfl (Jvm.hb hby at_67) rfl rfl k₀) ?_
  show Gm p e below T7 m 69 #[iv p0, iv p1, iv p2, iv p3, iv p4, iv ((p0 &&& (2147483647 : Int32)) % (5 : Int32)), rv xs1, rv xs3, rv ys5, rv ys7, .unset, .unset] [(.ref ys5)] _
  have f8 := (F5_id.ext Ex7)
  have f10 := (Ec5.ext Ex7)
  obtain ⟨cq9, kq9, q9a, q9b, q9c⟩ := isOf hZ rfl f10
  obtain ⟨_, _, ⟨T9, L9, k9, n9⟩, -, X9, ⟨Lc9, hQ9, l9, y9, z9⟩, st9⟩ := X7.virtualBack hx (y := (⟨"com/example/gettone/gettone/core/Place", "id", "()Ljava/lang/String;"⟩ : MethodName)) (z := (⟨"com/example/gettone/gettone/core/Place", "id", "()Ljava/lang/String;"⟩ : MethodName)) hown (mvT hZ (hw _ (List.mem_of_getElem? (i := 53) rfl))) (mvT hZ (hw _ (List.mem_of_getElem? (i := 54) rfl))) (notFace_of_selects (args := #[]) (mvT hZ (hw _ (List.mem_of_getElem? (i := 56) rfl)))) (mvT hZ (hw _ (List.mem_of_getElem? (i := 56) rfl))) (mvT hZ (hw _ (List.mem_of_getElem? (i := 55) rfl))) (by decide) (backOf (W := 0) (rm_id l Z a0 hw [] ys5 xs1 T7.heap n0 Z7 f8) hZ (hw _ (List.mem_of_getElem? (i := 57) rfl)) (hw _ (List.mem_of_getElem? (i := 29) rfl)) (by decide) (by decide)) q9a q9c (g := (mkF m 69 #[iv p0, iv p1, iv p2, iv p3, iv p4, iv ((p0 &&& (2147483647 : Int32)) % (5 : Int32)), rv xs1, rv xs3, rv ys5, rv ys7, .unset, .unset] [(.ref ys5)])) rfl (by rw [hml]; rfl) (Steps.refl _) (argsL := []) (rest := []) (lenOf own_pd11 rfl) rfl (by show 2 * 0 + _ ≤ _; exact Nat.le_of_eq rfl) (Jvm.hb hby at_69) (fun _ _ => ⟨rfl, rfl, (by decide : 18 + 0 ≤ _), (by decide : 58 + 0 ≤ _)⟩)
  dsimp only [Pt.U, Pt.locs, Pt.cells, Pt.slots] at X9 l9 y9 z9 st9 hQ9
  subst l9 y9 z9
  obtain ⟨rfl, Nq9, eq9⟩ := hQ9
  have N9 := Fr.app N7 Nq9
  have e9 : T9.heap = T7.heap := eq9
  refine own_go (fun t k => st9.trans k) ?_
  show Gm p e below T9 m 72 #[iv p0, iv p1, iv p2, iv p3, iv p4, iv ((p0 &&& (2147483647 : Int32)) % (5 : Int32)), rv xs1, rv xs3, rv ys5, rv ys7, .unset, .unset] [(.ref xs1)] _
  refine own_go (fun t₀ k₀ => XS.astore X9.here hx rfl (Jvm.hb hby at_72) rfl rfl (l' := #[iv p0, iv p1, iv p2, iv p3, iv p4, iv ((p0 &&& (2147483647 : Int32)) % (5 : Int32)), rv xs1, rv xs3, rv ys5, rv ys7, rv xs1, .unset]) rfl k₀) ?_
  show Gm p e below T9 m 74 #[iv p0, iv p1, iv p2, iv p3, iv p4, iv ((p0 &&& (2147483647 : Int32)) % (5 : Int32)), rv xs1, rv xs3, rv ys5, rv ys7, rv xs1, .unset] [] _
  refine own_go (fun t₀ k₀ => XS.aload X9.here hx rfl (Jvm.hb hby at_74) rfl rfl k₀) ?_
  show Gm p e below T9 m 76 #[iv p0, iv p1, iv p2, iv p3, iv p4, iv ((p0 &&& (2147483647 : Int32)) % (5 : Int32)), rv xs1, rv xs3, rv ys5, rv ys7, rv xs1, .unset] [(.ref xs1)] _
  refine own_go (fun t₀ k₀ => XS.ifnullNo X9.here hx rfl (Jvm.hb hby at_76) rfl k₀) ?_
  show Gm p e below T9 m 79 #[iv p0, iv p1, iv p2, iv p3, iv p4, iv ((p0 &&& (2147483647 : Int32)) % (5 : Int32)), rv xs1, rv xs3, rv ys5, rv ys7, rv xs1, .unset] [] _
  refine own_go (fun t₀ k₀ => XS.aload X9.here hx rfl (Jvm.hb hby at_79) rfl rfl k₀) ?_
  show Gm p e below T9 m 81 #[iv p0, iv p1, iv p2, iv p3, iv p4, iv ((p0 &&& (2147483647 : Int32)) % (5 : Int32)), rv xs1, rv xs3, rv ys5, rv ys7, rv xs1, .unset] [(.ref xs1)] _
  refine own_go (fun t₀ k₀ => XS.aload X9.here hx rfl (Jvm.hb hby at_81) rfl rfl k₀) ?_
  show Gm p e below T9 m 83 #[iv p0, iv p1, iv p2, iv p3, iv p4, iv ((p0 &&& (2147483647 : Int32)) % (5 : Int32)), rv xs1, rv xs3, rv ys5, rv ys7, rv xs1, .unset] [(.ref xs3), (.ref xs1)] _
  have f11 := (((Fv1.ext Ex3).ext Ex5).ext Ex7)
  have f12 := ((Fv3.ext Ex5).ext Ex7)
  have f13 := (((As1.ext Ex3).ext Ex5).ext Ex7)
  have f14 := ((As3.ext Ex5).ext Ex7)
  have f15 := (f6.ext Ex7)
  have f16 := (((Fc1.ext Ex3).ext Ex5).ext Ex7)
  have f17 := ((Fc3.ext Ex5).ext Ex7)
  have f18 := (((f2.ext Ex3).ext Ex5).ext Ex7)
  have f20 := ((f4.ext Ex5).ext Ex7)
  obtain ⟨cq19, kq19, q19a, q19b, q19c⟩ := isOf hZ e9 f20
  obtain ⟨_, _, ⟨T19, L19, k19, n19⟩, -, X19, ⟨Lc19, hQ19, l19, y19, z19⟩, st19⟩ := X9.virtualBack hx (y := (⟨"java/lang/String", "equals", "(Ljava/lang/Object;)Z"⟩ : MethodName)) (z := (⟨"java/lang/String", "equals", "(Ljava/lang/Object;)Z"⟩ : MethodName)) hown (mvT hZ (hw _ (List.mem_of_getElem? (i := 58) rfl))) (mvT hZ (hw _ (List.mem_of_getElem? (i := 59) rfl))) (notFace_of_selects (args := #[]) (mvT hZ (hw _ (List.mem_of_getElem? (i := 61) rfl)))) (mvT hZ (hw _ (List.mem_of_getElem? (i := 61) rfl))) (mvT hZ (hw _ (List.mem_of_getElem? (i := 60) rfl))) (by decide) (backOf (W := 0) (rmE l Z a0 hw [] xs1 xs3 bs1 bs3 (lenS ((p0 &&& (2147483647 : Int32)) % (5 : Int32))) fs1 fs3 (chS p1 p2 p3 p4) cs T7.heap n0 Z7 (lenS_le _) f15 f16 f17 f11 f12 f13 f14 hv1 hv3 f18 hcs) hZ (hw _ (List.mem_of_getElem? (i := 62) rfl)) (hw _ (List.mem_of_getElem? (i := 7) rfl)) (by decide) (by decide)) q19a q19c (g := (mkF m 83 #[iv p0, iv p1, iv p2, iv p3, iv p4, iv ((p0 &&& (2147483647 : Int32)) % (5 : Int32)), rv xs1, rv xs3, rv ys5, rv ys7, rv xs1, .unset] [(.ref xs3), (.ref xs1)])) rfl (by rw [hml]; rfl) (Steps.refl _) (argsL := [(.ref xs3)]) (rest := []) (lenOf own_pd12 rfl) rfl (by show 2 * 0 + _ ≤ _; exact Nat.le_of_eq rfl) (Jvm.hb hby at_83) (fun _ _ => ⟨rfl, e9, (by decide : 18 + 0 ≤ _), (by decide : 58 + 0 ≤ _)⟩)
  dsimp only [Pt.U, Pt.locs, Pt.cells, Pt.slots] at X19 l19 y19 z19 st19 hQ19
  subst l19 y19 z19
  obtain ⟨rfl, Nq19, eq19⟩ := hQ19
  have N19 := Fr.app N9 Nq19
  have e19 : T19.heap = T7.heap := eq19
  refine own_go (fun t k => st19.trans k) ?_
  show Gm p e below T19 m 86 #[iv p0, iv p1, iv p2, iv p3, iv p4, iv ((p0 &&& (2147483647 : Int32)) % (5 : Int32)), rv xs1, rv xs3, rv ys5, rv ys7, rv xs1, .unset] [(.int (1 : Int32))] _
  refine own_go (fun t₀ k₀ => XS.ifYes X19.here hx rfl (pc0 := 86) (pc' := 91) rfl (Jvm.hb hby at_86) rfl (XT.i0_ne_t (by decide)) (by decide) (by decide) k₀) ?_
  show Gm p e below T19 m 91 #[iv p0, iv p1, iv p2, iv p3, iv p4, iv ((p0 &&& (2147483647 : Int32)) % (5 : Int32)), rv xs1, rv xs3, rv ys5, rv ys7, rv xs1, .unset] [] _
  refine own_go (fun t₀ k₀ => XS.aload X19.here hx rfl (Jvm.hb hby at_91) rfl rfl k₀) ?_
  show Gm p e below T19 m 93 #[iv p0, iv p1, iv p2, iv p3, iv p4, iv ((p0 &&& (2147483647 : Int32)) % (5 : Int32)), rv xs1, rv xs3, rv ys5, rv ys7, rv xs1, .unset] [(.ref ys5)] _
  obtain ⟨cq21, kq21, q21a, q21b, q21c⟩ := isOf hZ e19 f10
  obtain ⟨_, _, ⟨T21, L21, k21, n21⟩, -, X21, ⟨Lc21, hQ21, l21, y21, z21⟩, st21⟩ := X19.virtualBack hx (y := (⟨"com/example/gettone/gettone/core/Place", "toString", "()Ljava/lang/String;"⟩ : MethodName)) (z := (⟨"com/example/gettone/gettone/core/Place", "toString", "()Ljava/lang/String;"⟩ : MethodName)) hown (mvT hZ (hw _ (List.mem_of_getElem? (i := 69) rfl))) (mvT hZ (hw _ (List.mem_of_getElem? (i := 70) rfl))) (notFace_of_selects (args := #[]) (mvT hZ (hw _ (List.mem_of_getElem? (i := 72) rfl)))) (mvT hZ (hw _ (List.mem_of_getElem? (i := 72) rfl))) (mvT hZ (hw _ (List.mem_of_getElem? (i := 71) rfl))) (by decide) (backOf (W := 0) (rm_toString l Z a0 hw [] ys5 xs1 T7.heap n0 Z7 f8) hZ (hw _ (List.mem_of_getElem? (i := 73) rfl)) (hw _ (List.mem_of_getElem? (i := 29) rfl)) (by decide) (by decide)) q21a q21c (g := (mkF m 93 #[iv p0, iv p1, iv p2, iv p3, iv p4, iv ((p0 &&& (2147483647 : Int32)) % (5 : Int32)), rv xs1, rv xs3, rv ys5, rv ys7, rv xs1, .unset] [(.ref ys5)])) rfl (by rw [hml]; rfl) (Steps.refl _) (argsL := []) (rest := []) (lenOf own_pd11 rfl) rfl (by show 2 * 0 + _ ≤ _; exact Nat.le_of_eq rfl) (Jvm.hb hby at_93) (fun _ _ => ⟨rfl, e19, (by decide : 18 + 0 ≤ _), (by decide : 58 + 0 ≤ _)⟩)
  dsimp only [Pt.U, Pt.locs, Pt.cells, Pt.slots] at X21 l21 y21 z21 st21 hQ21
  subst l21 y21 z21
  obtain ⟨rfl, Nq21, eq21⟩ := hQ21
  have N21 := Fr.app N19 Nq21
  have e21 : T21.heap = T7.heap := eq21
  refine own_go (fun t k => st21.trans k) ?_
  show Gm p e below T21 m 96 #[iv p0, iv p1, iv p2, iv p3, iv p4, iv ((p0 &&& (2147483647 : Int32)) % (5 : Int32)), rv xs1, rv xs3, rv ys5, rv ys7, rv xs1, .unset] [(.ref xs1)] _
  refine own_go (fun t₀ k₀ => XS.astore X21.here hx rfl (Jvm.hb hby at_96) rfl rfl (l' := #[iv p0, iv p1, iv p2, iv p3, iv p4, iv ((p0 &&& (2147483647 : Int32)) % (5 : Int32)), rv xs1, rv xs3, rv ys5, rv ys7, rv xs1, rv xs1]) rfl k₀) ?_
  show Gm p e below T21 m 98 #[iv p0, iv p1, iv p2, iv p3, iv p4, iv ((p0 &&& (2147483647 : Int32)) % (5 : Int32)), rv xs1, rv xs3, rv ys5, rv ys7, rv xs1, rv xs1] [] _
  refine own_go (fun t₀ k₀ => XS.aload X21.here hx rfl (Jvm.hb hby at_98) rfl rfl k₀) ?_
  show Gm p e below T21 m 100 #[iv p0, iv p1, iv p2, iv p3, iv p4, iv ((p0 &&& (2147483647 : Int32)) % (5 : Int32)), rv xs1, rv xs3, rv ys5, rv ys7, rv xs1, rv xs1] [(.ref xs1)] _
  refine own_go (fun t₀ k₀ => XS.ifnullNo X21.here hx rfl (Jvm.hb hby at_100) rfl k₀) ?_
  show Gm p e below T21 m 103 #[iv p0, iv p1, iv p2, iv p3, iv p4, iv ((p0 &&& (2147483647 : Int32)) % (5 : Int32)), rv xs1, rv xs3, rv ys5, rv ys7, rv xs1, rv xs1] [] _
  refine own_go (fun t₀ k₀ => XS.aload X21.here hx rfl (Jvm.hb hby at_103) rfl rfl k₀) ?_
  show Gm p e below T21 m 105 #[iv p0, iv p1, iv p2, iv p3, iv p4, iv ((p0 &&& (2147483647 : Int32)) % (5 : Int32)), rv xs1, rv xs3, rv ys5, rv ys7, rv xs1, rv xs1] [(.ref xs1)] _
  refine own_go (fun t₀ k₀ => XS.aload X21.here hx rfl (Jvm.hb hby at_105) rfl rfl k₀) ?_
  show Gm p e below T21 m 107 #[iv p0, iv p1, iv p2, iv p3, iv p4, iv ((p0 &&& (2147483647 : Int32)) % (5 : Int32)), rv xs1, rv xs3, rv ys5, rv ys7, rv xs1, rv xs1] [(.ref xs3), (.ref xs1)] _
  obtain ⟨cq22, kq22, q22a, q22b, q22c⟩ := isOf hZ e21 f20
  obtain ⟨_, _, ⟨T22, L22, k22, n22⟩, -, X22, ⟨Lc22, hQ22, l22, y22, z22⟩, st22⟩ := X21.virtualBack hx (y := (⟨"java/lang/String", "equals", "(Ljava/lang/Object;)Z"⟩ : MethodName)) (z := (⟨"java/lang/String", "equals", "(Ljava/lang/Object;)Z"⟩ : MethodName)) hown (mvT hZ (hw _ (List.mem_of_getElem? (i := 58) rfl))) (mvT hZ (hw _ (List.mem_of_getElem? (i := 59) rfl))) (notFace_of_selects (args := #[]) (mvT hZ (hw _ (List.mem_of_getElem? (i := 61) rfl)))) (mvT hZ (hw _ (List.mem_of_getElem? (i := 61) rfl))) (mvT hZ (hw _ (List.mem_of_getElem? (i := 60) rfl))) (by decide) (backOf (W := 0) (rmE l Z a0 hw [] xs1 xs3 bs1 bs3 (lenS ((p0 &&& (2147483647 : Int32)) % (5 : Int32))) fs1 fs3 (chS p1 p2 p3 p4) cs T7.heap n0 Z7 (lenS_le _) f15 f16 f17 f11 f12 f13 f14 hv1 hv3 f18 hcs) hZ (hw _ (List.mem_of_getElem? (i := 62) rfl)) (hw _ (List.mem_of_getElem? (i := 7) rfl)) (by decide) (by decide)) q22a q22c (g := (mkF m 107 #[iv p0, iv p1, iv p2, iv p3, iv p4, iv ((p0 &&& (2147483647 : Int32)) % (5 : Int32)), rv xs1, rv xs3, rv ys5, rv ys7, rv xs1, rv xs1] [(.ref xs3), (.ref xs1)])) rfl (by rw [hml]; rfl) (Steps.refl _) (argsL := [(.ref xs3)]) (rest := []) (lenOf own_pd12 rfl) rfl (by show 2 * 0 + _ ≤ _; exact Nat.le_of_eq rfl) (Jvm.hb hby at_107) (fun _ _ => ⟨rfl, e21, (by decide : 18 + 0 ≤ _), (by decide : 58 + 0 ≤ _)⟩)
  dsimp only [Pt.U, Pt.locs, Pt.cells, Pt.slots] at X22 l22 y22 z22 st22 hQ22
  subst l22 y22 z22
  obtain ⟨rfl, Nq22, eq22⟩ := hQ22
  have N22 := Fr.app N21 Nq22
  have e22 : T22.heap = T7.heap := eq22
  refine own_go (fun t k => st22.trans k) ?_
  show Gm p e below T22 m 110 #[iv p0, iv p1, iv p2, iv p3, iv p4, iv ((p0 &&& (2147483647 : Int32)) % (5 : Int32)), rv xs1, rv xs3, rv ys5, rv ys7, rv xs1, rv xs1] [(.int (1 : Int32))] _
  refine own_go (fun t₀ k₀ => XS.ifYes X22.here hx rfl (pc0 := 110) (pc' := 115) rfl (Jvm.hb hby at_110) rfl (XT.i0_ne_t (by decide)) (by decide) (by decide) k₀) ?_
  show Gm p e below T22 m 115 #[iv p0, iv p1, iv p2, iv p3, iv p4, iv ((p0 &&& (2147483647 : Int32)) % (5 : Int32)), rv xs1, rv xs3, rv ys5, rv ys7, rv xs1, rv xs1] [] _
  refine own_go (fun t₀ k₀ => XS.aload X22.here hx rfl (Jvm.hb hby at_115) rfl rfl k₀) ?_
  show Gm p e below T22 m 117 #[iv p0, iv p1, iv p2, iv p3, iv p4, iv ((p0 &&& (2147483647 : Int32)) % (5 : Int32)), rv xs1, rv xs3, rv ys5, rv ys7, rv xs1, rv xs1] [(.ref ys5)] _
  have f23 := (F5_environment.ext Ex7)
  obtain ⟨cq24, kq24, q24a, q24b, q24c⟩ := isOf hZ e22 f10
  obtain ⟨_, _, ⟨T24, L24, k24, n24⟩, -, X24, ⟨Lc24, hQ24, l24, y24, z24⟩, st24⟩ := X22.virtualBack hx (y := (⟨"com/example/gettone/gettone/core/Place", "isEnvironment", "()Z"⟩ : MethodName)) (z := (⟨"com/example/gettone/gettone/core/Place", "isEnvironment", "()Z"⟩ : MethodName)) hown (mvT hZ (hw _ (List.mem_of_getElem? (i := 74) rfl))) (mvT hZ (hw _ (List.mem_of_getElem? (i := 75) rfl))) (notFace_of_selects (args := #[]) (mvT hZ (hw _ (List.mem_of_getElem? (i := 77) rfl)))) (mvT hZ (hw _ (List.mem_of_getElem? (i := 77) rfl))) (mvT hZ (hw _ (List.mem_of_getElem? (i := 76) rfl))) (by decide) (backOf (W := 0) (rm_isEnvironment l Z a0 hw [] ys5 T7.heap n0 Z7 f23) hZ (hw _ (List.mem_of_getElem? (i := 78) rfl)) (hw _ (List.mem_of_getElem? (i := 29) rfl)) (by decide) (by decide)) q24a q24c (g := (mkF m 117 #[iv p0, iv p1, iv p2, iv p3, iv p4, iv ((p0 &&& (2147483647 : Int32)) % (5 : Int32)), rv xs1, rv xs3, rv ys5, rv ys7, rv xs1, rv xs1] [(.ref ys5)])) rfl (by rw [hml]; rfl) (Steps.refl _) (argsL := []) (rest := []) (lenOf own_pd13 rfl) rfl (by show 2 * 0 + _ ≤ _; exact Nat.le_of_eq rfl) (Jvm.hb hby at_117) (fun _ _ => ⟨rfl, e22, (by decide : 18 + 0 ≤ _), (by decide : 58 + 0 ≤ _)⟩)
  dsimp only [Pt.U, Pt.locs, Pt.cells, Pt.slots] at X24 l24 y24 z24 st24 hQ24
  subst l24 y24 z24
  obtain ⟨rfl, Nq24, eq24⟩ := hQ24
  have N24 := Fr.app N22 Nq24
  have e24 : T24.heap = T7.heap := eq24
  refine own_go (fun t k => st24.trans k) ?_
  show Gm p e below T24 m 120 #[iv p0, iv p1, iv p2, iv p3, iv p4, iv ((p0 &&& (2147483647 : Int32)) % (5 : Int32)), rv xs1, rv xs3, rv ys5, rv ys7, rv xs1, rv xs1] [(.int (0 : Int32))] _
  refine own_go (fun t₀ k₀ => XS.ifYes X24.here hx rfl (pc0 := 120) (pc' := 125) rfl (Jvm.hb hby at_120) rfl (XT.i0_eq_t (by decide)) (by decide) (by decide) k₀) ?_
  show Gm p e below T24 m 125 #[iv p0, iv p1, iv p2, iv p3, iv p4, iv ((p0 &&& (2147483647 : Int32)) % (5 : Int32)), rv xs1, rv xs3, rv ys5, rv ys7, rv xs1, rv xs1] [] _
  refine own_go (fun t₀ k₀ => XS.aload X24.here hx rfl (Jvm.hb hby at_125) rfl rfl k₀) ?_
  show Gm p e below T24 m 127 #[iv p0, iv p1, iv p2, iv p3, iv p4, iv ((p0 &&& (2147483647 : Int32)) % (5 : Int32)), rv xs1, rv xs3, rv ys5, rv ys7, rv xs1, rv xs1] [(.ref ys5)] _
  have f25 := (F5_bad.ext Ex7)
  obtain ⟨cq26, kq26, q26a, q26b, q26c⟩ := isOf hZ e24 f10
  obtain ⟨_, _, ⟨T26, L26, k26, n26⟩, -, X26, ⟨Lc26, hQ26, l26, y26, z26⟩, st26⟩ := X24.virtualBack hx (y := (⟨"com/example/gettone/gettone/core/Place", "isBad", "()Z"⟩ : MethodName)) (z := (⟨"com/example/gettone/gettone/core/Place", "isBad", "()Z"⟩ : MethodName)) hown (mvT hZ (hw _ (List.mem_of_getElem? (i := 79) rfl))) (mvT hZ (hw _ (List.mem_of_getElem? (i := 80) rfl))) (notFace_of_selects (args := #[]) (mvT hZ (hw _ (List.mem_of_getElem? (i := 82) rfl)))) (mvT hZ (hw _ (List.mem_of_getElem? (i := 82) rfl))) (mvT hZ (hw _ (List.mem_of_getElem? (i := 81) rfl))) (by decide) (backOf (W := 0) (rm_isBad l Z a0 hw [] ys5 T7.heap n0 Z7 f25) hZ (hw _ (List.mem_of_getElem? (i := 83) rfl)) (hw _ (List.mem_of_getElem? (i := 29) rfl)) (by decide) (by decide)) q26a q26c (g := (mkF m 127 #[iv p0, iv p1, iv p2, iv p3, iv p4, iv ((p0 &&& (2147483647 : Int32)) % (5 : Int32)), rv xs1, rv xs3, rv ys5, rv ys7, rv xs1, rv xs1] [(.ref ys5)])) rfl (by rw [hml]; rfl) (Steps.refl _) (argsL := []) (rest := []) (lenOf own_pd13 rfl) rfl (by show 2 * 0 + _ ≤ _; exact Nat.le_of_eq rfl) (Jvm.hb hby at_127) (fun _ _ => ⟨rfl, e24, (by decide : 18 + 0 ≤ _), (by decide : 58 + 0 ≤ _)⟩)
  dsimp only [Pt.U, Pt.locs, Pt.cells, Pt.slots] at X26 l26 y26 z26 st26 hQ26
  subst l26 y26 z26
  obtain ⟨rfl, Nq26, eq26⟩ := hQ26
  have N26 := Fr.app N24 Nq26
  have e26 : T26.heap = T7.heap := eq26
  refine own_go (fun t k => st26.trans k) ?_
  show Gm p e below T26 m 130 #[iv p0, iv p1, iv p2, iv p3, iv p4, iv ((p0 &&& (2147483647 : Int32)) % (5 : Int32)), rv xs1, rv xs3, rv ys5, rv ys7, rv xs1, rv xs1] [(.int (0 : Int32))] _
  refine own_go (fun t₀ k₀ => XS.ifYes X26.here hx rfl (pc0 := 130) (pc' := 135) rfl (Jvm.hb hby at_130) rfl (XT.i0_eq_t (by decide)) (by decide) (by decide) k₀) ?_
  show Gm p e below T26 m 135 #[iv p0, iv p1, iv p2, iv p3, iv p4, iv ((p0 &&& (2147483647 : Int32)) % (5 : Int32)), rv xs1, rv xs3, rv ys5, rv ys7, rv xs1, rv xs1] [] _
  refine own_go (fun t₀ k₀ => XS.aload X26.here hx rfl (Jvm.hb hby at_135) rfl rfl k₀) ?_
  show Gm p e below T26 m 137 #[iv p0, iv p1, iv p2, iv p3, iv p4, iv ((p0 &&& (2147483647 : Int32)) % (5 : Int32)), rv xs1, rv xs3, rv ys5, rv ys7, rv xs1, rv xs1] [(.ref ys5)] _
  have f27 := (F5_choice.ext Ex7)
  obtain ⟨cq28, kq28, q28a, q28b, q28c⟩ := isOf hZ e26 f10
  obtain ⟨_, _, ⟨T28, L28, k28, n28⟩, -, X28, ⟨Lc28, hQ28, l28, y28, z28⟩, st28⟩ := X26.virtualBack hx (y := (⟨"com/example/gettone/gettone/core/Place", "isChoice", "()Z"⟩ : MethodName)) (z := (⟨"com/example/gettone/gettone/core/Place", "isChoice", "()Z"⟩ : MethodName)) hown (mvT hZ (hw _ (List.mem_of_getElem? (i := 84) rfl))) (mvT hZ (hw _ (List.mem_of_getElem? (i := 85) rfl))) (notFace_of_selects (args := #[]) (mvT hZ (hw _ (List.mem_of_getElem? (i := 87) rfl)))) (mvT hZ (hw _ (List.mem_of_getElem? (i := 87) rfl))) (mvT hZ (hw _ (List.mem_of_getElem? (i := 86) rfl))) (by decide) (backOf (W := 0) (rm_isChoice l Z a0 hw [] ys5 T7.heap n0 Z7 f27) hZ (hw _ (List.mem_of_getElem? (i := 88) rfl)) (hw _ (List.mem_of_getElem? (i := 29) rfl)) (by decide) (by decide)) q28a q28c (g := (mkF m 137 #[iv p0, iv p1, iv p2, iv p3, iv p4, iv ((p0 &&& (2147483647 : Int32)) % (5 : Int32)), rv xs1, rv xs3, rv ys5, rv ys7, rv xs1, rv xs1] [(.ref ys5)])) rfl (by rw [hml]; rfl) (Steps.refl _) (argsL := []) (rest := []) (lenOf own_pd13 rfl) rfl (by show 2 * 0 + _ ≤ _; exact Nat.le_of_eq rfl) (Jvm.hb hby at_137) (fun _ _ => ⟨rfl, e26, (by decide : 18 + 0 ≤ _), (by decide : 58 + 0 ≤ _)⟩)
  dsimp only [Pt.U, Pt.locs, Pt.cells, Pt.slots] at X28 l28 y28 z28 st28 hQ28
  subst l28 y28 z28
  obtain ⟨rfl, Nq28, eq28⟩ := hQ28
  have N28 := Fr.app N26 Nq28
  have e28 : T28.heap = T7.heap := eq28
  refine own_go (fun t k => st28.trans k) ?_
  show Gm p e below T28 m 140 #[iv p0, iv p1, iv p2, iv p3, iv p4, iv ((p0 &&& (2147483647 : Int32)) % (5 : Int32)), rv xs1, rv xs3, rv ys5, rv ys7, rv xs1, rv xs1] [(.int (1 : Int32))] _
  refine own_go (fun t₀ k₀ => XS.ifYes X28.here hx rfl (pc0 := 140) (pc' := 145) rfl (Jvm.hb hby at_140) rfl (XT.i0_ne_t (by decide)) (by decide) (by decide) k₀) ?_
  show Gm p e below T28 m 145 #[iv p0, iv p1, iv p2, iv p3, iv p4, iv ((p0 &&& (2147483647 : Int32)) % (5 : Int32)), rv xs1, rv xs3, rv ys5, rv ys7, rv xs1, rv xs1] [] _
  refine own_go (fun t₀ k₀ => XS.aload X28.here hx rfl (Jvm.hb hby at_145) rfl rfl k₀) ?_
  show Gm p e below T28 m 147 #[iv p0, iv p1, iv p2, iv p3, iv p4, iv ((p0 &&& (2147483647 : Int32)) % (5 : Int32)), rv xs1, rv xs3, rv ys5, rv ys7, rv xs1, rv xs1] [(.ref ys5)] _
  have f29 := ((((S_e.ext Ex1).ext Ex3).ext Ex5).ext Ex7)
  have f30 := (F5_origin.ext Ex7)
  obtain ⟨cq31, kq31, q31a, q31b, q31c⟩ := isOf hZ e28 f10
  obtain ⟨_, _, ⟨T31, L31, k31, n31⟩, -, X31, ⟨Lc31, hQ31, l31, y31, z31⟩, st31⟩ := X28.virtualBack hx (y := (⟨"com/example/gettone/gettone/core/Place", "origin", "()Ljava/util/Optional;"⟩ : MethodName)) (z := (⟨"com/example/gettone/gettone/core/Place", "origin", "()Ljava/util/Optional;"⟩ : MethodName)) hown (mvT hZ (hw _ (List.mem_of_getElem? (i := 89) rfl))) (mvT hZ (hw _ (List.mem_of_getElem? (i := 90) rfl))) (notFace_of_selects (args := #[]) (mvT hZ (hw _ (List.mem_of_getElem? (i := 92) rfl)))) (mvT hZ (hw _ (List.mem_of_getElem? (i := 92) rfl))) (mvT hZ (hw _ (List.mem_of_getElem? (i := 91) rfl))) (by decide) (backOf (W := 0) (rm_origin l Z a0 hw [] ys5 aE T7.heap n0 Z7 f29 f30) hZ (hw _ (List.mem_of_getElem? (i := 93) rfl)) (hw _ (List.mem_of_getElem? (i := 29) rfl)) (by decide) (by decide)) q31a q31c (g := (mkF m 147 #[iv p0, iv p1, iv p2, iv p3, iv p4, iv ((p0 &&& (2147483647 : Int32)) % (5 : Int32)), rv xs1, rv xs3, rv ys5, rv ys7, rv xs1, rv xs1] [(.ref ys5)])) rfl (by rw [hml]; rfl) (Steps.refl _) (argsL := []) (rest := []) (lenOf own_pd14 rfl) rfl (by show 2 * 0 + _ ≤ _; exact Nat.le_of_eq rfl) (Jvm.hb hby at_147) (fun _ _ => ⟨rfl, e28, (by decide : 18 + 0 ≤ _), (by decide : 58 + 0 ≤ _)⟩)
  dsimp only [Pt.U, Pt.locs, Pt.cells, Pt.slots] at X31 l31 y31 z31 st31 hQ31
  subst l31 y31 z31
  obtain ⟨rfl, Nq31, eq31⟩ := hQ31
  have N31 := Fr.app N28 Nq31
  have e31 : T31.heap = T7.heap := eq31
  refine own_go (fun t k => st31.trans k) ?_
  show Gm p e below T31 m 150 #[iv p0, iv p1, iv p2, iv p3, iv p4, iv ((p0 &&& (2147483647 : Int32)) % (5 : Int32)), rv xs1, rv xs3, rv ys5, rv ys7, rv xs1, rv xs1] [(.ref aE)] _
  have f32 := ((((F_e.ext Ex1).ext Ex3).ext Ex5).ext Ex7)
  have f34 := ((((E_e.ext Ex1).ext Ex3).ext Ex5).ext Ex7)
  obtain ⟨cq33, kq33, q33a, q33b, q33c⟩ := isOf hZ e31 f34
  obtain ⟨_, _, ⟨T33, L33, k33, n33⟩, -, X33, ⟨Lc33, hQ33, l33, y33, z33⟩, st33⟩ := X31.virtualBack hx (y := (⟨"java/util/Optional", "isPresent", "()Z"⟩ : MethodName)) (z := (⟨"java/util/Optional", "isPresent", "()Z"⟩ : MethodName)) hown (mvT hZ (hw _ (List.mem_of_getElem? (i := 99) rfl))) (mvT hZ (hw _ (List.mem_of_getElem? (i := 100) rfl))) (notFace_of_selects (args := #[]) (mvT hZ (hw _ (List.mem_of_getElem? (i := 102) rfl)))) (mvT hZ (hw _ (List.mem_of_getElem? (i := 102) rfl))) (mvT hZ (hw _ (List.mem_of_getElem? (i := 101) rfl))) (by decide) (backOf (W := 0) (rm_isPresent l Z a0 hw [] aE T7.heap n0 Z7 f32) hZ (hw _ (List.mem_of_getElem? (i := 103) rfl)) (hw _ (List.mem_of_getElem? (i := 96) rfl)) (by decide) (by decide)) q33a q33c (g := (mkF m 150 #[iv p0, iv p1, iv p2, iv p3, iv p4, iv ((p0 &&& (2147483647 : Int32)) % (5 : Int32)), rv xs1, rv xs3, rv ys5, rv ys7, rv xs1, rv xs1] [(.ref aE)])) rfl (by rw [hml]; rfl) (Steps.refl _) (argsL := []) (rest := []) (lenOf own_pd13 rfl) rfl (by show 2 * 0 + _ ≤ _; exact Nat.le_of_eq rfl) (Jvm.hb hby at_150) (fun _ _ => ⟨rfl, e31, (by decide : 18 + 0 ≤ _), (by decide : 58 + 0 ≤ _)⟩)
  dsimp only [Pt.U, Pt.locs, Pt.cells, Pt.slots] at X33 l33 y33 z33 st33 hQ33
  subst l33 y33 z33
  obtain ⟨rfl, Nq33, eq33⟩ := hQ33
  have N33 := Fr.app N31 Nq33
  have e33 : T33.heap = T7.heap := eq33
  refine own_go (fun t k => st33.trans k) ?_
  show Gm p e below T33 m 153 #[iv p0, iv p1, iv p2, iv p3, iv p4, iv ((p0 &&& (2147483647 : Int32)) % (5 : Int32)), rv xs1, rv xs3, rv ys5, rv ys7, rv xs1, rv xs1] [(.int (0 : Int32))] _
  refine own_go (fun t₀ k₀ => XS.ifYes X33.here hx rfl (pc0 := 153) (pc' := 158) rfl (Jvm.hb hby at_153) rfl (XT.i0_eq_t (by decide)) (by decide) (by decide) k₀) ?_
  show Gm p e below T33 m 158 #[iv p0, iv p1, iv p2, iv p3, iv p4, iv ((p0 &&& (2147483647 : Int32)) % (5 : Int32)), rv xs1, rv xs3, rv ys5, rv ys7, rv xs1, rv xs1] [] _
  refine own_go (fun t₀ k₀ => XS.iconst X33.here hx rfl (Jvm.hb hby at_158) k₀) ?_
  show Gm p e below T33 m 159 #[iv p0, iv p1, iv p2, iv p3, iv p4, iv ((p0 &&& (2147483647 : Int32)) % (5 : Int32)), rv xs1, rv xs3, rv ys5, rv ys7, rv xs1, rv xs1] [(.int (1 : Int32))] _
  exact own_retIW X33 hx hlk hZ (own_ew hw) hS7 hk7 C7 (t := .boolean) Bd.returns rfl (by simp) (Jvm.hb hby at_159) e33 ⟨rfl, N33⟩ (by decide) (by decide)
theorem own_eqN {args : Array Value} {first s : State} {o : Option Outcome} {idx : List Nat} {a : Term} (h : (Jvm.Cond.eq a .null).value args first o s idx = some true) : a.eval args first o idx s = some .null := by
  cases ha : a.eval args first o idx s with
  | none => simp [Cond.value, ha, Term.eval] at h
  | some v => cases v <;> simp [Cond.value, ha, Term.eval] at h; rfl
set_option maxRecDepth 65536 in
set_option maxHeartbeats 40000000 in
theorem comes_1 {Post : Tables → Env → Array Value → State → Outcome → State → Prop} (hpost : ∀ tb e args s v u, (limb_1_1.after args s (.returned v) u = true ∧ limb_1_2.after args s (.returned v) u = true ∧ True) → ReturnedEndW s (.returned v) u (Jvm.fieldLocs frame_1_writes args s ++ Jvm.arrayLocs frame_1_arrays args s ++ Jvm.staticLocs frame_1_statics s) 32 2240 → Post tb e args s (.returned v) u) :
    ArmFor flags0 classFile x code maxLocals ret World_1 tables_1 room_1 Calls_1 rest_1 Pre_1 Post := by
  intro l hfl _ _ p e ha hc hk s m args below hf hA hF happ hP
  obtain ⟨hcalls, hrest, hpre⟩ := hP
  obtain ⟨-, -, -, hnamed, -, -, -, hat⟩ := (Spec.applies_iff hf).mp happ
  obtain ⟨hg, hn⟩ := and_e (Cond.before_iff.mp (show (Jvm.Cond.and given_1 narrow_1).before args s = true from hpre))
  obtain ⟨g1, g2⟩ := and_e hg
  obtain ⟨g3, g4⟩ := and_e g2
  obtain ⟨g5, g6⟩ := and_e g4
  obtain ⟨g7, g8⟩ := and_e g6
  obtain ⟨g9, g10⟩ := and_e g8
  obtain ⟨w0, w1, w2, w3, w4, rfl⟩ : ∃ w0 w1 w2 w3 w4 : Value, args = #[w0, w1, w2, w3, w4] := by
    have hs : args.size = 5 := by simpa [Cond.value, given_1] using g1
    obtain ⟨L⟩ := args
    match L, hs with
    | [w0, w1, w2, w3, w4], _ => exact ⟨w0, w1, w2, w3, w4, rfl⟩
  have hw := fun d (hd : d ∈ tables_1) => atoms_spec (ws := Jvm.Cond.code x code maxLocals ret :: tables_1) hat d (List.mem_cons_of_mem _ hd)
  have hfit : Fit s := fun {y c} hc i hi => by
    obtain ⟨ha, rfl⟩ := Array.getElem?_eq_some_iff.mp hc
    have q := List.all_eq_true.mp ((Array.all_eq_true_iff_forall_mem.mp hF) _ (Array.getElem_mem ha)) i (List.mem_range.mpr hi)
    simpa [Array.getElem?_eq_getElem hi] using q
  obtain ⟨hsets, hown0⟩ := atoms_of _ (rest_1_c_eq ▸ (show rest_1_c.before _ s = true from hrest))
  have hr0 := Cond.before_iff.mp hown0
  obtain ⟨i0, ei0⟩ := is_v g3
  obtain rfl : w0 = (.int i0) := Option.some.inj ei0
  obtain ⟨i1, ei1⟩ := is_v g5
  obtain rfl : w1 = (.int i1) := Option.some.inj ei1
  obtain ⟨i2, ei2⟩ := is_v g7
  obtain rfl : w2 = (.int i2) := Option.some.inj ei2
  obtain ⟨i3, ei3⟩ := is_v g9
  obtain rfl : w3 = (.int i3) := Option.some.inj ei3
  obtain ⟨i4, ei4⟩ := is_v g10
  obtain rfl : w4 = (.int i4) := Option.some.inj ei4
  obtain ⟨cs, ev_cs⟩ := is_v (Cond.before_iff.mp (hsets _ (List.mem_of_getElem? (i := 1) rfl)))
  have S_c : Sta s s.heap "java/lang/String" "COMPACT_STRINGS" "Z" (.int cs) := Sta.start ev_cs (Or.inl (hsets _ (List.mem_of_getElem? (i := 0) rfl)))
  have hcs : ¬ cs = 0 := fun q => by
    have u := not_v (Cond.before_iff.mp (hsets _ (List.mem_of_getElem? (i := 2) rfl)))
    rw [q] at ev_cs
    exact own_neq0 u ev_cs
  obtain ⟨fw, ev_fw, hv_fw⟩ := isR_v (Cond.before_iff.mp (hsets _ (List.mem_of_getElem? (i := 8) rfl)))
  have S_f : Sta s s.heap "jdk/internal/util/Preconditions" "SIOOBE_FORMATTER" "Ljava/util/function/BiFunction;" fw := Sta.start ev_fw (Or.inl (hsets _ (List.mem_of_getElem? (i := 7) rfl)))
  obtain ⟨aE, ev_e⟩ := exa_v (Cond.before_iff.mp (hsets _ (List.mem_of_getElem? (i := 11) rfl)))
  have E_e : Exa s s.heap aE "java/util/Optional" := Exa.start ev_e (Cond.before_iff.mp (hsets _ (List.mem_of_getElem? (i := 11) rfl)))
  have S_e : Sta s s.heap "java/util/Optional" "EMPTY" "Ljava/util/Optional;" (.ref aE) := Sta.start ev_e (Or.inl (hsets _ (List.mem_of_getElem? (i := 10) rfl)))
  have F_e : Fld s s.heap aE "java/util/Optional" "value" "Ljava/lang/Object;" .null := Fld.start ((fld_at ev_e).symm.trans (own_eqN (Cond.before_iff.mp (hsets _ (List.mem_of_getElem? (i := 12) rfl)))))
  obtain ⟨n, o, h1, h2, h3, _, L, rfl, ⟨rfl, N⟩, -, hq⟩ := rm0 l s _ hw tables_1 i0 i1 i2 i3 i4 cs aE s.heap s.heap.size (Nat.le_refl _) S_c hcs S_e E_e F_e p e ha hc hk s m _ below hf ((Spec.applies_iff_loose hf).mp happ).1 ⟨rfl, State.Warmed39.refl s, rfl, CHv.start (own_ew hw) (fun q hq => by
    simp only [own_EL, List.mem_singleton] at hq
    subst hq
    exact hcalls.1 _ (List.mem_of_getElem? (i := 1) rfl)) (hsets _ (List.mem_of_getElem? (i := 2) rfl)) (hw _ (List.mem_of_getElem? (i := 20) rfl)) (hw _ (List.mem_of_getElem? (i := 6) rfl)), fun _ q => nomatch q⟩ trivial
  refine ⟨n, _, h1, h2, h3, hpost _ _ _ _ _ _ ⟨Cond.after_iff.mpr rfl, Cond.after_iff.mpr (eq_i res_at (Term.int_eval (1)) rfl), trivial⟩ ⟨hq.1, hq.2.1, hq.2.2.1, (hq.2.2.2.sift fun y hy => Or.inr (N y hy)).mono (by decide) (by decide)⟩⟩
theorem main_1_1 : Claimed_1_1 := comes_1 fun _ _ _ _ _ _ h hF => ⟨h.1, hF⟩
theorem main_1_2 : Claimed_1_2 := comes_1 fun _ _ _ _ _ _ h hF => ⟨h.2.1, hF⟩
end Jvm.Pilot.@@N@@
namespace Jvm.Pilot.@@N@@
open Jvm Jvm.ClassFile Sem Op Lib Jvm.Free Jvm.Stand Jvm.Pilot.@@N@@.Jvm.D
/-! MADE BY PROGRAM (witnessworld.py) out of the Statement's table words and the real class files: 22 classes; the members and pool entries that the words name. The judged class is class 1, her method 2. -/
namespace start1
open Jvm.ClassFile
def u (s : String) : CpInfo := .utf8 (stringToUtf16 s)
/-- a pool by its gaps: so many unusable entries, then the entry; so many at the end -/
def gap : Nat → List CpInfo → List CpInfo
  | 0, r => r
  | n + 1, r => .unusable :: gap n r
def poolList (es : List (Nat × CpInfo)) (last : Nat) : List CpInfo := es.foldr (fun e r => gap e.1 (e.2 :: r)) (gap last [])
def pool (es : List (Nat × CpInfo)) (last : Nat) : Array CpInfo := ⟨poolList es last⟩
def fileOf (pool : Array CpInfo) (this : Nat) (attrs : Array Attribute := #[]) (ms : Array MethodInfo := #[]) (fl : Nat := 33) (sup : Nat := 0) (ifs : Array Nat := #[]) (fds : Array FieldInfo := #[]) : ClassFile where
  minorVersion := 0
  majorVersion := 65
  constantPool := pool
  accessFlags := fl
  thisClass := this
  superClass := sup
  interfaces := ifs
  fields := fds
  methods := ms
  attributes := attrs
def plain (name : String) (sup : Option ClassId) : Class where
  name := name
  kind := .ordinary
  loader := none
  accessFlags := 33
  super := sup
  interfaces := #[]
  cf := none
  fields := #[]
  methods := #[]
  instanceTypes := #[]
  staticTypes := #[]
  resolved := #[]
  callSites := []
  init := .initialized
  statics := none
  mirror := none

def pool0 : Array CpInfo := pool [(5, u "<init>"), (0, u "()V"), (1, .class_ 10), (1, u "java/lang/Object")] 113

def k0c0 : Code := { maxStack := 0, maxLocals := 1, code := object_method_1_code, exceptionTable := #[], attributes := #[] }
def k0m0 : Method := { name := "<init>", desc := "()V", sig := { parameters := [], returnType := none }, accessFlags := 1, code := some k0c0 }
/-- java/lang/Object -/
def k0 : Class := { plain "java/lang/Object" none with
  accessFlags := 33
  interfaces := #[]
  cf := some (fileOf pool0 8 #[] #[{ accessFlags := 1, nameIndex := 5, descriptorIndex := 6, attributes := #[] }] 33 0 #[] #[])
  fields := #[]
  methods := #[k0m0]
  instanceTypes := #[]
  staticTypes := #[]
  resolved := Array.replicate 124 none
  statics := none }

def pool1 : Array CpInfo := pool [(2, .class_ 4), (1, u "java/lang/Object"), (0, u "<init>"), (0, u "()V"), (0, .class_ 8), (0, u "java/lang/String"), (0, .methodref 7 10), (0, .nameAndType 5 11), (0, u "([C)V"), (0, .integer 2147483647), (0, .methodref 14 15), (0, .class_ 16), (0, .nameAndType 17 18), (0, u "com/example/gettone/gettone/core/PlaceChoicePinLaw"), (0, u "str"), (0, u "(IIIII)Ljava/lang/String;"), (0, .methodref 20 21), (0, .class_ 22), (0, .nameAndType 23 24), (0, u "com/example/gettone/gettone/core/Place"), (0, u "choice"), (0, u "(Ljava/lang/String;)Lcom/example/gettone/gettone/core/Place;"), (0, .methodref 20 26), (0, .nameAndType 27 28), (0, u "id"), (0, u "()Ljava/lang/String;"), (0, .methodref 7 30), (0, .nameAndType 31 32), (0, u "equals"), (0, u "(Ljava/lang/Object;)Z"), (0, .methodref 20 34), (0, .nameAndType 35 28), (0, u "toString"), (0, .methodref 20 37), (0, .nameAndType 38 39), (0, u "isEnvironment"), (0, u "()Z"), (0, .methodref 20 41), (0, .nameAndType 42 39), (0, u "isBad"), (0, .methodref 20 44), (0, .nameAndType 45 39), (0, u "isChoice"), (0, .methodref 20 47), (0, .nameAndType 48 49), (0, u "origin"), (0, u "()Ljava/util/Optional;"), (0, .methodref 51 52), (0, .class_ 53), (0, .nameAndType 54 39), (0, u "java/util/Optional"), (0, u "isPresent"), (3, u "law"), (0, u "(IIIII)Z")] 2

def k1m0 : Method := { name := "<init>", desc := "()V", sig := { parameters := [], returnType := none }, accessFlags := 2, code := none }
def k1c1 : Code := { maxStack := 6, maxLocals := 9, code := method_2_code, exceptionTable := #[], attributes := #[] }
def k1m1 : Method := { name := "str", desc := "(IIIII)Ljava/lang/String;", sig := { parameters := [.int, .int, .int, .int, .int], returnType := some (.object "java/lang/String") }, accessFlags := 10, code := some k1c1 }
def k1c2 : Code := { maxStack := 5, maxLocals := 12, code := code, exceptionTable := #[], attributes := #[] }
def k1m2 : Method := { name := "law", desc := "(IIIII)Z", sig := { parameters := [.int, .int, .int, .int, .int], returnType := some .boolean }, accessFlags := 9, code := some k1c2 }
/-- com/example/gettone/gettone/core/PlaceChoicePinLaw -/
def k1 : Class := { plain "com/example/gettone/gettone/core/PlaceChoicePinLaw" (some 0) with
  accessFlags := 49
  interfaces := #[]
  cf := some (fileOf pool1 14 #[] #[{ accessFlags := 2, nameIndex := 5, descriptorIndex := 6, attributes := #[] }, { accessFlags := 10, nameIndex := 17, descriptorIndex := 18, attributes := #[] }, { accessFlags := 9, nameIndex := 58, descriptorIndex := 59, attributes := #[] }] 49 2 #[] #[])
  fields := #[]
  methods := #[k1m0, k1m1, k1m2]
  instanceTypes := #[]
  staticTypes := #[]
  resolved := Array.replicate 62 none
  statics := none }

def pool2 : Array CpInfo := pool [(1, .class_ 2), (0, u "java/io/Serializable"), (0, .class_ 4), (0, u "java/lang/Object")] 2

/-- java/io/Serializable -/
def k2 : Class := { plain "java/io/Serializable" (some 0) with
  accessFlags := 1537
  interfaces := #[]
  cf := some (fileOf pool2 1 #[] #[] 1537 3 #[] #[])
  fields := #[]
  methods := #[]
  instanceTypes := #[]
  staticTypes := #[]
  resolved := Array.replicate 7 none
  statics := none }

def pool3 : Array CpInfo := pool [(1, .class_ 2), (0, u "java/lang/Comparable"), (0, .class_ 4), (0, u "java/lang/Object")] 7

/-- java/lang/Comparable -/
def k3 : Class := { plain "java/lang/Comparable" (some 0) with
  accessFlags := 1537
  interfaces := #[]
  cf := some (fileOf pool3 1 #[] #[] 1537 3 #[] #[])
  fields := #[]
  methods := #[]
  instanceTypes := #[]
  staticTypes := #[]
  resolved := Array.replicate 12 none
  statics := none }

def pool4 : Array CpInfo := pool [(2, .class_ 4), (1, u "java/lang/CharSequence"), (42, .class_ 48), (0, u "java/lang/CharSequence$1CodePointIterator"), (10, .class_ 60), (0, u "java/lang/CharSequence$1CharIterator"), (5, .class_ 67), (0, u "java/lang/Object")] 63

/-- java/lang/CharSequence -/
def k4 : Class := { plain "java/lang/CharSequence" (some 0) with
  accessFlags := 1537
  interfaces := #[]
  cf := some (fileOf pool4 2 #[.nestMembers #[47, 59]] #[] 1537 66 #[] #[])
  fields := #[]
  methods := #[]
  instanceTypes := #[]
  staticTypes := #[]
  resolved := Array.replicate 131 none
  statics := none }

def pool5 : Array CpInfo := pool [(1, .class_ 2), (0, u "java/lang/constant/Constable"), (0, .class_ 4), (0, u "java/lang/Object")] 6

/-- java/lang/constant/Constable -/
def k5 : Class := { plain "java/lang/constant/Constable" (some 0) with
  accessFlags := 1537
  interfaces := #[]
  cf := some (fileOf pool5 1 #[] #[] 1537 3 #[] #[])
  fields := #[]
  methods := #[]
  instanceTypes := #[]
  staticTypes := #[]
  resolved := Array.replicate 11 none
  statics := none }

def pool6 : Array CpInfo := pool [(1, .class_ 2), (0, u "java/lang/constant/ConstantDesc"), (0, .class_ 4), (0, u "java/lang/Object")] 32

/-- java/lang/constant/ConstantDesc -/
def k6 : Class := { plain "java/lang/constant/ConstantDesc" (some 0) with
  accessFlags := 1537
  interfaces := #[]
  cf := some (fileOf pool6 1 #[] #[] 1537 3 #[] #[])
  fields := #[]
  methods := #[]
  instanceTypes := #[]
  staticTypes := #[]
  resolved := Array.replicate 37 none
  statics := none }

def pool7 : Array CpInfo := pool [(1, .methodref 2 3), (0, .class_ 4), (0, .nameAndType 5 6), (0, u "java/lang/Object"), (0, u "<init>"), (0, u "()V"), (0, .string 8), (0, u ""), (0, .fieldref 10 11), (0, .class_ 12), (0, .nameAndType 13 14), (0, u "java/lang/String"), (0, u "value"), (0, u "[B"), (0, .fieldref 10 16), (0, .nameAndType 17 18), (0, u "coder"), (0, u "B"), (2, u "hash"), (0, u "I"), (2, u "hashIsZero"), (0, u "Z"), (0, .methodref 10 28), (0, .nameAndType 5 29), (0, u "([CIILjava/lang/Void;)V"), (8, .fieldref 10 39), (0, .nameAndType 40 26), (0, u "COMPACT_STRINGS"), (1, .class_ 44), (1, u "java/lang/StringUTF16"), (0, u "compress"), (1, .methodref 42 48), (0, .nameAndType 49 50), (0, u "coderFromArrayLen"), (0, u "([BI)B"), (56, .class_ 109), (1, u "java/lang/StringLatin1"), (67, .methodref 42 178), (0, .nameAndType 45 179), (0, u "([CII)[B"), (361, .methodref 107 542), (0, .nameAndType 543 544), (0, u "equals"), (0, u "([B[B)Z"), (28, u "(Ljava/lang/Object;)Z"), (1, .class_ 576), (0, u "java/lang/CharSequence"), (22, u "CASE_INSENSITIVE_ORDER"), (0, u "Ljava/util/Comparator;"), (409, u "([C)V"), (90, u "serialPersistentFields"), (0, u "[Ljava/io/ObjectStreamField;"), (0, .class_ 1104), (0, u "java/lang/String$CaseInsensitiveComparator"), (1, .class_ 1107), (0, u "java/io/Serializable"), (0, .class_ 1109), (0, u "java/lang/Comparable"), (0, .class_ 1111), (0, u "java/lang/constant/Constable"), (0, .class_ 1113), (0, u "java/lang/constant/ConstantDesc"), (2, u "serialVersionUID"), (0, u "J"), (3, u "REPL"), (0, u "C"), (2, u "LATIN1"), (1, u "UTF16")] 323

def k7m0 : Method := { name := "<init>", desc := "()V", sig := { parameters := [], returnType := none }, accessFlags := 1, code := none }
def k7c1 : Code := { maxStack := 5, maxLocals := 2, code := jdk_42_method_3_code, exceptionTable := #[], attributes := #[] }
def k7m1 : Method := { name := "<init>", desc := "([C)V", sig := { parameters := [(.array .char)], returnType := none }, accessFlags := 1, code := some k7c1 }
def k7c2 : Code := { maxStack := 2, maxLocals := 3, code := jdk_42_method_66_code, exceptionTable := #[], attributes := #[] }
def k7m2 : Method := { name := "equals", desc := "(Ljava/lang/Object;)Z", sig := { parameters := [(.object "java/lang/Object")], returnType := some .boolean }, accessFlags := 1, code := some k7c2 }
def k7c3 : Code := { maxStack := 4, maxLocals := 6, code := jdk_42_method_149_code, exceptionTable := #[], attributes := #[] }
def k7m3 : Method := { name := "<init>", desc := "([CIILjava/lang/Void;)V", sig := { parameters := [(.array .char), .int, .int, (.object "java/lang/Void")], returnType := none }, accessFlags := 2, code := some k7c3 }
/-- java/lang/String -/
def k7 : Class := { plain "java/lang/String" (some 0) with
  accessFlags := 49
  interfaces := #[2, 3, 4, 5, 6]
  cf := some (fileOf pool7 10 #[.nestMembers #[1103]] #[{ accessFlags := 1, nameIndex := 5, descriptorIndex := 6, attributes := #[] }, { accessFlags := 1, nameIndex := 5, descriptorIndex := 1010, attributes := #[] }, { accessFlags := 1, nameIndex := 543, descriptorIndex := 573, attributes := #[] }, { accessFlags := 2, nameIndex := 5, descriptorIndex := 29, attributes := #[] }] 49 2 #[1106, 1108, 575, 1110, 1112] #[{ accessFlags := 18, nameIndex := 13, descriptorIndex := 14, attributes := #[] }, { accessFlags := 18, nameIndex := 17, descriptorIndex := 18, attributes := #[] }, { accessFlags := 2, nameIndex := 21, descriptorIndex := 22, attributes := #[] }, { accessFlags := 2, nameIndex := 25, descriptorIndex := 26, attributes := #[] }, { accessFlags := 26, nameIndex := 1116, descriptorIndex := 1117, attributes := #[] }, { accessFlags := 24, nameIndex := 40, descriptorIndex := 26, attributes := #[] }, { accessFlags := 26, nameIndex := 1101, descriptorIndex := 1102, attributes := #[] }, { accessFlags := 26, nameIndex := 1121, descriptorIndex := 1122, attributes := #[] }, { accessFlags := 25, nameIndex := 599, descriptorIndex := 600, attributes := #[] }, { accessFlags := 24, nameIndex := 1125, descriptorIndex := 18, attributes := #[] }, { accessFlags := 24, nameIndex := 1127, descriptorIndex := 18, attributes := #[] }])
  fields := #[{ name := "value", type := (.array .byte), accessFlags := 18, slot := 0, constantValue := 0 }, { name := "coder", type := .byte, accessFlags := 18, slot := 1, constantValue := 0 }, { name := "hash", type := .int, accessFlags := 2, slot := 2, constantValue := 0 }, { name := "hashIsZero", type := .boolean, accessFlags := 2, slot := 3, constantValue := 0 }, { name := "serialVersionUID", type := .long, accessFlags := 26, slot := 0, constantValue := 0 }, { name := "COMPACT_STRINGS", type := .boolean, accessFlags := 24, slot := 1, constantValue := 0 }, { name := "serialPersistentFields", type := (.array (.object "java/io/ObjectStreamField")), accessFlags := 26, slot := 2, constantValue := 0 }, { name := "REPL", type := .char, accessFlags := 26, slot := 3, constantValue := 0 }, { name := "CASE_INSENSITIVE_ORDER", type := (.object "java/util/Comparator"), accessFlags := 25, slot := 4, constantValue := 0 }, { name := "LATIN1", type := .byte, accessFlags := 24, slot := 5, constantValue := 0 }, { name := "UTF16", type := .byte, accessFlags := 24, slot := 6, constantValue := 0 }]
  methods := #[k7m0, k7m1, k7m2, k7m3]
  instanceTypes := #[(.array .byte), .byte, .int, .boolean]
  staticTypes := #[.long, .boolean, (.array (.object "java/io/ObjectStreamField")), .char, (.object "java/util/Comparator"), .byte, .byte]
  resolved := Array.replicate 1451 none
  statics := some 0 }

def pool8 : Array CpInfo := pool [(1, .methodref 2 3), (0, .class_ 4), (0, .nameAndType 5 6), (0, u "com/example/gettone/gettone/core/Place"), (0, u "<init>"), (0, u "(Ljava/lang/String;ZZLjava/lang/String;Z)V"), (0, .methodref 8 9), (0, .class_ 10), (0, .nameAndType 5 11), (0, u "java/lang/Object"), (0, u "()V"), (0, .string 13), (0, u "id"), (0, .methodref 15 16), (0, .class_ 17), (0, .nameAndType 18 19), (0, u "java/util/Objects"), (0, u "requireNonNull"), (0, u "(Ljava/lang/Object;Ljava/lang/String;)Ljava/lang/Object;"), (0, .class_ 21), (0, u "java/lang/String"), (0, .fieldref 2 23), (0, .nameAndType 13 24), (0, u "Ljava/lang/String;"), (0, .fieldref 2 26), (0, .nameAndType 27 28), (0, u "environment"), (0, u "Z"), (0, .fieldref 2 30), (0, .nameAndType 31 28), (0, u "bad"), (0, .fieldref 2 33), (0, .nameAndType 34 24), (0, u "origin"), (0, .fieldref 2 36), (0, .nameAndType 37 28), (0, u "choice"), (0, .methodref 39 40), (0, .class_ 41), (0, .nameAndType 42 43), (0, u "java/util/Optional"), (0, u "ofNullable"), (0, u "(Ljava/lang/Object;)Ljava/util/Optional;"), (3, u "(Ljava/lang/String;)Lcom/example/gettone/gettone/core/Place;"), (0, u "()Ljava/lang/String;"), (0, u "isEnvironment"), (0, u "()Z"), (0, u "isBad"), (0, u "()Ljava/util/Optional;"), (2, u "isChoice"), (0, u "toString")] 2

def k8c0 : Code := { maxStack := 3, maxLocals := 6, code := prog_32_method_2_code, exceptionTable := #[], attributes := #[] }
def k8m0 : Method := { name := "<init>", desc := "(Ljava/lang/String;ZZLjava/lang/String;Z)V", sig := { parameters := [(.object "java/lang/String"), .boolean, .boolean, (.object "java/lang/String"), .boolean], returnType := none }, accessFlags := 2, code := some k8c0 }
def k8c1 : Code := { maxStack := 7, maxLocals := 1, code := prog_32_method_3_code, exceptionTable := #[], attributes := #[] }
def k8m1 : Method := { name := "choice", desc := "(Ljava/lang/String;)Lcom/example/gettone/gettone/core/Place;", sig := { parameters := [(.object "java/lang/String")], returnType := some (.object "com/example/gettone/gettone/core/Place") }, accessFlags := 9, code := some k8c1 }
def k8c2 : Code := { maxStack := 1, maxLocals := 1, code := prog_32_method_4_code, exceptionTable := #[], attributes := #[] }
def k8m2 : Method := { name := "id", desc := "()Ljava/lang/String;", sig := { parameters := [], returnType := some (.object "java/lang/String") }, accessFlags := 1, code := some k8c2 }
def k8c3 : Code := { maxStack := 1, maxLocals := 1, code := prog_32_method_5_code, exceptionTable := #[], attributes := #[] }
def k8m3 : Method := { name := "isEnvironment", desc := "()Z", sig := { parameters := [], returnType := some .boolean }, accessFlags := 1, code := some k8c3 }
def k8c4 : Code := { maxStack := 1, maxLocals := 1, code := prog_32_method_6_code, exceptionTable := #[], attributes := #[] }
def k8m4 : Method := { name := "isBad", desc := "()Z", sig := { parameters := [], returnType := some .boolean }, accessFlags := 1, code := some k8c4 }
def k8c5 : Code := { maxStack := 1, maxLocals := 1, code := prog_32_method_7_code, exceptionTable := #[], attributes := #[] }
def k8m5 : Method := { name := "origin", desc := "()Ljava/util/Optional;", sig := { parameters := [], returnType := some (.object "java/util/Optional") }, accessFlags := 1, code := some k8c5 }
def k8c6 : Code := { maxStack := 1, maxLocals := 1, code := prog_32_method_8_code, exceptionTable := #[], attributes := #[] }
def k8m6 : Method := { name := "isChoice", desc := "()Z", sig := { parameters := [], returnType := some .boolean }, accessFlags := 1, code := some k8c6 }
def k8c7 : Code := { maxStack := 1, maxLocals := 1, code := prog_32_method_9_code, exceptionTable := #[], attributes := #[] }
def k8m7 : Method := { name := "toString", desc := "()Ljava/lang/String;", sig := { parameters := [], returnType := some (.object "java/lang/String") }, accessFlags := 1, code := some k8c7 }
/-- com/example/gettone/gettone/core/Place -/
def k8 : Class := { plain "com/example/gettone/gettone/core/Place" (some 0) with
  accessFlags := 49
  interfaces := #[]
  cf := some (fileOf pool8 2 #[] #[{ accessFlags := 2, nameIndex := 5, descriptorIndex := 6, attributes := #[] }, { accessFlags := 9, nameIndex := 37, descriptorIndex := 47, attributes := #[] }, { accessFlags := 1, nameIndex := 13, descriptorIndex := 48, attributes := #[] }, { accessFlags := 1, nameIndex := 49, descriptorIndex := 50, attributes := #[] }, { accessFlags := 1, nameIndex := 51, descriptorIndex := 50, attributes := #[] }, { accessFlags := 1, nameIndex := 34, descriptorIndex := 52, attributes := #[] }, { accessFlags := 1, nameIndex := 55, descriptorIndex := 50, attributes := #[] }, { accessFlags := 1, nameIndex := 56, descriptorIndex := 48, attributes := #[] }] 49 8 #[] #[{ accessFlags := 18, nameIndex := 13, descriptorIndex := 24, attributes := #[] }, { accessFlags := 18, nameIndex := 27, descriptorIndex := 28, attributes := #[] }, { accessFlags := 18, nameIndex := 31, descriptorIndex := 28, attributes := #[] }, { accessFlags := 18, nameIndex := 34, descriptorIndex := 24, attributes := #[] }, { accessFlags := 18, nameIndex := 37, descriptorIndex := 28, attributes := #[] }])
  fields := #[{ name := "id", type := (.object "java/lang/String"), accessFlags := 18, slot := 0, constantValue := 0 }, { name := "environment", type := .boolean, accessFlags := 18, slot := 1, constantValue := 0 }, { name := "bad", type := .boolean, accessFlags := 18, slot := 2, constantValue := 0 }, { name := "origin", type := (.object "java/lang/String"), accessFlags := 18, slot := 3, constantValue := 0 }, { name := "choice", type := .boolean, accessFlags := 18, slot := 4, constantValue := 0 }]
  methods := #[k8m0, k8m1, k8m2, k8m3, k8m4, k8m5, k8m6, k8m7]
  instanceTypes := #[(.object "java/lang/String"), .boolean, .boolean, (.object "java/lang/String"), .boolean]
  staticTypes := #[]
  resolved := Array.replicate 59 none
  statics := none }

def pool9 : Array CpInfo := pool [(2, .class_ 4), (1, u "java/lang/Object"), (0, u "<init>"), (0, u "()V"), (35, .class_ 44), (1, u "java/util/Objects"), (0, u "requireNonNull"), (48, u "(Ljava/lang/Object;Ljava/lang/String;)Ljava/lang/Object;")] 89

def k9m0 : Method := { name := "<init>", desc := "()V", sig := { parameters := [], returnType := none }, accessFlags := 2, code := none }
def k9c1 : Code := { maxStack := 3, maxLocals := 2, code := jdk_31_method_11_code, exceptionTable := #[], attributes := #[] }
def k9m1 : Method := { name := "requireNonNull", desc := "(Ljava/lang/Object;Ljava/lang/String;)Ljava/lang/Object;", sig := { parameters := [(.object "java/lang/Object"), (.object "java/lang/String")], returnType := some (.object "java/lang/Object") }, accessFlags := 9, code := some k9c1 }
/-- java/util/Objects -/
def k9 : Class := { plain "java/util/Objects" (some 0) with
  accessFlags := 49
  interfaces := #[]
  cf := some (fileOf pool9 42 #[] #[{ accessFlags := 2, nameIndex := 5, descriptorIndex := 6, attributes := #[] }, { accessFlags := 9, nameIndex := 45, descriptorIndex := 94, attributes := #[] }] 49 2 #[] #[])
  fields := #[]
  methods := #[k9m0, k9m1]
  instanceTypes := #[]
  staticTypes := #[]
  resolved := Array.replicate 184 none
  statics := none }

def pool10 : Array CpInfo := pool [(4, .class_ 6), (1, u "java/lang/Object"), (0, u "<init>"), (0, u "()V"), (5, .class_ 16), (1, u "java/lang/StringLatin1"), (104, u "$assertionsDisabled"), (0, u "Z"), (98, .class_ 223), (1, u "java/lang/StringLatin1$LinesSpliterator"), (57, u "equals"), (0, u "([B[B)Z"), (107, .class_ 391), (0, u "java/lang/StringLatin1$CharsSpliterator")] 3

def k10m0 : Method := { name := "<init>", desc := "()V", sig := { parameters := [], returnType := none }, accessFlags := 0, code := none }
def k10c1 : Code := { maxStack := 3, maxLocals := 3, code := jdk_43_method_13_code, exceptionTable := #[], attributes := #[] }
def k10m1 : Method := { name := "equals", desc := "([B[B)Z", sig := { parameters := [(.array .byte), (.array .byte)], returnType := some .boolean }, accessFlags := 9, code := some k10c1 }
/-- java/lang/StringLatin1 -/
def k10 : Class := { plain "java/lang/StringLatin1" (some 0) with
  accessFlags := 48
  interfaces := #[]
  cf := some (fileOf pool10 14 #[.nestMembers #[390, 221]] #[{ accessFlags := 0, nameIndex := 7, descriptorIndex := 8, attributes := #[] }, { accessFlags := 9, nameIndex := 281, descriptorIndex := 282, attributes := #[] }] 48 4 #[] #[{ accessFlags := 4120, nameIndex := 121, descriptorIndex := 122, attributes := #[] }])
  fields := #[{ name := "$assertionsDisabled", type := .boolean, accessFlags := 4120, slot := 0, constantValue := 0 }]
  methods := #[k10m0, k10m1]
  instanceTypes := #[]
  staticTypes := #[.boolean]
  resolved := Array.replicate 395 none
  statics := none }

def pool11 : Array CpInfo := pool [(1, .fieldref 2 3), (0, .class_ 4), (0, .nameAndType 5 6), (0, u "java/util/Optional"), (0, u "EMPTY"), (0, u "Ljava/util/Optional;"), (1, .class_ 10), (1, u "java/lang/Object"), (2, .fieldref 2 14), (0, .nameAndType 15 16), (0, u "value"), (0, u "Ljava/lang/Object;"), (29, u "()Z"), (17, u "ofNullable"), (0, u "(Ljava/lang/Object;)Ljava/util/Optional;"), (2, u "isPresent")] 118

def k11c0 : Code := { maxStack := 3, maxLocals := 1, code := jdk_32_method_4_code, exceptionTable := #[], attributes := #[] }
def k11m0 : Method := { name := "ofNullable", desc := "(Ljava/lang/Object;)Ljava/util/Optional;", sig := { parameters := [(.object "java/lang/Object")], returnType := some (.object "java/util/Optional") }, accessFlags := 9, code := some k11c0 }
def k11c1 : Code := { maxStack := 1, maxLocals := 1, code := jdk_32_method_6_code, exceptionTable := #[], attributes := #[] }
def k11m1 : Method := { name := "isPresent", desc := "()Z", sig := { parameters := [], returnType := some .boolean }, accessFlags := 1, code := some k11c1 }
/-- java/util/Optional -/
def k11 : Class := { plain "java/util/Optional" (some 0) with
  accessFlags := 49
  interfaces := #[]
  cf := some (fileOf pool11 2 #[] #[{ accessFlags := 9, nameIndex := 64, descriptorIndex := 65, attributes := #[] }, { accessFlags := 1, nameIndex := 68, descriptorIndex := 46, attributes := #[] }] 49 8 #[] #[{ accessFlags := 26, nameIndex := 5, descriptorIndex := 6, attributes := #[] }, { accessFlags := 18, nameIndex := 15, descriptorIndex := 16, attributes := #[] }])
  fields := #[{ name := "EMPTY", type := (.object "java/util/Optional"), accessFlags := 26, slot := 0, constantValue := 0 }, { name := "value", type := (.object "java/lang/Object"), accessFlags := 18, slot := 0, constantValue := 0 }]
  methods := #[k11m0, k11m1]
  instanceTypes := #[(.object "java/lang/Object")]
  staticTypes := #[(.object "java/util/Optional")]
  resolved := Array.replicate 187 none
  statics := some 1 }

def pool12 : Array CpInfo := pool [(6, .class_ 8), (1, u "java/lang/Object"), (0, u "<init>"), (0, u "()V"), (1, .class_ 14), (1, u "java/lang/StringUTF16"), (31, u "$assertionsDisabled"), (0, u "Z"), (13, u "HI_BYTE_SHIFT"), (0, u "I"), (2, u "LO_BYTE_SHIFT"), (49, .methodref 12 116), (0, .nameAndType 117 118), (0, u "compress"), (0, u "([CI[BII)I"), (3, u "([CII)[B"), (138, u "coderFromArrayLen"), (0, u "([BI)B"), (106, .class_ 371), (1, u "java/lang/StringUTF16$LinesSpliterator"), (58, u "MAX_LENGTH"), (196, .class_ 628), (0, u "java/lang/StringUTF16$CodePointsSpliterator"), (0, .class_ 630), (0, u "java/lang/StringUTF16$CharsSpliterator")] 4

def k12m0 : Method := { name := "<init>", desc := "()V", sig := { parameters := [], returnType := none }, accessFlags := 0, code := none }
def k12c1 : Code := { maxStack := 2, maxLocals := 2, code := jdk_52_method_15_code, exceptionTable := #[], attributes := #[] }
def k12m1 : Method := { name := "coderFromArrayLen", desc := "([BI)B", sig := { parameters := [(.array .byte), .int], returnType := some .byte }, accessFlags := 8, code := some k12c1 }
def k12c2 : Code := { maxStack := 5, maxLocals := 6, code := jdk_52_method_16_code, exceptionTable := #[], attributes := #[] }
def k12m2 : Method := { name := "compress", desc := "([CII)[B", sig := { parameters := [(.array .char), .int, .int], returnType := some (.array .byte) }, accessFlags := 9, code := some k12c2 }
def k12c3 : Code := { maxStack := 3, maxLocals := 7, code := jdk_52_method_21_code, exceptionTable := #[], attributes := #[] }
def k12m3 : Method := { name := "compress", desc := "([CI[BII)I", sig := { parameters := [(.array .char), .int, (.array .byte), .int, .int], returnType := some .int }, accessFlags := 9, code := some k12c3 }
/-- java/lang/StringUTF16 -/
def k12 : Class := { plain "java/lang/StringUTF16" (some 0) with
  accessFlags := 48
  interfaces := #[]
  cf := some (fileOf pool12 12 #[.nestMembers #[627, 629, 369]] #[{ accessFlags := 0, nameIndex := 9, descriptorIndex := 10, attributes := #[] }, { accessFlags := 8, nameIndex := 261, descriptorIndex := 262, attributes := #[] }, { accessFlags := 9, nameIndex := 117, descriptorIndex := 122, attributes := #[] }, { accessFlags := 9, nameIndex := 117, descriptorIndex := 118, attributes := #[] }] 48 6 #[] #[{ accessFlags := 26, nameIndex := 61, descriptorIndex := 62, attributes := #[] }, { accessFlags := 26, nameIndex := 65, descriptorIndex := 62, attributes := #[] }, { accessFlags := 24, nameIndex := 430, descriptorIndex := 62, attributes := #[] }, { accessFlags := 4120, nameIndex := 46, descriptorIndex := 47, attributes := #[] }])
  fields := #[{ name := "HI_BYTE_SHIFT", type := .int, accessFlags := 26, slot := 0, constantValue := 0 }, { name := "LO_BYTE_SHIFT", type := .int, accessFlags := 26, slot := 1, constantValue := 0 }, { name := "MAX_LENGTH", type := .int, accessFlags := 24, slot := 2, constantValue := 0 }, { name := "$assertionsDisabled", type := .boolean, accessFlags := 4120, slot := 3, constantValue := 0 }]
  methods := #[k12m0, k12m1, k12m2, k12m3]
  instanceTypes := #[]
  staticTypes := #[.int, .int, .int, .boolean]
  resolved := Array.replicate 635 none
  statics := none }

def pool13 : Array CpInfo := pool [(2, .class_ 4), (1, u "java/lang/Object"), (0, u "<init>"), (0, u "()V"), (17, .class_ 26), (1, u "jdk/internal/util/Preconditions"), (28, .class_ 56), (0, u "jdk/internal/util/Preconditions$4"), (57, .class_ 115), (0, u "jdk/internal/util/Preconditions$1"), (7, u "SIOOBE_FORMATTER"), (0, u "Ljava/util/function/BiFunction;"), (0, .class_ 126), (0, u "jdk/internal/util/Preconditions$2"), (3, u "AIOOBE_FORMATTER"), (0, .class_ 132), (0, u "jdk/internal/util/Preconditions$3"), (3, u "IOOBE_FORMATTER")] 57

def k13m0 : Method := { name := "<init>", desc := "()V", sig := { parameters := [], returnType := none }, accessFlags := 1, code := none }
/-- jdk/internal/util/Preconditions -/
def k13 : Class := { plain "jdk/internal/util/Preconditions" (some 0) with
  accessFlags := 33
  interfaces := #[]
  cf := some (fileOf pool13 24 #[.nestMembers #[55, 131, 125, 114]] #[{ accessFlags := 1, nameIndex := 5, descriptorIndex := 6, attributes := #[] }] 33 2 #[] #[{ accessFlags := 25, nameIndex := 123, descriptorIndex := 124, attributes := #[] }, { accessFlags := 25, nameIndex := 130, descriptorIndex := 124, attributes := #[] }, { accessFlags := 25, nameIndex := 136, descriptorIndex := 124, attributes := #[] }])
  fields := #[{ name := "SIOOBE_FORMATTER", type := (.object "java/util/function/BiFunction"), accessFlags := 25, slot := 0, constantValue := 0 }, { name := "AIOOBE_FORMATTER", type := (.object "java/util/function/BiFunction"), accessFlags := 25, slot := 1, constantValue := 0 }, { name := "IOOBE_FORMATTER", type := (.object "java/util/function/BiFunction"), accessFlags := 25, slot := 2, constantValue := 0 }]
  methods := #[k13m0]
  instanceTypes := #[]
  staticTypes := #[(.object "java/util/function/BiFunction"), (.object "java/util/function/BiFunction"), (.object "java/util/function/BiFunction")]
  resolved := Array.replicate 194 none
  statics := some 2 }

def pool14 : Array CpInfo := pool [(9, u "<init>"), (6, .class_ 18), (1, u "java/lang/Object"), (0, u "()V"), (1, .class_ 23), (1, u "jdk/internal/util/ArraysSupport"), (0, u "LOG2_ARRAY_LONG_INDEX_SCALE"), (0, u "I"), (2, u "U"), (0, u "Ljdk/internal/misc/Unsafe;"), (8, u "BIG_ENDIAN"), (0, u "Z"), (8, u "LOG2_BYTE_BIT_SIZE"), (4, u "LOG2_ARRAY_INT_INDEX_SCALE"), (54, u "JLA"), (0, u "Ljdk/internal/access/JavaLangAccess;"), (11, u "LOG2_ARRAY_BOOLEAN_INDEX_SCALE"), (9, u "LOG2_ARRAY_BYTE_INDEX_SCALE"), (5, u "LOG2_ARRAY_CHAR_INDEX_SCALE"), (5, u "LOG2_ARRAY_SHORT_INDEX_SCALE"), (18, u "LOG2_ARRAY_FLOAT_INDEX_SCALE"), (24, u "LOG2_ARRAY_DOUBLE_INDEX_SCALE"), (89, u "T_BOOLEAN"), (2, u "T_CHAR"), (1, u "T_FLOAT"), (1, u "T_DOUBLE"), (1, u "T_BYTE"), (1, u "T_SHORT"), (1, u "T_INT"), (1, u "T_LONG"), (1, u "SOFT_MAX_ARRAY_LENGTH")] 83

def k14m0 : Method := { name := "<init>", desc := "()V", sig := { parameters := [], returnType := none }, accessFlags := 2, code := none }
/-- jdk/internal/util/ArraysSupport -/
def k14 : Class := { plain "jdk/internal/util/ArraysSupport" (some 0) with
  accessFlags := 33
  interfaces := #[]
  cf := some (fileOf pool14 21 #[] #[{ accessFlags := 2, nameIndex := 9, descriptorIndex := 19, attributes := #[] }] 33 16 #[] #[{ accessFlags := 24, nameIndex := 28, descriptorIndex := 29, attributes := #[] }, { accessFlags := 26, nameIndex := 38, descriptorIndex := 39, attributes := #[] }, { accessFlags := 25, nameIndex := 121, descriptorIndex := 25, attributes := #[] }, { accessFlags := 25, nameIndex := 131, descriptorIndex := 25, attributes := #[] }, { accessFlags := 25, nameIndex := 137, descriptorIndex := 25, attributes := #[] }, { accessFlags := 25, nameIndex := 143, descriptorIndex := 25, attributes := #[] }, { accessFlags := 25, nameIndex := 53, descriptorIndex := 25, attributes := #[] }, { accessFlags := 25, nameIndex := 24, descriptorIndex := 25, attributes := #[] }, { accessFlags := 25, nameIndex := 162, descriptorIndex := 25, attributes := #[] }, { accessFlags := 25, nameIndex := 187, descriptorIndex := 25, attributes := #[] }, { accessFlags := 26, nameIndex := 48, descriptorIndex := 25, attributes := #[] }, { accessFlags := 25, nameIndex := 277, descriptorIndex := 25, attributes := #[] }, { accessFlags := 25, nameIndex := 280, descriptorIndex := 25, attributes := #[] }, { accessFlags := 25, nameIndex := 282, descriptorIndex := 25, attributes := #[] }, { accessFlags := 25, nameIndex := 284, descriptorIndex := 25, attributes := #[] }, { accessFlags := 25, nameIndex := 286, descriptorIndex := 25, attributes := #[] }, { accessFlags := 25, nameIndex := 288, descriptorIndex := 25, attributes := #[] }, { accessFlags := 25, nameIndex := 290, descriptorIndex := 25, attributes := #[] }, { accessFlags := 25, nameIndex := 292, descriptorIndex := 25, attributes := #[] }, { accessFlags := 26, nameIndex := 108, descriptorIndex := 109, attributes := #[] }, { accessFlags := 25, nameIndex := 294, descriptorIndex := 25, attributes := #[] }])
  fields := #[{ name := "U", type := (.object "jdk/internal/misc/Unsafe"), accessFlags := 24, slot := 0, constantValue := 0 }, { name := "BIG_ENDIAN", type := .boolean, accessFlags := 26, slot := 1, constantValue := 0 }, { name := "LOG2_ARRAY_BOOLEAN_INDEX_SCALE", type := .int, accessFlags := 25, slot := 2, constantValue := 0 }, { name := "LOG2_ARRAY_BYTE_INDEX_SCALE", type := .int, accessFlags := 25, slot := 3, constantValue := 0 }, { name := "LOG2_ARRAY_CHAR_INDEX_SCALE", type := .int, accessFlags := 25, slot := 4, constantValue := 0 }, { name := "LOG2_ARRAY_SHORT_INDEX_SCALE", type := .int, accessFlags := 25, slot := 5, constantValue := 0 }, { name := "LOG2_ARRAY_INT_INDEX_SCALE", type := .int, accessFlags := 25, slot := 6, constantValue := 0 }, { name := "LOG2_ARRAY_LONG_INDEX_SCALE", type := .int, accessFlags := 25, slot := 7, constantValue := 0 }, { name := "LOG2_ARRAY_FLOAT_INDEX_SCALE", type := .int, accessFlags := 25, slot := 8, constantValue := 0 }, { name := "LOG2_ARRAY_DOUBLE_INDEX_SCALE", type := .int, accessFlags := 25, slot := 9, constantValue := 0 }, { name := "LOG2_BYTE_BIT_SIZE", type := .int, accessFlags := 26, slot := 10, constantValue := 0 }, { name := "T_BOOLEAN", type := .int, accessFlags := 25, slot := 11, constantValue := 0 }, { name := "T_CHAR", type := .int, accessFlags := 25, slot := 12, constantValue := 0 }, { name := "T_FLOAT", type := .int, accessFlags := 25, slot := 13, constantValue := 0 }, { name := "T_DOUBLE", type := .int, accessFlags := 25, slot := 14, constantValue := 0 }, { name := "T_BYTE", type := .int, accessFlags := 25, slot := 15, constantValue := 0 }, { name := "T_SHORT", type := .int, accessFlags := 25, slot := 16, constantValue := 0 }, { name := "T_INT", type := .int, accessFlags := 25, slot := 17, constantValue := 0 }, { name := "T_LONG", type := .int, accessFlags := 25, slot := 18, constantValue := 0 }, { name := "JLA", type := (.object "jdk/internal/access/JavaLangAccess"), accessFlags := 26, slot := 19, constantValue := 0 }, { name := "SOFT_MAX_ARRAY_LENGTH", type := .int, accessFlags := 25, slot := 20, constantValue := 0 }]
  methods := #[k14m0]
  instanceTypes := #[]
  staticTypes := #[(.object "jdk/internal/misc/Unsafe"), .boolean, .int, .int, .int, .int, .int, .int, .int, .int, .int, .int, .int, .int, .int, .int, .int, .int, .int, (.object "jdk/internal/access/JavaLangAccess"), .int]
  resolved := Array.replicate 378 none
  statics := none }

def pool15 : Array CpInfo := pool [(1, u "java/lang/Cloneable"), (0, .class_ 1), (0, u "java/lang/Object"), (0, .class_ 3)] 3

/-- java/lang/Cloneable -/
def k15 : Class := { plain "java/lang/Cloneable" (some 0) with
  accessFlags := 1537
  interfaces := #[]
  cf := some (fileOf pool15 2 #[] #[] 1537 4 #[] #[])
  fields := #[]
  methods := #[]
  instanceTypes := #[]
  staticTypes := #[]
  resolved := Array.replicate 8 none
  statics := none }

/-- the primitive byte -/
def k16 : Class := { plain "byte" none with kind := .primitive 'B', accessFlags := 0x411 }
/-- [B -/
def k17 : Class := { plain "[B" (some 0) with kind := .array 16 .byte, interfaces := #[15, 2], accessFlags := 1041 }

/-- the primitive char -/
def k18 : Class := { plain "char" none with kind := .primitive 'C', accessFlags := 0x411 }
/-- [C -/
def k19 : Class := { plain "[C" (some 0) with kind := .array 18 .char, interfaces := #[15, 2], accessFlags := 1041 }

/-- the primitive int -/
def k20 : Class := { plain "int" none with kind := .primitive 'I', accessFlags := 0x411 }
/-- [I -/
def k21 : Class := { plain "[I" (some 0) with kind := .array 20 .int, interfaces := #[15, 2], accessFlags := 1041 }

def heap : Heap := #[{ cls := 7, slots := #[.long 0, .int 1, .null, .int 0, .null, .int 0, .int 0], vm := .statics 7 },
  { cls := 11, slots := #[.ref 3], vm := .statics 11 },
  { cls := 13, slots := #[.null, .null, .null], vm := .statics 13 },
  { cls := 11, slots := #[.null], vm := .none }]
def classes : Array Class := #[k0, k1, k2, k3, k4, k5, k6, k7, k8, k9, k10, k11, k12, k13, k14, k15, k16, k17, k18, k19, k20, k21]
def interned : List (Array UInt16 × Addr) := []
def slotsUsed : Nat := 12
def theMethod : MethodId := ⟨1, 2⟩
def args0 : Array Value := #[.int 3, .int 65, .int 66, .int 67, .int 68]
def aboutOver (below : List Frame) : State where
  vm := { classes := classes, interned := interned.toArray }
  heap := heap
  slotsUsed := slotsUsed
  threads := #[{ frames := .invoking theMethod args0 :: below }]
def below0 : List Frame := [.native { method := ⟨0, 0⟩, args := #[] }]
def about1 : State := aboutOver below0
def p0 : Program := .bare "" "" ""
def e0 : Env := launch0.env 0 0 0
theorem w_frames : about1.frames = Frame.invoking theMethod args0 :: below0 := rfl
set_option maxRecDepth 65536 in
theorem w_args : argsFit about1.vm theMethod args0 = true := by decide +kernel
set_option maxRecDepth 65536 in
theorem w_heap : heapFits about1 = true := by decide +kernel
set_option maxRecDepth 65536 in
theorem w_runnable : about1.curStatus? = some .runnable := by decide +kernel
set_option maxRecDepth 65536 in
theorem w_alone : about1.alone = true := by decide +kernel
set_option maxRecDepth 65536 in
theorem w_named : about1.methodNamed? x = some theMethod := by decide +kernel
set_option maxRecDepth 65536 in
theorem w_hears : about1.hears theMethod below0 = true := by decide +kernel
set_option maxRecDepth 65536 in
theorem w_ripe : about1.ripe theMethod args0 below0 = true := by decide +kernel
theorem w_running : about1.status = .running := rfl
set_option maxRecDepth 65536 in
theorem w_room : about1.hasRoom e0.platform room_1 = true :=
  launch0.hasRoom_least _ room_1 (by decide +kernel) (by decide +kernel) (by decide +kernel) (by decide +kernel) (by decide +kernel) (by decide +kernel)
theorem allAtoms_all (ts : List Jvm.Cond) (a : Array Jvm.Value) (st : Jvm.State) : (allAtoms ts).before a st = ts.all (fun c => c.before a st) := by
  induction ts with
  | nil => rfl
  | cons c t ih =>
    show (Jvm.Cond.and c (allAtoms t)).before a st = _
    rw [Jvm.Cond.before_and, ih, List.all_cons]
def words1 : List Jvm.Cond := Jvm.Cond.code x code maxLocals ret :: tables_1
/-- a 'code' word, met by the world's own term for the bytes: nothing is compared byte by byte -/
theorem code_word {y : MethodName} {bytes : ByteArray} {mx : Nat} {rt : Option FieldType} {a : Array Value} {s : State} {m : MethodId} {meth : Method} {c : Code} (h1 : s.methodNamed? y = some m) (h2 : s.vm.method? m = some meth) (h3 : meth.code = some c) (h4 : c.code = bytes)
    (h5 : (c.maxLocals == mx && c.exceptionTable.isEmpty && decide (c.maxStack ≤ mostOperands) && decide (meth.sig.returnType = rt) && !meth.locks && decide (parseMethodDescriptor y.desc = some meth.sig)) = true) : (Jvm.Cond.code y bytes mx rt).before a s = true := by
  simp only [Bool.and_eq_true, beq_iff_eq, Bool.not_eq_true', decide_eq_true_eq] at h5
  obtain ⟨⟨⟨⟨⟨g1, g2⟩, g3⟩, g4⟩, g5⟩, g6⟩ := h5
  simp [Cond.before, Cond.holds, Cond.value, h1, h2, h3, h4, g1, g2, g3, g4, g5, g6]
def isCode : Jvm.Cond → Bool
  | .code _ _ _ _ => true
  | _ => false
theorem all_split {L : List Jvm.Cond} {P : Jvm.Cond → Bool} (h1 : L.all (fun c => isCode c || P c) = true) (h2 : ∀ c ∈ L.filter isCode, P c = true) : L.all P = true := by
  refine List.all_eq_true.mpr fun c hc => ?_
  have h := List.all_eq_true.mp h1 c hc
  rcases Bool.eq_false_or_eq_true (isCode c) with hi | hi
  · exact h2 c (List.mem_filter.mpr ⟨hc, hi⟩)
  · simpa [hi] using h
set_option maxRecDepth 65536 in
theorem w_c0 : (Jvm.Cond.code x code maxLocals ret).before args0 about1 = true := code_word (m := ⟨1, 2⟩) (meth := k1m2) (c := k1c2) (by decide +kernel) rfl rfl rfl (by decide +kernel)
set_option maxRecDepth 65536 in
theorem w_c1 : (Jvm.Cond.code ({ cls := "com/example/gettone/gettone/core/PlaceChoicePinLaw", name := "str", desc := "(IIIII)Ljava/lang/String;" } : Jvm.MethodName) method_2_code (9 : Nat) (Option.some (Jvm.ClassFile.FieldType.object "java/lang/String"))).before args0 about1 = true := code_word (m := ⟨1, 1⟩) (meth := k1m1) (c := k1c1) (by decide +kernel) rfl rfl rfl (by decide +kernel)
set_option maxRecDepth 65536 in
theorem w_c2 : (Jvm.Cond.code ({ cls := "java/lang/String", name := "<init>", desc := "([C)V" } : Jvm.MethodName) jdk_42_method_3_code (2 : Nat) (Option.none : Option Jvm.ClassFile.FieldType)).before args0 about1 = true := code_word (m := ⟨7, 1⟩) (meth := k7m1) (c := k7c1) (by decide +kernel) rfl rfl rfl (by decide +kernel)
set_option maxRecDepth 65536 in
theorem w_c3 : (Jvm.Cond.code ({ cls := "java/lang/String", name := "<init>", desc := "([CIILjava/lang/Void;)V" } : Jvm.MethodName) jdk_42_method_149_code (6 : Nat) (Option.none : Option Jvm.ClassFile.FieldType)).before args0 about1 = true := code_word (m := ⟨7, 3⟩) (meth := k7m3) (c := k7c3) (by decide +kernel) rfl rfl rfl (by decide +kernel)
set_option maxRecDepth 65536 in
theorem w_c4 : (Jvm.Cond.code ({ cls := "java/lang/Object", name := "<init>", desc := "()V" } : Jvm.MethodName) object_method_1_code (1 : Nat) (Option.none : Option Jvm.ClassFile.FieldType)).before args0 about1 = true := code_word (m := ⟨0, 0⟩) (meth := k0m0) (c := k0c0) (by decide +kernel) rfl rfl rfl (by decide +kernel)
set_option maxRecDepth 65536 in
theorem w_c5 : (Jvm.Cond.code ({ cls := "com/example/gettone/gettone/core/Place", name := "choice", desc := "(Ljava/lang/String;)Lcom/example/gettone/gettone/core/Place;" } : Jvm.MethodName) prog_32_method_3_code (1 : Nat) (Option.some (Jvm.ClassFile.FieldType.object "com/example/gettone/gettone/core/Place"))).before args0 about1 = true := code_word (m := ⟨8, 1⟩) (meth := k8m1) (c := k8c1) (by decide +kernel) rfl rfl rfl (by decide +kernel)
set_option maxRecDepth 65536 in
theorem w_c6 : (Jvm.Cond.code ({ cls := "com/example/gettone/gettone/core/Place", name := "<init>", desc := "(Ljava/lang/String;ZZLjava/lang/String;Z)V" } : Jvm.MethodName) prog_32_method_2_code (6 : Nat) (Option.none : Option Jvm.ClassFile.FieldType)).before args0 about1 = true := code_word (m := ⟨8, 0⟩) (meth := k8m0) (c := k8c0) (by decide +kernel) rfl rfl rfl (by decide +kernel)
set_option maxRecDepth 65536 in
theorem w_c7 : (Jvm.Cond.code ({ cls := "java/util/Objects", name := "requireNonNull", desc := "(Ljava/lang/Object;Ljava/lang/String;)Ljava/lang/Object;" } : Jvm.MethodName) jdk_31_method_11_code (2 : Nat) (Option.some (Jvm.ClassFile.FieldType.object "java/lang/Object"))).before args0 about1 = true := code_word (m := ⟨9, 1⟩) (meth := k9m1) (c := k9c1) (by decide +kernel) rfl rfl rfl (by decide +kernel)
set_option maxRecDepth 65536 in
theorem w_c8 : (Jvm.Cond.code ({ cls := "com/example/gettone/gettone/core/Place", name := "id", desc := "()Ljava/lang/String;" } : Jvm.MethodName) prog_32_method_4_code (1 : Nat) (Option.some (Jvm.ClassFile.FieldType.object "java/lang/String"))).before args0 about1 = true := code_word (m := ⟨8, 2⟩) (meth := k8m2) (c := k8c2) (by decide +kernel) rfl rfl rfl (by decide +kernel)
set_option maxRecDepth 65536 in
theorem w_c9 : (Jvm.Cond.code ({ cls := "java/lang/String", name := "equals", desc := "(Ljava/lang/Object;)Z" } : Jvm.MethodName) jdk_42_method_66_code (3 : Nat) (Option.some Jvm.ClassFile.FieldType.boolean)).before args0 about1 = true := code_word (m := ⟨7, 2⟩) (meth := k7m2) (c := k7c2) (by decide +kernel) rfl rfl rfl (by decide +kernel)
set_option maxRecDepth 65536 in
theorem w_c10 : (Jvm.Cond.code ({ cls := "java/lang/StringLatin1", name := "equals", desc := "([B[B)Z" } : Jvm.MethodName) jdk_43_method_13_code (3 : Nat) (Option.some Jvm.ClassFile.FieldType.boolean)).before args0 about1 = true := code_word (m := ⟨10, 1⟩) (meth := k10m1) (c := k10c1) (by decide +kernel) rfl rfl rfl (by decide +kernel)
set_option maxRecDepth 65536 in
theorem w_c11 : (Jvm.Cond.code ({ cls := "com/example/gettone/gettone/core/Place", name := "toString", desc := "()Ljava/lang/String;" } : Jvm.MethodName) prog_32_method_9_code (1 : Nat) (Option.some (Jvm.ClassFile.FieldType.object "java/lang/String"))).before args0 about1 = true := code_word (m := ⟨8, 7⟩) (meth := k8m7) (c := k8c7) (by decide +kernel) rfl rfl rfl (by decide +kernel)
set_option maxRecDepth 65536 in
theorem w_c12 : (Jvm.Cond.code ({ cls := "com/example/gettone/gettone/core/Place", name := "isEnvironment", desc := "()Z" } : Jvm.MethodName) prog_32_method_5_code (1 : Nat) (Option.some Jvm.ClassFile.FieldType.boolean)).before args0 about1 = true := code_word (m := ⟨8, 3⟩) (meth := k8m3) (c := k8c3) (by decide +kernel) rfl rfl rfl (by decide +kernel)
set_option maxRecDepth 65536 in
theorem w_c13 : (Jvm.Cond.code ({ cls := "com/example/gettone/gettone/core/Place", name := "isBad", desc := "()Z" } : Jvm.MethodName) prog_32_method_6_code (1 : Nat) (Option.some Jvm.ClassFile.FieldType.boolean)).before args0 about1 = true := code_word (m := ⟨8, 4⟩) (meth := k8m4) (c := k8c4) (by decide +kernel) rfl rfl rfl (by decide +kernel)
set_option maxRecDepth 65536 in
theorem w_c14 : (Jvm.Cond.code ({ cls := "com/example/gettone/gettone/core/Place", name := "isChoice", desc := "()Z" } : Jvm.MethodName) prog_32_method_8_code (1 : Nat) (Option.some Jvm.ClassFile.FieldType.boolean)).before args0 about1 = true := code_word (m := ⟨8, 6⟩) (meth := k8m6) (c := k8c6) (by decide +kernel) rfl rfl rfl (by decide +kernel)
set_option maxRecDepth 65536 in
theorem w_c15 : (Jvm.Cond.code ({ cls := "com/example/gettone/gettone/core/Place", name := "origin", desc := "()Ljava/util/Optional;" } : Jvm.MethodName) prog_32_method_7_code (1 : Nat) (Option.some (Jvm.ClassFile.FieldType.object "java/util/Optional"))).before args0 about1 = true := code_word (m := ⟨8, 5⟩) (meth := k8m5) (c := k8c5) (by decide +kernel) rfl rfl rfl (by decide +kernel)
set_option maxRecDepth 65536 in
theorem w_c16 : (Jvm.Cond.code ({ cls := "java/util/Optional", name := "ofNullable", desc := "(Ljava/lang/Object;)Ljava/util/Optional;" } : Jvm.MethodName) jdk_32_method_4_code (1 : Nat) (Option.some (Jvm.ClassFile.FieldType.object "java/util/Optional"))).before args0 about1 = true := code_word (m := ⟨11, 0⟩) (meth := k11m0) (c := k11c0) (by decide +kernel) rfl rfl rfl (by decide +kernel)
set_option maxRecDepth 65536 in
theorem w_c17 : (Jvm.Cond.code ({ cls := "java/util/Optional", name := "isPresent", desc := "()Z" } : Jvm.MethodName) jdk_32_method_6_code (1 : Nat) (Option.some Jvm.ClassFile.FieldType.boolean)).before args0 about1 = true := code_word (m := ⟨11, 1⟩) (meth := k11m1) (c := k11c1) (by decide +kernel) rfl rfl rfl (by decide +kernel)
set_option maxRecDepth 65536 in
theorem w_c18 : (Jvm.Cond.code ({ cls := "java/lang/StringUTF16", name := "compress", desc := "([CII)[B" } : Jvm.MethodName) jdk_52_method_16_code (6 : Nat) (Option.some (Jvm.ClassFile.FieldType.array Jvm.ClassFile.FieldType.byte))).before args0 about1 = true := code_word (m := ⟨12, 2⟩) (meth := k12m2) (c := k12c2) (by decide +kernel) rfl rfl rfl (by decide +kernel)
set_option maxRecDepth 65536 in
theorem w_c19 : (Jvm.Cond.code ({ cls := "java/lang/StringUTF16", name := "compress", desc := "([CI[BII)I" } : Jvm.MethodName) jdk_52_method_21_code (7 : Nat) (Option.some Jvm.ClassFile.FieldType.int)).before args0 about1 = true := code_word (m := ⟨12, 3⟩) (meth := k12m3) (c := k12c3) (by decide +kernel) rfl rfl rfl (by decide +kernel)
set_option maxRecDepth 65536 in
theorem w_c20 : (Jvm.Cond.code ({ cls := "java/lang/StringUTF16", name := "coderFromArrayLen", desc := "([BI)B" } : Jvm.MethodName) jdk_52_method_15_code (2 : Nat) (Option.some Jvm.ClassFile.FieldType.byte)).before args0 about1 = true := code_word (m := ⟨12, 1⟩) (meth := k12m1) (c := k12c1) (by decide +kernel) rfl rfl rfl (by decide +kernel)
def codes1 : List Jvm.Cond := [Jvm.Cond.code x code maxLocals ret, Jvm.Cond.code ({ cls := "com/example/gettone/gettone/core/PlaceChoicePinLaw", name := "str", desc := "(IIIII)Ljava/lang/String;" } : Jvm.MethodName) method_2_code (9 : Nat) (Option.some (Jvm.ClassFile.FieldType.object "java/lang/String")), Jvm.Cond.code ({ cls := "java/lang/String", name := "<init>", desc := "([C)V" } : Jvm.MethodName) jdk_42_method_3_code (2 : Nat) (Option.none : Option Jvm.ClassFile.FieldType), Jvm.Cond.code ({ cls := "java/lang/String", name := "<init>", desc := "([CIILjava/lang/Void;)V" } : Jvm.MethodName) jdk_42_method_149_code (6 : Nat) (Option.none : Option Jvm.ClassFile.FieldType), Jvm.Cond.code ({ cls := "java/lang/Object", name := "<init>", desc := "()V" } : Jvm.MethodName) object_method_1_code (1 : Nat) (Option.none : Option Jvm.ClassFile.FieldType), Jvm.Cond.code ({ cls := "com/example/gettone/gettone/core/Place", name := "choice", desc := "(Ljava/lang/String;)Lcom/example/gettone/gettone/core/Place;" } : Jvm.MethodName) prog_32_method_3_code (1 : Nat) (Option.some (Jvm.ClassFile.FieldType.object "com/example/gettone/gettone/core/Place")), Jvm.Cond.code ({ cls := "com/example/gettone/gettone/core/Place", name := "<init>", desc := "(Ljava/lang/String;ZZLjava/lang/String;Z)V" } : Jvm.MethodName) prog_32_method_2_code (6 : Nat) (Option.none : Option Jvm.ClassFile.FieldType), Jvm.Cond.code ({ cls := "java/util/Objects", name := "requireNonNull", desc := "(Ljava/lang/Object;Ljava/lang/String;)Ljava/lang/Object;" } : Jvm.MethodName) jdk_31_method_11_code (2 : Nat) (Option.some (Jvm.ClassFile.FieldType.object "java/lang/Object")), Jvm.Cond.code ({ cls := "com/example/gettone/gettone/core/Place", name := "id", desc := "()Ljava/lang/String;" } : Jvm.MethodName) prog_32_method_4_code (1 : Nat) (Option.some (Jvm.ClassFile.FieldType.object "java/lang/String")), Jvm.Cond.code ({ cls := "java/lang/String", name := "equals", desc := "(Ljava/lang/Object;)Z" } : Jvm.MethodName) jdk_42_method_66_code (3 : Nat) (Option.some Jvm.ClassFile.FieldType.boolean), Jvm.Cond.code ({ cls := "java/lang/StringLatin1", name := "equals", desc := "([B[B)Z" } : Jvm.MethodName) jdk_43_method_13_code (3 : Nat) (Option.some Jvm.ClassFile.FieldType.boolean), Jvm.Cond.code ({ cls := "com/example/gettone/gettone/core/Place", name := "toString", desc := "()Ljava/lang/String;" } : Jvm.MethodName) prog_32_method_9_code (1 : Nat) (Option.some (Jvm.ClassFile.FieldType.object "java/lang/String")), Jvm.Cond.code ({ cls := "com/example/gettone/gettone/core/Place", name := "isEnvironment", desc := "()Z" } : Jvm.MethodName) prog_32_method_5_code (1 : Nat) (Option.some Jvm.ClassFile.FieldType.boolean), Jvm.Cond.code ({ cls := "com/example/gettone/gettone/core/Place", name := "isBad", desc := "()Z" } : Jvm.MethodName) prog_32_method_6_code (1 : Nat) (Option.some Jvm.ClassFile.FieldType.boolean), Jvm.Cond.code ({ cls := "com/example/gettone/gettone/core/Place", name := "isChoice", desc := "()Z" } : Jvm.MethodName) prog_32_method_8_code (1 : Nat) (Option.some Jvm.ClassFile.FieldType.boolean), Jvm.Cond.code ({ cls := "com/example/gettone/gettone/core/Place", name := "origin", desc := "()Ljava/util/Optional;" } : Jvm.MethodName) prog_32_method_7_code (1 : Nat) (Option.some (Jvm.ClassFile.FieldType.object "java/util/Optional")), Jvm.Cond.code ({ cls := "java/util/Optional", name := "ofNullable", desc := "(Ljava/lang/Object;)Ljava/util/Optional;" } : Jvm.MethodName) jdk_32_method_4_code (1 : Nat) (Option.some (Jvm.ClassFile.FieldType.object "java/util/Optional")), Jvm.Cond.code ({ cls := "java/util/Optional", name := "isPresent", desc := "()Z" } : Jvm.MethodName) jdk_32_method_6_code (1 : Nat) (Option.some Jvm.ClassFile.FieldType.boolean), Jvm.Cond.code ({ cls := "java/lang/StringUTF16", name := "compress", desc := "([CII)[B" } : Jvm.MethodName) jdk_52_method_16_code (6 : Nat) (Option.some (Jvm.ClassFile.FieldType.array Jvm.ClassFile.FieldType.byte)), Jvm.Cond.code ({ cls := "java/lang/StringUTF16", name := "compress", desc := "([CI[BII)I" } : Jvm.MethodName) jdk_52_method_21_code (7 : Nat) (Option.some Jvm.ClassFile.FieldType.int), Jvm.Cond.code ({ cls := "java/lang/StringUTF16", name := "coderFromArrayLen", desc := "([BI)B" } : Jvm.MethodName) jdk_52_method_15_code (2 : Nat) (Option.some Jvm.ClassFile.FieldType.byte)]
set_option maxRecDepth 65536 in
theorem codes_eq : words1.filter isCode = codes1 := rfl
theorem w_codes : ∀ c ∈ words1.filter isCode, c.before args0 about1 = true := by
  rw [codes_eq]
  intro c hc
  simp only [codes1, List.mem_cons, List.not_mem_nil, or_false] at hc
  rcases hc with rfl | rfl | rfl | rfl | rfl | rfl | rfl | rfl | rfl | rfl | rfl | rfl | rfl | rfl | rfl | rfl | rfl | rfl | rfl | rfl | rfl
  · exact w_c0
  · exact w_c1
  · exact w_c2
  · exact w_c3
  · exact w_c4
  · exact w_c5
  · exact w_c6
  · exact w_c7
  · exact w_c8
  · exact w_c9
  · exact w_c10
  · exact w_c11
  · exact w_c12
  · exact w_c13
  · exact w_c14
  · exact w_c15
  · exact w_c16
  · exact w_c17
  · exact w_c18
  · exact w_c19
  · exact w_c20
set_option maxRecDepth 65536 in
theorem w_t1 : (words1.take 24).all (fun c => isCode c || c.before args0 about1) = true := by decide +kernel
set_option maxRecDepth 65536 in
theorem w_t2 : ((words1.drop 24).take 24).all (fun c => isCode c || c.before args0 about1) = true := by decide +kernel
set_option maxRecDepth 65536 in
theorem w_t3 : (((words1.drop 24).drop 24).take 24).all (fun c => isCode c || c.before args0 about1) = true := by decide +kernel
set_option maxRecDepth 65536 in
theorem w_t4 : ((((words1.drop 24).drop 24).drop 24).take 24).all (fun c => isCode c || c.before args0 about1) = true := by decide +kernel
set_option maxRecDepth 65536 in
theorem w_t5 : ((((words1.drop 24).drop 24).drop 24).drop 24).all (fun c => isCode c || c.before args0 about1) = true := by decide +kernel
theorem w_tables : (allAtoms (Jvm.Cond.code x code maxLocals ret :: tables_1)).before args0 about1 = true := by
  rw [allAtoms_all]
  show words1.all (fun c => c.before args0 about1) = true
  refine all_split ?_ w_codes
  rw [← List.take_append_drop 24 words1, List.all_append, w_t1, ← List.take_append_drop 24 (words1.drop 24), List.all_append, w_t2, ← List.take_append_drop 24 ((words1.drop 24).drop 24), List.all_append, w_t3, ← List.take_append_drop 24 (((words1.drop 24).drop 24).drop 24), List.all_append, w_t4, w_t5]
  rfl
set_option maxRecDepth 65536 in
theorem w_rest : rest_1_c.before args0 about1 = true := by decide +kernel
set_option maxRecDepth 65536 in
theorem w_case : (Jvm.Cond.and given_1 narrow_1).before args0 about1 = true := by decide +kernel
set_option maxRecDepth 65536 in
theorem w_consts : constsHeld consts_1 about1 := Jvm.Lit.constsHeldB_iff.mp (by decide +kernel)
theorem w_applies : (headSpec (Jvm.Cond.code x code maxLocals ret :: tables_1) room_1).applies x e0.platform about1 = true :=
  (Spec.applies_iff w_frames).mpr ⟨w_running, w_runnable, w_alone, w_named, w_hears, w_ripe, w_room, w_tables⟩
theorem atStart : AtStart classFile x code maxLocals ret World_1 tables_1 room_1 Calls_1 rest_1 Pre_1 launch0 p0 e0 about1 theMethod args0 below0 :=
  ⟨lists_1, trivial, launch0.admits_env _ _ _, launch0.least_env, fairChoices_fair.cas, fairChoices_fair.clock, w_frames, w_args, w_heap, w_applies, ⟨w_consts, trivial⟩, w_rest, w_case⟩
end start1
theorem witness_1 : WitnessClaimed_1 := ⟨start1.p0, start1.e0, start1.about1, start1.theMethod, start1.args0, start1.below0, start1.atStart⟩
end Jvm.Pilot.@@N@@
