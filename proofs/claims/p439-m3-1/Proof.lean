import JvmDerived
import JvmDerived.Pilot.@@N@@Statement
import JvmDerived.Pilot.@@N@@Code
set_option linter.unusedVariables false
set_option linter.unusedSimpArgs false
namespace Jvm.Pilot.@@N@@
open Jvm Jvm.ClassFile Sem Op Lib Jvm.Free Jvm.Stand Jvm.LawKit Jvm.RoadKit Bundle Jvm.Pilot.@@N@@.Jvm.D
def Go (p : Program) (e : Env) (below : List Frame) (S : State) (P : State → Outcome → Prop) : Prop := ∃ t o, Steps p.tables e below S t ∧ P t o
abbrev Gm (p : Program) (e : Env) (below : List Frame) (T : State) (m : MethodId) (pc : Nat) (ls : Array Slot) (st : List Value) (P : State → Outcome → Prop) : Prop := Go p e below (T.setTop (mkF m pc ls st)) P
abbrev lv (x : Int64) : Slot := .val (.long x)
theorem own_in {p : Program} {e : Env} {below : List Frame} {T : State} {g g' : JFrame} {P : State → Outcome → Prop} (q : g = g') (h : Go p e below (T.setTop g') P) : ∃ s₂ o, Steps p.tables e below (T.setTop g) s₂ ∧ P s₂ o := q ▸ h
theorem own_go {p : Program} {e : Env} {below : List Frame} {S S' : State} {P : State → Outcome → Prop} (k : ∀ t, Steps p.tables e below S' t → Steps p.tables e below S t) (h : Go p e below S' P) : Go p e below S P := by
  obtain ⟨t, o, h1, h2⟩ := h
  exact ⟨t, o, k t h1, h2⟩
section Rets
variable {p : Program} {l : Launch} {e : Env} {R : Room} {s : State} {m : MethodId} {args : Array Value} {below : List Frame} {meth : Method} {c : Code} {T : State} {locs : List Loc} {cells slots : Nat}
theorem own_retI (X : Stand p l e R s m args below meth c T locs cells slots) (hx : p.tables.exec = Jvm.exec) (hlk : meth.locks = false) {pc : Nat} {Ls : Array Slot} {z : Int32} {t : FieldType} {Q : Option Value → Heap → List Loc → Prop} {C N : Nat} (hret : meth.sig.returnType = some t) (hn : narrow t (.int z) = .int z) (ht : t = .int ∨ t = .boolean ∨ t = .byte ∨ t = .char ∨ t = .short)
    (hd : decode c.code pc = .ok (.ireturn, 1)) {h : Heap} (eh : T.heap = h) (hq : Q (some (.int z)) h locs) (hC : cells ≤ C) (hN : slots ≤ N) : Go p e below (T.setTop (mkF m pc Ls [.int z])) (fun t o => t.status = .running ∧ Ended t below o ∧ ∃ v L, o = .returned v ∧ Q v t.heap L ∧ FrameEnd s o t L C N) := by
  subst eh
  obtain ⟨fs, hr, hrun, hended, hW, hsame⟩ := X.leave (v := some (.int z)) (fun h => by rw [hret] at h; cases h) hlk
  exact ⟨_, _, X.ireturnOut hx hret hn ht hd hr, hrun, hended, _, _, rfl, hq, ⟨_, rfl⟩, hW, hsame.mono hC hN⟩
theorem own_retL (X : Stand p l e R s m args below meth c T locs cells slots) (hx : p.tables.exec = Jvm.exec) (hlk : meth.locks = false) {pc : Nat} {Ls : Array Slot} {z : Int64} {Q : Option Value → Heap → List Loc → Prop} {C N : Nat} (hret : meth.sig.returnType = some .long)
    (hd : decode c.code pc = .ok (.lreturn, 1)) {h : Heap} (eh : T.heap = h) (hq : Q (some (.long z)) h locs) (hC : cells ≤ C) (hN : slots ≤ N) : Go p e below (T.setTop (mkF m pc Ls [.long z])) (fun t o => t.status = .running ∧ Ended t below o ∧ ∃ v L, o = .returned v ∧ Q v t.heap L ∧ FrameEnd s o t L C N) := by
  subst eh
  obtain ⟨fs, hr, hrun, hended, hW, hsame⟩ := X.leave (v := some (.long z)) (fun h => by rw [hret] at h; cases h) hlk
  exact ⟨_, _, X.lreturnOut hx hret hd hr, hrun, hended, _, _, rfl, hq, ⟨_, rfl⟩, hW, hsame.mono hC hN⟩
theorem own_retA (X : Stand p l e R s m args below meth c T locs cells slots) (hx : p.tables.exec = Jvm.exec) (hlk : meth.locks = false) {pc : Nat} {Ls : Array Slot} {w : Value} {t : FieldType} {Q : Option Value → Heap → List Loc → Prop} {C N : Nat} (hw : w.isRef = true) (hret : meth.sig.returnType = some t) (ht : t.isReference = true)
    (hd : decode c.code pc = .ok (.areturn, 1)) {h : Heap} (eh : T.heap = h) (hq : Q (some w) h locs) (hC : cells ≤ C) (hN : slots ≤ N) : Go p e below (T.setTop (mkF m pc Ls [w])) (fun t o => t.status = .running ∧ Ended t below o ∧ ∃ v L, o = .returned v ∧ Q v t.heap L ∧ FrameEnd s o t L C N) := by
  subst eh
  obtain ⟨fs, hr, hrun, hended, hW, hsame⟩ := X.leave (v := some w) (fun h => by rw [hret] at h; cases h) hlk
  exact ⟨_, _, X.areturnOut hx hw hret ht hd hr, hrun, hended, _, _, rfl, hq, ⟨_, rfl⟩, hW, hsame.mono hC hN⟩
theorem own_retV (X : Stand p l e R s m args below meth c T locs cells slots) (hx : p.tables.exec = Jvm.exec) (hlk : meth.locks = false) {pc : Nat} {Ls : Array Slot} {Q : Option Value → Heap → List Loc → Prop} {C N : Nat} (hret : meth.sig.returnType = none)
    (hd : decode c.code pc = .ok (.return_, 1)) {h : Heap} (eh : T.heap = h) (hq : Q none h locs) (hC : cells ≤ C) (hN : slots ≤ N) : Go p e below (T.setTop (mkF m pc Ls [])) (fun t o => t.status = .running ∧ Ended t below o ∧ ∃ v L, o = .returned v ∧ Q v t.heap L ∧ FrameEnd s o t L C N) := by
  subst eh
  obtain ⟨fs, hr, hrun, hended, hW, hsame⟩ := X.leave (v := none) (fun _ => rfl) hlk
  exact ⟨_, _, X.returnOut hx hret hd hr, hrun, hended, _, _, rfl, hq, ⟨_, rfl⟩, hW, hsame.mono hC hN⟩
end Rets

def Af (Z : State) (h : Heap) (a : Addr) (ty : FieldType) (n : Nat) (f : Nat → Value) : Prop := n < 2 ^ 31 ∧ ∃ c : Cell, Arr Z h a c ty ∧ c.slots.size = n ∧ ∀ i, i < n → c.slots[i]? = some (f i) ∧ fits ty (f i) = true
section AfS
variable {Z : State} {h h' : Heap} {a b : Addr} {ty : FieldType} {n : Nat} {f : Nat → Value} {v : Value} {sl : Nat} {ws : List Addr}
theorem Af.lt (A : Af Z h a ty n f) : a < h.size := by obtain ⟨-, c, A, -⟩ := A; exact A.lt
theorem Af.ext (A : Af Z h a ty n f) (E : Ext h h') : Af Z h' a ty n f := by obtain ⟨q, c, A, r⟩ := A; exact ⟨q, c, A.ext E, r⟩
theorem Af.other (A : Af Z h b ty n f) (W : Wr h h' a sl v) (q : b ≠ a) : Af Z h' b ty n f := by obtain ⟨q', c, A, r⟩ := A; exact ⟨q', c, A.other W q, r⟩
theorem Af.keep (A : Af Z h a ty n f) (K : Keep h h' ws) (q : a ∉ ws) : Af Z h' a ty n f := by obtain ⟨q', c, A, r⟩ := A; exact ⟨q', c, ⟨K.2.1 a c A.1 q, A.2⟩, r⟩
theorem Af.congr (A : Af Z h a ty n f) {g : Nat → Value} (q : ∀ i, i < n → g i = f i) : Af Z h a ty n g := by obtain ⟨q', c, A, r1, r2⟩ := A; exact ⟨q', c, A, r1, fun i hi => by rw [q i hi]; exact r2 i hi⟩
theorem Af.set (A : Af Z h a ty n f) (W : Wr h h' a sl v) (hv : fits ty v = true) : Af Z h' a ty n (fun i => if i = sl then v else f i) := by
  obtain ⟨q, c, A, r1, r2⟩ := A
  refine ⟨q, c.setSlot sl v, A.same W, by rw [sz_set]; exact r1, fun i hi => ?_⟩
  by_cases e : i = sl
  · subst e
    show _ = some (if i = i then v else f i) ∧ fits ty (if i = i then v else f i) = true
    rw [if_pos rfl]
    refine ⟨?_, hv⟩
    show (c.slots.setIfInBounds i v)[i]? = _
    rw [Array.getElem?_setIfInBounds_self_of_lt (by omega)]
  · show _ = some (if i = sl then v else f i) ∧ fits ty (if i = sl then v else f i) = true
    rw [if_neg e]
    refine ⟨?_, (r2 i hi).2⟩
    show (c.slots.setIfInBounds sl v)[i]? = _
    rw [Array.getElem?_setIfInBounds_ne (Ne.symm e)]
    exact (r2 i hi).1
theorem Af.new {k : ClassId} {z : Int32} (A : Arr Z h a (newA k ty z) ty) (q : ¬ z < 0) {n : Nat} (hn : z.toNatClampNeg = n) (hd : fits ty (defaultValue ty) = true) : Af Z h a ty n (fun _ => defaultValue ty) := by
  subst hn
  refine ⟨(back32 q).2, _, A, sz_new _ _ _, fun i hi => ⟨?_, hd⟩⟩
  simp [newA, hi]
theorem Af.arv (A : Af Z h a ty n f) (dv : Value) : ∃ k, Arv Z h a k ty n.toInt32 ((List.range n).map f) dv := by
  obtain ⟨q, c, A, r1, r2⟩ := A
  have hz : n.toInt32.toNatClampNeg = n := by
    show n.toInt32.toInt.toNat = n
    rw [len_toInt q]; rfl
  have hg : ∀ i, i < n → ((List.range n).map f).getD i dv = f i := fun i hi => by
    rw [List.getD_eq_getElem?_getD]; simp [hi]
  refine ⟨_, c, A, rfl, by rw [hz]; exact r1, ?_, fun i hi => ?_, fun i hi => ?_⟩
  · rw [Int32.lt_iff_toInt_lt, len_toInt q]; simp
  · rw [hg i (r1 ▸ hi)]; exact (r2 i (r1 ▸ hi)).1
  · rw [hg i (r1 ▸ hi)]; exact (r2 i (r1 ▸ hi)).2
theorem Af.ofArv {k : ClassId} {z : Int32} {vs : List Value} {dv : Value} (F : Arv Z h a k ty z vs dv) (hz : z.toNatClampNeg = n) (hf : ∀ i, i < n → f i = vs.getD i dv) : Af Z h a ty n f := by
  obtain ⟨c, A, -, S, q, H, G⟩ := F
  subst hz
  refine ⟨(back32 q).2, c, A, S, fun i hi => ?_⟩
  rw [hf i hi]
  exact ⟨H i (S ▸ hi), G i (S ▸ hi)⟩
theorem nat32 {n : Nat} (q : n < 2 ^ 31) : n.toInt32.toNatClampNeg = n := by
  show n.toInt32.toInt.toNat = n
  rw [len_toInt q]; rfl
theorem nn32 {n : Nat} (q : n < 2 ^ 31) : ¬ n.toInt32 < 0 := by rw [Int32.lt_iff_toInt_lt, len_toInt q]; simp
end AfS
section AfX
variable {p : Program} {l : Launch} {e : Env} {R : Room} {s : State} {m : MethodId} {args : Array Value} {below : List Frame} {meth : Method} {c : Code} {T : State} {locs : List Loc} {cells slots : Nat} {Z : State} {a0 : Array Value} {h : Heap} {a : Addr} {ty : FieldType} {n : Nat} {f : Nat → Value}
theorem own_len (X : Stand p l e R s m args below meth c T locs cells slots) (hx : p.tables.exec = Jvm.exec) (hZ : Z.Warmed39 s.vm) (eT : T.heap = h) (A : Af Z h a ty n f) {z : Int32} (hz : n.toInt32 = z) {g : JFrame} (hg : g.method = m) {rest : List Value} (hs : g.stack = .ref a :: rest) (hd : decode c.code g.pc = .ok (.arraylength, 1)) {target : State}
    (hr : Steps p.tables e below (T.setTop { g with pc := g.pc + 1, stack := .int z :: rest }) target) : Steps p.tables e below (T.setTop g) target := by
  obtain ⟨q, cl, A, r1, r2⟩ := A
  refine X.arraylength hx (by rw [eT]; exact A.1) (State.isArrayOf_alike hZ.alike A.2.1) hg hs hd _ ?_
  rw [r1, hz]; exact hr
theorem own_inb {cl : Cell} {j : Int32} {k : Nat} (r : cl.slots.size = n) (hj : ¬ j < 0) (hk : j.toNatClampNeg = k) (hkn : k < n) : ¬ (j < 0 ∨ cl.slots.size ≤ j.toNatClampNeg) := by
  rw [r, hk]; rintro (q | q)
  · exact hj q
  · omega
theorem own_ldI (X : Stand p l e R s m args below meth c T locs cells slots) (hx : p.tables.exec = Jvm.exec) (hZ : Z.Warmed39 s.vm) (eT : T.heap = h) (A : Af Z h a .int n f) {j : Int32} {k : Nat} (hj : ¬ j < 0) (hk : j.toNatClampNeg = k) (hkn : k < n) {w : Value} (hv : f k = w) {g : JFrame} (hg : g.method = m) {rest : List Value} (hs : g.stack = .int j :: .ref a :: rest) (hd : decode c.code g.pc = .ok (.iaload, 1)) {target : State}
    (hr : Steps p.tables e below (T.setTop { g with pc := g.pc + 1, stack := w :: rest }) target) : Steps p.tables e below (T.setTop g) target := by
  obtain ⟨q, cl, A, r1, r2⟩ := A
  exact X.iaload hx (by rw [eT]; exact A.1) (State.isArrayOf_alike hZ.alike A.2.1) A.2.2 (own_inb r1 hj hk hkn) (by rw [hk, (r2 k hkn).1, hv]) hg hs hd _ hr
theorem own_ldJ (X : Stand p l e R s m args below meth c T locs cells slots) (hx : p.tables.exec = Jvm.exec) (hZ : Z.Warmed39 s.vm) (eT : T.heap = h) (A : Af Z h a .long n f) {j : Int32} {k : Nat} (hj : ¬ j < 0) (hk : j.toNatClampNeg = k) (hkn : k < n) {w : Value} (hv : f k = w) {g : JFrame} (hg : g.method = m) {rest : List Value} (hs : g.stack = .int j :: .ref a :: rest) (hd : decode c.code g.pc = .ok (.laload, 1)) {target : State}
    (hr : Steps p.tables e below (T.setTop { g with pc := g.pc + 1, stack := w :: rest }) target) : Steps p.tables e below (T.setTop g) target := by
  obtain ⟨q, cl, A, r1, r2⟩ := A
  exact X.laload hx (by rw [eT]; exact A.1) (State.isArrayOf_alike hZ.alike A.2.1) A.2.2 (own_inb r1 hj hk hkn) (by rw [hk, (r2 k hkn).1, hv]) hg hs hd _ hr
theorem own_ldB (X : Stand p l e R s m args below meth c T locs cells slots) (hx : p.tables.exec = Jvm.exec) (hZ : Z.Warmed39 s.vm) (eT : T.heap = h) (A : Af Z h a .byte n f) {j : Int32} {k : Nat} (hj : ¬ j < 0) (hk : j.toNatClampNeg = k) (hkn : k < n) {w : Value} (hv : f k = w) {g : JFrame} (hg : g.method = m) {rest : List Value} (hs : g.stack = .int j :: .ref a :: rest) (hd : decode c.code g.pc = .ok (.baload, 1)) {target : State}
    (hr : Steps p.tables e below (T.setTop { g with pc := g.pc + 1, stack := w :: rest }) target) : Steps p.tables e below (T.setTop g) target := by
  obtain ⟨q, cl, A, r1, r2⟩ := A
  exact X.baloadBytes hx (by rw [eT]; exact A.1) (State.isArrayOf_alike hZ.alike A.2.1) A.2.2 (own_inb r1 hj hk hkn) (by rw [hk, (r2 k hkn).1, hv]) hg hs hd _ hr
theorem own_ldZ (X : Stand p l e R s m args below meth c T locs cells slots) (hx : p.tables.exec = Jvm.exec) (hZ : Z.Warmed39 s.vm) (eT : T.heap = h) (A : Af Z h a .boolean n f) {j : Int32} {k : Nat} (hj : ¬ j < 0) (hk : j.toNatClampNeg = k) (hkn : k < n) {w : Value} (hv : f k = w) {g : JFrame} (hg : g.method = m) {rest : List Value} (hs : g.stack = .int j :: .ref a :: rest) (hd : decode c.code g.pc = .ok (.baload, 1)) {target : State}
    (hr : Steps p.tables e below (T.setTop { g with pc := g.pc + 1, stack := w :: rest }) target) : Steps p.tables e below (T.setTop g) target := by
  obtain ⟨q, cl, A, r1, r2⟩ := A
  exact X.baloadBooleans hx (by rw [eT]; exact A.1) (State.isArrayOf_alike hZ.alike A.2.1) A.2.2 (own_inb r1 hj hk hkn) (by rw [hk, (r2 k hkn).1, hv]) hg hs hd _ hr
theorem own_stI (X : Stand p l e R s m args below meth c T locs cells slots) (hx : p.tables.exec = Jvm.exec) (hZ : Z.Warmed39 s.vm) (eT : T.heap = h) (A : Af Z h a .int n f) {j x : Int32} {k : Nat} (hj : ¬ j < 0) (hk : j.toNatClampNeg = k) (hkn : k < n) {g : JFrame} (hg : g.method = m) {rest : List Value} (hs : g.stack = .int x :: .int j :: .ref a :: rest) (hd : decode c.code g.pc = .ok (.iastore, 1)) :
    ∃ T' h', Stand p l e R s m args below meth c T' (locs ++ [⟨a, k⟩]) cells slots ∧ T'.heap = h' ∧ Wr h h' a k (.int x) ∧ Af Z h' a .int n (fun i => if i = k then .int x else f i) ∧ ∀ target, Steps p.tables e below (T'.setTop { g with pc := g.pc + 1, stack := rest }) target → Steps p.tables e below (T.setTop g) target := by
  obtain ⟨q, cl, B, r1, r2⟩ := id A
  obtain ⟨T', h', X', e', W, st⟩ := stI X hx hZ eT B (own_inb r1 hj hk hkn) hg hs hd
  rw [hk] at X' W
  exact ⟨T', h', X', e', W, A.set W rfl, st⟩
theorem own_stJ (X : Stand p l e R s m args below meth c T locs cells slots) (hx : p.tables.exec = Jvm.exec) (hZ : Z.Warmed39 s.vm) (eT : T.heap = h) (A : Af Z h a .long n f) {j : Int32} {x : Int64} {k : Nat} (hj : ¬ j < 0) (hk : j.toNatClampNeg = k) (hkn : k < n) {g : JFrame} (hg : g.method = m) {rest : List Value} (hs : g.stack = .long x :: .int j :: .ref a :: rest) (hd : decode c.code g.pc = .ok (.lastore, 1)) :
    ∃ T' h', Stand p l e R s m args below meth c T' (locs ++ [⟨a, k⟩]) cells slots ∧ T'.heap = h' ∧ Wr h h' a k (.long x) ∧ Af Z h' a .long n (fun i => if i = k then .long x else f i) ∧ ∀ target, Steps p.tables e below (T'.setTop { g with pc := g.pc + 1, stack := rest }) target → Steps p.tables e below (T.setTop g) target := by
  obtain ⟨q, cl, B, r1, r2⟩ := id A
  obtain ⟨T', h', X', e', W, st⟩ := stJ X hx hZ eT B (own_inb r1 hj hk hkn) hg hs hd
  rw [hk] at X' W
  exact ⟨T', h', X', e', W, A.set W rfl, st⟩
theorem own_stD (X : Stand p l e R s m args below meth c T locs cells slots) (hx : p.tables.exec = Jvm.exec) (hZ : Z.Warmed39 s.vm) (eT : T.heap = h) (A : Af Z h a .double n f) {j : Int32} {x : UInt64} {k : Nat} (hj : ¬ j < 0) (hk : j.toNatClampNeg = k) (hkn : k < n) {g : JFrame} (hg : g.method = m) {rest : List Value} (hs : g.stack = .double x :: .int j :: .ref a :: rest) (hd : decode c.code g.pc = .ok (.dastore, 1)) :
    ∃ T' h', Stand p l e R s m args below meth c T' (locs ++ [⟨a, k⟩]) cells slots ∧ T'.heap = h' ∧ Wr h h' a k (.double x) ∧ Af Z h' a .double n (fun i => if i = k then .double x else f i) ∧ ∀ target, Steps p.tables e below (T'.setTop { g with pc := g.pc + 1, stack := rest }) target → Steps p.tables e below (T.setTop g) target := by
  obtain ⟨q, cl, B, r1, r2⟩ := id A
  obtain ⟨T', h', X', e', W, st⟩ := stD X hx hZ eT B (own_inb r1 hj hk hkn) hg hs hd
  rw [hk] at X' W
  exact ⟨T', h', X', e', W, A.set W rfl, st⟩
theorem own_stZ (X : Stand p l e R s m args below meth c T locs cells slots) (hx : p.tables.exec = Jvm.exec) (hZ : Z.Warmed39 s.vm) (eT : T.heap = h) (A : Af Z h a .boolean n f) {j x y : Int32} {k : Nat} (hj : ¬ j < 0) (hk : j.toNatClampNeg = k) (hkn : k < n) (hy : nar .boolean x = y) {g : JFrame} (hg : g.method = m) {rest : List Value} (hs : g.stack = .int x :: .int j :: .ref a :: rest) (hd : decode c.code g.pc = .ok (.bastore, 1)) :
    ∃ T' h', Stand p l e R s m args below meth c T' (locs ++ [⟨a, k⟩]) cells slots ∧ T'.heap = h' ∧ Wr h h' a k (.int y) ∧ Af Z h' a .boolean n (fun i => if i = k then .int y else f i) ∧ ∀ target, Steps p.tables e below (T'.setTop { g with pc := g.pc + 1, stack := rest }) target → Steps p.tables e below (T.setTop g) target := by
  obtain ⟨q, cl, B, r1, r2⟩ := id A
  obtain ⟨T', h', X', e', W, st⟩ := stZ X hx hZ eT B (own_inb r1 hj hk hkn) hg hs hd
  subst hk hy
  exact ⟨T', h', X', e', W, A.set W (fits_nar_bool x), st⟩
theorem own_stB (X : Stand p l e R s m args below meth c T locs cells slots) (hx : p.tables.exec = Jvm.exec) (hZ : Z.Warmed39 s.vm) (eT : T.heap = h) (A : Af Z h a .byte n f) {j x y : Int32} {k : Nat} (hj : ¬ j < 0) (hk : j.toNatClampNeg = k) (hkn : k < n) (hy : nar .byte x = y) {g : JFrame} (hg : g.method = m) {rest : List Value} (hs : g.stack = .int x :: .int j :: .ref a :: rest) (hd : decode c.code g.pc = .ok (.bastore, 1)) :
    ∃ T' h', Stand p l e R s m args below meth c T' (locs ++ [⟨a, k⟩]) cells slots ∧ T'.heap = h' ∧ Wr h h' a k (.int y) ∧ Af Z h' a .byte n (fun i => if i = k then .int y else f i) ∧ ∀ target, Steps p.tables e below (T'.setTop { g with pc := g.pc + 1, stack := rest }) target → Steps p.tables e below (T.setTop g) target := by
  obtain ⟨q, cl, B, r1, r2⟩ := id A
  obtain ⟨T', h', X', e', W, st⟩ := stB X hx hZ eT B (own_inb r1 hj hk hkn) hg hs hd
  subst hk hy
  exact ⟨T', h', X', e', W, A.set W (fits_nar_byte x), st⟩
end AfX

section CpX
variable {p : Program} {l : Launch} {e : Env} {R : Room} {s : State} {m : MethodId} {args : Array Value} {below : List Frame} {meth : Method} {c : Code} {T : State} {locs : List Loc} {cells slots : Nat} {Z : State} {a0 : Array Value} {h : Heap} {a b : Addr} {ty : FieldType} {n n' : Nat} {f f' : Nat → Value}
theorem own_cp (X : Stand p l e R s m args below meth c T locs cells slots) (hx : p.tables.exec = Jvm.exec) (hZ : Z.Warmed39 s.vm) {own : String} {index : Nat} (hown : s.vm.findClass own = some m.cls)
    (w1 : (Jvm.Cond.methodLink own index Jvm.Stand.acN).before a0 Z = true) (w2 : (Jvm.Cond.native Jvm.Stand.acN).before a0 Z = true) (w3 : (Jvm.Cond.static Jvm.Stand.acN).before a0 Z = true) (w4 : (Jvm.Cond.initialized "java/lang/System").before a0 Z = true) (eT : T.heap = h)
    {sp dp nn : Int32} {ks kd kn : Nat} (A : Af Z h a ty n f) (B : Af Z h b ty n' f') (hty : refKind ty = false)
    (h1 : ¬ sp < 0) (h2 : ¬ dp < 0) (h3 : ¬ nn < 0) (e1 : sp.toNatClampNeg = ks) (e2 : dp.toNatClampNeg = kd) (e3 : nn.toNatClampNeg = kn) (h4 : ks + kn ≤ n) (h5 : kd + kn ≤ n') {n0 : Nat} (N : Fr n0 locs) (ge : n0 ≤ b)
    {g : JFrame} (hg : g.method = m) (hsize : g.locals.size = c.maxLocals) {rest : List Value} (hs : g.stack = .int nn :: .int dp :: .ref b :: .int sp :: .ref a :: rest) (hd : decode c.code g.pc = .ok (.invokestatic index, 3))
    (hf : 1 ≤ R.frames) {W : Nat} (hW : 2 * g.monitorRoom + (rest.map fun v => v.category).sum ≤ W) (hlo : W + (nativeFrameWords "java/lang/System" "arraycopy" 5 + 11) ≤ R.locals) :
    ∃ T' h' L, Stand p l e R s m args below meth c T' L cells slots ∧ T'.heap = h' ∧ Fr n0 L ∧ Keep h h' [b] ∧ Af Z h' b ty n' (fun i => if kd ≤ i ∧ i < kd + kn then f (ks + (i - kd)) else f' i) ∧
      ∀ target, Steps p.tables e below (T'.setTop { g with pc := g.pc + 3, stack := rest }) target → Steps p.tables e below (T.setTop g) target := by
  obtain ⟨k1, A1⟩ := A.arv .null
  obtain ⟨k2, B1⟩ := B.arv .null
  subst e1 e2 e3
  have z1 := nat32 A.1
  have z2 := nat32 B.1
  obtain ⟨T', h', L, X', e', N', K, V, st⟩ := cpA X hx hZ hown w1 w2 w3 w4 eT A1 B1 (Or.inl ⟨rfl, hty⟩) h1 h2 h3 (by rw [z1]; exact h4) (by rw [z2]; exact h5) rfl (by simpa using h5) N ge hg hsize hs hd hf hW hlo
  refine ⟨T', h', L, X', e', N', K, Af.ofArv V z2 fun i hi => ?_, st⟩
  rw [List.getD_eq_getElem?_getD]
  have lt : (((List.range n').map f').take dp.toNatClampNeg).length = dp.toNatClampNeg := by simp; omega
  by_cases c1 : i < dp.toNatClampNeg
  · rw [if_neg (by omega), List.append_assoc, List.getElem?_append_left (by omega), List.getElem?_take_of_lt c1]; simp [hi]
  · by_cases c2 : i < dp.toNatClampNeg + nn.toNatClampNeg
    · rw [if_pos ⟨by omega, c2⟩, List.getElem?_append_left (by rw [List.length_append, lt]; simp; omega), List.getElem?_append_right (by omega), lt]
      have : i - dp.toNatClampNeg < nn.toNatClampNeg := by omega
      have : sp.toNatClampNeg + (i - dp.toNatClampNeg) < n := by omega
      rw [List.getElem?_map, List.getElem?_range (by omega)]
      simp [*]
    · rw [if_neg (by omega), List.getElem?_append_right (by rw [List.length_append, lt]; simp; omega), List.length_append, lt, List.getElem?_drop]
      simp [show dp.toNatClampNeg + nn.toNatClampNeg + (i - (dp.toNatClampNeg + nn.toNatClampNeg)) = i by omega, hi]
end CpX

theorem own_clone {p : Program} {l : Launch} {e : Env} {R : Room} {s : State} {m : MethodId} {args : Array Value} {below : List Frame} {meth : Method} {c : Code} {T : State} {locs : List Loc} {cells slots : Nat} {Z : State} {a0 : Array Value} {h : Heap} {a : Addr} {ty : FieldType} {n : Nat} {f : Nat → Value}
    (X : Stand p l e R s m args below meth c T locs cells slots) (hx : p.tables.exec = Jvm.exec) (hZ : Z.Warmed39 s.vm) {own ad : String} {index : Nat} (hown : s.vm.findClass own = some m.cls)
    (w1 : (Jvm.Cond.methodLink own index ⟨ad, "clone", "()Ljava/lang/Object;"⟩).before a0 Z = true) (w2 : (Jvm.Cond.sameMethod ad "java/lang/Object" "clone" "()Ljava/lang/Object;").before a0 Z = true) (w3 : (Jvm.Cond.native ⟨"java/lang/Object", "clone", "()Ljava/lang/Object;"⟩).before a0 Z = true)
    (w4 : (Jvm.Cond.instanceMethod ⟨"java/lang/Object", "clone", "()Ljava/lang/Object;"⟩).before a0 Z = true) (w5 : (Jvm.Cond.selects ad ⟨ad, "clone", "()Ljava/lang/Object;"⟩ ⟨"java/lang/Object", "clone", "()Ljava/lang/Object;"⟩).before a0 Z = true) (w6 : (Jvm.Cond.castable ad "java/lang/Cloneable").before a0 Z = true)
    (eT : T.heap = h) (A : Af Z h a ty n f) (E : Exa Z h a ad) {g : JFrame} (hg : g.method = m) (hsize : g.locals.size = c.maxLocals) {rest : List Value} (hs : g.stack = .ref a :: rest) (hd : decode c.code g.pc = .ok (.invokevirtual index, 3))
    (hf : 1 ≤ R.frames) {W cap : Nat} (hW : 2 * g.monitorRoom + (rest.map fun v => v.category).sum ≤ W) (hl : W + 14 ≤ R.locals) (hcap : n ≤ cap) (hc : cells + 1 ≤ R.cells) (hsl : slots + cap ≤ R.slots) :
    ∃ T' h', Stand p l e R s m args below meth c T' locs (cells + 1) (slots + cap) ∧ T'.heap = h' ∧ Ext h h' ∧ Af Z h' h.size ty n f ∧ Exa Z h' h.size ad ∧
      ∀ target, Steps p.tables e below (T'.setTop { g with pc := g.pc + 3, stack := .ref h.size :: rest }) target → Steps p.tables e below (T.setTop g) target := by
  obtain ⟨q, cl, B, r1, r2⟩ := A
  have FC : FitC Z cl := fitC_of B fun i hi v hv => by
    have u := r2 i (r1 ▸ hi)
    rw [u.1] at hv; cases hv; exact u.2
  obtain ⟨T', h', X', e', ex, A', E', st⟩ := cloneA X hx hZ hown w1 w2 w3 w4 w5 w6 eT B E FC hg hsize hs hd hf hW hl (by rw [r1]; exact hcap) hc hsl
  exact ⟨T', h', X', e', ex, ⟨q, cloneOf cl, A', r1, r2⟩, E', st⟩

theorem own_self {Z s : State} {a0 args : Array Value} {y : MethodName} {k : Nat} (hZ : Z.Warmed39 s.vm) (wi : (Jvm.Cond.instantiable y.cls k).before a0 Z = true) (wp : (Jvm.Cond.privateMethod y).before a0 Z = true) (wm : (Jvm.Cond.instanceMethod y).before a0 Z = true) (hy : y.cls ≠ "java/lang/invoke/MethodHandle" ∧ y.cls ≠ "java/lang/invoke/VarHandle") : (Jvm.Cond.selects y.cls y y).before args s = true := by
  obtain ⟨c, kk, h1, h2, -, h4, -, -⟩ := Cond.instantiable_spec (mvT (args := args) hZ wi)
  exact selects_self_of_private h1 h2 (by simp at h4; exact h4.1) (Cond.privateMethod_at (mvP hZ wp (args := args))) (mvT hZ wm) hy
section Warm
variable {p : Program} {l : Launch} {e : Env} {R : Room} {s : State} {m : MethodId} {args : Array Value} {below : List Frame} {meth : Method} {c : Code} {T : State} {locs : List Loc} {cells slots : Nat} {Z : State} {a0 : Array Value} {EL : List (String × Nat)} {h : Heap} {vm0 : Vm}
theorem own_endW {o : Outcome} {t : State} {L : List Loc} {k n C N : Nat} (h : ReturnedEndW s o t L k n) (hC : k ≤ C) (hN : n ≤ N) : ReturnedEndW s o t L C N := ⟨h.1, h.2.1, h.2.2.1, h.2.2.2.mono hC hN⟩
theorem own_retIW (X : Stand p l e R (s.setVm vm0) m args below meth c T locs cells slots) (hx : p.tables.exec = Jvm.exec) (hlk : meth.locks = false) (hZ : Z.Warmed39 vm0) (hEL : EW Z a0 EL) {k0 : Nat} (hS : s.Since vm0 k0) (hk : k0 ≤ h.size) (hC : CHr Z EL s.vm s.heap vm0 h) {pc : Nat} {Ls : Array Slot} {z : Int32} {t : FieldType} {Q : Option Value → Heap → List Loc → Prop} {C N : Nat} (hret : meth.sig.returnType = some t) (hn : narrow t (.int z) = .int z) (ht : t = .int ∨ t = .boolean ∨ t = .byte ∨ t = .char ∨ t = .short)
    (hd : decode c.code pc = .ok (.ireturn, 1)) (eh : T.heap = h) (hq : Q (some (.int z)) h locs) (hCC : cells ≤ C) (hN : slots ≤ N) : Go p e below (T.setTop (mkF m pc Ls [.int z])) (fun t o => t.status = .running ∧ Ended t below o ∧ ∃ v L, o = .returned v ∧ Q v t.heap L ∧ CHr Z EL s.vm s.heap t.vm t.heap ∧ ReturnedEndW s o t L C N) := by
  subst eh
  obtain ⟨fs, hr, hrun, hended, hW⟩ := X.leaveW hS hk (v := some (.int z)) (fun h => by rw [hret] at h; cases h) hlk
  have hA := hC.trans (CHv.at X hZ hEL hC.1)
  exact ⟨_, _, X.ireturnOut hx hret hn ht hd hr, hrun, hended, _, _, rfl, hq, hA, own_endW hW hCC hN⟩
theorem own_retAW (X : Stand p l e R (s.setVm vm0) m args below meth c T locs cells slots) (hx : p.tables.exec = Jvm.exec) (hlk : meth.locks = false) (hZ : Z.Warmed39 vm0) (hEL : EW Z a0 EL) {k0 : Nat} (hS : s.Since vm0 k0) (hk : k0 ≤ h.size) (hC : CHr Z EL s.vm s.heap vm0 h) {pc : Nat} {Ls : Array Slot} {w : Value} {t : FieldType} {Q : Option Value → Heap → List Loc → Prop} {C N : Nat} (hw : w.isRef = true) (hret : meth.sig.returnType = some t) (ht : t.isReference = true)
    (hd : decode c.code pc = .ok (.areturn, 1)) (eh : T.heap = h) (hq : Q (some w) h locs) (hCC : cells ≤ C) (hN : slots ≤ N) : Go p e below (T.setTop (mkF m pc Ls [w])) (fun t o => t.status = .running ∧ Ended t below o ∧ ∃ v L, o = .returned v ∧ Q v t.heap L ∧ CHr Z EL s.vm s.heap t.vm t.heap ∧ ReturnedEndW s o t L C N) := by
  subst eh
  obtain ⟨fs, hr, hrun, hended, hW⟩ := X.leaveW hS hk (v := some w) (fun h => by rw [hret] at h; cases h) hlk
  have hA := hC.trans (CHv.at X hZ hEL hC.1)
  exact ⟨_, _, X.areturnOut hx hw hret ht hd hr, hrun, hended, _, _, rfl, hq, hA, own_endW hW hCC hN⟩
theorem own_retVW (X : Stand p l e R (s.setVm vm0) m args below meth c T locs cells slots) (hx : p.tables.exec = Jvm.exec) (hlk : meth.locks = false) (hZ : Z.Warmed39 vm0) (hEL : EW Z a0 EL) {k0 : Nat} (hS : s.Since vm0 k0) (hk : k0 ≤ h.size) (hC : CHr Z EL s.vm s.heap vm0 h) {pc : Nat} {Ls : Array Slot} {Q : Option Value → Heap → List Loc → Prop} {C N : Nat} (hret : meth.sig.returnType = none)
    (hd : decode c.code pc = .ok (.return_, 1)) (eh : T.heap = h) (hq : Q none h locs) (hCC : cells ≤ C) (hN : slots ≤ N) : Go p e below (T.setTop (mkF m pc Ls [])) (fun t o => t.status = .running ∧ Ended t below o ∧ ∃ v L, o = .returned v ∧ Q v t.heap L ∧ CHr Z EL s.vm s.heap t.vm t.heap ∧ ReturnedEndW s o t L C N) := by
  subst eh
  obtain ⟨fs, hr, hrun, hended, hW⟩ := X.leaveW hS hk (v := none) (fun _ => rfl) hlk
  have hA := hC.trans (CHv.at X hZ hEL hC.1)
  exact ⟨_, _, X.returnOut hx hret hd hr, hrun, hended, _, _, rfl, hq, hA, own_endW hW hCC hN⟩
theorem own_backW {y : MethodName} {bytes : ByteArray} {maxL : Nat} {ret : Option FieldType} {rm : Room} {len W : Nat} {as' : Array Value} {xs : List Addr} {Q : Option Value → Heap → List Loc → Prop}
    (hM : MetFree l y (head1 [Cond.code y bytes maxL ret] rm) (fun a U => a = as' ∧ Z.Warmed39 U.vm ∧ U.heap = h ∧ CHv Z EL U.vm h ∧ ∀ x ∈ xs, Safe Z EL U.vm h x) (fun _ _ _ _ _ => True) (fun _ U o U' => ∃ v L, o = .returned v ∧ Q v U'.heap L ∧ CHr Z EL U.vm U.heap U'.vm U'.heap ∧ ReturnedEndW U o U' L rm.cells rm.slots))
    (hZ : Z.Warmed39 vm0) (wc : (Cond.code y bytes maxL ret).before a0 Z = true) (wz : (Cond.initialized y.cls).before a0 Z = true) (hf : rm.frames + 1 ≤ R.frames) (hl : W + (maxL + 11) + rm.locals ≤ R.locals) (hEL : EW Z a0 EL) (H : CHv Z EL vm0 h) (hs : ∀ x ∈ xs, x < h.size ∧ Safe Z EL vm0 h x) :
    BackS l R p e below (s.setVm vm0) args y len W (fun A a => a = as' ∧ A.U.heap = h ∧ A.cells + rm.cells ≤ R.cells ∧ A.slots + rm.slots ≤ R.slots)
      (fun A _ v B => ∃ L, Q v B.U.heap L ∧ B.locs = A.locs ++ L ∧ B.cells = A.cells + rm.cells ∧ B.slots = A.slots + rm.slots ∧ CHr Z EL vm0 h B.U.vm B.U.heap) :=
  BackS.of_freeW (bytes := bytes) (maxL := maxL) (ret := ret) (E := fun _ first o t L k n => k = rm.cells ∧ n = rm.slots ∧ (∃ v, o = .returned v ∧ Q v t.heap L) ∧ CHr Z EL first.vm first.heap t.vm t.heap) hM hf hl
    (fun m meth c A a Y hp => have hU : Z.Warmed39 A.U.vm := wtrans (s := s.setVm vm0) hZ Y.warmed
      ⟨by show (Cond.and _ .tt).before a A.U = true; rw [Cond.before_and, mv hU wc]; rfl, mv hU wc, mv hU wz, hp.2.2.1, hp.2.2.2⟩)
    (fun m meth c A a g mk Y hp => ⟨hp.1, wtrans (s := s.setVm vm0) hZ Y.warmed, hp.2.1, (CHv.at Y hZ hEL H).1, fun x hx => (CHv.at Y hZ hEL H).safe (hs x hx).1 (hs x hx).2⟩) (fun _ _ _ _ _ _ _ _ _ => trivial)
    (fun _ _ _ _ ⟨v, L, h1, h2, h3, h4⟩ => ⟨L, _, _, h4, rfl, rfl, ⟨v, h1, h2⟩, h3⟩)
    (fun m meth c A a g mk v t L k n Y hp _ _ ⟨e1, e2, ⟨v', e3, e4⟩, e5⟩ => by
      cases e3; subst e1 e2
      refine ⟨L, e4, rfl, rfl, rfl, (CHv.at Y hZ hEL H).trans ?_⟩
      rw [← hp.2.1]; exact e5)
theorem own_hs0 : ∀ x ∈ ([] : List Addr), x < h.size ∧ Safe Z EL vm0 h x := fun _ q => nomatch q
theorem own_hsS {a : Addr} {ws : List Addr} (n : a < h.size ∧ Safe Z EL vm0 h a) (r : ∀ y ∈ ws, y < h.size ∧ Safe Z EL vm0 h y) : ∀ y ∈ a :: ws, y < h.size ∧ Safe Z EL vm0 h y := fun y q => by
  rcases List.mem_cons.mp q with rfl | q
  · exact n
  · exact r y q
theorem own_af0 {b : Addr} {k : ClassId} {ty : FieldType} {vs : List Value} {d : Value} (A : Arv Z h b k ty 0 vs d) {f : Nat → Value} : Af Z h b ty 0 f := by
  obtain ⟨cl, B, -, sz, -⟩ := A
  exact ⟨by decide, cl, B, sz, fun i hi => absurd hi (Nat.not_lt_zero _)⟩
theorem own_litB {own text : String} {index : Nat} {a b : Addr} {c0 k : ClassId} {z : Int32} {vs : List Value} {d : Value} (hW : Z.Warmed39 vm0) (hC : CHv Z EL vm0 h) (hmem : (own, index) ∈ EL) (hf : vm0.findClass own = some c0) (w : (Cond.stringLink own index text).before a0 Z = true) (L : Lit (s.setVm vm0) own index a) (F : Fld Z h a "java/lang/String" "value" "[B" (.ref b)) (A : Arv Z h b k .byte z vs d) : Exa Z h b "[B" := by
  have hal : Z.vm.Alike vm0 := hW.alike
  have w2 : (Cond.stringLink own index text).before a0 (Wst Z vm0 h) = true := mvS (s := { Z with heap := h }) hW w
  obtain ⟨k0', cf, i, units, hkx, hcf, hp, hu, -, htext, -⟩ := Cond.stringLink_spec (s := Wst Z vm0 h) hf w2
  have hres : k0'.resolved[index]? = some (some (.string a)) := by
    have q : (s.setVm vm0).resolvedAt? own index = some (.string a) := L
    have hk' : vm0.classes[c0]? = some k0' := hkx
    simp [State.resolvedAt?, hf, hk'] at q
    cases hr : k0'.resolved[index]? with
    | none => rw [hr] at q; cases q
    | some o => rw [hr] at q; cases o with
      | none => cases q
      | some r => simpa using q
  have hB0 : Booksv vm0 own index units a := ⟨c0, k0', cf, i, hf, hkx, hcf, hp, hu, Or.inl hres⟩
  obtain ⟨q, hqa, G⟩ := SlB.of (hC _ hmem units a hB0)
  have hd : h[q.sd]? = some q.SA := G.hd
  obtain ⟨cS, ⟨⟨s1, s2, s3, ⟨cv, kv, iv, s4, s4'⟩, -, s6, s7, s8, -⟩, -⟩, -, hB, -⟩ := G
  subst hqa
  obtain ⟨kv', z4⟩ := ff_back (U := Wst Z vm0 h) hal s4
  obtain ⟨cell, cf2, k2, i2, f2, u1, u2, -, -, -, -, u7⟩ := F
  have s1' : h[q.sa]? = some q.sC := s1
  cases u1.symm.trans s1'
  cases z4.symm.trans u2
  have e : q.sd = b := by have := s8.symm.trans u7; simpa using this
  subst e
  obtain ⟨cl, B, -, -⟩ := A
  cases B.1.symm.trans hd
  have hBZ : Z.vm.findClass "[B" = some q.SA.cls := by rw [← hal.findClass]; exact hB
  obtain ⟨hst, k9, hk9, comp, hkind⟩ := B.2.1
  exact ⟨q.SA, k9, hd, hBZ, hk9, B.plain, fun ho => by rw [hkind] at ho; cases ho⟩
theorem own_ldC {a : Addr} {n : Nat} {f : Nat → Value} {target : State} (X : Stand p l e R s m args below meth c T locs cells slots) (hx : p.tables.exec = Jvm.exec) (hZ : Z.Warmed39 s.vm) (eT : T.heap = h) (A : Af Z h a .char n f) {j : Int32} {k : Nat} (hj : ¬ j < 0) (hk : j.toNatClampNeg = k) (hkn : k < n) {w : Value} (hv : f k = w) {g : JFrame} (hg : g.method = m) {rest : List Value} (hs : g.stack = .int j :: .ref a :: rest) (hd : decode c.code g.pc = .ok (.caload, 1))
    (hr : Steps p.tables e below (T.setTop { g with pc := g.pc + 1, stack := w :: rest }) target) : Steps p.tables e below (T.setTop g) target := by
  obtain ⟨q, cl, A, r1, r2⟩ := A
  exact X.caload hx (by rw [eT]; exact A.1) (State.isArrayOf_alike hZ.alike A.2.1) A.2.2 (own_inb r1 hj hk hkn) (by rw [hk, (r2 k hkn).1, hv]) hg hs hd _ hr
theorem own_stC {a : Addr} {n : Nat} {f : Nat → Value} (X : Stand p l e R s m args below meth c T locs cells slots) (hx : p.tables.exec = Jvm.exec) (hZ : Z.Warmed39 s.vm) (eT : T.heap = h) (A : Af Z h a .char n f) {j x y : Int32} {k : Nat} (hj : ¬ j < 0) (hk : j.toNatClampNeg = k) (hkn : k < n) (hy : nar .char x = y) {g : JFrame} (hg : g.method = m) {rest : List Value} (hs : g.stack = .int x :: .int j :: .ref a :: rest) (hd : decode c.code g.pc = .ok (.castore, 1)) :
    ∃ T' h', Stand p l e R s m args below meth c T' (locs ++ [⟨a, k⟩]) cells slots ∧ T'.heap = h' ∧ Wr h h' a k (.int y) ∧ Af Z h' a .char n (fun i => if i = k then .int y else f i) ∧ ∀ target, Steps p.tables e below (T'.setTop { g with pc := g.pc + 1, stack := rest }) target → Steps p.tables e below (T.setTop g) target := by
  obtain ⟨q, cl, B, r1, r2⟩ := id A
  obtain ⟨T', h', X', e', W, st⟩ := stC X hx hZ eT B (own_inb r1 hj hk hkn) hg hs hd
  subst hk hy
  exact ⟨T', h', X', e', W, A.set W (fits_nar_char x), st⟩
end Warm
theorem own_eqI {args : Array Value} {first s : State} {o : Option Outcome} {idx : List Nat} {a : Term} {k : Int32} (h : (Jvm.Cond.eq a (.int k)).value args first o s idx = some true) : a.eval args first o idx s = some (.int k) := by
  cases ha : a.eval args first o idx s with
  | none => simp [Cond.value, ha, Term.eval] at h
  | some v => cases v <;> simp [Cond.value, ha, Term.eval] at h <;> first | (subst h; rfl) | (rw [h])
theorem own_neq0 {args : Array Value} {first s : State} {o : Option Outcome} {idx : List Nat} {a : Term} (h : (Jvm.Cond.eq a (.int 0)).value args first o s idx = some false) (e : a.eval args first o idx s = some (.int 0)) : False := by
  simp [Cond.value, e, Term.int_eval] at h
theorem own_wS {Z : State} {a0 : Array Value} (hw : ∀ d ∈ tables_1, d.before a0 Z = true) : ∀ a ∈ Bundle.stringAtoms, a.before a0 Z = true := fun d hd => by
  simp only [Bundle.stringAtoms, List.mem_cons, List.not_mem_nil, or_false] at hd
  rcases hd with rfl | rfl | rfl | rfl | rfl | rfl | rfl
  · exact (hw _ (List.mem_of_getElem? (i := 6) rfl))
  · exact (hw _ (List.mem_of_getElem? (i := 14) rfl))
  · exact (hw _ (List.mem_of_getElem? (i := 18) rfl))
  · exact (hw _ (List.mem_of_getElem? (i := 27) rfl))
  · exact (hw _ (List.mem_of_getElem? (i := 29) rfl))
  · exact (hw _ (List.mem_of_getElem? (i := 39) rfl))
  · exact (hw _ (List.mem_of_getElem? (i := 40) rfl))
def own_EL : List (String × Nat) := [("java/lang/String", 7)]
theorem own_ew {Z : State} {a0 : Array Value} (hw : ∀ d ∈ tables_1, d.before a0 Z = true) : EW Z a0 own_EL := (EW.cons (hw _ (List.mem_of_getElem? (i := 38) rfl)) (by simp) EW.nil)

def own_by (c : Int32) : Int32 := c.toInt8.toInt32.toInt8.toInt32
def own_c1 (a : Int32) : Int32 := (a &&& (255 : Int32)).toUInt32.toUInt16.toUInt32.toInt32
def own_ch (a : Int32) : Int32 := (own_c1 a).toUInt32.toUInt16.toUInt32.toInt32
theorem own_k255 (a : Int32) : ∃ k : Fin 256, (a &&& (255 : Int32)) = Int32.ofNat k.val := by
  have h := c_mask a 255 8 (by decide) (by decide)
  have h1 := Int.emod_nonneg a.toInt (by decide : ((2 ^ 8 : Nat) : Int) ≠ 0)
  have h2 := Int.emod_lt_of_pos a.toInt (by decide : (0 : Int) < ((2 ^ 8 : Nat) : Int))
  rw [← h] at h1 h2
  have h3 : (a &&& (255 : Int32)).toInt < 256 := h2
  refine ⟨⟨(a &&& (255 : Int32)).toInt.toNat, by omega⟩, Int32.toInt_inj.mp ?_⟩
  show _ = (Int32.ofNat (a &&& (255 : Int32)).toInt.toNat).toInt
  rw [Int32.toInt_ofNat_small (by omega)]
  omega
theorem own_c1_le (a : Int32) : ¬ (255 : Int32) < own_c1 a := by
  obtain ⟨k, e⟩ := own_k255 a
  unfold own_c1
  rw [e]
  have g : ∀ k : Fin 256, ¬ (255 : Int32) < (Int32.ofNat k.val).toUInt32.toUInt16.toUInt32.toInt32 := by decide +kernel
  exact g k
theorem own_ch_le (a : Int32) : ¬ (255 : Int32) < own_ch a := by
  obtain ⟨k, e⟩ := own_k255 a
  unfold own_ch own_c1
  rw [e]
  have g : ∀ k : Fin 256, ¬ (255 : Int32) < (Int32.ofNat k.val).toUInt32.toUInt16.toUInt32.toInt32.toUInt32.toUInt16.toUInt32.toInt32 := by decide +kernel
  exact g k
theorem own_k31 (a : Int32) : ∃ k : Fin 32, (a &&& (31 : Int32)) = Int32.ofNat k.val := by
  have h := c_mask a 31 5 (by decide) (by decide)
  have h1 := Int.emod_nonneg a.toInt (by decide : ((2 ^ 5 : Nat) : Int) ≠ 0)
  have h2 := Int.emod_lt_of_pos a.toInt (by decide : (0 : Int) < ((2 ^ 5 : Nat) : Int))
  rw [← h] at h1 h2
  have h3 : (a &&& (31 : Int32)).toInt < 32 := h2
  refine ⟨⟨(a &&& (31 : Int32)).toInt.toNat, by omega⟩, Int32.toInt_inj.mp ?_⟩
  show _ = (Int32.ofNat (a &&& (31 : Int32)).toInt.toNat).toInt
  rw [Int32.toInt_ofNat_small (by omega)]
  omega
theorem own_m31 (a : Int32) : ¬ (a &&& (31 : Int32)) < 0 ∧ (a &&& (31 : Int32)).toNatClampNeg < 32 := by
  obtain ⟨k, e⟩ := own_k31 a
  rw [e]
  have g : ∀ k : Fin 32, ¬ (Int32.ofNat k.val) < 0 ∧ (Int32.ofNat k.val).toNatClampNeg < 32 := by decide +kernel
  exact g k
theorem own_ne1 (a : Int32) : (((a &&& (31 : Int32)) + (1 : Int32)) &&& (31 : Int32)).toNatClampNeg ≠ (a &&& (31 : Int32)).toNatClampNeg := by
  obtain ⟨k, e⟩ := own_k31 a
  rw [e]
  have g : ∀ k : Fin 32, ((Int32.ofNat k.val + (1 : Int32)) &&& (31 : Int32)).toNatClampNeg ≠ (Int32.ofNat k.val).toNatClampNeg := by decide +kernel
  exact g k
theorem own_ne2 (a : Int32) : (((((a &&& (31 : Int32)) + (1 : Int32)) &&& (31 : Int32)) + (1 : Int32)) &&& (31 : Int32)).toNatClampNeg ≠ (a &&& (31 : Int32)).toNatClampNeg := by
  obtain ⟨k, e⟩ := own_k31 a
  rw [e]
  have g : ∀ k : Fin 32, ((((Int32.ofNat k.val + (1 : Int32)) &&& (31 : Int32)) + (1 : Int32)) &&& (31 : Int32)).toNatClampNeg ≠ (Int32.ofNat k.val).toNatClampNeg := by decide +kernel
  exact g k
theorem own_f1 : ∀ (o : Fin 24) (n : Fin 8), (¬ (o.val + n.val).toInt32 < o.val.toInt32) ∧ (¬ o.val.toInt32 < 0) ∧ (¬ (256 : Int32) < (o.val + n.val).toInt32) ∧ (o.val + n.val).toInt32 - o.val.toInt32 = n.val.toInt32 ∧ (¬ (o.val.toInt32 + n.val.toInt32) < 0) ∧ (o.val.toInt32 + n.val.toInt32).toNatClampNeg = o.val + n.val ∧ o.val.toInt32 + n.val.toInt32 = (o.val + n.val).toInt32 ∧ o.val.toInt32.toNatClampNeg = o.val := by decide +kernel
theorem own_ff (o n : Nat) (ho : o < 24) (hn : n < 8) : (¬ (o + n).toInt32 < o.toInt32) ∧ (¬ o.toInt32 < 0) ∧ (¬ (256 : Int32) < (o + n).toInt32) ∧ (o + n).toInt32 - o.toInt32 = n.toInt32 ∧ (¬ (o.toInt32 + n.toInt32) < 0) ∧ (o.toInt32 + n.toInt32).toNatClampNeg = o + n ∧ o.toInt32 + n.toInt32 = (o + n).toInt32 ∧ o.toInt32.toNatClampNeg = o := own_f1 ⟨o, ho⟩ ⟨n, hn⟩
theorem own_tn {s : Nat} (h : s < 24) : ¬ s.toInt32 < 0 ∧ s.toInt32.toNatClampNeg = s := ⟨(own_ff s 0 h (by decide)).2.1, (own_ff s 0 h (by decide)).2.2.2.2.2.2.2⟩
theorem own_pl {o n : Nat} (ho : o < 24) (hn : n < 8) : o.toInt32 + n.toInt32 = (o + n).toInt32 := (own_ff o n ho hn).2.2.2.2.2.2.1
theorem own_ar {p1 p2 : Int32} {o n : Nat} (ho : o < 24) (hn : n < 8) (h1 : p1 = o.toInt32) (h2 : p2 = (o + n).toInt32) : ¬ p2 < p1 ∧ ¬ p1 < 0 ∧ ¬ (256 : Int32) < p2 ∧ p2 - p1 = n.toInt32 := by
  subst h1 h2
  exact ⟨(own_ff o n ho hn).1, (own_ff o n ho hn).2.1, (own_ff o n ho hn).2.2.1, (own_ff o n ho hn).2.2.2.1⟩
theorem own_ix {p1 : Int32} {o : Nat} (i : Nat) (ho : o < 24) (hn : i < 8) (h1 : p1 = o.toInt32) : ¬ (p1 + i.toInt32) < 0 ∧ (p1 + i.toInt32).toNatClampNeg = o + i := by
  subst h1
  exact ⟨(own_ff o i ho hn).2.2.2.2.1, (own_ff o i ho hn).2.2.2.2.2.1⟩
theorem own_f2 : ∀ n : Fin 8, nar .byte (n.val.toInt32.toInt8.toInt32) = n.val.toInt32 := by decide +kernel
theorem own_f3 : ∀ l n : Fin 8, l.val.toInt32 = n.val.toInt32 → l.val = n.val := by decide +kernel
theorem own_inj {l n : Nat} (hl : l ≤ 4) (hn : n ≤ 4) (h : l.toInt32 = n.toInt32) : l = n := own_f3 ⟨l, by omega⟩ ⟨n, by omega⟩ h
theorem own_f4 : ∀ k : Fin 8, (k.val + 1).toInt32 ≠ 0 := by decide +kernel
theorem own_f5 : ∀ (i n : Fin 8), i.val < n.val → i.val.toInt32 < n.val.toInt32 := by decide +kernel
theorem own_lt {i n : Nat} {z y : Int32} (hn : n ≤ 4) (h : i < n) (hz : z = i.toInt32) (hy : y = n.toInt32) : z < y := by
  subst hz hy
  exact own_f5 ⟨i, by omega⟩ ⟨n, by omega⟩ h
theorem own_irr (x : Int32) : ¬ x < x := by rw [Int32.lt_iff_toInt_lt]; omega
theorem own_nlt {i n : Nat} {z y : Int32} (h : i = n) (hz : z = i.toInt32) (hy : y = n.toInt32) : ¬ z < y := by
  subst h hz hy
  exact own_irr _
theorem own_z0 {x : Int32} {n : Nat} (h : x = n.toInt32) : (0 : Int32) + x = n.toInt32 := by rw [Int32.zero_add]; exact h
theorem own_tz {s : Nat} {z : Int32} (h : s < 24) (hz : z = s.toInt32) : ¬ z < 0 ∧ z.toNatClampNeg = s := by
  subst hz
  exact own_tn h
theorem own_ixz {p1 z : Int32} {o i : Nat} (ho : o < 24) (hn : i < 8) (h1 : p1 = o.toInt32) (hz : z = i.toInt32) : ¬ (p1 + z) < 0 ∧ (p1 + z).toNatClampNeg = o + i := by
  subst hz
  exact own_ix i ho hn h1
theorem own_up {z : Int32} {i : Nat} (h : i < 24) (hz : z = i.toInt32) : z + (1 : Int32) = (i + 1).toInt32 := by
  subst hz
  exact own_pl (n := 1) h (by decide)
theorem own_f6 : ∀ n : Fin 8, n.val ≤ 4 → ¬ (7 : Int32) < n.val.toInt32 := by decide +kernel
theorem own_byteAt {Z : State} {h : Heap} {a : Addr} {n : Nat} {f : Nat → Value} (A : Af Z h a .byte n f) {k : Nat} (hk : k < n) : ∃ y, f k = .int y := by
  obtain ⟨q, c, B, r1, r2⟩ := A
  have u := (r2 k hk).2
  cases hv : f k with
  | int y => exact ⟨y, rfl⟩
  | _ => rw [hv] at u; simp [fits] at u
theorem own_stX {h h' : Heap} (K : Keep h h' []) : Ext h h' := ⟨K.1, fun a c q => K.2.1 a c q (fun m => nomatch m)⟩
theorem own_xt {h h' h2 : Heap} (A : Ext h h') (B : Ext h' h2) : Ext h h2 := ⟨Nat.le_trans A.1 B.1, fun a c q => B.2 _ _ (A.2 _ _ q)⟩
theorem own_extk {hb h h' : Heap} {ws : List Addr} (O : Ext hb h) (K : Keep h h' ws) (hw : ∀ x ∈ ws, hb.size ≤ x) : Ext hb h' := ⟨Nat.le_trans O.1 K.1, fun a c q => K.2.1 _ _ (O.2 _ _ q) fun m => by
  have := hw _ m
  have := (Array.getElem?_eq_some_iff.mp q).1
  omega⟩
theorem own_frm {n0 k : Nat} {L : List Loc} (h : n0 ≤ k) (N : Fr k L) : Fr n0 L := fun y hy => Nat.le_trans h (N y hy)
theorem own_len1 {S : List Nat} (h : S.length = 1) : ∃ a, S = [a] := by
  match S, h with
  | [a], _ => exact ⟨a, rfl⟩
theorem own_len2 {S : List Nat} (h : S.length = 2) : ∃ a b, S = [a, b] := by
  match S, h with
  | [a, b], _ => exact ⟨a, b, rfl⟩
def lenS (p : Int32) : Nat := if p = 0 then 0 else if p = 1 then 1 else if p = 2 then 2 else if p = 3 then 3 else 4
theorem lenS_le (p : Int32) : lenS p ≤ 4 := by
  unfold lenS
  (repeat' split) <;> omega
def IN (Z : State) (h : Heap) (n0 K : Nat) (r : Addr) (E : List Nat) : Prop := ∃ (cb cs cl : Addr) (fb fs fl : Nat → Value) (S J : List Nat) (U : Nat), Exa Z h r "com/example/design_drills/designdrills/service/listens/IdNumbers" ∧ Fld Z h r "com/example/design_drills/designdrills/service/listens/IdNumbers" "bytes" "[B" (.ref cb) ∧ Fld Z h r "com/example/design_drills/designdrills/service/listens/IdNumbers" "starts" "[I" (.ref cs) ∧ Fld Z h r "com/example/design_drills/designdrills/service/listens/IdNumbers" "slots" "[I" (.ref cl) ∧ Fld Z h r "com/example/design_drills/designdrills/service/listens/IdNumbers" "used" "I" (.int U.toInt32) ∧ Fld Z h r "com/example/design_drills/designdrills/service/listens/IdNumbers" "size" "I" (.int E.length.toInt32) ∧ Af Z h cb .byte 256 fb ∧ Af Z h cs .int 16 fs ∧ Af Z h cl .int 32 fl ∧ (r ≠ cb ∧ r ≠ cs ∧ r ≠ cl ∧ cb ≠ cs ∧ cb ≠ cl ∧ cs ≠ cl) ∧ (n0 ≤ cb ∧ n0 ≤ cs ∧ n0 ≤ cl) ∧ (r < K ∧ cb < K ∧ cs < K ∧ cl < K) ∧ S.length = E.length ∧ J.length = E.length ∧ U ≤ 5 * E.length ∧ (∀ l ∈ E, l ≤ 4) ∧ (∀ (k s l : Nat), S[k]? = some s → E[k]? = some l → fs k = .int s.toInt32 ∧ fb s = .int l.toInt32 ∧ s < U) ∧ (∀ (k j : Nat), J[k]? = some j → fl j = .int (k + 1).toInt32 ∧ j < 32) ∧ (∀ i, i < 32 → i ∉ J → fl i = .int 0)

theorem IN.ext {Z : State} {h h' : Heap} {n0 K : Nat} {r : Addr} {E : List Nat} (H : IN Z h n0 K r E) (O : Ext h h') : IN Z h' n0 K r E := by
  obtain ⟨cb, cs, cl, fb, fs, fl, S, J, U, E_r0, F_b, F_s, F_l, F_u, F_z, Ab, As, Al, r⟩ := H
  exact ⟨cb, cs, cl, fb, fs, fl, S, J, U, E_r0.ext O, F_b.ext O, F_s.ext O, F_l.ext O, F_u.ext O, F_z.ext O, Ab.ext O, As.ext O, Al.ext O, r⟩
theorem IN.exa {Z : State} {h : Heap} {n0 K : Nat} {r : Addr} {E : List Nat} (H : IN Z h n0 K r E) : Exa Z h r "com/example/design_drills/designdrills/service/listens/IdNumbers" := by
  obtain ⟨cb, cs, cl, fb, fs, fl, S, J, U, E_r0, -⟩ := H
  exact E_r0
theorem own_hk {E S : List Nat} {U n : Nat} {fb fs fb' fs' : Nat → Value} (hS : S.length = E.length) (hk : ∀ (k s l : Nat), S[k]? = some s → E[k]? = some l → fs k = .int s.toInt32 ∧ fb s = .int l.toInt32 ∧ s < U) (h1 : ∀ k, k < E.length → fs' k = fs k) (h2 : fs' E.length = .int U.toInt32) (h3 : ∀ i, i < U → fb' i = fb i) (h4 : fb' U = .int n.toInt32) :
    ∀ (k s l : Nat), (S ++ [U])[k]? = some s → (E ++ [n])[k]? = some l → fs' k = .int s.toInt32 ∧ fb' s = .int l.toInt32 ∧ s < U + 1 + n := by
  intro k s l hs hl
  by_cases q : k < E.length
  · rw [List.getElem?_append_left (by omega)] at hs
    rw [List.getElem?_append_left q] at hl
    obtain ⟨a, b, c⟩ := hk k s l hs hl
    exact ⟨(h1 k q).trans a, (h3 s c).trans b, by omega⟩
  · rw [List.getElem?_append_right (by omega)] at hs hl
    have e : k = E.length := by
      have := (List.getElem?_eq_some_iff.mp hl).1
      simp at this; omega
    subst e
    rw [hS, Nat.sub_self] at hs
    rw [Nat.sub_self] at hl
    simp at hs hl
    subst hs hl
    exact ⟨h2, h4, by omega⟩
theorem own_hj {J : List Nat} {x m : Nat} {fl fl' : Nat → Value} (hm : J.length = m) (hm2 : m ≤ 2) (hj : ∀ (k j : Nat), J[k]? = some j → fl j = .int (k + 1).toInt32 ∧ j < 32) (hx : x < 32) (h0 : fl x = .int 0) (h1 : ∀ i, i ≠ x → fl' i = fl i) (h2 : fl' x = .int (m + 1).toInt32) :
    ∀ (k j : Nat), (J ++ [x])[k]? = some j → fl' j = .int (k + 1).toInt32 ∧ j < 32 := by
  intro k j hk
  by_cases q : k < J.length
  · rw [List.getElem?_append_left q] at hk
    obtain ⟨a, b⟩ := hj k j hk
    refine ⟨(h1 j fun e => ?_).trans a, b⟩
    rw [e, h0] at a
    exact own_f4 ⟨k, by omega⟩ (by injection a with a; exact a.symm)
  · rw [List.getElem?_append_right (by omega)] at hk
    have e : k = J.length := by
      have := (List.getElem?_eq_some_iff.mp hk).1
      simp at this; omega
    subst e
    rw [Nat.sub_self] at hk
    simp at hk
    subst hk
    rw [hm]
    exact ⟨h2, hx⟩
theorem own_hz {J : List Nat} {x : Nat} {fl fl' : Nat → Value} (hz : ∀ i, i < 32 → i ∉ J → fl i = .int 0) (h1 : ∀ i, i ≠ x → fl' i = fl i) : ∀ i, i < 32 → i ∉ J ++ [x] → fl' i = .int 0 := fun i hi hn => by
  have a : i ∉ J := fun q => hn (List.mem_append_left _ q)
  have b : i ≠ x := fun q => hn (List.mem_append_right _ (by simp [q]))
  rw [h1 i b]; exact hz i hi a
theorem own_get {S E : List Nat} {k l : Nat} (h : S.length = E.length) (hl : E[k]? = some l) : ∃ s, S[k]? = some s := by
  have := (List.getElem?_eq_some_iff.mp hl).1
  exact ⟨S[k], List.getElem?_eq_getElem (by omega)⟩
theorem own_mn {E : List Nat} {n : Nat} : ∀ (k l : Nat), E[k]? = some l → (E ++ [n])[k]? = some l := fun k l h => by
  rw [List.getElem?_append_left (List.getElem?_eq_some_iff.mp h).1]; exact h
theorem own_at {E : List Nat} {n : Nat} : (E ++ [n])[E.length]? = some n := by simp
theorem own_le4 {E : List Nat} {n : Nat} (h : ∀ l ∈ E, l ≤ 4) (hn : n ≤ 4) : ∀ l ∈ E ++ [n], l ≤ 4 := fun l hl => by
  rcases List.mem_append.mp hl with q | q
  · exact h l q
  · simp at q; omega
theorem d28_0 : decode jdk_52_method_21_code 0 = .ok (.iconst 0, 1) := by decide +kernel
theorem d28_1 : decode jdk_52_method_21_code 1 = .ok (.istore 5, 2) := by decide +kernel
theorem d28_3 : decode jdk_52_method_21_code 3 = .ok (.iload 5, 2) := by decide +kernel
theorem d28_5 : decode jdk_52_method_21_code 5 = .ok (.iload 4, 2) := by decide +kernel
theorem d28_7 : decode jdk_52_method_21_code 7 = .ok (.if_icmp .ge 37, 3) := by decide +kernel
theorem d28_10 : decode jdk_52_method_21_code 10 = .ok (.aload_n 0, 1) := by decide +kernel
theorem d28_11 : decode jdk_52_method_21_code 11 = .ok (.iload_n 1, 1) := by decide +kernel
theorem d28_12 : decode jdk_52_method_21_code 12 = .ok (.caload, 1) := by decide +kernel
theorem d28_13 : decode jdk_52_method_21_code 13 = .ok (.istore 6, 2) := by decide +kernel
theorem d28_15 : decode jdk_52_method_21_code 15 = .ok (.iload 6, 2) := by decide +kernel
theorem d28_17 : decode jdk_52_method_21_code 17 = .ok (.sipush 255, 3) := by decide +kernel
theorem d28_20 : decode jdk_52_method_21_code 20 = .ok (.if_icmp .le 6, 3) := by decide +kernel
theorem d28_26 : decode jdk_52_method_21_code 26 = .ok (.aload_n 2, 1) := by decide +kernel
theorem d28_27 : decode jdk_52_method_21_code 27 = .ok (.iload_n 3, 1) := by decide +kernel
theorem d28_28 : decode jdk_52_method_21_code 28 = .ok (.iload 6, 2) := by decide +kernel
theorem d28_30 : decode jdk_52_method_21_code 30 = .ok (.i2b, 1) := by decide +kernel
theorem d28_31 : decode jdk_52_method_21_code 31 = .ok (.bastore, 1) := by decide +kernel
theorem d28_32 : decode jdk_52_method_21_code 32 = .ok (.iinc 1 1, 3) := by decide +kernel
theorem d28_35 : decode jdk_52_method_21_code 35 = .ok (.iinc 3 1, 3) := by decide +kernel
theorem d28_38 : decode jdk_52_method_21_code 38 = .ok (.iinc 5 1, 3) := by decide +kernel
theorem d28_41 : decode jdk_52_method_21_code 41 = .ok (.goto (-38), 3) := by decide +kernel
theorem d28_44 : decode jdk_52_method_21_code 44 = .ok (.iload 4, 2) := by decide +kernel
theorem d28_46 : decode jdk_52_method_21_code 46 = .ok (.ireturn, 1) := by decide +kernel
theorem own_pn_rmK_2 : plainName "java/lang/StringUTF16" = true := by first | (simp [plainName, overriddenIn]; done) | decide +kernel
theorem own_ef_rmK_2 (m : MethodId) (r0 : Addr) (r2 : Addr) : entryFrame m #[(.ref r0), (.int (0 : Int32)), (.ref r2), (.int (0 : Int32)), (.int (2 : Int32))] 7 = mkF m 0 #[.val (.ref r0), .val (.int (0 : Int32)), .val (.ref r2), .val (.int (0 : Int32)), .val (.int (2 : Int32)), .unset, .unset] [] := by first | (simp [entryFrame, mkF, argsToLocals, Value.category]; done) | rfl
def QK_2 (Z : State) (r0 : Addr) (r2 : Addr) (f : Nat → Value) (g : Nat → Value) (c0 : Int32) (c1 : Int32) (h0 : Heap) (n0 : Nat) (v : Option Value) (h : Heap) (L : List Loc) : Prop := v = some (.int (2 : Int32)) ∧ Fr n0 L ∧ Keep h0 h [r2] ∧ ∃ f' : Nat → Value, Af Z h r2 .byte 2 f'
set_option maxRecDepth 65536 in
set_option maxHeartbeats 40000000 in
theorem rmK_2 (l : Launch) (Z : State) (a0 : Array Value) (hw : ∀ d ∈ tables_1, d.before a0 Z = true) (ws : List Jvm.Cond) (r0 : Addr) (r2 : Addr) (f : Nat → Value) (g : Nat → Value) (c0 : Int32) (c1 : Int32) (h0 : Heap) (n0 : Nat) (Z0 : n0 ≤ h0.size) (A : Af Z h0 r0 .char 2 f) (B : Af Z h0 r2 .byte 2 g) (hf_0 : f 0 = .int c0) (hf_1 : f 1 = .int c1) (hc_0 : ¬ (255 : Int32) < c0) (hc_1 : ¬ (255 : Int32) < c1) (g_r2 : n0 ≤ r2) (ne : r0 ≠ r2) :
    MetFree l (⟨"java/lang/StringUTF16", "compress", "([CI[BII)I"⟩ : MethodName) (head1 (Jvm.Cond.code (⟨"java/lang/StringUTF16", "compress", "([CI[BII)I"⟩ : MethodName) jdk_52_method_21_code 7 (some .int) :: ws) ({ frames := 0, cells := 0, slots := 0, locals := 0 } : Room)) (fun a U => a = #[(.ref r0), (.int (0 : Int32)), (.ref r2), (.int (0 : Int32)), (.int (2 : Int32))] ∧ Z.Warmed39 U.vm ∧ U.heap = h0) (fun _ _ _ _ _ => True) (fun _ U o U' => ∃ v L, o = .returned v ∧ QK_2 Z r0 r2 f g c0 c1 h0 n0 v U'.heap L ∧ FrameEnd U o U' L ({ frames := 0, cells := 0, slots := 0, locals := 0 } : Room).cells ({ frames := 0, cells := 0, slots := 0, locals := 0 } : Room).slots) := by
  refine MetFree.of_bodySF (plainFor_of_name own_pn_rmK_2) hisR ?_
  intro p e s m args below meth cO s₁ Bd hml0 hP hK
  obtain ⟨rfl, hZ, hh⟩ := hP
  have hx := Bd.exec
  have hby := Bd.bytes
  have hD := @Jvm.hb _ _ hby
  have hml : cO.maxLocals = 7 := hml0
  have hown : s.vm.findClass "java/lang/StringUTF16" = some m.cls := findClass_of_methodNamed Bd.named
  have hnm := (name_of_methodNamed Bd.named Bd.method).1
  have hlk : meth.locks = false := BodyLoose.notSynchronized Bd
  have X0 : Stand p l e ({ frames := 0, cells := 0, slots := 0, locals := 0 } : Room) s m #[(.ref r0), (.int (0 : Int32)), (.ref r2), (.int (0 : Int32)), (.int (2 : Int32))] below meth cO s₁ [] 0 0 := Stand.of_body Bd
  have e0 : s₁.heap = h0 := by rw [← hh, Bd.state]; rfl
  have N0 := Fr.nil n0
  refine own_in (own_ef_rmK_2 m r0 r2) ?_
  show Gm p e below s₁ m 0 #[rv r0, iv (0 : Int32), rv r2, iv (0 : Int32), iv (2 : Int32), .unset, .unset] [] _
  refine own_go (fun t' k' => XS.iconst X0.here hx rfl (hD d28_0) k') ?_
  refine own_go (fun t' k' => XS.istore X0.here hx rfl (hD d28_1) rfl (l' := #[rv r0, iv (0 : Int32), rv r2, iv (0 : Int32), iv (2 : Int32), iv (0 : Int32), .unset]) rfl k') ?_
  refine own_go (fun t' k' => XS.iload X0.here hx rfl (hD d28_3) rfl k') ?_
  show Gm p e below s₁ m 5 #[rv r0, iv (0 : Int32), rv r2, iv (0 : Int32), iv (2 : Int32), iv (0 : Int32), .unset] [(.int (0 : Int32))] _
  refine own_go (fun t' k' => XS.iload X0.here hx rfl (hD d28_5) rfl k') ?_
  show Gm p e below s₁ m 7 #[rv r0, iv (0 : Int32), rv r2, iv (0 : Int32), iv (2 : Int32), iv (0 : Int32), .unset] [(.int (2 : Int32)), (.int (0 : Int32))] _
  refine own_go (fun t' k' => XS.icmpNo X0.here hx rfl (hD d28_7) rfl (XT.ii_ge_f (by decide)) k') ?_
  refine own_go (fun t' k' => XS.aloadN X0.here hx rfl (hD d28_10) rfl rfl k') ?_
  refine own_go (fun t' k' => XS.iloadN X0.here hx rfl (hD d28_11) rfl k') ?_
  show Gm p e below s₁ m 12 #[rv r0, iv (0 : Int32), rv r2, iv (0 : Int32), iv (2 : Int32), iv (0 : Int32), .unset] [(.int (0 : Int32)), (.ref r0)] _
  refine own_go (fun t' k' => own_ldC X0 hx hZ e0 A (j := (0 : Int32)) (k := 0) (by decide) rfl (by decide) (w := (.int c0)) hf_0 (g := (mkF m 12 #[rv r0, iv (0 : Int32), rv r2, iv (0 : Int32), iv (2 : Int32), iv (0 : Int32), .unset] [(.int (0 : Int32)), (.ref r0)])) rfl rfl (hD d28_12) k') ?_
  refine own_go (fun t' k' => XS.istore X0.here hx rfl (hD d28_13) rfl (l' := #[rv r0, iv (0 : Int32), rv r2, iv (0 : Int32), iv (2 : Int32), iv (0 : Int32), iv c0]) rfl k') ?_
  refine own_go (fun t' k' => XS.iload X0.here hx rfl (hD d28_15) rfl k') ?_
  show Gm p e below s₁ m 17 #[rv r0, iv (0 : Int32), rv r2, iv (0 : Int32), iv (2 : Int32), iv (0 : Int32), iv c0] [(.int c0)] _
  refine own_go (fun t' k' => XS.sipush X0.here hx rfl (hD d28_17) k') ?_
  show Gm p e below s₁ m 20 #[rv r0, iv (0 : Int32), rv r2, iv (0 : Int32), iv (2 : Int32), iv (0 : Int32), iv c0] [(.int (255 : Int32)), (.int c0)] _
  refine own_go (fun t' k' => XS.icmpYes X0.here hx rfl (pc0 := 20) (pc' := 26) rfl (hD d28_20) rfl (XT.ii_le_t hc_0) (by decide) (by decide) k') ?_
  refine own_go (fun t' k' => XS.aloadN X0.here hx rfl (hD d28_26) rfl rfl k') ?_
  refine own_go (fun t' k' => XS.iloadN X0.here hx rfl (hD d28_27) rfl k') ?_
  show Gm p e below s₁ m 28 #[rv r0, iv (0 : Int32), rv r2, iv (0 : Int32), iv (2 : Int32), iv (0 : Int32), iv c0] [(.int (0 : Int32)), (.ref r2)] _
  refine own_go (fun t' k' => XS.iload X0.here hx rfl (hD d28_28) rfl k') ?_
  refine own_go (fun t' k' => XS.i2b X0.here hx rfl (hD d28_30) rfl k') ?_
  show Gm p e below s₁ m 31 #[rv r0, iv (0 : Int32), rv r2, iv (0 : Int32), iv (2 : Int32), iv (0 : Int32), iv c0] [(.int (c0.toInt8.toInt32)), (.int (0 : Int32)), (.ref r2)] _
  obtain ⟨T1, h1, X1, e1, W1, A1, st1⟩ := own_stB X0 hx hZ e0 B (j := (0 : Int32)) (k := 0) (by decide) rfl (by decide) (y := (own_by c0)) rfl (g := (mkF m 31 #[rv r0, iv (0 : Int32), rv r2, iv (0 : Int32), iv (2 : Int32), iv (0 : Int32), iv c0] [(.int (c0.toInt8.toInt32)), (.int (0 : Int32)), (.ref r2)])) rfl rfl (hD d28_31)
  have N1 := Fr.snoc X1 N0 g_r2
  have Z1 : n0 ≤ h1.size := W1.size ▸ Z0
  have K1 : Keep h0 h1 [r2] := Keep.wr (Keep.refl h0 [r2]) W1 (Or.inl (List.mem_of_getElem? (i := 0) rfl))
  refine own_go st1 ?_
  refine own_go (fun t' k' => XS.iinc X1.here hx rfl (hD d28_32) rfl (l' := #[rv r0, iv (1 : Int32), rv r2, iv (0 : Int32), iv (2 : Int32), iv (0 : Int32), iv c0]) rfl k') ?_
  refine own_go (fun t' k' => XS.iinc X1.here hx rfl (hD d28_35) rfl (l' := #[rv r0, iv (1 : Int32), rv r2, iv (1 : Int32), iv (2 : Int32), iv (0 : Int32), iv c0]) rfl k') ?_
  show Gm p e below T1 m 38 #[rv r0, iv (1 : Int32), rv r2, iv (1 : Int32), iv (2 : Int32), iv (0 : Int32), iv c0] [] _
  refine own_go (fun t' k' => XS.iinc X1.here hx rfl (hD d28_38) rfl (l' := #[rv r0, iv (1 : Int32), rv r2, iv (1 : Int32), iv (2 : Int32), iv (1 : Int32), iv c0]) rfl k') ?_
  refine own_go (fun t' k' => XS.goto X1.here hx rfl (pc0 := 41) (pc' := 3) rfl (hD d28_41) (by decide) (by decide) k') ?_
  refine own_go (fun t' k' => XS.iload X1.here hx rfl (hD d28_3) rfl k') ?_
  show Gm p e below T1 m 5 #[rv r0, iv (1 : Int32), rv r2, iv (1 : Int32), iv (2 : Int32), iv (1 : Int32), iv c0] [(.int (1 : Int32))] _
  refine own_go (fun t' k' => XS.iload X1.here hx rfl (hD d28_5) rfl k') ?_
  show Gm p e below T1 m 7 #[rv r0, iv (1 : Int32), rv r2, iv (1 : Int32), iv (2 : Int32), iv (1 : Int32), iv c0] [(.int (2 : Int32)), (.int (1 : Int32))] _
  refine own_go (fun t' k' => XS.icmpNo X1.here hx rfl (hD d28_7) rfl (XT.ii_ge_f (by decide)) k') ?_
  refine own_go (fun t' k' => XS.aloadN X1.here hx rfl (hD d28_10) rfl rfl k') ?_
  refine own_go (fun t' k' => XS.iloadN X1.here hx rfl (hD d28_11) rfl k') ?_
  show Gm p e below T1 m 12 #[rv r0, iv (1 : Int32), rv r2, iv (1 : Int32), iv (2 : Int32), iv (1 : Int32), iv c0] [(.int (1 : Int32)), (.ref r0)] _
  have f2 := (A.other W1 ne)
  refine own_go (fun t' k' => own_ldC X1 hx hZ e1 f2 (j := (1 : Int32)) (k := 1) (by decide) rfl (by decide) (w := (.int c1)) hf_1 (g := (mkF m 12 #[rv r0, iv (1 : Int32), rv r2, iv (1 : Int32), iv (2 : Int32), iv (1 : Int32), iv c0] [(.int (1 : Int32)), (.ref r0)])) rfl rfl (hD d28_12) k') ?_
  refine own_go (fun t' k' => XS.istore X1.here hx rfl (hD d28_13) rfl (l' := #[rv r0, iv (1 : Int32), rv r2, iv (1 : Int32), iv (2 : Int32), iv (1 : Int32), iv c1]) rfl k') ?_
  refine own_go (fun t' k' => XS.iload X1.here hx rfl (hD d28_15) rfl k') ?_
  show Gm p e below T1 m 17 #[rv r0, iv (1 : Int32), rv r2, iv (1 : Int32), iv (2 : Int32), iv (1 : Int32), iv c1] [(.int c1)] _
  refine own_go (fun t' k' => XS.sipush X1.here hx rfl (hD d28_17) k') ?_
  show Gm p e below T1 m 20 #[rv r0, iv (1 : Int32), rv r2, iv (1 : Int32), iv (2 : Int32), iv (1 : Int32), iv c1] [(.int (255 : Int32)), (.int c1)] _
  refine own_go (fun t' k' => XS.icmpYes X1.here hx rfl (pc0 := 20) (pc' := 26) rfl (hD d28_20) rfl (XT.ii_le_t hc_1) (by decide) (by decide) k') ?_
  refine own_go (fun t' k' => XS.aloadN X1.here hx rfl (hD d28_26) rfl rfl k') ?_
  refine own_go (fun t' k' => XS.iloadN X1.here hx rfl (hD d28_27) rfl k') ?_
  show Gm p e below T1 m 28 #[rv r0, iv (1 : Int32), rv r2, iv (1 : Int32), iv (2 : Int32), iv (1 : Int32), iv c1] [(.int (1 : Int32)), (.ref r2)] _
  refine own_go (fun t' k' => XS.iload X1.here hx rfl (hD d28_28) rfl k') ?_
  refine own_go (fun t' k' => XS.i2b X1.here hx rfl (hD d28_30) rfl k') ?_
  show Gm p e below T1 m 31 #[rv r0, iv (1 : Int32), rv r2, iv (1 : Int32), iv (2 : Int32), iv (1 : Int32), iv c1] [(.int (c1.toInt8.toInt32)), (.int (1 : Int32)), (.ref r2)] _
  obtain ⟨T3, h3, X3, e3, W3, A3, st3⟩ := own_stB X1 hx hZ e1 A1 (j := (1 : Int32)) (k := 1) (by decide) rfl (by decide) (y := (own_by c1)) rfl (g := (mkF m 31 #[rv r0, iv (1 : Int32), rv r2, iv (1 : Int32), iv (2 : Int32), iv (1 : Int32), iv c1] [(.int (c1.toInt8.toInt32)), (.int (1 : Int32)), (.ref r2)])) rfl rfl (hD d28_31)
  have N3 := Fr.snoc X3 N1 g_r2
  have Z3 : n0 ≤ h3.size := W3.size ▸ Z1
  have K3 : Keep h0 h3 [r2] := Keep.wr K1 W3 (Or.inl (List.mem_of_getElem? (i := 0) rfl))
  refine own_go st3 ?_
  refine own_go (fun t' k' => XS.iinc X3.here hx rfl (hD d28_32) rfl (l' := #[rv r0, iv (2 : Int32), rv r2, iv (1 : Int32), iv (2 : Int32), iv (1 : Int32), iv c1]) rfl k') ?_
  refine own_go (fun t' k' => XS.iinc X3.here hx rfl (hD d28_35) rfl (l' := #[rv r0, iv (2 : Int32), rv r2, iv (2 : Int32), iv (2 : Int32), iv (1 : Int32), iv c1]) rfl k') ?_
  show Gm p e below T3 m 38 #[rv r0, iv (2 : Int32), rv r2, iv (2 : Int32), iv (2 : Int32), iv (1 : Int32), iv c1] [] _
  refine own_go (fun t' k' => XS.iinc X3.here hx rfl (hD d28_38) rfl (l' := #[rv r0, iv (2 : Int32), rv r2, iv (2 : Int32), iv (2 : Int32), iv (2 : Int32), iv c1]) rfl k') ?_
  refine own_go (fun t' k' => XS.goto X3.here hx rfl (pc0 := 41) (pc' := 3) rfl (hD d28_41) (by decide) (by decide) k') ?_
  refine own_go (fun t' k' => XS.iload X3.here hx rfl (hD d28_3) rfl k') ?_
  show Gm p e below T3 m 5 #[rv r0, iv (2 : Int32), rv r2, iv (2 : Int32), iv (2 : Int32), iv (2 : Int32), iv c1] [(.int (2 : Int32))] _
  refine own_go (fun t' k' => XS.iload X3.here hx rfl (hD d28_5) rfl k') ?_
  show Gm p e below T3 m 7 #[rv r0, iv (2 : Int32), rv r2, iv (2 : Int32), iv (2 : Int32), iv (2 : Int32), iv c1] [(.int (2 : Int32)), (.int (2 : Int32))] _
  refine own_go (fun t' k' => XS.icmpYes X3.here hx rfl (pc0 := 7) (pc' := 44) rfl (hD d28_7) rfl (XT.ii_ge_t (by decide)) (by decide) (by decide) k') ?_
  refine own_go (fun t' k' => XS.iload X3.here hx rfl (hD d28_44) rfl k') ?_
  show Gm p e below T3 m 46 #[rv r0, iv (2 : Int32), rv r2, iv (2 : Int32), iv (2 : Int32), iv (2 : Int32), iv c1] [(.int (2 : Int32))] _
  exact own_retI X3 hx hlk (t := .int) Bd.returns rfl (by simp) (hD d28_46) e3 ⟨rfl, N3, K3, (fun i => if i = 1 then (.int (own_by c1)) else (fun i => if i = 0 then (.int (own_by c0)) else g i) i), A3⟩ (by decide) (by decide)
theorem d27_0 : decode jdk_52_method_16_code 0 = .ok (.iload_n 2, 1) := by decide +kernel
theorem d27_1 : decode jdk_52_method_16_code 1 = .ok (.newarray .byte, 2) := by decide +kernel
theorem d27_3 : decode jdk_52_method_16_code 3 = .ok (.astore_n 3, 1) := by decide +kernel
theorem d27_4 : decode jdk_52_method_16_code 4 = .ok (.aload_n 0, 1) := by decide +kernel
theorem d27_5 : decode jdk_52_method_16_code 5 = .ok (.iload_n 1, 1) := by decide +kernel
theorem d27_6 : decode jdk_52_method_16_code 6 = .ok (.aload_n 3, 1) := by decide +kernel
theorem d27_7 : decode jdk_52_method_16_code 7 = .ok (.iconst 0, 1) := by decide +kernel
theorem d27_8 : decode jdk_52_method_16_code 8 = .ok (.iload_n 2, 1) := by decide +kernel
theorem d27_9 : decode jdk_52_method_16_code 9 = .ok (.invokestatic 115, 3) := by decide +kernel
theorem d27_12 : decode jdk_52_method_16_code 12 = .ok (.istore 4, 2) := by decide +kernel
theorem d27_14 : decode jdk_52_method_16_code 14 = .ok (.iload 4, 2) := by decide +kernel
theorem d27_16 : decode jdk_52_method_16_code 16 = .ok (.iload_n 2, 1) := by decide +kernel
theorem d27_17 : decode jdk_52_method_16_code 17 = .ok (.if_icmp .eq 40, 3) := by decide +kernel
theorem d27_57 : decode jdk_52_method_16_code 57 = .ok (.aload_n 3, 1) := by decide +kernel
theorem d27_58 : decode jdk_52_method_16_code 58 = .ok (.areturn, 1) := by decide +kernel
theorem own_pd0 : parseMethodDescriptor "([CI[BII)I" = some ⟨[(.array .char), .int, (.array .byte), .int, .int], some .int⟩ := by decide +kernel
theorem own_pn_rmP_2 : plainName "java/lang/StringUTF16" = true := by first | (simp [plainName, overriddenIn]; done) | decide +kernel
theorem own_ef_rmP_2 (m : MethodId) (r0 : Addr) : entryFrame m #[(.ref r0), (.int (0 : Int32)), (.int (2 : Int32))] 6 = mkF m 0 #[.val (.ref r0), .val (.int (0 : Int32)), .val (.int (2 : Int32)), .unset, .unset, .unset] [] := by first | (simp [entryFrame, mkF, argsToLocals, Value.category]; done) | rfl
def QP_2 (Z : State) (r0 : Addr) (f : Nat → Value) (c0 : Int32) (c1 : Int32) (h0 : Heap) (n0 : Nat) (v : Option Value) (h : Heap) (L : List Loc) : Prop := ∃ (b : Addr) (f' : Nat → Value), v = some (.ref b) ∧ Fr n0 L ∧ Keep h0 h [] ∧ h0.size ≤ b ∧ Exa Z h b "[B" ∧ Af Z h b .byte 2 f'
set_option maxRecDepth 65536 in
set_option maxHeartbeats 40000000 in
theorem rmP_2 (l : Launch) (Z : State) (a0 : Array Value) (hw : ∀ d ∈ tables_1, d.before a0 Z = true) (ws : List Jvm.Cond) (r0 : Addr) (f : Nat → Value) (c0 : Int32) (c1 : Int32) (h0 : Heap) (n0 : Nat) (Z0 : n0 ≤ h0.size) (A : Af Z h0 r0 .char 2 f) (hf_0 : f 0 = .int c0) (hf_1 : f 1 = .int c1) (hc_0 : ¬ (255 : Int32) < c0) (hc_1 : ¬ (255 : Int32) < c1) :
    MetFree l (⟨"java/lang/StringUTF16", "compress", "([CII)[B"⟩ : MethodName) (head1 (Jvm.Cond.code (⟨"java/lang/StringUTF16", "compress", "([CII)[B"⟩ : MethodName) jdk_52_method_16_code 6 (some (.array .byte)) :: ws) ({ frames := 1, cells := 1, slots := 2, locals := 18 } : Room)) (fun a U => a = #[(.ref r0), (.int (0 : Int32)), (.int (2 : Int32))] ∧ Z.Warmed39 U.vm ∧ U.heap = h0) (fun _ _ _ _ _ => True) (fun _ U o U' => ∃ v L, o = .returned v ∧ QP_2 Z r0 f c0 c1 h0 n0 v U'.heap L ∧ FrameEnd U o U' L ({ frames := 1, cells := 1, slots := 2, locals := 18 } : Room).cells ({ frames := 1, cells := 1, slots := 2, locals := 18 } : Room).slots) := by
  refine MetFree.of_bodySF (plainFor_of_name own_pn_rmP_2) hisR ?_
  intro p e s m args below meth cO s₁ Bd hml0 hP hK
  obtain ⟨rfl, hZ, hh⟩ := hP
  have hx := Bd.exec
  have hby := Bd.bytes
  have hD := @Jvm.hb _ _ hby
  have hml : cO.maxLocals = 6 := hml0
  have hown : s.vm.findClass "java/lang/StringUTF16" = some m.cls := findClass_of_methodNamed Bd.named
  have hnm := (name_of_methodNamed Bd.named Bd.method).1
  have hlk : meth.locks = false := BodyLoose.notSynchronized Bd
  have X0 : Stand p l e ({ frames := 1, cells := 1, slots := 2, locals := 18 } : Room) s m #[(.ref r0), (.int (0 : Int32)), (.int (2 : Int32))] below meth cO s₁ [] 0 0 := Stand.of_body Bd
  have e0 : s₁.heap = h0 := by rw [← hh, Bd.state]; rfl
  have N0 := Fr.nil n0
  refine own_in (own_ef_rmP_2 m r0) ?_
  show Gm p e below s₁ m 0 #[rv r0, iv (0 : Int32), iv (2 : Int32), .unset, .unset, .unset] [] _
  refine own_go (fun t' k' => XS.iloadN X0.here hx rfl (hD d27_0) rfl k') ?_
  show Gm p e below s₁ m 1 #[rv r0, iv (0 : Int32), iv (2 : Int32), .unset, .unset, .unset] [(.int (2 : Int32))] _
  obtain ⟨T1, h1, k1, X1, e1, E1, A1, Y1, st1⟩ := newPE X0 hx hZ (hw _ (List.mem_of_getElem? (i := 18) rfl)) e0 (g := (mkF m 1 #[rv r0, iv (0 : Int32), iv (2 : Int32), .unset, .unset, .unset] [(.int (2 : Int32))])) rfl (hD d27_1) rfl (by decide) (cap := 2) (by decide) (by decide) (by decide) (by decide) (ad := "[B") (by decide)
  obtain ⟨b1, g1⟩ : ∃ z, z = h0.size := ⟨_, rfl⟩
  rw [← g1] at A1 st1 Y1
  have g_b1 : n0 ≤ b1 := Nat.le_trans Z0 (Nat.le_of_eq g1.symm)
  have ne_r0_b1 : r0 ≠ b1 := Nat.ne_of_lt (Nat.lt_of_lt_of_le A.lt (Nat.le_of_eq g1.symm))
  have sz_b1 : h0.size ≤ b1 := Nat.le_trans (Keep.refl h0 []).1 (Nat.le_of_eq g1.symm)
  have K1 : Keep h0 h1 [] := Keep.ext (Keep.refl h0 []) E1
  have Z1 : n0 ≤ h1.size := Nat.le_trans Z0 E1.1
  have V1 : Af Z h1 b1 .byte 2 (fun _ => defaultValue .byte) := Af.new A1 (by decide) rfl rfl
  refine own_go st1 ?_
  refine own_go (fun t' k' => XS.astoreN X1.here hx rfl (hD d27_3) rfl rfl (l' := #[rv r0, iv (0 : Int32), iv (2 : Int32), rv b1, .unset, .unset]) rfl k') ?_
  refine own_go (fun t' k' => XS.aloadN X1.here hx rfl (hD d27_4) rfl rfl k') ?_
  show Gm p e below T1 m 5 #[rv r0, iv (0 : Int32), iv (2 : Int32), rv b1, .unset, .unset] [(.ref r0)] _
  refine own_go (fun t' k' => XS.iloadN X1.here hx rfl (hD d27_5) rfl k') ?_
  refine own_go (fun t' k' => XS.aloadN X1.here hx rfl (hD d27_6) rfl rfl k') ?_
  refine own_go (fun t' k' => XS.iconst X1.here hx rfl (hD d27_7) k') ?_
  show Gm p e below T1 m 8 #[rv r0, iv (0 : Int32), iv (2 : Int32), rv b1, .unset, .unset] [(.int (0 : Int32)), (.ref b1), (.int (0 : Int32)), (.ref r0)] _
  refine own_go (fun t' k' => XS.iloadN X1.here hx rfl (hD d27_8) rfl k') ?_
  show Gm p e below T1 m 9 #[rv r0, iv (0 : Int32), iv (2 : Int32), rv b1, .unset, .unset] [(.int (2 : Int32)), (.int (0 : Int32)), (.ref b1), (.int (0 : Int32)), (.ref r0)] _
  have f2 := (A.ext E1)
  obtain ⟨_, _, ⟨T3, L3, k3, n3⟩, -, X3, ⟨Lc3, hQ3, l3, y3, z3⟩, st3⟩ := Jvm.LawKit.callS X1 hx (y := (⟨"java/lang/StringUTF16", "compress", "([CI[BII)I"⟩ : MethodName)) hown (mvT hZ (hw _ (List.mem_of_getElem? (i := 154) rfl))) (mvT hZ (hw _ (List.mem_of_getElem? (i := 155) rfl))) (mvT hZ (hw _ (List.mem_of_getElem? (i := 152) rfl))) (mvT hZ (hw _ (List.mem_of_getElem? (i := 156) rfl))) (by decide) (backOf (W := 0) (rmK_2 l Z a0 hw [] r0 b1 f (fun _ => defaultValue .byte) c0 c1 h1 n0 Z1 f2 V1 hf_0 hf_1 hc_0 hc_1 g_b1 ne_r0_b1) hZ (hw _ (List.mem_of_getElem? (i := 156) rfl)) (hw _ (List.mem_of_getElem? (i := 152) rfl)) (by decide) (by decide)) (g := (mkF m 9 #[rv r0, iv (0 : Int32), iv (2 : Int32), rv b1, .unset, .unset] [(.int (2 : Int32)), (.int (0 : Int32)), (.ref b1), (.int (0 : Int32)), (.ref r0)])) rfl (by rw [hml]; rfl) (argsL := [(.ref r0), (.int (0 : Int32)), (.ref b1), (.int (0 : Int32)), (.int (2 : Int32))]) (rest := []) (lenOf own_pd0 rfl) rfl (by show 2 * 0 + _ ≤ _; exact Nat.le_of_eq rfl) (hD d27_9) (fun _ _ => ⟨rfl, e1, (by decide : 1 + 0 ≤ _), (by decide : 2 + 0 ≤ _)⟩)
  dsimp only [Pt.U, Pt.locs, Pt.cells, Pt.slots] at X3 l3 y3 z3 st3 hQ3
  subst l3 y3 z3
  obtain ⟨rfl, Nq3, Kc3, fk3, Ak3⟩ := hQ3
  have N3 := Fr.app N0 Nq3
  refine own_go st3 ?_
  have Z3 : n0 ≤ T3.heap.size := Nat.le_trans Z1 Kc3.1
  have K3 : Keep h0 T3.heap [] := Keep.trans K1 Kc3 (allS (Or.inr sz_b1) all0)
  refine own_go (fun t' k' => XS.istore X3.here hx rfl (hD d27_12) rfl (l' := #[rv r0, iv (0 : Int32), iv (2 : Int32), rv b1, iv (2 : Int32), .unset]) rfl k') ?_
  refine own_go (fun t' k' => XS.iload X3.here hx rfl (hD d27_14) rfl k') ?_
  show Gm p e below T3 m 16 #[rv r0, iv (0 : Int32), iv (2 : Int32), rv b1, iv (2 : Int32), .unset] [(.int (2 : Int32))] _
  refine own_go (fun t' k' => XS.iloadN X3.here hx rfl (hD d27_16) rfl k') ?_
  show Gm p e below T3 m 17 #[rv r0, iv (0 : Int32), iv (2 : Int32), rv b1, iv (2 : Int32), .unset] [(.int (2 : Int32)), (.int (2 : Int32))] _
  refine own_go (fun t' k' => XS.icmpYes X3.here hx rfl (pc0 := 17) (pc' := 57) rfl (hD d27_17) rfl (XT.ii_eq_t (by decide)) (by decide) (by decide) k') ?_
  refine own_go (fun t' k' => XS.aloadN X3.here hx rfl (hD d27_57) rfl rfl k') ?_
  show Gm p e below T3 m 58 #[rv r0, iv (0 : Int32), iv (2 : Int32), rv b1, iv (2 : Int32), .unset] [(.ref b1)] _
  have f4 := (Y1.keep Kc3)
  exact own_retA X3 hx hlk rfl Bd.returns rfl (hD d27_58) rfl ⟨b1, fk3, rfl, N3, K3, sz_b1, f4, Ak3⟩ (by decide) (by decide)
theorem d29_0 : decode jdk_52_method_15_code 0 = .ok (.iload_n 1, 1) := by decide +kernel
theorem d29_1 : decode jdk_52_method_15_code 1 = .ok (.aload_n 0, 1) := by decide +kernel
theorem d29_2 : decode jdk_52_method_15_code 2 = .ok (.arraylength, 1) := by decide +kernel
theorem d29_3 : decode jdk_52_method_15_code 3 = .ok (.isub, 1) := by decide +kernel
theorem d29_4 : decode jdk_52_method_15_code 4 = .ok (.bipush 31, 2) := by decide +kernel
theorem d29_6 : decode jdk_52_method_15_code 6 = .ok (.iushr, 1) := by decide +kernel
theorem d29_7 : decode jdk_52_method_15_code 7 = .ok (.i2b, 1) := by decide +kernel
theorem d29_8 : decode jdk_52_method_15_code 8 = .ok (.ireturn, 1) := by decide +kernel
theorem own_pn_rmD_2 : plainName "java/lang/StringUTF16" = true := by first | (simp [plainName, overriddenIn]; done) | decide +kernel
theorem own_ef_rmD_2 (m : MethodId) (r0 : Addr) : entryFrame m #[(.ref r0), (.int (2 : Int32))] 2 = mkF m 0 #[.val (.ref r0), .val (.int (2 : Int32))] [] := by first | (simp [entryFrame, mkF, argsToLocals, Value.category]; done) | rfl
def QD_2 (Z : State) (r0 : Addr) (f : Nat → Value) (h0 : Heap) (n0 : Nat) (v : Option Value) (h : Heap) (L : List Loc) : Prop := v = some (.int (0 : Int32)) ∧ Fr n0 L ∧ h = h0
set_option maxRecDepth 65536 in
set_option maxHeartbeats 40000000 in
theorem rmD_2 (l : Launch) (Z : State) (a0 : Array Value) (hw : ∀ d ∈ tables_1, d.before a0 Z = true) (ws : List Jvm.Cond) (r0 : Addr) (f : Nat → Value) (h0 : Heap) (n0 : Nat) (Z0 : n0 ≤ h0.size) (A : Af Z h0 r0 .byte 2 f) :
    MetFree l (⟨"java/lang/StringUTF16", "coderFromArrayLen", "([BI)B"⟩ : MethodName) (head1 (Jvm.Cond.code (⟨"java/lang/StringUTF16", "coderFromArrayLen", "([BI)B"⟩ : MethodName) jdk_52_method_15_code 2 (some .byte) :: ws) ({ frames := 0, cells := 0, slots := 0, locals := 0 } : Room)) (fun a U => a = #[(.ref r0), (.int (2 : Int32))] ∧ Z.Warmed39 U.vm ∧ U.heap = h0) (fun _ _ _ _ _ => True) (fun _ U o U' => ∃ v L, o = .returned v ∧ QD_2 Z r0 f h0 n0 v U'.heap L ∧ FrameEnd U o U' L ({ frames := 0, cells := 0, slots := 0, locals := 0 } : Room).cells ({ frames := 0, cells := 0, slots := 0, locals := 0 } : Room).slots) := by
  refine MetFree.of_bodySF (plainFor_of_name own_pn_rmD_2) hisR ?_
  intro p e s m args below meth cO s₁ Bd hml0 hP hK
  obtain ⟨rfl, hZ, hh⟩ := hP
  have hx := Bd.exec
  have hby := Bd.bytes
  have hD := @Jvm.hb _ _ hby
  have hml : cO.maxLocals = 2 := hml0
  have hown : s.vm.findClass "java/lang/StringUTF16" = some m.cls := findClass_of_methodNamed Bd.named
  have hnm := (name_of_methodNamed Bd.named Bd.method).1
  have hlk : meth.locks = false := BodyLoose.notSynchronized Bd
  have X0 : Stand p l e ({ frames := 0, cells := 0, slots := 0, locals := 0 } : Room) s m #[(.ref r0), (.int (2 : Int32))] below meth cO s₁ [] 0 0 := Stand.of_body Bd
  have e0 : s₁.heap = h0 := by rw [← hh, Bd.state]; rfl
  have N0 := Fr.nil n0
  refine own_in (own_ef_rmD_2 m r0) ?_
  show Gm p e below s₁ m 0 #[rv r0, iv (2 : Int32)] [] _
  refine own_go (fun t' k' => XS.iloadN X0.here hx rfl (hD d29_0) rfl k') ?_
  refine own_go (fun t' k' => XS.aloadN X0.here hx rfl (hD d29_1) rfl rfl k') ?_
  show Gm p e below s₁ m 2 #[rv r0, iv (2 : Int32)] [(.ref r0), (.int (2 : Int32))] _
  refine own_go (fun t' k' => own_len X0 hx hZ e0 A (z := (2 : Int32)) rfl (g := (mkF m 2 #[rv r0, iv (2 : Int32)] [(.ref r0), (.int (2 : Int32))])) rfl rfl (hD d29_2) k') ?_
  refine own_go (fun t' k' => XS.isub X0.here hx rfl (hD d29_3) rfl k') ?_
  refine own_go (fun t' k' => XS.bipush X0.here hx rfl (hD d29_4) k') ?_
  show Gm p e below s₁ m 6 #[rv r0, iv (2 : Int32)] [(.int (31 : Int32)), (.int (0 : Int32))] _
  refine own_go (fun t' k' => XS.iushr X0.here hx rfl (hD d29_6) rfl k') ?_
  refine own_go (fun t' k' => XS.i2b X0.here hx rfl (hD d29_7) rfl k') ?_
  show Gm p e below s₁ m 8 #[rv r0, iv (2 : Int32)] [(.int ((((0 : Int32).toUInt32 >>> ((31 : Int32) &&& 31).toUInt32).toInt32).toInt8.toInt32))] _
  exact own_retI X0 hx hlk (t := .byte) Bd.returns (by decide +kernel) (by simp) (hD d29_8) e0 ⟨(by decide +kernel), N0, rfl⟩ (by decide) (by decide)
theorem d8_0 : decode jdk_42_method_149_code 0 = .ok (.aload_n 0, 1) := by decide +kernel
theorem d8_1 : decode jdk_42_method_149_code 1 = .ok (.invokespecial 1, 3) := by decide +kernel
theorem d8_4 : decode jdk_42_method_149_code 4 = .ok (.iload_n 3, 1) := by decide +kernel
theorem d8_5 : decode jdk_42_method_149_code 5 = .ok (.ifCond .ne 22, 3) := by decide +kernel
theorem d8_27 : decode jdk_42_method_149_code 27 = .ok (.getstatic 38, 3) := by decide +kernel
theorem d8_30 : decode jdk_42_method_149_code 30 = .ok (.ifCond .eq 28, 3) := by decide +kernel
theorem d8_33 : decode jdk_42_method_149_code 33 = .ok (.aload_n 1, 1) := by decide +kernel
theorem d8_34 : decode jdk_42_method_149_code 34 = .ok (.iload_n 2, 1) := by decide +kernel
theorem d8_35 : decode jdk_42_method_149_code 35 = .ok (.iload_n 3, 1) := by decide +kernel
theorem d8_36 : decode jdk_42_method_149_code 36 = .ok (.invokestatic 177, 3) := by decide +kernel
theorem d8_39 : decode jdk_42_method_149_code 39 = .ok (.astore 5, 2) := by decide +kernel
theorem d8_41 : decode jdk_42_method_149_code 41 = .ok (.aload_n 0, 1) := by decide +kernel
theorem d8_42 : decode jdk_42_method_149_code 42 = .ok (.aload 5, 2) := by decide +kernel
theorem d8_44 : decode jdk_42_method_149_code 44 = .ok (.iload_n 3, 1) := by decide +kernel
theorem d8_45 : decode jdk_42_method_149_code 45 = .ok (.invokestatic 47, 3) := by decide +kernel
theorem d8_48 : decode jdk_42_method_149_code 48 = .ok (.putfield 15, 3) := by decide +kernel
theorem d8_51 : decode jdk_42_method_149_code 51 = .ok (.aload_n 0, 1) := by decide +kernel
theorem d8_52 : decode jdk_42_method_149_code 52 = .ok (.aload 5, 2) := by decide +kernel
theorem d8_54 : decode jdk_42_method_149_code 54 = .ok (.putfield 9, 3) := by decide +kernel
theorem d8_57 : decode jdk_42_method_149_code 57 = .ok (.return_, 1) := by decide +kernel
theorem own_pd1 : parseMethodDescriptor "([CII)[B" = some ⟨[(.array .char), .int, .int], some (.array .byte)⟩ := by decide +kernel
theorem own_pd2 : parseMethodDescriptor "([BI)B" = some ⟨[(.array .byte), .int], some .byte⟩ := by decide +kernel
theorem own_pn_rmV_2 : plainName "java/lang/String" = true := by first | (simp [plainName, overriddenIn]; done) | decide +kernel
theorem own_ef_rmV_2 (m : MethodId) (r0 : Addr) (r1 : Addr) : entryFrame m #[(.ref r0), (.ref r1), (.int (0 : Int32)), (.int (2 : Int32)), .null] 6 = mkF m 0 #[.val (.ref r0), .val (.ref r1), .val (.int (0 : Int32)), .val (.int (2 : Int32)), .val .null, .unset] [] := by first | (simp [entryFrame, mkF, argsToLocals, Value.category]; done) | rfl
def QV_2 (Z : State) (r0 : Addr) (r1 : Addr) (f : Nat → Value) (c0 : Int32) (c1 : Int32) (cs : Int32) (h0 : Heap) (n0 : Nat) (v : Option Value) (h : Heap) (L : List Loc) : Prop := ∃ (b : Addr) (f' : Nat → Value), v = none ∧ Fr n0 L ∧ Keep h0 h [r0] ∧ Exa Z h r0 "java/lang/String" ∧ Fld Z h r0 "java/lang/String" "coder" "B" (.int (0 : Int32)) ∧ Fld Z h r0 "java/lang/String" "value" "[B" (.ref b) ∧ Exa Z h b "[B" ∧ Af Z h b .byte 2 f'
set_option maxRecDepth 65536 in
set_option maxHeartbeats 40000000 in
theorem rmV_2 (l : Launch) (Z : State) (a0 : Array Value) (hw : ∀ d ∈ tables_1, d.before a0 Z = true) (ws : List Jvm.Cond) (r0 : Addr) (r1 : Addr) (f : Nat → Value) (c0 : Int32) (c1 : Int32) (cs : Int32) (h0 : Heap) (n0 : Nat) (Z0 : n0 ≤ h0.size) (E_r0 : Exa Z h0 r0 "java/lang/String") (F_v : Fld Z h0 r0 "java/lang/String" "value" "[B" .null) (F_c : Fld Z h0 r0 "java/lang/String" "coder" "B" (.int (0 : Int32))) (A : Af Z h0 r1 .char 2 f) (hf_0 : f 0 = .int c0) (hf_1 : f 1 = .int c1) (hc_0 : ¬ (255 : Int32) < c0) (hc_1 : ¬ (255 : Int32) < c1) (S_c : Sta Z h0 "java/lang/String" "COMPACT_STRINGS" "Z" (.int cs)) (hcs : ¬ cs = 0) (g_r0 : n0 ≤ r0) :
    MetFree l (⟨"java/lang/String", "<init>", "([CIILjava/lang/Void;)V"⟩ : MethodName) (head1 (Jvm.Cond.code (⟨"java/lang/String", "<init>", "([CIILjava/lang/Void;)V"⟩ : MethodName) jdk_42_method_149_code 6 none :: ws) ({ frames := 2, cells := 1, slots := 2, locals := 35 } : Room)) (fun a U => a = #[(.ref r0), (.ref r1), (.int (0 : Int32)), (.int (2 : Int32)), .null] ∧ Z.Warmed39 U.vm ∧ U.heap = h0) (fun _ _ _ _ _ => True) (fun _ U o U' => ∃ v L, o = .returned v ∧ QV_2 Z r0 r1 f c0 c1 cs h0 n0 v U'.heap L ∧ FrameEnd U o U' L ({ frames := 2, cells := 1, slots := 2, locals := 35 } : Room).cells ({ frames := 2, cells := 1, slots := 2, locals := 35 } : Room).slots) := by
  refine MetFree.of_bodySF (plainFor_of_name own_pn_rmV_2) hisR ?_
  intro p e s m args below meth cO s₁ Bd hml0 hP hK
  obtain ⟨rfl, hZ, hh⟩ := hP
  have hx := Bd.exec
  have hby := Bd.bytes
  have hD := @Jvm.hb _ _ hby
  have hml : cO.maxLocals = 6 := hml0
  have hown : s.vm.findClass "java/lang/String" = some m.cls := findClass_of_methodNamed Bd.named
  have hnm := (name_of_methodNamed Bd.named Bd.method).1
  have hlk : meth.locks = false := BodyLoose.notSynchronized Bd
  have X0 : Stand p l e ({ frames := 2, cells := 1, slots := 2, locals := 35 } : Room) s m #[(.ref r0), (.ref r1), (.int (0 : Int32)), (.int (2 : Int32)), .null] below meth cO s₁ [] 0 0 := Stand.of_body Bd
  have e0 : s₁.heap = h0 := by rw [← hh, Bd.state]; rfl
  have N0 := Fr.nil n0
  refine own_in (own_ef_rmV_2 m r0 r1) ?_
  show Gm p e below s₁ m 0 #[rv r0, rv r1, iv (0 : Int32), iv (2 : Int32), .val .null, .unset] [] _
  refine own_go (fun t' k' => XS.aloadN X0.here hx rfl (hD d8_0) rfl rfl k') ?_
  show Gm p e below s₁ m 1 #[rv r0, rv r1, iv (0 : Int32), iv (2 : Int32), .val .null, .unset] [(.ref r0)] _
  obtain ⟨T1, X1, e1, st1⟩ := initO X0 hx hZ hown (hw _ (List.mem_of_getElem? (i := 23) rfl)) (hw _ (List.mem_of_getElem? (i := 24) rfl)) (hw _ (List.mem_of_getElem? (i := 25) rfl)) e0 (g := (mkF m 1 #[rv r0, rv r1, iv (0 : Int32), iv (2 : Int32), .val .null, .unset] [(.ref r0)])) rfl (by rw [hml]; rfl) rfl (hD d8_1) (by decide) (W := 0) (by show 2 * 0 + _ ≤ _; exact Nat.le_of_eq rfl) (by decide)
  refine own_go st1 ?_
  refine own_go (fun t' k' => XS.iloadN X1.here hx rfl (hD d8_4) rfl k') ?_
  show Gm p e below T1 m 5 #[rv r0, rv r1, iv (0 : Int32), iv (2 : Int32), .val .null, .unset] [(.int (2 : Int32))] _
  refine own_go (fun t' k' => XS.ifYes X1.here hx rfl (pc0 := 5) (pc' := 27) rfl (hD d8_5) rfl (XT.i0_ne_t (by decide)) (by decide) (by decide) k') ?_
  show Gm p e below T1 m 27 #[rv r0, rv r1, iv (0 : Int32), iv (2 : Int32), .val .null, .unset] [] _
  obtain ⟨T2, X2, e2, st2⟩ := getS2 X1 hx hZ hown (host := "") (Or.inl (hw _ (List.mem_of_getElem? (i := 8) rfl))) Via.refl e1 S_c (g := (mkF m 27 #[rv r0, rv r1, iv (0 : Int32), iv (2 : Int32), .val .null, .unset] [])) rfl (hD d8_27)
  refine own_go st2 ?_
  show Gm p e below T2 m 30 #[rv r0, rv r1, iv (0 : Int32), iv (2 : Int32), .val .null, .unset] [(.int cs)] _
  refine own_go (fun t' k' => XS.ifNo X2.here hx rfl (hD d8_30) rfl (XT.i0_eq_f hcs) k') ?_
  refine own_go (fun t' k' => XS.aloadN X2.here hx rfl (hD d8_33) rfl rfl k') ?_
  refine own_go (fun t' k' => XS.iloadN X2.here hx rfl (hD d8_34) rfl k') ?_
  show Gm p e below T2 m 35 #[rv r0, rv r1, iv (0 : Int32), iv (2 : Int32), .val .null, .unset] [(.int (0 : Int32)), (.ref r1)] _
  refine own_go (fun t' k' => XS.iloadN X2.here hx rfl (hD d8_35) rfl k') ?_
  show Gm p e below T2 m 36 #[rv r0, rv r1, iv (0 : Int32), iv (2 : Int32), .val .null, .unset] [(.int (2 : Int32)), (.int (0 : Int32)), (.ref r1)] _
  obtain ⟨_, _, ⟨T3, L3, k3, n3⟩, -, X3, ⟨Lc3, hQ3, l3, y3, z3⟩, st3⟩ := Jvm.LawKit.callS X2 hx (y := (⟨"java/lang/StringUTF16", "compress", "([CII)[B"⟩ : MethodName)) hown (mvT hZ (hw _ (List.mem_of_getElem? (i := 150) rfl))) (mvT hZ (hw _ (List.mem_of_getElem? (i := 151) rfl))) (mvT hZ (hw _ (List.mem_of_getElem? (i := 152) rfl))) (mvT hZ (hw _ (List.mem_of_getElem? (i := 153) rfl))) (by decide) (backOf (W := 0) (rmP_2 l Z a0 hw [] r1 f c0 c1 h0 n0 Z0 A hf_0 hf_1 hc_0 hc_1) hZ (hw _ (List.mem_of_getElem? (i := 153) rfl)) (hw _ (List.mem_of_getElem? (i := 152) rfl)) (by decide) (by decide)) (g := (mkF m 36 #[rv r0, rv r1, iv (0 : Int32), iv (2 : Int32), .val .null, .unset] [(.int (2 : Int32)), (.int (0 : Int32)), (.ref r1)])) rfl (by rw [hml]; rfl) (argsL := [(.ref r1), (.int (0 : Int32)), (.int (2 : Int32))]) (rest := []) (lenOf own_pd1 rfl) rfl (by show 2 * 0 + _ ≤ _; exact Nat.le_of_eq rfl) (hD d8_36) (fun _ _ => ⟨rfl, e2, (by decide : 0 + 1 ≤ _), (by decide : 0 + 2 ≤ _)⟩)
  dsimp only [Pt.U, Pt.locs, Pt.cells, Pt.slots] at X3 l3 y3 z3 st3 hQ3
  subst l3 y3 z3
  obtain ⟨bp3, fp3, rfl, Nq3, Kc3, sz3, Ep3, Ap3⟩ := hQ3
  have N3 := Fr.app N0 Nq3
  refine own_go st3 ?_
  have g_bp3 : n0 ≤ bp3 := Nat.le_trans Z0 sz3
  have Z3 : n0 ≤ T3.heap.size := Nat.le_trans Z0 Kc3.1
  have K3 : Keep h0 T3.heap [r0] := Keep.trans (Keep.refl h0 [r0]) Kc3 all0
  have sz_bp3 : h0.size ≤ bp3 := Nat.le_trans (Keep.refl h0 [r0]).1 sz3
  refine own_go (fun t' k' => XS.astore X3.here hx rfl (hD d8_39) rfl rfl (l' := #[rv r0, rv r1, iv (0 : Int32), iv (2 : Int32), .val .null, rv bp3]) rfl k') ?_
  refine own_go (fun t' k' => XS.aloadN X3.here hx rfl (hD d8_41) rfl rfl k') ?_
  show Gm p e below T3 m 42 #[rv r0, rv r1, iv (0 : Int32), iv (2 : Int32), .val .null, rv bp3] [(.ref r0)] _
  refine own_go (fun t' k' => XS.aload X3.here hx rfl (hD d8_42) rfl rfl k') ?_
  refine own_go (fun t' k' => XS.iloadN X3.here hx rfl (hD d8_44) rfl k') ?_
  show Gm p e below T3 m 45 #[rv r0, rv r1, iv (0 : Int32), iv (2 : Int32), .val .null, rv bp3] [(.int (2 : Int32)), (.ref bp3), (.ref r0)] _
  obtain ⟨_, _, ⟨T4, L4, k4, n4⟩, -, X4, ⟨Lc4, hQ4, l4, y4, z4⟩, st4⟩ := Jvm.LawKit.callS X3 hx (y := (⟨"java/lang/StringUTF16", "coderFromArrayLen", "([BI)B"⟩ : MethodName)) hown (mvT hZ (hw _ (List.mem_of_getElem? (i := 157) rfl))) (mvT hZ (hw _ (List.mem_of_getElem? (i := 158) rfl))) (mvT hZ (hw _ (List.mem_of_getElem? (i := 152) rfl))) (mvT hZ (hw _ (List.mem_of_getElem? (i := 159) rfl))) (by decide) (backOf (W := 1) (rmD_2 l Z a0 hw [] bp3 fp3 T3.heap n0 Z3 Ap3) hZ (hw _ (List.mem_of_getElem? (i := 159) rfl)) (hw _ (List.mem_of_getElem? (i := 152) rfl)) (by decide) (by decide)) (g := (mkF m 45 #[rv r0, rv r1, iv (0 : Int32), iv (2 : Int32), .val .null, rv bp3] [(.int (2 : Int32)), (.ref bp3), (.ref r0)])) rfl (by rw [hml]; rfl) (argsL := [(.ref bp3), (.int (2 : Int32))]) (rest := [(.ref r0)]) (lenOf own_pd2 rfl) rfl (by show 2 * 0 + _ ≤ _; exact Nat.le_of_eq rfl) (hD d8_45) (fun _ _ => ⟨rfl, rfl, (by decide : 1 + 0 ≤ _), (by decide : 2 + 0 ≤ _)⟩)
  dsimp only [Pt.U, Pt.locs, Pt.cells, Pt.slots] at X4 l4 y4 z4 st4 hQ4
  subst l4 y4 z4
  obtain ⟨rfl, Nq4, eq4⟩ := hQ4
  have N4 := Fr.app N3 Nq4
  have e4 : T4.heap = T3.heap := eq4
  refine own_go st4 ?_
  show Gm p e below T4 m 48 #[rv r0, rv r1, iv (0 : Int32), iv (2 : Int32), .val .null, rv bp3] [(.int (0 : Int32)), (.ref r0)] _
  have f5 := (E_r0.keep Kc3)
  have f6 := (F_c.keep Kc3 nin0)
  obtain ⟨T7, h7, X7, e7, W7, st7⟩ := putFN X4 hx hZ hown (hw _ (List.mem_of_getElem? (i := 28) rfl)) Via.refl e4 f6 f5 (Or.inr ⟨(hw _ (List.mem_of_getElem? (i := 29) rfl)), rfl, hnm⟩) (hw _ (List.mem_of_getElem? (i := 14) rfl)) (ty := .byte) (v' := (.int (0 : Int32))) (by decide) rfl rfl (g := (mkF m 48 #[rv r0, rv r1, iv (0 : Int32), iv (2 : Int32), .val .null, rv bp3] [(.int (0 : Int32)), (.ref r0)])) rfl rfl (hD d8_48)
  have Fw7 := Fld.same W7 f6
  have N7 := Fr.snoc X7 N4 g_r0
  have Z7 : n0 ≤ h7.size := W7.size ▸ Z3
  have K7 : Keep h0 h7 [r0] := Keep.wr K3 W7 (Or.inl (List.mem_of_getElem? (i := 0) rfl))
  refine own_go st7 ?_
  refine own_go (fun t' k' => XS.aloadN X7.here hx rfl (hD d8_51) rfl rfl k') ?_
  refine own_go (fun t' k' => XS.aload X7.here hx rfl (hD d8_52) rfl rfl k') ?_
  show Gm p e below T7 m 54 #[rv r0, rv r1, iv (0 : Int32), iv (2 : Int32), .val .null, rv bp3] [(.ref bp3), (.ref r0)] _
  have f8 := (f5.wr W7)
  have f9 := (Fld.other W7 (F_v.keep Kc3 nin0) (Or.inr (slot_ne (Or.inr (hw _ (List.mem_of_getElem? (i := 27) rfl))) (Or.inr (hw _ (List.mem_of_getElem? (i := 29) rfl))) (by decide) (t := (.array .byte)) (t' := .byte) (by decide) (by decide))))
  obtain ⟨T10, h10, X10, e10, W10, st10⟩ := putF X7 hx hZ hown (host := "") (Or.inl (hw _ (List.mem_of_getElem? (i := 26) rfl))) Via.refl e7 f9 f8 (Or.inr ⟨(hw _ (List.mem_of_getElem? (i := 27) rfl)), rfl, hnm⟩) (hw _ (List.mem_of_getElem? (i := 14) rfl)) (ty := (.array .byte)) (by decide) rfl rfl (g := (mkF m 54 #[rv r0, rv r1, iv (0 : Int32), iv (2 : Int32), .val .null, rv bp3] [(.ref bp3), (.ref r0)])) rfl rfl (hD d8_54)
  have Fw10 := Fld.same W10 f9
  have N10 := Fr.snoc X10 N7 g_r0
  have Z10 : n0 ≤ h10.size := W10.size ▸ Z7
  have K10 : Keep h0 h10 [r0] := Keep.wr K7 W10 (Or.inl (List.mem_of_getElem? (i := 0) rfl))
  refine own_go st10 ?_
  show Gm p e below T10 m 57 #[rv r0, rv r1, iv (0 : Int32), iv (2 : Int32), .val .null, rv bp3] [] _
  have f11 := ((Ap3.other W7 (Ne.symm (Nat.ne_of_lt (Nat.lt_of_lt_of_le E_r0.lt sz3)))).other W10 (Ne.symm (Nat.ne_of_lt (Nat.lt_of_lt_of_le E_r0.lt sz3))))
  have f12 := (f8.wr W10)
  have f13 := (Fld.other W10 Fw7 (Or.inr (slot_ne (Or.inr (hw _ (List.mem_of_getElem? (i := 29) rfl))) (Or.inr (hw _ (List.mem_of_getElem? (i := 27) rfl))) (by decide) (t := .byte) (t' := (.array .byte)) (by decide) (by decide))))
  have f14 := ((Ep3.wr W7).wr W10)
  exact own_retV X10 hx hlk Bd.returns (hD d8_57) e10 ⟨bp3, fp3, rfl, N10, K10, f12, f13, Fw10, f14, f11⟩ (by decide) (by decide)
theorem d7_0 : decode jdk_42_method_3_code 0 = .ok (.aload_n 0, 1) := by decide +kernel
theorem d7_1 : decode jdk_42_method_3_code 1 = .ok (.aload_n 1, 1) := by decide +kernel
theorem d7_2 : decode jdk_42_method_3_code 2 = .ok (.iconst 0, 1) := by decide +kernel
theorem d7_3 : decode jdk_42_method_3_code 3 = .ok (.aload_n 1, 1) := by decide +kernel
theorem d7_4 : decode jdk_42_method_3_code 4 = .ok (.arraylength, 1) := by decide +kernel
theorem d7_5 : decode jdk_42_method_3_code 5 = .ok (.aconst_null, 1) := by decide +kernel
theorem d7_6 : decode jdk_42_method_3_code 6 = .ok (.invokespecial 27, 3) := by decide +kernel
theorem d7_9 : decode jdk_42_method_3_code 9 = .ok (.return_, 1) := by decide +kernel
theorem own_pd3 : parseMethodDescriptor "([CIILjava/lang/Void;)V" = some ⟨[(.array .char), .int, .int, (.object "java/lang/Void")], none⟩ := by decide +kernel
theorem own_pn_rmC_2 : plainName "java/lang/String" = true := by first | (simp [plainName, overriddenIn]; done) | decide +kernel
theorem own_ef_rmC_2 (m : MethodId) (r0 : Addr) (r1 : Addr) : entryFrame m #[(.ref r0), (.ref r1)] 2 = mkF m 0 #[.val (.ref r0), .val (.ref r1)] [] := by first | (simp [entryFrame, mkF, argsToLocals, Value.category]; done) | rfl
def QC_2 (Z : State) (r0 : Addr) (r1 : Addr) (f : Nat → Value) (c0 : Int32) (c1 : Int32) (cs : Int32) (h0 : Heap) (n0 : Nat) (v : Option Value) (h : Heap) (L : List Loc) : Prop := ∃ (b : Addr) (f' : Nat → Value), v = none ∧ Fr n0 L ∧ Keep h0 h [r0] ∧ Exa Z h r0 "java/lang/String" ∧ Fld Z h r0 "java/lang/String" "coder" "B" (.int (0 : Int32)) ∧ Fld Z h r0 "java/lang/String" "value" "[B" (.ref b) ∧ Exa Z h b "[B" ∧ Af Z h b .byte 2 f'
set_option maxRecDepth 65536 in
set_option maxHeartbeats 40000000 in
theorem rmC_2 (l : Launch) (Z : State) (a0 : Array Value) (hw : ∀ d ∈ tables_1, d.before a0 Z = true) (ws : List Jvm.Cond) (r0 : Addr) (r1 : Addr) (f : Nat → Value) (c0 : Int32) (c1 : Int32) (cs : Int32) (h0 : Heap) (n0 : Nat) (Z0 : n0 ≤ h0.size) (E_r0 : Exa Z h0 r0 "java/lang/String") (F_v : Fld Z h0 r0 "java/lang/String" "value" "[B" .null) (F_c : Fld Z h0 r0 "java/lang/String" "coder" "B" (.int (0 : Int32))) (A : Af Z h0 r1 .char 2 f) (hf_0 : f 0 = .int c0) (hf_1 : f 1 = .int c1) (hc_0 : ¬ (255 : Int32) < c0) (hc_1 : ¬ (255 : Int32) < c1) (S_c : Sta Z h0 "java/lang/String" "COMPACT_STRINGS" "Z" (.int cs)) (hcs : ¬ cs = 0) (g_r0 : n0 ≤ r0) :
    MetFree l (⟨"java/lang/String", "<init>", "([C)V"⟩ : MethodName) (head1 (Jvm.Cond.code (⟨"java/lang/String", "<init>", "([C)V"⟩ : MethodName) jdk_42_method_3_code 2 none :: ws) ({ frames := 3, cells := 1, slots := 2, locals := 52 } : Room)) (fun a U => a = #[(.ref r0), (.ref r1)] ∧ Z.Warmed39 U.vm ∧ U.heap = h0) (fun _ _ _ _ _ => True) (fun _ U o U' => ∃ v L, o = .returned v ∧ QC_2 Z r0 r1 f c0 c1 cs h0 n0 v U'.heap L ∧ FrameEnd U o U' L ({ frames := 3, cells := 1, slots := 2, locals := 52 } : Room).cells ({ frames := 3, cells := 1, slots := 2, locals := 52 } : Room).slots) := by
  refine MetFree.of_bodySF (plainFor_of_name own_pn_rmC_2) hisR ?_
  intro p e s m args below meth cO s₁ Bd hml0 hP hK
  obtain ⟨rfl, hZ, hh⟩ := hP
  have hx := Bd.exec
  have hby := Bd.bytes
  have hD := @Jvm.hb _ _ hby
  have hml : cO.maxLocals = 2 := hml0
  have hown : s.vm.findClass "java/lang/String" = some m.cls := findClass_of_methodNamed Bd.named
  have hnm := (name_of_methodNamed Bd.named Bd.method).1
  have hlk : meth.locks = false := BodyLoose.notSynchronized Bd
  have X0 : Stand p l e ({ frames := 3, cells := 1, slots := 2, locals := 52 } : Room) s m #[(.ref r0), (.ref r1)] below meth cO s₁ [] 0 0 := Stand.of_body Bd
  have e0 : s₁.heap = h0 := by rw [← hh, Bd.state]; rfl
  have N0 := Fr.nil n0
  refine own_in (own_ef_rmC_2 m r0 r1) ?_
  show Gm p e below s₁ m 0 #[rv r0, rv r1] [] _
  refine own_go (fun t' k' => XS.aloadN X0.here hx rfl (hD d7_0) rfl rfl k') ?_
  refine own_go (fun t' k' => XS.aloadN X0.here hx rfl (hD d7_1) rfl rfl k') ?_
  refine own_go (fun t' k' => XS.iconst X0.here hx rfl (hD d7_2) k') ?_
  show Gm p e below s₁ m 3 #[rv r0, rv r1] [(.int (0 : Int32)), (.ref r1), (.ref r0)] _
  refine own_go (fun t' k' => XS.aloadN X0.here hx rfl (hD d7_3) rfl rfl k') ?_
  show Gm p e below s₁ m 4 #[rv r0, rv r1] [(.ref r1), (.int (0 : Int32)), (.ref r1), (.ref r0)] _
  refine own_go (fun t' k' => own_len X0 hx hZ e0 A (z := (2 : Int32)) rfl (g := (mkF m 4 #[rv r0, rv r1] [(.ref r1), (.int (0 : Int32)), (.ref r1), (.ref r0)])) rfl rfl (hD d7_4) k') ?_
  refine own_go (fun t' k' => XS.aconstNull X0.here hx rfl (hD d7_5) k') ?_
  show Gm p e below s₁ m 6 #[rv r0, rv r1] [.null, (.int (2 : Int32)), (.int (0 : Int32)), (.ref r1), (.ref r0)] _
  obtain ⟨_, _, ⟨T1, L1, k1, n1⟩, -, X1, ⟨Lc1, hQ1, l1, y1, z1⟩, st1⟩ := X0.specialBack hx (y := (⟨"java/lang/String", "<init>", "([CIILjava/lang/Void;)V"⟩ : MethodName)) rfl hown (mvT hZ (hw _ (List.mem_of_getElem? (i := 35) rfl))) (mvT hZ (hw _ (List.mem_of_getElem? (i := 36) rfl))) (mvT hZ (hw _ (List.mem_of_getElem? (i := 37) rfl))) (by decide) (backOf (W := 0) (rmV_2 l Z a0 hw [] r0 r1 f c0 c1 cs h0 n0 Z0 E_r0 F_v F_c A hf_0 hf_1 hc_0 hc_1 S_c hcs g_r0) hZ (hw _ (List.mem_of_getElem? (i := 37) rfl)) (hw _ (List.mem_of_getElem? (i := 6) rfl)) (by decide) (by decide)) (g := (mkF m 6 #[rv r0, rv r1] [.null, (.int (2 : Int32)), (.int (0 : Int32)), (.ref r1), (.ref r0)])) rfl (by rw [hml]; rfl) (Steps.refl _) (a := r0) (argsL := [(.ref r1), (.int (0 : Int32)), (.int (2 : Int32)), .null]) (rest := []) (lenOf own_pd3 rfl) rfl (by show 2 * 0 + _ ≤ _; exact Nat.le_of_eq rfl) (hD d7_6) (fun _ _ => ⟨rfl, e0, (by decide : 0 + 1 ≤ _), (by decide : 0 + 2 ≤ _)⟩)
  dsimp only [Pt.U, Pt.locs, Pt.cells, Pt.slots] at X1 l1 y1 z1 st1 hQ1
  subst l1 y1 z1
  obtain ⟨bq1, fq1, rfl, Nq1, Kc1, Ec1, Fc1, Fv1, Eb1, Aq1⟩ := hQ1
  have N1 := Fr.app N0 Nq1
  refine own_go (fun t k => st1.trans k) ?_
  have Z1 : n0 ≤ T1.heap.size := Nat.le_trans Z0 Kc1.1
  have K1 : Keep h0 T1.heap [r0] := Keep.trans (Keep.refl h0 [r0]) Kc1 (allS (Or.inl (List.mem_of_getElem? (i := 0) rfl)) all0)
  show Gm p e below T1 m 9 #[rv r0, rv r1] [] _
  exact own_retV X1 hx hlk Bd.returns (hD d7_9) rfl ⟨bq1, fq1, rfl, N1, K1, Ec1, Fc1, Fv1, Eb1, Aq1⟩ (by decide) (by decide)
theorem own_pn_rmK_3 : plainName "java/lang/StringUTF16" = true := by first | (simp [plainName, overriddenIn]; done) | decide +kernel
theorem own_ef_rmK_3 (m : MethodId) (r0 : Addr) (r2 : Addr) : entryFrame m #[(.ref r0), (.int (0 : Int32)), (.ref r2), (.int (0 : Int32)), (.int (3 : Int32))] 7 = mkF m 0 #[.val (.ref r0), .val (.int (0 : Int32)), .val (.ref r2), .val (.int (0 : Int32)), .val (.int (3 : Int32)), .unset, .unset] [] := by first | (simp [entryFrame, mkF, argsToLocals, Value.category]; done) | rfl
def QK_3 (Z : State) (r0 : Addr) (r2 : Addr) (f : Nat → Value) (g : Nat → Value) (c0 : Int32) (c1 : Int32) (c2 : Int32) (h0 : Heap) (n0 : Nat) (v : Option Value) (h : Heap) (L : List Loc) : Prop := v = some (.int (3 : Int32)) ∧ Fr n0 L ∧ Keep h0 h [r2] ∧ ∃ f' : Nat → Value, Af Z h r2 .byte 3 f'
set_option maxRecDepth 65536 in
set_option maxHeartbeats 40000000 in
theorem rmK_3 (l : Launch) (Z : State) (a0 : Array Value) (hw : ∀ d ∈ tables_1, d.before a0 Z = true) (ws : List Jvm.Cond) (r0 : Addr) (r2 : Addr) (f : Nat → Value) (g : Nat → Value) (c0 : Int32) (c1 : Int32) (c2 : Int32) (h0 : Heap) (n0 : Nat) (Z0 : n0 ≤ h0.size) (A : Af Z h0 r0 .char 3 f) (B : Af Z h0 r2 .byte 3 g) (hf_0 : f 0 = .int c0) (hf_1 : f 1 = .int c1) (hf_2 : f 2 = .int c2) (hc_0 : ¬ (255 : Int32) < c0) (hc_1 : ¬ (255 : Int32) < c1) (hc_2 : ¬ (255 : Int32) < c2) (g_r2 : n0 ≤ r2) (ne : r0 ≠ r2) :
    MetFree l (⟨"java/lang/StringUTF16", "compress", "([CI[BII)I"⟩ : MethodName) (head1 (Jvm.Cond.code (⟨"java/lang/StringUTF16", "compress", "([CI[BII)I"⟩ : MethodName) jdk_52_method_21_code 7 (some .int) :: ws) ({ frames := 0, cells := 0, slots := 0, locals := 0 } : Room)) (fun a U => a = #[(.ref r0), (.int (0 : Int32)), (.ref r2), (.int (0 : Int32)), (.int (3 : Int32))] ∧ Z.Warmed39 U.vm ∧ U.heap = h0) (fun _ _ _ _ _ => True) (fun _ U o U' => ∃ v L, o = .returned v ∧ QK_3 Z r0 r2 f g c0 c1 c2 h0 n0 v U'.heap L ∧ FrameEnd U o U' L ({ frames := 0, cells := 0, slots := 0, locals := 0 } : Room).cells ({ frames := 0, cells := 0, slots := 0, locals := 0 } : Room).slots) := by
  refine MetFree.of_bodySF (plainFor_of_name own_pn_rmK_3) hisR ?_
  intro p e s m args below meth cO s₁ Bd hml0 hP hK
  obtain ⟨rfl, hZ, hh⟩ := hP
  have hx := Bd.exec
  have hby := Bd.bytes
  have hD := @Jvm.hb _ _ hby
  have hml : cO.maxLocals = 7 := hml0
  have hown : s.vm.findClass "java/lang/StringUTF16" = some m.cls := findClass_of_methodNamed Bd.named
  have hnm := (name_of_methodNamed Bd.named Bd.method).1
  have hlk : meth.locks = false := BodyLoose.notSynchronized Bd
  have X0 : Stand p l e ({ frames := 0, cells := 0, slots := 0, locals := 0 } : Room) s m #[(.ref r0), (.int (0 : Int32)), (.ref r2), (.int (0 : Int32)), (.int (3 : Int32))] below meth cO s₁ [] 0 0 := Stand.of_body Bd
  have e0 : s₁.heap = h0 := by rw [← hh, Bd.state]; rfl
  have N0 := Fr.nil n0
  refine own_in (own_ef_rmK_3 m r0 r2) ?_
  show Gm p e below s₁ m 0 #[rv r0, iv (0 : Int32), rv r2, iv (0 : Int32), iv (3 : Int32), .unset, .unset] [] _
  refine own_go (fun t' k' => XS.iconst X0.here hx rfl (hD d28_0) k') ?_
  refine own_go (fun t' k' => XS.istore X0.here hx rfl (hD d28_1) rfl (l' := #[rv r0, iv (0 : Int32), rv r2, iv (0 : Int32), iv (3 : Int32), iv (0 : Int32), .unset]) rfl k') ?_
  refine own_go (fun t' k' => XS.iload X0.here hx rfl (hD d28_3) rfl k') ?_
  show Gm p e below s₁ m 5 #[rv r0, iv (0 : Int32), rv r2, iv (0 : Int32), iv (3 : Int32), iv (0 : Int32), .unset] [(.int (0 : Int32))] _
  refine own_go (fun t' k' => XS.iload X0.here hx rfl (hD d28_5) rfl k') ?_
  show Gm p e below s₁ m 7 #[rv r0, iv (0 : Int32), rv r2, iv (0 : Int32), iv (3 : Int32), iv (0 : Int32), .unset] [(.int (3 : Int32)), (.int (0 : Int32))] _
  refine own_go (fun t' k' => XS.icmpNo X0.here hx rfl (hD d28_7) rfl (XT.ii_ge_f (by decide)) k') ?_
  refine own_go (fun t' k' => XS.aloadN X0.here hx rfl (hD d28_10) rfl rfl k') ?_
  refine own_go (fun t' k' => XS.iloadN X0.here hx rfl (hD d28_11) rfl k') ?_
  show Gm p e below s₁ m 12 #[rv r0, iv (0 : Int32), rv r2, iv (0 : Int32), iv (3 : Int32), iv (0 : Int32), .unset] [(.int (0 : Int32)), (.ref r0)] _
  refine own_go (fun t' k' => own_ldC X0 hx hZ e0 A (j := (0 : Int32)) (k := 0) (by decide) rfl (by decide) (w := (.int c0)) hf_0 (g := (mkF m 12 #[rv r0, iv (0 : Int32), rv r2, iv (0 : Int32), iv (3 : Int32), iv (0 : Int32), .unset] [(.int (0 : Int32)), (.ref r0)])) rfl rfl (hD d28_12) k') ?_
  refine own_go (fun t' k' => XS.istore X0.here hx rfl (hD d28_13) rfl (l' := #[rv r0, iv (0 : Int32), rv r2, iv (0 : Int32), iv (3 : Int32), iv (0 : Int32), iv c0]) rfl k') ?_
  refine own_go (fun t' k' => XS.iload X0.here hx rfl (hD d28_15) rfl k') ?_
  show Gm p e below s₁ m 17 #[rv r0, iv (0 : Int32), rv r2, iv (0 : Int32), iv (3 : Int32), iv (0 : Int32), iv c0] [(.int c0)] _
  refine own_go (fun t' k' => XS.sipush X0.here hx rfl (hD d28_17) k') ?_
  show Gm p e below s₁ m 20 #[rv r0, iv (0 : Int32), rv r2, iv (0 : Int32), iv (3 : Int32), iv (0 : Int32), iv c0] [(.int (255 : Int32)), (.int c0)] _
  refine own_go (fun t' k' => XS.icmpYes X0.here hx rfl (pc0 := 20) (pc' := 26) rfl (hD d28_20) rfl (XT.ii_le_t hc_0) (by decide) (by decide) k') ?_
  refine own_go (fun t' k' => XS.aloadN X0.here hx rfl (hD d28_26) rfl rfl k') ?_
  refine own_go (fun t' k' => XS.iloadN X0.here hx rfl (hD d28_27) rfl k') ?_
  show Gm p e below s₁ m 28 #[rv r0, iv (0 : Int32), rv r2, iv (0 : Int32), iv (3 : Int32), iv (0 : Int32), iv c0] [(.int (0 : Int32)), (.ref r2)] _
  refine own_go (fun t' k' => XS.iload X0.here hx rfl (hD d28_28) rfl k') ?_
  refine own_go (fun t' k' => XS.i2b X0.here hx rfl (hD d28_30) rfl k') ?_
  show Gm p e below s₁ m 31 #[rv r0, iv (0 : Int32), rv r2, iv (0 : Int32), iv (3 : Int32), iv (0 : Int32), iv c0] [(.int (c0.toInt8.toInt32)), (.int (0 : Int32)), (.ref r2)] _
  obtain ⟨T1, h1, X1, e1, W1, A1, st1⟩ := own_stB X0 hx hZ e0 B (j := (0 : Int32)) (k := 0) (by decide) rfl (by decide) (y := (own_by c0)) rfl (g := (mkF m 31 #[rv r0, iv (0 : Int32), rv r2, iv (0 : Int32), iv (3 : Int32), iv (0 : Int32), iv c0] [(.int (c0.toInt8.toInt32)), (.int (0 : Int32)), (.ref r2)])) rfl rfl (hD d28_31)
  have N1 := Fr.snoc X1 N0 g_r2
  have Z1 : n0 ≤ h1.size := W1.size ▸ Z0
  have K1 : Keep h0 h1 [r2] := Keep.wr (Keep.refl h0 [r2]) W1 (Or.inl (List.mem_of_getElem? (i := 0) rfl))
  refine own_go st1 ?_
  refine own_go (fun t' k' => XS.iinc X1.here hx rfl (hD d28_32) rfl (l' := #[rv r0, iv (1 : Int32), rv r2, iv (0 : Int32), iv (3 : Int32), iv (0 : Int32), iv c0]) rfl k') ?_
  refine own_go (fun t' k' => XS.iinc X1.here hx rfl (hD d28_35) rfl (l' := #[rv r0, iv (1 : Int32), rv r2, iv (1 : Int32), iv (3 : Int32), iv (0 : Int32), iv c0]) rfl k') ?_
  show Gm p e below T1 m 38 #[rv r0, iv (1 : Int32), rv r2, iv (1 : Int32), iv (3 : Int32), iv (0 : Int32), iv c0] [] _
  refine own_go (fun t' k' => XS.iinc X1.here hx rfl (hD d28_38) rfl (l' := #[rv r0, iv (1 : Int32), rv r2, iv (1 : Int32), iv (3 : Int32), iv (1 : Int32), iv c0]) rfl k') ?_
  refine own_go (fun t' k' => XS.goto X1.here hx rfl (pc0 := 41) (pc' := 3) rfl (hD d28_41) (by decide) (by decide) k') ?_
  refine own_go (fun t' k' => XS.iload X1.here hx rfl (hD d28_3) rfl k') ?_
  show Gm p e below T1 m 5 #[rv r0, iv (1 : Int32), rv r2, iv (1 : Int32), iv (3 : Int32), iv (1 : Int32), iv c0] [(.int (1 : Int32))] _
  refine own_go (fun t' k' => XS.iload X1.here hx rfl (hD d28_5) rfl k') ?_
  show Gm p e below T1 m 7 #[rv r0, iv (1 : Int32), rv r2, iv (1 : Int32), iv (3 : Int32), iv (1 : Int32), iv c0] [(.int (3 : Int32)), (.int (1 : Int32))] _
  refine own_go (fun t' k' => XS.icmpNo X1.here hx rfl (hD d28_7) rfl (XT.ii_ge_f (by decide)) k') ?_
  refine own_go (fun t' k' => XS.aloadN X1.here hx rfl (hD d28_10) rfl rfl k') ?_
  refine own_go (fun t' k' => XS.iloadN X1.here hx rfl (hD d28_11) rfl k') ?_
  show Gm p e below T1 m 12 #[rv r0, iv (1 : Int32), rv r2, iv (1 : Int32), iv (3 : Int32), iv (1 : Int32), iv c0] [(.int (1 : Int32)), (.ref r0)] _
  have f2 := (A.other W1 ne)
  refine own_go (fun t' k' => own_ldC X1 hx hZ e1 f2 (j := (1 : Int32)) (k := 1) (by decide) rfl (by decide) (w := (.int c1)) hf_1 (g := (mkF m 12 #[rv r0, iv (1 : Int32), rv r2, iv (1 : Int32), iv (3 : Int32), iv (1 : Int32), iv c0] [(.int (1 : Int32)), (.ref r0)])) rfl rfl (hD d28_12) k') ?_
  refine own_go (fun t' k' => XS.istore X1.here hx rfl (hD d28_13) rfl (l' := #[rv r0, iv (1 : Int32), rv r2, iv (1 : Int32), iv (3 : Int32), iv (1 : Int32), iv c1]) rfl k') ?_
  refine own_go (fun t' k' => XS.iload X1.here hx rfl (hD d28_15) rfl k') ?_
  show Gm p e below T1 m 17 #[rv r0, iv (1 : Int32), rv r2, iv (1 : Int32), iv (3 : Int32), iv (1 : Int32), iv c1] [(.int c1)] _
  refine own_go (fun t' k' => XS.sipush X1.here hx rfl (hD d28_17) k') ?_
  show Gm p e below T1 m 20 #[rv r0, iv (1 : Int32), rv r2, iv (1 : Int32), iv (3 : Int32), iv (1 : Int32), iv c1] [(.int (255 : Int32)), (.int c1)] _
  refine own_go (fun t' k' => XS.icmpYes X1.here hx rfl (pc0 := 20) (pc' := 26) rfl (hD d28_20) rfl (XT.ii_le_t hc_1) (by decide) (by decide) k') ?_
  refine own_go (fun t' k' => XS.aloadN X1.here hx rfl (hD d28_26) rfl rfl k') ?_
  refine own_go (fun t' k' => XS.iloadN X1.here hx rfl (hD d28_27) rfl k') ?_
  show Gm p e below T1 m 28 #[rv r0, iv (1 : Int32), rv r2, iv (1 : Int32), iv (3 : Int32), iv (1 : Int32), iv c1] [(.int (1 : Int32)), (.ref r2)] _
  refine own_go (fun t' k' => XS.iload X1.here hx rfl (hD d28_28) rfl k') ?_
  refine own_go (fun t' k' => XS.i2b X1.here hx rfl (hD d28_30) rfl k') ?_
  show Gm p e below T1 m 31 #[rv r0, iv (1 : Int32), rv r2, iv (1 : Int32), iv (3 : Int32), iv (1 : Int32), iv c1] [(.int (c1.toInt8.toInt32)), (.int (1 : Int32)), (.ref r2)] _
  obtain ⟨T3, h3, X3, e3, W3, A3, st3⟩ := own_stB X1 hx hZ e1 A1 (j := (1 : Int32)) (k := 1) (by decide) rfl (by decide) (y := (own_by c1)) rfl (g := (mkF m 31 #[rv r0, iv (1 : Int32), rv r2, iv (1 : Int32), iv (3 : Int32), iv (1 : Int32), iv c1] [(.int (c1.toInt8.toInt32)), (.int (1 : Int32)), (.ref r2)])) rfl rfl (hD d28_31)
  have N3 := Fr.snoc X3 N1 g_r2
  have Z3 : n0 ≤ h3.size := W3.size ▸ Z1
  have K3 : Keep h0 h3 [r2] := Keep.wr K1 W3 (Or.inl (List.mem_of_getElem? (i := 0) rfl))
  refine own_go st3 ?_
  refine own_go (fun t' k' => XS.iinc X3.here hx rfl (hD d28_32) rfl (l' := #[rv r0, iv (2 : Int32), rv r2, iv (1 : Int32), iv (3 : Int32), iv (1 : Int32), iv c1]) rfl k') ?_
  refine own_go (fun t' k' => XS.iinc X3.here hx rfl (hD d28_35) rfl (l' := #[rv r0, iv (2 : Int32), rv r2, iv (2 : Int32), iv (3 : Int32), iv (1 : Int32), iv c1]) rfl k') ?_
  show Gm p e below T3 m 38 #[rv r0, iv (2 : Int32), rv r2, iv (2 : Int32), iv (3 : Int32), iv (1 : Int32), iv c1] [] _
  refine own_go (fun t' k' => XS.iinc X3.here hx rfl (hD d28_38) rfl (l' := #[rv r0, iv (2 : Int32), rv r2, iv (2 : Int32), iv (3 : Int32), iv (2 : Int32), iv c1]) rfl k') ?_
  refine own_go (fun t' k' => XS.goto X3.here hx rfl (pc0 := 41) (pc' := 3) rfl (hD d28_41) (by decide) (by decide) k') ?_
  refine own_go (fun t' k' => XS.iload X3.here hx rfl (hD d28_3) rfl k') ?_
  show Gm p e below T3 m 5 #[rv r0, iv (2 : Int32), rv r2, iv (2 : Int32), iv (3 : Int32), iv (2 : Int32), iv c1] [(.int (2 : Int32))] _
  refine own_go (fun t' k' => XS.iload X3.here hx rfl (hD d28_5) rfl k') ?_
  show Gm p e below T3 m 7 #[rv r0, iv (2 : Int32), rv r2, iv (2 : Int32), iv (3 : Int32), iv (2 : Int32), iv c1] [(.int (3 : Int32)), (.int (2 : Int32))] _
  refine own_go (fun t' k' => XS.icmpNo X3.here hx rfl (hD d28_7) rfl (XT.ii_ge_f (by decide)) k') ?_
  refine own_go (fun t' k' => XS.aloadN X3.here hx rfl (hD d28_10) rfl rfl k') ?_
  refine own_go (fun t' k' => XS.iloadN X3.here hx rfl (hD d28_11) rfl k') ?_
  show Gm p e below T3 m 12 #[rv r0, iv (2 : Int32), rv r2, iv (2 : Int32), iv (3 : Int32), iv (2 : Int32), iv c1] [(.int (2 : Int32)), (.ref r0)] _
  have f4 := (f2.other W3 ne)
  refine own_go (fun t' k' => own_ldC X3 hx hZ e3 f4 (j := (2 : Int32)) (k := 2) (by decide) rfl (by decide) (w := (.int c2)) hf_2 (g := (mkF m 12 #[rv r0, iv (2 : Int32), rv r2, iv (2 : Int32), iv (3 : Int32), iv (2 : Int32), iv c1] [(.int (2 : Int32)), (.ref r0)])) rfl rfl (hD d28_12) k') ?_
  refine own_go (fun t' k' => XS.istore X3.here hx rfl (hD d28_13) rfl (l' := #[rv r0, iv (2 : Int32), rv r2, iv (2 : Int32), iv (3 : Int32), iv (2 : Int32), iv c2]) rfl k') ?_
  refine own_go (fun t' k' => XS.iload X3.here hx rfl (hD d28_15) rfl k') ?_
  show Gm p e below T3 m 17 #[rv r0, iv (2 : Int32), rv r2, iv (2 : Int32), iv (3 : Int32), iv (2 : Int32), iv c2] [(.int c2)] _
  refine own_go (fun t' k' => XS.sipush X3.here hx rfl (hD d28_17) k') ?_
  show Gm p e below T3 m 20 #[rv r0, iv (2 : Int32), rv r2, iv (2 : Int32), iv (3 : Int32), iv (2 : Int32), iv c2] [(.int (255 : Int32)), (.int c2)] _
  refine own_go (fun t' k' => XS.icmpYes X3.here hx rfl (pc0 := 20) (pc' := 26) rfl (hD d28_20) rfl (XT.ii_le_t hc_2) (by decide) (by decide) k') ?_
  refine own_go (fun t' k' => XS.aloadN X3.here hx rfl (hD d28_26) rfl rfl k') ?_
  refine own_go (fun t' k' => XS.iloadN X3.here hx rfl (hD d28_27) rfl k') ?_
  show Gm p e below T3 m 28 #[rv r0, iv (2 : Int32), rv r2, iv (2 : Int32), iv (3 : Int32), iv (2 : Int32), iv c2] [(.int (2 : Int32)), (.ref r2)] _
  refine own_go (fun t' k' => XS.iload X3.here hx rfl (hD d28_28) rfl k') ?_
  refine own_go (fun t' k' => XS.i2b X3.here hx rfl (hD d28_30) rfl k') ?_
  show Gm p e below T3 m 31 #[rv r0, iv (2 : Int32), rv r2, iv (2 : Int32), iv (3 : Int32), iv (2 : Int32), iv c2] [(.int (c2.toInt8.toInt32)), (.int (2 : Int32)), (.ref r2)] _
  obtain ⟨T5, h5, X5, e5, W5, A5, st5⟩ := own_stB X3 hx hZ e3 A3 (j := (2 : Int32)) (k := 2) (by decide) rfl (by decide) (y := (own_by c2)) rfl (g := (mkF m 31 #[rv r0, iv (2 : Int32), rv r2, iv (2 : Int32), iv (3 : Int32), iv (2 : Int32), iv c2] [(.int (c2.toInt8.toInt32)), (.int (2 : Int32)), (.ref r2)])) rfl rfl (hD d28_31)
  have N5 := Fr.snoc X5 N3 g_r2
  have Z5 : n0 ≤ h5.size := W5.size ▸ Z3
  have K5 : Keep h0 h5 [r2] := Keep.wr K3 W5 (Or.inl (List.mem_of_getElem? (i := 0) rfl))
  refine own_go st5 ?_
  refine own_go (fun t' k' => XS.iinc X5.here hx rfl (hD d28_32) rfl (l' := #[rv r0, iv (3 : Int32), rv r2, iv (2 : Int32), iv (3 : Int32), iv (2 : Int32), iv c2]) rfl k') ?_
  refine own_go (fun t' k' => XS.iinc X5.here hx rfl (hD d28_35) rfl (l' := #[rv r0, iv (3 : Int32), rv r2, iv (3 : Int32), iv (3 : Int32), iv (2 : Int32), iv c2]) rfl k') ?_
  show Gm p e below T5 m 38 #[rv r0, iv (3 : Int32), rv r2, iv (3 : Int32), iv (3 : Int32), iv (2 : Int32), iv c2] [] _
  refine own_go (fun t' k' => XS.iinc X5.here hx rfl (hD d28_38) rfl (l' := #[rv r0, iv (3 : Int32), rv r2, iv (3 : Int32), iv (3 : Int32), iv (3 : Int32), iv c2]) rfl k') ?_
  refine own_go (fun t' k' => XS.goto X5.here hx rfl (pc0 := 41) (pc' := 3) rfl (hD d28_41) (by decide) (by decide) k') ?_
  refine own_go (fun t' k' => XS.iload X5.here hx rfl (hD d28_3) rfl k') ?_
  show Gm p e below T5 m 5 #[rv r0, iv (3 : Int32), rv r2, iv (3 : Int32), iv (3 : Int32), iv (3 : Int32), iv c2] [(.int (3 : Int32))] _
  refine own_go (fun t' k' => XS.iload X5.here hx rfl (hD d28_5) rfl k') ?_
  show Gm p e below T5 m 7 #[rv r0, iv (3 : Int32), rv r2, iv (3 : Int32), iv (3 : Int32), iv (3 : Int32), iv c2] [(.int (3 : Int32)), (.int (3 : Int32))] _
  refine own_go (fun t' k' => XS.icmpYes X5.here hx rfl (pc0 := 7) (pc' := 44) rfl (hD d28_7) rfl (XT.ii_ge_t (by decide)) (by decide) (by decide) k') ?_
  refine own_go (fun t' k' => XS.iload X5.here hx rfl (hD d28_44) rfl k') ?_
  show Gm p e below T5 m 46 #[rv r0, iv (3 : Int32), rv r2, iv (3 : Int32), iv (3 : Int32), iv (3 : Int32), iv c2] [(.int (3 : Int32))] _
  exact own_retI X5 hx hlk (t := .int) Bd.returns rfl (by simp) (hD d28_46) e5 ⟨rfl, N5, K5, (fun i => if i = 2 then (.int (own_by c2)) else (fun i => if i = 1 then (.int (own_by c1)) else (fun i => if i = 0 then (.int (own_by c0)) else g i) i) i), A5⟩ (by decide) (by decide)
theorem own_pn_rmP_3 : plainName "java/lang/StringUTF16" = true := by first | (simp [plainName, overriddenIn]; done) | decide +kernel
theorem own_ef_rmP_3 (m : MethodId) (r0 : Addr) : entryFrame m #[(.ref r0), (.int (0 : Int32)), (.int (3 : Int32))] 6 = mkF m 0 #[.val (.ref r0), .val (.int (0 : Int32)), .val (.int (3 : Int32)), .unset, .unset, .unset] [] := by first | (simp [entryFrame, mkF, argsToLocals, Value.category]; done) | rfl
def QP_3 (Z : State) (r0 : Addr) (f : Nat → Value) (c0 : Int32) (c1 : Int32) (c2 : Int32) (h0 : Heap) (n0 : Nat) (v : Option Value) (h : Heap) (L : List Loc) : Prop := ∃ (b : Addr) (f' : Nat → Value), v = some (.ref b) ∧ Fr n0 L ∧ Keep h0 h [] ∧ h0.size ≤ b ∧ Exa Z h b "[B" ∧ Af Z h b .byte 3 f'
set_option maxRecDepth 65536 in
set_option maxHeartbeats 40000000 in
theorem rmP_3 (l : Launch) (Z : State) (a0 : Array Value) (hw : ∀ d ∈ tables_1, d.before a0 Z = true) (ws : List Jvm.Cond) (r0 : Addr) (f : Nat → Value) (c0 : Int32) (c1 : Int32) (c2 : Int32) (h0 : Heap) (n0 : Nat) (Z0 : n0 ≤ h0.size) (A : Af Z h0 r0 .char 3 f) (hf_0 : f 0 = .int c0) (hf_1 : f 1 = .int c1) (hf_2 : f 2 = .int c2) (hc_0 : ¬ (255 : Int32) < c0) (hc_1 : ¬ (255 : Int32) < c1) (hc_2 : ¬ (255 : Int32) < c2) :
    MetFree l (⟨"java/lang/StringUTF16", "compress", "([CII)[B"⟩ : MethodName) (head1 (Jvm.Cond.code (⟨"java/lang/StringUTF16", "compress", "([CII)[B"⟩ : MethodName) jdk_52_method_16_code 6 (some (.array .byte)) :: ws) ({ frames := 1, cells := 1, slots := 3, locals := 18 } : Room)) (fun a U => a = #[(.ref r0), (.int (0 : Int32)), (.int (3 : Int32))] ∧ Z.Warmed39 U.vm ∧ U.heap = h0) (fun _ _ _ _ _ => True) (fun _ U o U' => ∃ v L, o = .returned v ∧ QP_3 Z r0 f c0 c1 c2 h0 n0 v U'.heap L ∧ FrameEnd U o U' L ({ frames := 1, cells := 1, slots := 3, locals := 18 } : Room).cells ({ frames := 1, cells := 1, slots := 3, locals := 18 } : Room).slots) := by
  refine MetFree.of_bodySF (plainFor_of_name own_pn_rmP_3) hisR ?_
  intro p e s m args below meth cO s₁ Bd hml0 hP hK
  obtain ⟨rfl, hZ, hh⟩ := hP
  have hx := Bd.exec
  have hby := Bd.bytes
  have hD := @Jvm.hb _ _ hby
  have hml : cO.maxLocals = 6 := hml0
  have hown : s.vm.findClass "java/lang/StringUTF16" = some m.cls := findClass_of_methodNamed Bd.named
  have hnm := (name_of_methodNamed Bd.named Bd.method).1
  have hlk : meth.locks = false := BodyLoose.notSynchronized Bd
  have X0 : Stand p l e ({ frames := 1, cells := 1, slots := 3, locals := 18 } : Room) s m #[(.ref r0), (.int (0 : Int32)), (.int (3 : Int32))] below meth cO s₁ [] 0 0 := Stand.of_body Bd
  have e0 : s₁.heap = h0 := by rw [← hh, Bd.state]; rfl
  have N0 := Fr.nil n0
  refine own_in (own_ef_rmP_3 m r0) ?_
  show Gm p e below s₁ m 0 #[rv r0, iv (0 : Int32), iv (3 : Int32), .unset, .unset, .unset] [] _
  refine own_go (fun t' k' => XS.iloadN X0.here hx rfl (hD d27_0) rfl k') ?_
  show Gm p e below s₁ m 1 #[rv r0, iv (0 : Int32), iv (3 : Int32), .unset, .unset, .unset] [(.int (3 : Int32))] _
  obtain ⟨T1, h1, k1, X1, e1, E1, A1, Y1, st1⟩ := newPE X0 hx hZ (hw _ (List.mem_of_getElem? (i := 18) rfl)) e0 (g := (mkF m 1 #[rv r0, iv (0 : Int32), iv (3 : Int32), .unset, .unset, .unset] [(.int (3 : Int32))])) rfl (hD d27_1) rfl (by decide) (cap := 3) (by decide) (by decide) (by decide) (by decide) (ad := "[B") (by decide)
  obtain ⟨b1, g1⟩ : ∃ z, z = h0.size := ⟨_, rfl⟩
  rw [← g1] at A1 st1 Y1
  have g_b1 : n0 ≤ b1 := Nat.le_trans Z0 (Nat.le_of_eq g1.symm)
  have ne_r0_b1 : r0 ≠ b1 := Nat.ne_of_lt (Nat.lt_of_lt_of_le A.lt (Nat.le_of_eq g1.symm))
  have sz_b1 : h0.size ≤ b1 := Nat.le_trans (Keep.refl h0 []).1 (Nat.le_of_eq g1.symm)
  have K1 : Keep h0 h1 [] := Keep.ext (Keep.refl h0 []) E1
  have Z1 : n0 ≤ h1.size := Nat.le_trans Z0 E1.1
  have V1 : Af Z h1 b1 .byte 3 (fun _ => defaultValue .byte) := Af.new A1 (by decide) rfl rfl
  refine own_go st1 ?_
  refine own_go (fun t' k' => XS.astoreN X1.here hx rfl (hD d27_3) rfl rfl (l' := #[rv r0, iv (0 : Int32), iv (3 : Int32), rv b1, .unset, .unset]) rfl k') ?_
  refine own_go (fun t' k' => XS.aloadN X1.here hx rfl (hD d27_4) rfl rfl k') ?_
  show Gm p e below T1 m 5 #[rv r0, iv (0 : Int32), iv (3 : Int32), rv b1, .unset, .unset] [(.ref r0)] _
  refine own_go (fun t' k' => XS.iloadN X1.here hx rfl (hD d27_5) rfl k') ?_
  refine own_go (fun t' k' => XS.aloadN X1.here hx rfl (hD d27_6) rfl rfl k') ?_
  refine own_go (fun t' k' => XS.iconst X1.here hx rfl (hD d27_7) k') ?_
  show Gm p e below T1 m 8 #[rv r0, iv (0 : Int32), iv (3 : Int32), rv b1, .unset, .unset] [(.int (0 : Int32)), (.ref b1), (.int (0 : Int32)), (.ref r0)] _
  refine own_go (fun t' k' => XS.iloadN X1.here hx rfl (hD d27_8) rfl k') ?_
  show Gm p e below T1 m 9 #[rv r0, iv (0 : Int32), iv (3 : Int32), rv b1, .unset, .unset] [(.int (3 : Int32)), (.int (0 : Int32)), (.ref b1), (.int (0 : Int32)), (.ref r0)] _
  have f2 := (A.ext E1)
  obtain ⟨_, _, ⟨T3, L3, k3, n3⟩, -, X3, ⟨Lc3, hQ3, l3, y3, z3⟩, st3⟩ := Jvm.LawKit.callS X1 hx (y := (⟨"java/lang/StringUTF16", "compress", "([CI[BII)I"⟩ : MethodName)) hown (mvT hZ (hw _ (List.mem_of_getElem? (i := 154) rfl))) (mvT hZ (hw _ (List.mem_of_getElem? (i := 155) rfl))) (mvT hZ (hw _ (List.mem_of_getElem? (i := 152) rfl))) (mvT hZ (hw _ (List.mem_of_getElem? (i := 156) rfl))) (by decide) (backOf (W := 0) (rmK_3 l Z a0 hw [] r0 b1 f (fun _ => defaultValue .byte) c0 c1 c2 h1 n0 Z1 f2 V1 hf_0 hf_1 hf_2 hc_0 hc_1 hc_2 g_b1 ne_r0_b1) hZ (hw _ (List.mem_of_getElem? (i := 156) rfl)) (hw _ (List.mem_of_getElem? (i := 152) rfl)) (by decide) (by decide)) (g := (mkF m 9 #[rv r0, iv (0 : Int32), iv (3 : Int32), rv b1, .unset, .unset] [(.int (3 : Int32)), (.int (0 : Int32)), (.ref b1), (.int (0 : Int32)), (.ref r0)])) rfl (by rw [hml]; rfl) (argsL := [(.ref r0), (.int (0 : Int32)), (.ref b1), (.int (0 : Int32)), (.int (3 : Int32))]) (rest := []) (lenOf own_pd0 rfl) rfl (by show 2 * 0 + _ ≤ _; exact Nat.le_of_eq rfl) (hD d27_9) (fun _ _ => ⟨rfl, e1, (by decide : 1 + 0 ≤ _), (by decide : 3 + 0 ≤ _)⟩)
  dsimp only [Pt.U, Pt.locs, Pt.cells, Pt.slots] at X3 l3 y3 z3 st3 hQ3
  subst l3 y3 z3
  obtain ⟨rfl, Nq3, Kc3, fk3, Ak3⟩ := hQ3
  have N3 := Fr.app N0 Nq3
  refine own_go st3 ?_
  have Z3 : n0 ≤ T3.heap.size := Nat.le_trans Z1 Kc3.1
  have K3 : Keep h0 T3.heap [] := Keep.trans K1 Kc3 (allS (Or.inr sz_b1) all0)
  refine own_go (fun t' k' => XS.istore X3.here hx rfl (hD d27_12) rfl (l' := #[rv r0, iv (0 : Int32), iv (3 : Int32), rv b1, iv (3 : Int32), .unset]) rfl k') ?_
  refine own_go (fun t' k' => XS.iload X3.here hx rfl (hD d27_14) rfl k') ?_
  show Gm p e below T3 m 16 #[rv r0, iv (0 : Int32), iv (3 : Int32), rv b1, iv (3 : Int32), .unset] [(.int (3 : Int32))] _
  refine own_go (fun t' k' => XS.iloadN X3.here hx rfl (hD d27_16) rfl k') ?_
  show Gm p e below T3 m 17 #[rv r0, iv (0 : Int32), iv (3 : Int32), rv b1, iv (3 : Int32), .unset] [(.int (3 : Int32)), (.int (3 : Int32))] _
  refine own_go (fun t' k' => XS.icmpYes X3.here hx rfl (pc0 := 17) (pc' := 57) rfl (hD d27_17) rfl (XT.ii_eq_t (by decide)) (by decide) (by decide) k') ?_
  refine own_go (fun t' k' => XS.aloadN X3.here hx rfl (hD d27_57) rfl rfl k') ?_
  show Gm p e below T3 m 58 #[rv r0, iv (0 : Int32), iv (3 : Int32), rv b1, iv (3 : Int32), .unset] [(.ref b1)] _
  have f4 := (Y1.keep Kc3)
  exact own_retA X3 hx hlk rfl Bd.returns rfl (hD d27_58) rfl ⟨b1, fk3, rfl, N3, K3, sz_b1, f4, Ak3⟩ (by decide) (by decide)
theorem own_pn_rmD_3 : plainName "java/lang/StringUTF16" = true := by first | (simp [plainName, overriddenIn]; done) | decide +kernel
theorem own_ef_rmD_3 (m : MethodId) (r0 : Addr) : entryFrame m #[(.ref r0), (.int (3 : Int32))] 2 = mkF m 0 #[.val (.ref r0), .val (.int (3 : Int32))] [] := by first | (simp [entryFrame, mkF, argsToLocals, Value.category]; done) | rfl
def QD_3 (Z : State) (r0 : Addr) (f : Nat → Value) (h0 : Heap) (n0 : Nat) (v : Option Value) (h : Heap) (L : List Loc) : Prop := v = some (.int (0 : Int32)) ∧ Fr n0 L ∧ h = h0
set_option maxRecDepth 65536 in
set_option maxHeartbeats 40000000 in
theorem rmD_3 (l : Launch) (Z : State) (a0 : Array Value) (hw : ∀ d ∈ tables_1, d.before a0 Z = true) (ws : List Jvm.Cond) (r0 : Addr) (f : Nat → Value) (h0 : Heap) (n0 : Nat) (Z0 : n0 ≤ h0.size) (A : Af Z h0 r0 .byte 3 f) :
    MetFree l (⟨"java/lang/StringUTF16", "coderFromArrayLen", "([BI)B"⟩ : MethodName) (head1 (Jvm.Cond.code (⟨"java/lang/StringUTF16", "coderFromArrayLen", "([BI)B"⟩ : MethodName) jdk_52_method_15_code 2 (some .byte) :: ws) ({ frames := 0, cells := 0, slots := 0, locals := 0 } : Room)) (fun a U => a = #[(.ref r0), (.int (3 : Int32))] ∧ Z.Warmed39 U.vm ∧ U.heap = h0) (fun _ _ _ _ _ => True) (fun _ U o U' => ∃ v L, o = .returned v ∧ QD_3 Z r0 f h0 n0 v U'.heap L ∧ FrameEnd U o U' L ({ frames := 0, cells := 0, slots := 0, locals := 0 } : Room).cells ({ frames := 0, cells := 0, slots := 0, locals := 0 } : Room).slots) := by
  refine MetFree.of_bodySF (plainFor_of_name own_pn_rmD_3) hisR ?_
  intro p e s m args below meth cO s₁ Bd hml0 hP hK
  obtain ⟨rfl, hZ, hh⟩ := hP
  have hx := Bd.exec
  have hby := Bd.bytes
  have hD := @Jvm.hb _ _ hby
  have hml : cO.maxLocals = 2 := hml0
  have hown : s.vm.findClass "java/lang/StringUTF16" = some m.cls := findClass_of_methodNamed Bd.named
  have hnm := (name_of_methodNamed Bd.named Bd.method).1
  have hlk : meth.locks = false := BodyLoose.notSynchronized Bd
  have X0 : Stand p l e ({ frames := 0, cells := 0, slots := 0, locals := 0 } : Room) s m #[(.ref r0), (.int (3 : Int32))] below meth cO s₁ [] 0 0 := Stand.of_body Bd
  have e0 : s₁.heap = h0 := by rw [← hh, Bd.state]; rfl
  have N0 := Fr.nil n0
  refine own_in (own_ef_rmD_3 m r0) ?_
  show Gm p e below s₁ m 0 #[rv r0, iv (3 : Int32)] [] _
  refine own_go (fun t' k' => XS.iloadN X0.here hx rfl (hD d29_0) rfl k') ?_
  refine own_go (fun t' k' => XS.aloadN X0.here hx rfl (hD d29_1) rfl rfl k') ?_
  show Gm p e below s₁ m 2 #[rv r0, iv (3 : Int32)] [(.ref r0), (.int (3 : Int32))] _
  refine own_go (fun t' k' => own_len X0 hx hZ e0 A (z := (3 : Int32)) rfl (g := (mkF m 2 #[rv r0, iv (3 : Int32)] [(.ref r0), (.int (3 : Int32))])) rfl rfl (hD d29_2) k') ?_
  refine own_go (fun t' k' => XS.isub X0.here hx rfl (hD d29_3) rfl k') ?_
  refine own_go (fun t' k' => XS.bipush X0.here hx rfl (hD d29_4) k') ?_
  show Gm p e below s₁ m 6 #[rv r0, iv (3 : Int32)] [(.int (31 : Int32)), (.int (0 : Int32))] _
  refine own_go (fun t' k' => XS.iushr X0.here hx rfl (hD d29_6) rfl k') ?_
  refine own_go (fun t' k' => XS.i2b X0.here hx rfl (hD d29_7) rfl k') ?_
  show Gm p e below s₁ m 8 #[rv r0, iv (3 : Int32)] [(.int ((((0 : Int32).toUInt32 >>> ((31 : Int32) &&& 31).toUInt32).toInt32).toInt8.toInt32))] _
  exact own_retI X0 hx hlk (t := .byte) Bd.returns (by decide +kernel) (by simp) (hD d29_8) e0 ⟨(by decide +kernel), N0, rfl⟩ (by decide) (by decide)
theorem own_pn_rmV_3 : plainName "java/lang/String" = true := by first | (simp [plainName, overriddenIn]; done) | decide +kernel
theorem own_ef_rmV_3 (m : MethodId) (r0 : Addr) (r1 : Addr) : entryFrame m #[(.ref r0), (.ref r1), (.int (0 : Int32)), (.int (3 : Int32)), .null] 6 = mkF m 0 #[.val (.ref r0), .val (.ref r1), .val (.int (0 : Int32)), .val (.int (3 : Int32)), .val .null, .unset] [] := by first | (simp [entryFrame, mkF, argsToLocals, Value.category]; done) | rfl
def QV_3 (Z : State) (r0 : Addr) (r1 : Addr) (f : Nat → Value) (c0 : Int32) (c1 : Int32) (c2 : Int32) (cs : Int32) (h0 : Heap) (n0 : Nat) (v : Option Value) (h : Heap) (L : List Loc) : Prop := ∃ (b : Addr) (f' : Nat → Value), v = none ∧ Fr n0 L ∧ Keep h0 h [r0] ∧ Exa Z h r0 "java/lang/String" ∧ Fld Z h r0 "java/lang/String" "coder" "B" (.int (0 : Int32)) ∧ Fld Z h r0 "java/lang/String" "value" "[B" (.ref b) ∧ Exa Z h b "[B" ∧ Af Z h b .byte 3 f'
set_option maxRecDepth 65536 in
set_option maxHeartbeats 40000000 in
theorem rmV_3 (l : Launch) (Z : State) (a0 : Array Value) (hw : ∀ d ∈ tables_1, d.before a0 Z = true) (ws : List Jvm.Cond) (r0 : Addr) (r1 : Addr) (f : Nat → Value) (c0 : Int32) (c1 : Int32) (c2 : Int32) (cs : Int32) (h0 : Heap) (n0 : Nat) (Z0 : n0 ≤ h0.size) (E_r0 : Exa Z h0 r0 "java/lang/String") (F_v : Fld Z h0 r0 "java/lang/String" "value" "[B" .null) (F_c : Fld Z h0 r0 "java/lang/String" "coder" "B" (.int (0 : Int32))) (A : Af Z h0 r1 .char 3 f) (hf_0 : f 0 = .int c0) (hf_1 : f 1 = .int c1) (hf_2 : f 2 = .int c2) (hc_0 : ¬ (255 : Int32) < c0) (hc_1 : ¬ (255 : Int32) < c1) (hc_2 : ¬ (255 : Int32) < c2) (S_c : Sta Z h0 "java/lang/String" "COMPACT_STRINGS" "Z" (.int cs)) (hcs : ¬ cs = 0) (g_r0 : n0 ≤ r0) :
    MetFree l (⟨"java/lang/String", "<init>", "([CIILjava/lang/Void;)V"⟩ : MethodName) (head1 (Jvm.Cond.code (⟨"java/lang/String", "<init>", "([CIILjava/lang/Void;)V"⟩ : MethodName) jdk_42_method_149_code 6 none :: ws) ({ frames := 2, cells := 1, slots := 3, locals := 35 } : Room)) (fun a U => a = #[(.ref r0), (.ref r1), (.int (0 : Int32)), (.int (3 : Int32)), .null] ∧ Z.Warmed39 U.vm ∧ U.heap = h0) (fun _ _ _ _ _ => True) (fun _ U o U' => ∃ v L, o = .returned v ∧ QV_3 Z r0 r1 f c0 c1 c2 cs h0 n0 v U'.heap L ∧ FrameEnd U o U' L ({ frames := 2, cells := 1, slots := 3, locals := 35 } : Room).cells ({ frames := 2, cells := 1, slots := 3, locals := 35 } : Room).slots) := by
  refine MetFree.of_bodySF (plainFor_of_name own_pn_rmV_3) hisR ?_
  intro p e s m args below meth cO s₁ Bd hml0 hP hK
  obtain ⟨rfl, hZ, hh⟩ := hP
  have hx := Bd.exec
  have hby := Bd.bytes
  have hD := @Jvm.hb _ _ hby
  have hml : cO.maxLocals = 6 := hml0
  have hown : s.vm.findClass "java/lang/String" = some m.cls := findClass_of_methodNamed Bd.named
  have hnm := (name_of_methodNamed Bd.named Bd.method).1
  have hlk : meth.locks = false := BodyLoose.notSynchronized Bd
  have X0 : Stand p l e ({ frames := 2, cells := 1, slots := 3, locals := 35 } : Room) s m #[(.ref r0), (.ref r1), (.int (0 : Int32)), (.int (3 : Int32)), .null] below meth cO s₁ [] 0 0 := Stand.of_body Bd
  have e0 : s₁.heap = h0 := by rw [← hh, Bd.state]; rfl
  have N0 := Fr.nil n0
  refine own_in (own_ef_rmV_3 m r0 r1) ?_
  show Gm p e below s₁ m 0 #[rv r0, rv r1, iv (0 : Int32), iv (3 : Int32), .val .null, .unset] [] _
  refine own_go (fun t' k' => XS.aloadN X0.here hx rfl (hD d8_0) rfl rfl k') ?_
  show Gm p e below s₁ m 1 #[rv r0, rv r1, iv (0 : Int32), iv (3 : Int32), .val .null, .unset] [(.ref r0)] _
  obtain ⟨T1, X1, e1, st1⟩ := initO X0 hx hZ hown (hw _ (List.mem_of_getElem? (i := 23) rfl)) (hw _ (List.mem_of_getElem? (i := 24) rfl)) (hw _ (List.mem_of_getElem? (i := 25) rfl)) e0 (g := (mkF m 1 #[rv r0, rv r1, iv (0 : Int32), iv (3 : Int32), .val .null, .unset] [(.ref r0)])) rfl (by rw [hml]; rfl) rfl (hD d8_1) (by decide) (W := 0) (by show 2 * 0 + _ ≤ _; exact Nat.le_of_eq rfl) (by decide)
  refine own_go st1 ?_
  refine own_go (fun t' k' => XS.iloadN X1.here hx rfl (hD d8_4) rfl k') ?_
  show Gm p e below T1 m 5 #[rv r0, rv r1, iv (0 : Int32), iv (3 : Int32), .val .null, .unset] [(.int (3 : Int32))] _
  refine own_go (fun t' k' => XS.ifYes X1.here hx rfl (pc0 := 5) (pc' := 27) rfl (hD d8_5) rfl (XT.i0_ne_t (by decide)) (by decide) (by decide) k') ?_
  show Gm p e below T1 m 27 #[rv r0, rv r1, iv (0 : Int32), iv (3 : Int32), .val .null, .unset] [] _
  obtain ⟨T2, X2, e2, st2⟩ := getS2 X1 hx hZ hown (host := "") (Or.inl (hw _ (List.mem_of_getElem? (i := 8) rfl))) Via.refl e1 S_c (g := (mkF m 27 #[rv r0, rv r1, iv (0 : Int32), iv (3 : Int32), .val .null, .unset] [])) rfl (hD d8_27)
  refine own_go st2 ?_
  show Gm p e below T2 m 30 #[rv r0, rv r1, iv (0 : Int32), iv (3 : Int32), .val .null, .unset] [(.int cs)] _
  refine own_go (fun t' k' => XS.ifNo X2.here hx rfl (hD d8_30) rfl (XT.i0_eq_f hcs) k') ?_
  refine own_go (fun t' k' => XS.aloadN X2.here hx rfl (hD d8_33) rfl rfl k') ?_
  refine own_go (fun t' k' => XS.iloadN X2.here hx rfl (hD d8_34) rfl k') ?_
  show Gm p e below T2 m 35 #[rv r0, rv r1, iv (0 : Int32), iv (3 : Int32), .val .null, .unset] [(.int (0 : Int32)), (.ref r1)] _
  refine own_go (fun t' k' => XS.iloadN X2.here hx rfl (hD d8_35) rfl k') ?_
  show Gm p e below T2 m 36 #[rv r0, rv r1, iv (0 : Int32), iv (3 : Int32), .val .null, .unset] [(.int (3 : Int32)), (.int (0 : Int32)), (.ref r1)] _
  obtain ⟨_, _, ⟨T3, L3, k3, n3⟩, -, X3, ⟨Lc3, hQ3, l3, y3, z3⟩, st3⟩ := Jvm.LawKit.callS X2 hx (y := (⟨"java/lang/StringUTF16", "compress", "([CII)[B"⟩ : MethodName)) hown (mvT hZ (hw _ (List.mem_of_getElem? (i := 150) rfl))) (mvT hZ (hw _ (List.mem_of_getElem? (i := 151) rfl))) (mvT hZ (hw _ (List.mem_of_getElem? (i := 152) rfl))) (mvT hZ (hw _ (List.mem_of_getElem? (i := 153) rfl))) (by decide) (backOf (W := 0) (rmP_3 l Z a0 hw [] r1 f c0 c1 c2 h0 n0 Z0 A hf_0 hf_1 hf_2 hc_0 hc_1 hc_2) hZ (hw _ (List.mem_of_getElem? (i := 153) rfl)) (hw _ (List.mem_of_getElem? (i := 152) rfl)) (by decide) (by decide)) (g := (mkF m 36 #[rv r0, rv r1, iv (0 : Int32), iv (3 : Int32), .val .null, .unset] [(.int (3 : Int32)), (.int (0 : Int32)), (.ref r1)])) rfl (by rw [hml]; rfl) (argsL := [(.ref r1), (.int (0 : Int32)), (.int (3 : Int32))]) (rest := []) (lenOf own_pd1 rfl) rfl (by show 2 * 0 + _ ≤ _; exact Nat.le_of_eq rfl) (hD d8_36) (fun _ _ => ⟨rfl, e2, (by decide : 0 + 1 ≤ _), (by decide : 0 + 3 ≤ _)⟩)
  dsimp only [Pt.U, Pt.locs, Pt.cells, Pt.slots] at X3 l3 y3 z3 st3 hQ3
  subst l3 y3 z3
  obtain ⟨bp3, fp3, rfl, Nq3, Kc3, sz3, Ep3, Ap3⟩ := hQ3
  have N3 := Fr.app N0 Nq3
  refine own_go st3 ?_
  have g_bp3 : n0 ≤ bp3 := Nat.le_trans Z0 sz3
  have Z3 : n0 ≤ T3.heap.size := Nat.le_trans Z0 Kc3.1
  have K3 : Keep h0 T3.heap [r0] := Keep.trans (Keep.refl h0 [r0]) Kc3 all0
  have sz_bp3 : h0.size ≤ bp3 := Nat.le_trans (Keep.refl h0 [r0]).1 sz3
  refine own_go (fun t' k' => XS.astore X3.here hx rfl (hD d8_39) rfl rfl (l' := #[rv r0, rv r1, iv (0 : Int32), iv (3 : Int32), .val .null, rv bp3]) rfl k') ?_
  refine own_go (fun t' k' => XS.aloadN X3.here hx rfl (hD d8_41) rfl rfl k') ?_
  show Gm p e below T3 m 42 #[rv r0, rv r1, iv (0 : Int32), iv (3 : Int32), .val .null, rv bp3] [(.ref r0)] _
  refine own_go (fun t' k' => XS.aload X3.here hx rfl (hD d8_42) rfl rfl k') ?_
  refine own_go (fun t' k' => XS.iloadN X3.here hx rfl (hD d8_44) rfl k') ?_
  show Gm p e below T3 m 45 #[rv r0, rv r1, iv (0 : Int32), iv (3 : Int32), .val .null, rv bp3] [(.int (3 : Int32)), (.ref bp3), (.ref r0)] _
  obtain ⟨_, _, ⟨T4, L4, k4, n4⟩, -, X4, ⟨Lc4, hQ4, l4, y4, z4⟩, st4⟩ := Jvm.LawKit.callS X3 hx (y := (⟨"java/lang/StringUTF16", "coderFromArrayLen", "([BI)B"⟩ : MethodName)) hown (mvT hZ (hw _ (List.mem_of_getElem? (i := 157) rfl))) (mvT hZ (hw _ (List.mem_of_getElem? (i := 158) rfl))) (mvT hZ (hw _ (List.mem_of_getElem? (i := 152) rfl))) (mvT hZ (hw _ (List.mem_of_getElem? (i := 159) rfl))) (by decide) (backOf (W := 1) (rmD_3 l Z a0 hw [] bp3 fp3 T3.heap n0 Z3 Ap3) hZ (hw _ (List.mem_of_getElem? (i := 159) rfl)) (hw _ (List.mem_of_getElem? (i := 152) rfl)) (by decide) (by decide)) (g := (mkF m 45 #[rv r0, rv r1, iv (0 : Int32), iv (3 : Int32), .val .null, rv bp3] [(.int (3 : Int32)), (.ref bp3), (.ref r0)])) rfl (by rw [hml]; rfl) (argsL := [(.ref bp3), (.int (3 : Int32))]) (rest := [(.ref r0)]) (lenOf own_pd2 rfl) rfl (by show 2 * 0 + _ ≤ _; exact Nat.le_of_eq rfl) (hD d8_45) (fun _ _ => ⟨rfl, rfl, (by decide : 1 + 0 ≤ _), (by decide : 3 + 0 ≤ _)⟩)
  dsimp only [Pt.U, Pt.locs, Pt.cells, Pt.slots] at X4 l4 y4 z4 st4 hQ4
  subst l4 y4 z4
  obtain ⟨rfl, Nq4, eq4⟩ := hQ4
  have N4 := Fr.app N3 Nq4
  have e4 : T4.heap = T3.heap := eq4
  refine own_go st4 ?_
  show Gm p e below T4 m 48 #[rv r0, rv r1, iv (0 : Int32), iv (3 : Int32), .val .null, rv bp3] [(.int (0 : Int32)), (.ref r0)] _
  have f5 := (E_r0.keep Kc3)
  have f6 := (F_c.keep Kc3 nin0)
  obtain ⟨T7, h7, X7, e7, W7, st7⟩ := putFN X4 hx hZ hown (hw _ (List.mem_of_getElem? (i := 28) rfl)) Via.refl e4 f6 f5 (Or.inr ⟨(hw _ (List.mem_of_getElem? (i := 29) rfl)), rfl, hnm⟩) (hw _ (List.mem_of_getElem? (i := 14) rfl)) (ty := .byte) (v' := (.int (0 : Int32))) (by decide) rfl rfl (g := (mkF m 48 #[rv r0, rv r1, iv (0 : Int32), iv (3 : Int32), .val .null, rv bp3] [(.int (0 : Int32)), (.ref r0)])) rfl rfl (hD d8_48)
  have Fw7 := Fld.same W7 f6
  have N7 := Fr.snoc X7 N4 g_r0
  have Z7 : n0 ≤ h7.size := W7.size ▸ Z3
  have K7 : Keep h0 h7 [r0] := Keep.wr K3 W7 (Or.inl (List.mem_of_getElem? (i := 0) rfl))
  refine own_go st7 ?_
  refine own_go (fun t' k' => XS.aloadN X7.here hx rfl (hD d8_51) rfl rfl k') ?_
  refine own_go (fun t' k' => XS.aload X7.here hx rfl (hD d8_52) rfl rfl k') ?_
  show Gm p e below T7 m 54 #[rv r0, rv r1, iv (0 : Int32), iv (3 : Int32), .val .null, rv bp3] [(.ref bp3), (.ref r0)] _
  have f8 := (f5.wr W7)
  have f9 := (Fld.other W7 (F_v.keep Kc3 nin0) (Or.inr (slot_ne (Or.inr (hw _ (List.mem_of_getElem? (i := 27) rfl))) (Or.inr (hw _ (List.mem_of_getElem? (i := 29) rfl))) (by decide) (t := (.array .byte)) (t' := .byte) (by decide) (by decide))))
  obtain ⟨T10, h10, X10, e10, W10, st10⟩ := putF X7 hx hZ hown (host := "") (Or.inl (hw _ (List.mem_of_getElem? (i := 26) rfl))) Via.refl e7 f9 f8 (Or.inr ⟨(hw _ (List.mem_of_getElem? (i := 27) rfl)), rfl, hnm⟩) (hw _ (List.mem_of_getElem? (i := 14) rfl)) (ty := (.array .byte)) (by decide) rfl rfl (g := (mkF m 54 #[rv r0, rv r1, iv (0 : Int32), iv (3 : Int32), .val .null, rv bp3] [(.ref bp3), (.ref r0)])) rfl rfl (hD d8_54)
  have Fw10 := Fld.same W10 f9
  have N10 := Fr.snoc X10 N7 g_r0
  have Z10 : n0 ≤ h10.size := W10.size ▸ Z7
  have K10 : Keep h0 h10 [r0] := Keep.wr K7 W10 (Or.inl (List.mem_of_getElem? (i := 0) rfl))
  refine own_go st10 ?_
  show Gm p e below T10 m 57 #[rv r0, rv r1, iv (0 : Int32), iv (3 : Int32), .val .null, rv bp3] [] _
  have f11 := ((Ap3.other W7 (Ne.symm (Nat.ne_of_lt (Nat.lt_of_lt_of_le E_r0.lt sz3)))).other W10 (Ne.symm (Nat.ne_of_lt (Nat.lt_of_lt_of_le E_r0.lt sz3))))
  have f12 := (f8.wr W10)
  have f13 := (Fld.other W10 Fw7 (Or.inr (slot_ne (Or.inr (hw _ (List.mem_of_getElem? (i := 29) rfl))) (Or.inr (hw _ (List.mem_of_getElem? (i := 27) rfl))) (by decide) (t := .byte) (t' := (.array .byte)) (by decide) (by decide))))
  have f14 := ((Ep3.wr W7).wr W10)
  exact own_retV X10 hx hlk Bd.returns (hD d8_57) e10 ⟨bp3, fp3, rfl, N10, K10, f12, f13, Fw10, f14, f11⟩ (by decide) (by decide)
theorem own_pn_rmC_3 : plainName "java/lang/String" = true := by first | (simp [plainName, overriddenIn]; done) | decide +kernel
theorem own_ef_rmC_3 (m : MethodId) (r0 : Addr) (r1 : Addr) : entryFrame m #[(.ref r0), (.ref r1)] 2 = mkF m 0 #[.val (.ref r0), .val (.ref r1)] [] := by first | (simp [entryFrame, mkF, argsToLocals, Value.category]; done) | rfl
def QC_3 (Z : State) (r0 : Addr) (r1 : Addr) (f : Nat → Value) (c0 : Int32) (c1 : Int32) (c2 : Int32) (cs : Int32) (h0 : Heap) (n0 : Nat) (v : Option Value) (h : Heap) (L : List Loc) : Prop := ∃ (b : Addr) (f' : Nat → Value), v = none ∧ Fr n0 L ∧ Keep h0 h [r0] ∧ Exa Z h r0 "java/lang/String" ∧ Fld Z h r0 "java/lang/String" "coder" "B" (.int (0 : Int32)) ∧ Fld Z h r0 "java/lang/String" "value" "[B" (.ref b) ∧ Exa Z h b "[B" ∧ Af Z h b .byte 3 f'
set_option maxRecDepth 65536 in
set_option maxHeartbeats 40000000 in
theorem rmC_3 (l : Launch) (Z : State) (a0 : Array Value) (hw : ∀ d ∈ tables_1, d.before a0 Z = true) (ws : List Jvm.Cond) (r0 : Addr) (r1 : Addr) (f : Nat → Value) (c0 : Int32) (c1 : Int32) (c2 : Int32) (cs : Int32) (h0 : Heap) (n0 : Nat) (Z0 : n0 ≤ h0.size) (E_r0 : Exa Z h0 r0 "java/lang/String") (F_v : Fld Z h0 r0 "java/lang/String" "value" "[B" .null) (F_c : Fld Z h0 r0 "java/lang/String" "coder" "B" (.int (0 : Int32))) (A : Af Z h0 r1 .char 3 f) (hf_0 : f 0 = .int c0) (hf_1 : f 1 = .int c1) (hf_2 : f 2 = .int c2) (hc_0 : ¬ (255 : Int32) < c0) (hc_1 : ¬ (255 : Int32) < c1) (hc_2 : ¬ (255 : Int32) < c2) (S_c : Sta Z h0 "java/lang/String" "COMPACT_STRINGS" "Z" (.int cs)) (hcs : ¬ cs = 0) (g_r0 : n0 ≤ r0) :
    MetFree l (⟨"java/lang/String", "<init>", "([C)V"⟩ : MethodName) (head1 (Jvm.Cond.code (⟨"java/lang/String", "<init>", "([C)V"⟩ : MethodName) jdk_42_method_3_code 2 none :: ws) ({ frames := 3, cells := 1, slots := 3, locals := 52 } : Room)) (fun a U => a = #[(.ref r0), (.ref r1)] ∧ Z.Warmed39 U.vm ∧ U.heap = h0) (fun _ _ _ _ _ => True) (fun _ U o U' => ∃ v L, o = .returned v ∧ QC_3 Z r0 r1 f c0 c1 c2 cs h0 n0 v U'.heap L ∧ FrameEnd U o U' L ({ frames := 3, cells := 1, slots := 3, locals := 52 } : Room).cells ({ frames := 3, cells := 1, slots := 3, locals := 52 } : Room).slots) := by
  refine MetFree.of_bodySF (plainFor_of_name own_pn_rmC_3) hisR ?_
  intro p e s m args below meth cO s₁ Bd hml0 hP hK
  obtain ⟨rfl, hZ, hh⟩ := hP
  have hx := Bd.exec
  have hby := Bd.bytes
  have hD := @Jvm.hb _ _ hby
  have hml : cO.maxLocals = 2 := hml0
  have hown : s.vm.findClass "java/lang/String" = some m.cls := findClass_of_methodNamed Bd.named
  have hnm := (name_of_methodNamed Bd.named Bd.method).1
  have hlk : meth.locks = false := BodyLoose.notSynchronized Bd
  have X0 : Stand p l e ({ frames := 3, cells := 1, slots := 3, locals := 52 } : Room) s m #[(.ref r0), (.ref r1)] below meth cO s₁ [] 0 0 := Stand.of_body Bd
  have e0 : s₁.heap = h0 := by rw [← hh, Bd.state]; rfl
  have N0 := Fr.nil n0
  refine own_in (own_ef_rmC_3 m r0 r1) ?_
  show Gm p e below s₁ m 0 #[rv r0, rv r1] [] _
  refine own_go (fun t' k' => XS.aloadN X0.here hx rfl (hD d7_0) rfl rfl k') ?_
  refine own_go (fun t' k' => XS.aloadN X0.here hx rfl (hD d7_1) rfl rfl k') ?_
  refine own_go (fun t' k' => XS.iconst X0.here hx rfl (hD d7_2) k') ?_
  show Gm p e below s₁ m 3 #[rv r0, rv r1] [(.int (0 : Int32)), (.ref r1), (.ref r0)] _
  refine own_go (fun t' k' => XS.aloadN X0.here hx rfl (hD d7_3) rfl rfl k') ?_
  show Gm p e below s₁ m 4 #[rv r0, rv r1] [(.ref r1), (.int (0 : Int32)), (.ref r1), (.ref r0)] _
  refine own_go (fun t' k' => own_len X0 hx hZ e0 A (z := (3 : Int32)) rfl (g := (mkF m 4 #[rv r0, rv r1] [(.ref r1), (.int (0 : Int32)), (.ref r1), (.ref r0)])) rfl rfl (hD d7_4) k') ?_
  refine own_go (fun t' k' => XS.aconstNull X0.here hx rfl (hD d7_5) k') ?_
  show Gm p e below s₁ m 6 #[rv r0, rv r1] [.null, (.int (3 : Int32)), (.int (0 : Int32)), (.ref r1), (.ref r0)] _
  obtain ⟨_, _, ⟨T1, L1, k1, n1⟩, -, X1, ⟨Lc1, hQ1, l1, y1, z1⟩, st1⟩ := X0.specialBack hx (y := (⟨"java/lang/String", "<init>", "([CIILjava/lang/Void;)V"⟩ : MethodName)) rfl hown (mvT hZ (hw _ (List.mem_of_getElem? (i := 35) rfl))) (mvT hZ (hw _ (List.mem_of_getElem? (i := 36) rfl))) (mvT hZ (hw _ (List.mem_of_getElem? (i := 37) rfl))) (by decide) (backOf (W := 0) (rmV_3 l Z a0 hw [] r0 r1 f c0 c1 c2 cs h0 n0 Z0 E_r0 F_v F_c A hf_0 hf_1 hf_2 hc_0 hc_1 hc_2 S_c hcs g_r0) hZ (hw _ (List.mem_of_getElem? (i := 37) rfl)) (hw _ (List.mem_of_getElem? (i := 6) rfl)) (by decide) (by decide)) (g := (mkF m 6 #[rv r0, rv r1] [.null, (.int (3 : Int32)), (.int (0 : Int32)), (.ref r1), (.ref r0)])) rfl (by rw [hml]; rfl) (Steps.refl _) (a := r0) (argsL := [(.ref r1), (.int (0 : Int32)), (.int (3 : Int32)), .null]) (rest := []) (lenOf own_pd3 rfl) rfl (by show 2 * 0 + _ ≤ _; exact Nat.le_of_eq rfl) (hD d7_6) (fun _ _ => ⟨rfl, e0, (by decide : 0 + 1 ≤ _), (by decide : 0 + 3 ≤ _)⟩)
  dsimp only [Pt.U, Pt.locs, Pt.cells, Pt.slots] at X1 l1 y1 z1 st1 hQ1
  subst l1 y1 z1
  obtain ⟨bq1, fq1, rfl, Nq1, Kc1, Ec1, Fc1, Fv1, Eb1, Aq1⟩ := hQ1
  have N1 := Fr.app N0 Nq1
  refine own_go (fun t k => st1.trans k) ?_
  have Z1 : n0 ≤ T1.heap.size := Nat.le_trans Z0 Kc1.1
  have K1 : Keep h0 T1.heap [r0] := Keep.trans (Keep.refl h0 [r0]) Kc1 (allS (Or.inl (List.mem_of_getElem? (i := 0) rfl)) all0)
  show Gm p e below T1 m 9 #[rv r0, rv r1] [] _
  exact own_retV X1 hx hlk Bd.returns (hD d7_9) rfl ⟨bq1, fq1, rfl, N1, K1, Ec1, Fc1, Fv1, Eb1, Aq1⟩ (by decide) (by decide)
theorem own_pn_rmK_4 : plainName "java/lang/StringUTF16" = true := by first | (simp [plainName, overriddenIn]; done) | decide +kernel
theorem own_ef_rmK_4 (m : MethodId) (r0 : Addr) (r2 : Addr) : entryFrame m #[(.ref r0), (.int (0 : Int32)), (.ref r2), (.int (0 : Int32)), (.int (4 : Int32))] 7 = mkF m 0 #[.val (.ref r0), .val (.int (0 : Int32)), .val (.ref r2), .val (.int (0 : Int32)), .val (.int (4 : Int32)), .unset, .unset] [] := by first | (simp [entryFrame, mkF, argsToLocals, Value.category]; done) | rfl
def QK_4 (Z : State) (r0 : Addr) (r2 : Addr) (f : Nat → Value) (g : Nat → Value) (c0 : Int32) (c1 : Int32) (c2 : Int32) (c3 : Int32) (h0 : Heap) (n0 : Nat) (v : Option Value) (h : Heap) (L : List Loc) : Prop := v = some (.int (4 : Int32)) ∧ Fr n0 L ∧ Keep h0 h [r2] ∧ ∃ f' : Nat → Value, Af Z h r2 .byte 4 f'
set_option maxRecDepth 65536 in
set_option maxHeartbeats 40000000 in
theorem rmK_4 (l : Launch) (Z : State) (a0 : Array Value) (hw : ∀ d ∈ tables_1, d.before a0 Z = true) (ws : List Jvm.Cond) (r0 : Addr) (r2 : Addr) (f : Nat → Value) (g : Nat → Value) (c0 : Int32) (c1 : Int32) (c2 : Int32) (c3 : Int32) (h0 : Heap) (n0 : Nat) (Z0 : n0 ≤ h0.size) (A : Af Z h0 r0 .char 4 f) (B : Af Z h0 r2 .byte 4 g) (hf_0 : f 0 = .int c0) (hf_1 : f 1 = .int c1) (hf_2 : f 2 = .int c2) (hf_3 : f 3 = .int c3) (hc_0 : ¬ (255 : Int32) < c0) (hc_1 : ¬ (255 : Int32) < c1) (hc_2 : ¬ (255 : Int32) < c2) (hc_3 : ¬ (255 : Int32) < c3) (g_r2 : n0 ≤ r2) (ne : r0 ≠ r2) :
    MetFree l (⟨"java/lang/StringUTF16", "compress", "([CI[BII)I"⟩ : MethodName) (head1 (Jvm.Cond.code (⟨"java/lang/StringUTF16", "compress", "([CI[BII)I"⟩ : MethodName) jdk_52_method_21_code 7 (some .int) :: ws) ({ frames := 0, cells := 0, slots := 0, locals := 0 } : Room)) (fun a U => a = #[(.ref r0), (.int (0 : Int32)), (.ref r2), (.int (0 : Int32)), (.int (4 : Int32))] ∧ Z.Warmed39 U.vm ∧ U.heap = h0) (fun _ _ _ _ _ => True) (fun _ U o U' => ∃ v L, o = .returned v ∧ QK_4 Z r0 r2 f g c0 c1 c2 c3 h0 n0 v U'.heap L ∧ FrameEnd U o U' L ({ frames := 0, cells := 0, slots := 0, locals := 0 } : Room).cells ({ frames := 0, cells := 0, slots := 0, locals := 0 } : Room).slots) := by
  refine MetFree.of_bodySF (plainFor_of_name own_pn_rmK_4) hisR ?_
  intro p e s m args below meth cO s₁ Bd hml0 hP hK
  obtain ⟨rfl, hZ, hh⟩ := hP
  have hx := Bd.exec
  have hby := Bd.bytes
  have hD := @Jvm.hb _ _ hby
  have hml : cO.maxLocals = 7 := hml0
  have hown : s.vm.findClass "java/lang/StringUTF16" = some m.cls := findClass_of_methodNamed Bd.named
  have hnm := (name_of_methodNamed Bd.named Bd.method).1
  have hlk : meth.locks = false := BodyLoose.notSynchronized Bd
  have X0 : Stand p l e ({ frames := 0, cells := 0, slots := 0, locals := 0 } : Room) s m #[(.ref r0), (.int (0 : Int32)), (.ref r2), (.int (0 : Int32)), (.int (4 : Int32))] below meth cO s₁ [] 0 0 := Stand.of_body Bd
  have e0 : s₁.heap = h0 := by rw [← hh, Bd.state]; rfl
  have N0 := Fr.nil n0
  refine own_in (own_ef_rmK_4 m r0 r2) ?_
  show Gm p e below s₁ m 0 #[rv r0, iv (0 : Int32), rv r2, iv (0 : Int32), iv (4 : Int32), .unset, .unset] [] _
  refine own_go (fun t' k' => XS.iconst X0.here hx rfl (hD d28_0) k') ?_
  refine own_go (fun t' k' => XS.istore X0.here hx rfl (hD d28_1) rfl (l' := #[rv r0, iv (0 : Int32), rv r2, iv (0 : Int32), iv (4 : Int32), iv (0 : Int32), .unset]) rfl k') ?_
  refine own_go (fun t' k' => XS.iload X0.here hx rfl (hD d28_3) rfl k') ?_
  show Gm p e below s₁ m 5 #[rv r0, iv (0 : Int32), rv r2, iv (0 : Int32), iv (4 : Int32), iv (0 : Int32), .unset] [(.int (0 : Int32))] _
  refine own_go (fun t' k' => XS.iload X0.here hx rfl (hD d28_5) rfl k') ?_
  show Gm p e below s₁ m 7 #[rv r0, iv (0 : Int32), rv r2, iv (0 : Int32), iv (4 : Int32), iv (0 : Int32), .unset] [(.int (4 : Int32)), (.int (0 : Int32))] _
  refine own_go (fun t' k' => XS.icmpNo X0.here hx rfl (hD d28_7) rfl (XT.ii_ge_f (by decide)) k') ?_
  refine own_go (fun t' k' => XS.aloadN X0.here hx rfl (hD d28_10) rfl rfl k') ?_
  refine own_go (fun t' k' => XS.iloadN X0.here hx rfl (hD d28_11) rfl k') ?_
  show Gm p e below s₁ m 12 #[rv r0, iv (0 : Int32), rv r2, iv (0 : Int32), iv (4 : Int32), iv (0 : Int32), .unset] [(.int (0 : Int32)), (.ref r0)] _
  refine own_go (fun t' k' => own_ldC X0 hx hZ e0 A (j := (0 : Int32)) (k := 0) (by decide) rfl (by decide) (w := (.int c0)) hf_0 (g := (mkF m 12 #[rv r0, iv (0 : Int32), rv r2, iv (0 : Int32), iv (4 : Int32), iv (0 : Int32), .unset] [(.int (0 : Int32)), (.ref r0)])) rfl rfl (hD d28_12) k') ?_
  refine own_go (fun t' k' => XS.istore X0.here hx rfl (hD d28_13) rfl (l' := #[rv r0, iv (0 : Int32), rv r2, iv (0 : Int32), iv (4 : Int32), iv (0 : Int32), iv c0]) rfl k') ?_
  refine own_go (fun t' k' => XS.iload X0.here hx rfl (hD d28_15) rfl k') ?_
  show Gm p e below s₁ m 17 #[rv r0, iv (0 : Int32), rv r2, iv (0 : Int32), iv (4 : Int32), iv (0 : Int32), iv c0] [(.int c0)] _
  refine own_go (fun t' k' => XS.sipush X0.here hx rfl (hD d28_17) k') ?_
  show Gm p e below s₁ m 20 #[rv r0, iv (0 : Int32), rv r2, iv (0 : Int32), iv (4 : Int32), iv (0 : Int32), iv c0] [(.int (255 : Int32)), (.int c0)] _
  refine own_go (fun t' k' => XS.icmpYes X0.here hx rfl (pc0 := 20) (pc' := 26) rfl (hD d28_20) rfl (XT.ii_le_t hc_0) (by decide) (by decide) k') ?_
  refine own_go (fun t' k' => XS.aloadN X0.here hx rfl (hD d28_26) rfl rfl k') ?_
  refine own_go (fun t' k' => XS.iloadN X0.here hx rfl (hD d28_27) rfl k') ?_
  show Gm p e below s₁ m 28 #[rv r0, iv (0 : Int32), rv r2, iv (0 : Int32), iv (4 : Int32), iv (0 : Int32), iv c0] [(.int (0 : Int32)), (.ref r2)] _
  refine own_go (fun t' k' => XS.iload X0.here hx rfl (hD d28_28) rfl k') ?_
  refine own_go (fun t' k' => XS.i2b X0.here hx rfl (hD d28_30) rfl k') ?_
  show Gm p e below s₁ m 31 #[rv r0, iv (0 : Int32), rv r2, iv (0 : Int32), iv (4 : Int32), iv (0 : Int32), iv c0] [(.int (c0.toInt8.toInt32)), (.int (0 : Int32)), (.ref r2)] _
  obtain ⟨T1, h1, X1, e1, W1, A1, st1⟩ := own_stB X0 hx hZ e0 B (j := (0 : Int32)) (k := 0) (by decide) rfl (by decide) (y := (own_by c0)) rfl (g := (mkF m 31 #[rv r0, iv (0 : Int32), rv r2, iv (0 : Int32), iv (4 : Int32), iv (0 : Int32), iv c0] [(.int (c0.toInt8.toInt32)), (.int (0 : Int32)), (.ref r2)])) rfl rfl (hD d28_31)
  have N1 := Fr.snoc X1 N0 g_r2
  have Z1 : n0 ≤ h1.size := W1.size ▸ Z0
  have K1 : Keep h0 h1 [r2] := Keep.wr (Keep.refl h0 [r2]) W1 (Or.inl (List.mem_of_getElem? (i := 0) rfl))
  refine own_go st1 ?_
  refine own_go (fun t' k' => XS.iinc X1.here hx rfl (hD d28_32) rfl (l' := #[rv r0, iv (1 : Int32), rv r2, iv (0 : Int32), iv (4 : Int32), iv (0 : Int32), iv c0]) rfl k') ?_
  refine own_go (fun t' k' => XS.iinc X1.here hx rfl (hD d28_35) rfl (l' := #[rv r0, iv (1 : Int32), rv r2, iv (1 : Int32), iv (4 : Int32), iv (0 : Int32), iv c0]) rfl k') ?_
  show Gm p e below T1 m 38 #[rv r0, iv (1 : Int32), rv r2, iv (1 : Int32), iv (4 : Int32), iv (0 : Int32), iv c0] [] _
  refine own_go (fun t' k' => XS.iinc X1.here hx rfl (hD d28_38) rfl (l' := #[rv r0, iv (1 : Int32), rv r2, iv (1 : Int32), iv (4 : Int32), iv (1 : Int32), iv c0]) rfl k') ?_
  refine own_go (fun t' k' => XS.goto X1.here hx rfl (pc0 := 41) (pc' := 3) rfl (hD d28_41) (by decide) (by decide) k') ?_
  refine own_go (fun t' k' => XS.iload X1.here hx rfl (hD d28_3) rfl k') ?_
  show Gm p e below T1 m 5 #[rv r0, iv (1 : Int32), rv r2, iv (1 : Int32), iv (4 : Int32), iv (1 : Int32), iv c0] [(.int (1 : Int32))] _
  refine own_go (fun t' k' => XS.iload X1.here hx rfl (hD d28_5) rfl k') ?_
  show Gm p e below T1 m 7 #[rv r0, iv (1 : Int32), rv r2, iv (1 : Int32), iv (4 : Int32), iv (1 : Int32), iv c0] [(.int (4 : Int32)), (.int (1 : Int32))] _
  refine own_go (fun t' k' => XS.icmpNo X1.here hx rfl (hD d28_7) rfl (XT.ii_ge_f (by decide)) k') ?_
  refine own_go (fun t' k' => XS.aloadN X1.here hx rfl (hD d28_10) rfl rfl k') ?_
  refine own_go (fun t' k' => XS.iloadN X1.here hx rfl (hD d28_11) rfl k') ?_
  show Gm p e below T1 m 12 #[rv r0, iv (1 : Int32), rv r2, iv (1 : Int32), iv (4 : Int32), iv (1 : Int32), iv c0] [(.int (1 : Int32)), (.ref r0)] _
  have f2 := (A.other W1 ne)
  refine own_go (fun t' k' => own_ldC X1 hx hZ e1 f2 (j := (1 : Int32)) (k := 1) (by decide) rfl (by decide) (w := (.int c1)) hf_1 (g := (mkF m 12 #[rv r0, iv (1 : Int32), rv r2, iv (1 : Int32), iv (4 : Int32), iv (1 : Int32), iv c0] [(.int (1 : Int32)), (.ref r0)])) rfl rfl (hD d28_12) k') ?_
  refine own_go (fun t' k' => XS.istore X1.here hx rfl (hD d28_13) rfl (l' := #[rv r0, iv (1 : Int32), rv r2, iv (1 : Int32), iv (4 : Int32), iv (1 : Int32), iv c1]) rfl k') ?_
  refine own_go (fun t' k' => XS.iload X1.here hx rfl (hD d28_15) rfl k') ?_
  show Gm p e below T1 m 17 #[rv r0, iv (1 : Int32), rv r2, iv (1 : Int32), iv (4 : Int32), iv (1 : Int32), iv c1] [(.int c1)] _
  refine own_go (fun t' k' => XS.sipush X1.here hx rfl (hD d28_17) k') ?_
  show Gm p e below T1 m 20 #[rv r0, iv (1 : Int32), rv r2, iv (1 : Int32), iv (4 : Int32), iv (1 : Int32), iv c1] [(.int (255 : Int32)), (.int c1)] _
  refine own_go (fun t' k' => XS.icmpYes X1.here hx rfl (pc0 := 20) (pc' := 26) rfl (hD d28_20) rfl (XT.ii_le_t hc_1) (by decide) (by decide) k') ?_
  refine own_go (fun t' k' => XS.aloadN X1.here hx rfl (hD d28_26) rfl rfl k') ?_
  refine own_go (fun t' k' => XS.iloadN X1.here hx rfl (hD d28_27) rfl k') ?_
  show Gm p e below T1 m 28 #[rv r0, iv (1 : Int32), rv r2, iv (1 : Int32), iv (4 : Int32), iv (1 : Int32), iv c1] [(.int (1 : Int32)), (.ref r2)] _
  refine own_go (fun t' k' => XS.iload X1.here hx rfl (hD d28_28) rfl k') ?_
  refine own_go (fun t' k' => XS.i2b X1.here hx rfl (hD d28_30) rfl k') ?_
  show Gm p e below T1 m 31 #[rv r0, iv (1 : Int32), rv r2, iv (1 : Int32), iv (4 : Int32), iv (1 : Int32), iv c1] [(.int (c1.toInt8.toInt32)), (.int (1 : Int32)), (.ref r2)] _
  obtain ⟨T3, h3, X3, e3, W3, A3, st3⟩ := own_stB X1 hx hZ e1 A1 (j := (1 : Int32)) (k := 1) (by decide) rfl (by decide) (y := (own_by c1)) rfl (g := (mkF m 31 #[rv r0, iv (1 : Int32), rv r2, iv (1 : Int32), iv (4 : Int32), iv (1 : Int32), iv c1] [(.int (c1.toInt8.toInt32)), (.int (1 : Int32)), (.ref r2)])) rfl rfl (hD d28_31)
  have N3 := Fr.snoc X3 N1 g_r2
  have Z3 : n0 ≤ h3.size := W3.size ▸ Z1
  have K3 : Keep h0 h3 [r2] := Keep.wr K1 W3 (Or.inl (List.mem_of_getElem? (i := 0) rfl))
  refine own_go st3 ?_
  refine own_go (fun t' k' => XS.iinc X3.here hx rfl (hD d28_32) rfl (l' := #[rv r0, iv (2 : Int32), rv r2, iv (1 : Int32), iv (4 : Int32), iv (1 : Int32), iv c1]) rfl k') ?_
  refine own_go (fun t' k' => XS.iinc X3.here hx rfl (hD d28_35) rfl (l' := #[rv r0, iv (2 : Int32), rv r2, iv (2 : Int32), iv (4 : Int32), iv (1 : Int32), iv c1]) rfl k') ?_
  show Gm p e below T3 m 38 #[rv r0, iv (2 : Int32), rv r2, iv (2 : Int32), iv (4 : Int32), iv (1 : Int32), iv c1] [] _
  refine own_go (fun t' k' => XS.iinc X3.here hx rfl (hD d28_38) rfl (l' := #[rv r0, iv (2 : Int32), rv r2, iv (2 : Int32), iv (4 : Int32), iv (2 : Int32), iv c1]) rfl k') ?_
  refine own_go (fun t' k' => XS.goto X3.here hx rfl (pc0 := 41) (pc' := 3) rfl (hD d28_41) (by decide) (by decide) k') ?_
  refine own_go (fun t' k' => XS.iload X3.here hx rfl (hD d28_3) rfl k') ?_
  show Gm p e below T3 m 5 #[rv r0, iv (2 : Int32), rv r2, iv (2 : Int32), iv (4 : Int32), iv (2 : Int32), iv c1] [(.int (2 : Int32))] _
  refine own_go (fun t' k' => XS.iload X3.here hx rfl (hD d28_5) rfl k') ?_
  show Gm p e below T3 m 7 #[rv r0, iv (2 : Int32), rv r2, iv (2 : Int32), iv (4 : Int32), iv (2 : Int32), iv c1] [(.int (4 : Int32)), (.int (2 : Int32))] _
  refine own_go (fun t' k' => XS.icmpNo X3.here hx rfl (hD d28_7) rfl (XT.ii_ge_f (by decide)) k') ?_
  refine own_go (fun t' k' => XS.aloadN X3.here hx rfl (hD d28_10) rfl rfl k') ?_
  refine own_go (fun t' k' => XS.iloadN X3.here hx rfl (hD d28_11) rfl k') ?_
  show Gm p e below T3 m 12 #[rv r0, iv (2 : Int32), rv r2, iv (2 : Int32), iv (4 : Int32), iv (2 : Int32), iv c1] [(.int (2 : Int32)), (.ref r0)] _
  have f4 := (f2.other W3 ne)
  refine own_go (fun t' k' => own_ldC X3 hx hZ e3 f4 (j := (2 : Int32)) (k := 2) (by decide) rfl (by decide) (w := (.int c2)) hf_2 (g := (mkF m 12 #[rv r0, iv (2 : Int32), rv r2, iv (2 : Int32), iv (4 : Int32), iv (2 : Int32), iv c1] [(.int (2 : Int32)), (.ref r0)])) rfl rfl (hD d28_12) k') ?_
  refine own_go (fun t' k' => XS.istore X3.here hx rfl (hD d28_13) rfl (l' := #[rv r0, iv (2 : Int32), rv r2, iv (2 : Int32), iv (4 : Int32), iv (2 : Int32), iv c2]) rfl k') ?_
  refine own_go (fun t' k' => XS.iload X3.here hx rfl (hD d28_15) rfl k') ?_
  show Gm p e below T3 m 17 #[rv r0, iv (2 : Int32), rv r2, iv (2 : Int32), iv (4 : Int32), iv (2 : Int32), iv c2] [(.int c2)] _
  refine own_go (fun t' k' => XS.sipush X3.here hx rfl (hD d28_17) k') ?_
  show Gm p e below T3 m 20 #[rv r0, iv (2 : Int32), rv r2, iv (2 : Int32), iv (4 : Int32), iv (2 : Int32), iv c2] [(.int (255 : Int32)), (.int c2)] _
  refine own_go (fun t' k' => XS.icmpYes X3.here hx rfl (pc0 := 20) (pc' := 26) rfl (hD d28_20) rfl (XT.ii_le_t hc_2) (by decide) (by decide) k') ?_
  refine own_go (fun t' k' => XS.aloadN X3.here hx rfl (hD d28_26) rfl rfl k') ?_
  refine own_go (fun t' k' => XS.iloadN X3.here hx rfl (hD d28_27) rfl k') ?_
  show Gm p e below T3 m 28 #[rv r0, iv (2 : Int32), rv r2, iv (2 : Int32), iv (4 : Int32), iv (2 : Int32), iv c2] [(.int (2 : Int32)), (.ref r2)] _
  refine own_go (fun t' k' => XS.iload X3.here hx rfl (hD d28_28) rfl k') ?_
  refine own_go (fun t' k' => XS.i2b X3.here hx rfl (hD d28_30) rfl k') ?_
  show Gm p e below T3 m 31 #[rv r0, iv (2 : Int32), rv r2, iv (2 : Int32), iv (4 : Int32), iv (2 : Int32), iv c2] [(.int (c2.toInt8.toInt32)), (.int (2 : Int32)), (.ref r2)] _
  obtain ⟨T5, h5, X5, e5, W5, A5, st5⟩ := own_stB X3 hx hZ e3 A3 (j := (2 : Int32)) (k := 2) (by decide) rfl (by decide) (y := (own_by c2)) rfl (g := (mkF m 31 #[rv r0, iv (2 : Int32), rv r2, iv (2 : Int32), iv (4 : Int32), iv (2 : Int32), iv c2] [(.int (c2.toInt8.toInt32)), (.int (2 : Int32)), (.ref r2)])) rfl rfl (hD d28_31)
  have N5 := Fr.snoc X5 N3 g_r2
  have Z5 : n0 ≤ h5.size := W5.size ▸ Z3
  have K5 : Keep h0 h5 [r2] := Keep.wr K3 W5 (Or.inl (List.mem_of_getElem? (i := 0) rfl))
  refine own_go st5 ?_
  refine own_go (fun t' k' => XS.iinc X5.here hx rfl (hD d28_32) rfl (l' := #[rv r0, iv (3 : Int32), rv r2, iv (2 : Int32), iv (4 : Int32), iv (2 : Int32), iv c2]) rfl k') ?_
  refine own_go (fun t' k' => XS.iinc X5.here hx rfl (hD d28_35) rfl (l' := #[rv r0, iv (3 : Int32), rv r2, iv (3 : Int32), iv (4 : Int32), iv (2 : Int32), iv c2]) rfl k') ?_
  show Gm p e below T5 m 38 #[rv r0, iv (3 : Int32), rv r2, iv (3 : Int32), iv (4 : Int32), iv (2 : Int32), iv c2] [] _
  refine own_go (fun t' k' => XS.iinc X5.here hx rfl (hD d28_38) rfl (l' := #[rv r0, iv (3 : Int32), rv r2, iv (3 : Int32), iv (4 : Int32), iv (3 : Int32), iv c2]) rfl k') ?_
  refine own_go (fun t' k' => XS.goto X5.here hx rfl (pc0 := 41) (pc' := 3) rfl (hD d28_41) (by decide) (by decide) k') ?_
  refine own_go (fun t' k' => XS.iload X5.here hx rfl (hD d28_3) rfl k') ?_
  show Gm p e below T5 m 5 #[rv r0, iv (3 : Int32), rv r2, iv (3 : Int32), iv (4 : Int32), iv (3 : Int32), iv c2] [(.int (3 : Int32))] _
  refine own_go (fun t' k' => XS.iload X5.here hx rfl (hD d28_5) rfl k') ?_
  show Gm p e below T5 m 7 #[rv r0, iv (3 : Int32), rv r2, iv (3 : Int32), iv (4 : Int32), iv (3 : Int32), iv c2] [(.int (4 : Int32)), (.int (3 : Int32))] _
  refine own_go (fun t' k' => XS.icmpNo X5.here hx rfl (hD d28_7) rfl (XT.ii_ge_f (by decide)) k') ?_
  refine own_go (fun t' k' => XS.aloadN X5.here hx rfl (hD d28_10) rfl rfl k') ?_
  refine own_go (fun t' k' => XS.iloadN X5.here hx rfl (hD d28_11) rfl k') ?_
  show Gm p e below T5 m 12 #[rv r0, iv (3 : Int32), rv r2, iv (3 : Int32), iv (4 : Int32), iv (3 : Int32), iv c2] [(.int (3 : Int32)), (.ref r0)] _
  have f6 := (f4.other W5 ne)
  refine own_go (fun t' k' => own_ldC X5 hx hZ e5 f6 (j := (3 : Int32)) (k := 3) (by decide) rfl (by decide) (w := (.int c3)) hf_3 (g := (mkF m 12 #[rv r0, iv (3 : Int32), rv r2, iv (3 : Int32), iv (4 : Int32), iv (3 : Int32), iv c2] [(.int (3 : Int32)), (.ref r0)])) rfl rfl (hD d28_12) k') ?_
  refine own_go (fun t' k' => XS.istore X5.here hx rfl (hD d28_13) rfl (l' := #[rv r0, iv (3 : Int32), rv r2, iv (3 : Int32), iv (4 : Int32), iv (3 : Int32), iv c3]) rfl k') ?_
  refine own_go (fun t' k' => XS.iload X5.here hx rfl (hD d28_15) rfl k') ?_
  show Gm p e below T5 m 17 #[rv r0, iv (3 : Int32), rv r2, iv (3 : Int32), iv (4 : Int32), iv (3 : Int32), iv c3] [(.int c3)] _
  refine own_go (fun t' k' => XS.sipush X5.here hx rfl (hD d28_17) k') ?_
  show Gm p e below T5 m 20 #[rv r0, iv (3 : Int32), rv r2, iv (3 : Int32), iv (4 : Int32), iv (3 : Int32), iv c3] [(.int (255 : Int32)), (.int c3)] _
  refine own_go (fun t' k' => XS.icmpYes X5.here hx rfl (pc0 := 20) (pc' := 26) rfl (hD d28_20) rfl (XT.ii_le_t hc_3) (by decide) (by decide) k') ?_
  refine own_go (fun t' k' => XS.aloadN X5.here hx rfl (hD d28_26) rfl rfl k') ?_
  refine own_go (fun t' k' => XS.iloadN X5.here hx rfl (hD d28_27) rfl k') ?_
  show Gm p e below T5 m 28 #[rv r0, iv (3 : Int32), rv r2, iv (3 : Int32), iv (4 : Int32), iv (3 : Int32), iv c3] [(.int (3 : Int32)), (.ref r2)] _
  refine own_go (fun t' k' => XS.iload X5.here hx rfl (hD d28_28) rfl k') ?_
  refine own_go (fun t' k' => XS.i2b X5.here hx rfl (hD d28_30) rfl k') ?_
  show Gm p e below T5 m 31 #[rv r0, iv (3 : Int32), rv r2, iv (3 : Int32), iv (4 : Int32), iv (3 : Int32), iv c3] [(.int (c3.toInt8.toInt32)), (.int (3 : Int32)), (.ref r2)] _
  obtain ⟨T7, h7, X7, e7, W7, A7, st7⟩ := own_stB X5 hx hZ e5 A5 (j := (3 : Int32)) (k := 3) (by decide) rfl (by decide) (y := (own_by c3)) rfl (g := (mkF m 31 #[rv r0, iv (3 : Int32), rv r2, iv (3 : Int32), iv (4 : Int32), iv (3 : Int32), iv c3] [(.int (c3.toInt8.toInt32)), (.int (3 : Int32)), (.ref r2)])) rfl rfl (hD d28_31)
  have N7 := Fr.snoc X7 N5 g_r2
  have Z7 : n0 ≤ h7.size := W7.size ▸ Z5
  have K7 : Keep h0 h7 [r2] := Keep.wr K5 W7 (Or.inl (List.mem_of_getElem? (i := 0) rfl))
  refine own_go st7 ?_
  refine own_go (fun t' k' => XS.iinc X7.here hx rfl (hD d28_32) rfl (l' := #[rv r0, iv (4 : Int32), rv r2, iv (3 : Int32), iv (4 : Int32), iv (3 : Int32), iv c3]) rfl k') ?_
  refine own_go (fun t' k' => XS.iinc X7.here hx rfl (hD d28_35) rfl (l' := #[rv r0, iv (4 : Int32), rv r2, iv (4 : Int32), iv (4 : Int32), iv (3 : Int32), iv c3]) rfl k') ?_
  show Gm p e below T7 m 38 #[rv r0, iv (4 : Int32), rv r2, iv (4 : Int32), iv (4 : Int32), iv (3 : Int32), iv c3] [] _
  refine own_go (fun t' k' => XS.iinc X7.here hx rfl (hD d28_38) rfl (l' := #[rv r0, iv (4 : Int32), rv r2, iv (4 : Int32), iv (4 : Int32), iv (4 : Int32), iv c3]) rfl k') ?_
  refine own_go (fun t' k' => XS.goto X7.here hx rfl (pc0 := 41) (pc' := 3) rfl (hD d28_41) (by decide) (by decide) k') ?_
  refine own_go (fun t' k' => XS.iload X7.here hx rfl (hD d28_3) rfl k') ?_
  show Gm p e below T7 m 5 #[rv r0, iv (4 : Int32), rv r2, iv (4 : Int32), iv (4 : Int32), iv (4 : Int32), iv c3] [(.int (4 : Int32))] _
  refine own_go (fun t' k' => XS.iload X7.here hx rfl (hD d28_5) rfl k') ?_
  show Gm p e below T7 m 7 #[rv r0, iv (4 : Int32), rv r2, iv (4 : Int32), iv (4 : Int32), iv (4 : Int32), iv c3] [(.int (4 : Int32)), (.int (4 : Int32))] _
  refine own_go (fun t' k' => XS.icmpYes X7.here hx rfl (pc0 := 7) (pc' := 44) rfl (hD d28_7) rfl (XT.ii_ge_t (by decide)) (by decide) (by decide) k') ?_
  refine own_go (fun t' k' => XS.iload X7.here hx rfl (hD d28_44) rfl k') ?_
  show Gm p e below T7 m 46 #[rv r0, iv (4 : Int32), rv r2, iv (4 : Int32), iv (4 : Int32), iv (4 : Int32), iv c3] [(.int (4 : Int32))] _
  exact own_retI X7 hx hlk (t := .int) Bd.returns rfl (by simp) (hD d28_46) e7 ⟨rfl, N7, K7, (fun i => if i = 3 then (.int (own_by c3)) else (fun i => if i = 2 then (.int (own_by c2)) else (fun i => if i = 1 then (.int (own_by c1)) else (fun i => if i = 0 then (.int (own_by c0)) else g i) i) i) i), A7⟩ (by decide) (by decide)
theorem own_pn_rmP_4 : plainName "java/lang/StringUTF16" = true := by first | (simp [plainName, overriddenIn]; done) | decide +kernel
theorem own_ef_rmP_4 (m : MethodId) (r0 : Addr) : entryFrame m #[(.ref r0), (.int (0 : Int32)), (.int (4 : Int32))] 6 = mkF m 0 #[.val (.ref r0), .val (.int (0 : Int32)), .val (.int (4 : Int32)), .unset, .unset, .unset] [] := by first | (simp [entryFrame, mkF, argsToLocals, Value.category]; done) | rfl
def QP_4 (Z : State) (r0 : Addr) (f : Nat → Value) (c0 : Int32) (c1 : Int32) (c2 : Int32) (c3 : Int32) (h0 : Heap) (n0 : Nat) (v : Option Value) (h : Heap) (L : List Loc) : Prop := ∃ (b : Addr) (f' : Nat → Value), v = some (.ref b) ∧ Fr n0 L ∧ Keep h0 h [] ∧ h0.size ≤ b ∧ Exa Z h b "[B" ∧ Af Z h b .byte 4 f'
set_option maxRecDepth 65536 in
set_option maxHeartbeats 40000000 in
theorem rmP_4 (l : Launch) (Z : State) (a0 : Array Value) (hw : ∀ d ∈ tables_1, d.before a0 Z = true) (ws : List Jvm.Cond) (r0 : Addr) (f : Nat → Value) (c0 : Int32) (c1 : Int32) (c2 : Int32) (c3 : Int32) (h0 : Heap) (n0 : Nat) (Z0 : n0 ≤ h0.size) (A : Af Z h0 r0 .char 4 f) (hf_0 : f 0 = .int c0) (hf_1 : f 1 = .int c1) (hf_2 : f 2 = .int c2) (hf_3 : f 3 = .int c3) (hc_0 : ¬ (255 : Int32) < c0) (hc_1 : ¬ (255 : Int32) < c1) (hc_2 : ¬ (255 : Int32) < c2) (hc_3 : ¬ (255 : Int32) < c3) :
    MetFree l (⟨"java/lang/StringUTF16", "compress", "([CII)[B"⟩ : MethodName) (head1 (Jvm.Cond.code (⟨"java/lang/StringUTF16", "compress", "([CII)[B"⟩ : MethodName) jdk_52_method_16_code 6 (some (.array .byte)) :: ws) ({ frames := 1, cells := 1, slots := 4, locals := 18 } : Room)) (fun a U => a = #[(.ref r0), (.int (0 : Int32)), (.int (4 : Int32))] ∧ Z.Warmed39 U.vm ∧ U.heap = h0) (fun _ _ _ _ _ => True) (fun _ U o U' => ∃ v L, o = .returned v ∧ QP_4 Z r0 f c0 c1 c2 c3 h0 n0 v U'.heap L ∧ FrameEnd U o U' L ({ frames := 1, cells := 1, slots := 4, locals := 18 } : Room).cells ({ frames := 1, cells := 1, slots := 4, locals := 18 } : Room).slots) := by
  refine MetFree.of_bodySF (plainFor_of_name own_pn_rmP_4) hisR ?_
  intro p e s m args below meth cO s₁ Bd hml0 hP hK
  obtain ⟨rfl, hZ, hh⟩ := hP
  have hx := Bd.exec
  have hby := Bd.bytes
  have hD := @Jvm.hb _ _ hby
  have hml : cO.maxLocals = 6 := hml0
  have hown : s.vm.findClass "java/lang/StringUTF16" = some m.cls := findClass_of_methodNamed Bd.named
  have hnm := (name_of_methodNamed Bd.named Bd.method).1
  have hlk : meth.locks = false := BodyLoose.notSynchronized Bd
  have X0 : Stand p l e ({ frames := 1, cells := 1, slots := 4, locals := 18 } : Room) s m #[(.ref r0), (.int (0 : Int32)), (.int (4 : Int32))] below meth cO s₁ [] 0 0 := Stand.of_body Bd
  have e0 : s₁.heap = h0 := by rw [← hh, Bd.state]; rfl
  have N0 := Fr.nil n0
  refine own_in (own_ef_rmP_4 m r0) ?_
  show Gm p e below s₁ m 0 #[rv r0, iv (0 : Int32), iv (4 : Int32), .unset, .unset, .unset] [] _
  refine own_go (fun t' k' => XS.iloadN X0.here hx rfl (hD d27_0) rfl k') ?_
  show Gm p e below s₁ m 1 #[rv r0, iv (0 : Int32), iv (4 : Int32), .unset, .unset, .unset] [(.int (4 : Int32))] _
  obtain ⟨T1, h1, k1, X1, e1, E1, A1, Y1, st1⟩ := newPE X0 hx hZ (hw _ (List.mem_of_getElem? (i := 18) rfl)) e0 (g := (mkF m 1 #[rv r0, iv (0 : Int32), iv (4 : Int32), .unset, .unset, .unset] [(.int (4 : Int32))])) rfl (hD d27_1) rfl (by decide) (cap := 4) (by decide) (by decide) (by decide) (by decide) (ad := "[B") (by decide)
  obtain ⟨b1, g1⟩ : ∃ z, z = h0.size := ⟨_, rfl⟩
  rw [← g1] at A1 st1 Y1
  have g_b1 : n0 ≤ b1 := Nat.le_trans Z0 (Nat.le_of_eq g1.symm)
  have ne_r0_b1 : r0 ≠ b1 := Nat.ne_of_lt (Nat.lt_of_lt_of_le A.lt (Nat.le_of_eq g1.symm))
  have sz_b1 : h0.size ≤ b1 := Nat.le_trans (Keep.refl h0 []).1 (Nat.le_of_eq g1.symm)
  have K1 : Keep h0 h1 [] := Keep.ext (Keep.refl h0 []) E1
  have Z1 : n0 ≤ h1.size := Nat.le_trans Z0 E1.1
  have V1 : Af Z h1 b1 .byte 4 (fun _ => defaultValue .byte) := Af.new A1 (by decide) rfl rfl
  refine own_go st1 ?_
  refine own_go (fun t' k' => XS.astoreN X1.here hx rfl (hD d27_3) rfl rfl (l' := #[rv r0, iv (0 : Int32), iv (4 : Int32), rv b1, .unset, .unset]) rfl k') ?_
  refine own_go (fun t' k' => XS.aloadN X1.here hx rfl (hD d27_4) rfl rfl k') ?_
  show Gm p e below T1 m 5 #[rv r0, iv (0 : Int32), iv (4 : Int32), rv b1, .unset, .unset] [(.ref r0)] _
  refine own_go (fun t' k' => XS.iloadN X1.here hx rfl (hD d27_5) rfl k') ?_
  refine own_go (fun t' k' => XS.aloadN X1.here hx rfl (hD d27_6) rfl rfl k') ?_
  refine own_go (fun t' k' => XS.iconst X1.here hx rfl (hD d27_7) k') ?_
  show Gm p e below T1 m 8 #[rv r0, iv (0 : Int32), iv (4 : Int32), rv b1, .unset, .unset] [(.int (0 : Int32)), (.ref b1), (.int (0 : Int32)), (.ref r0)] _
  refine own_go (fun t' k' => XS.iloadN X1.here hx rfl (hD d27_8) rfl k') ?_
  show Gm p e below T1 m 9 #[rv r0, iv (0 : Int32), iv (4 : Int32), rv b1, .unset, .unset] [(.int (4 : Int32)), (.int (0 : Int32)), (.ref b1), (.int (0 : Int32)), (.ref r0)] _
  have f2 := (A.ext E1)
  obtain ⟨_, _, ⟨T3, L3, k3, n3⟩, -, X3, ⟨Lc3, hQ3, l3, y3, z3⟩, st3⟩ := Jvm.LawKit.callS X1 hx (y := (⟨"java/lang/StringUTF16", "compress", "([CI[BII)I"⟩ : MethodName)) hown (mvT hZ (hw _ (List.mem_of_getElem? (i := 154) rfl))) (mvT hZ (hw _ (List.mem_of_getElem? (i := 155) rfl))) (mvT hZ (hw _ (List.mem_of_getElem? (i := 152) rfl))) (mvT hZ (hw _ (List.mem_of_getElem? (i := 156) rfl))) (by decide) (backOf (W := 0) (rmK_4 l Z a0 hw [] r0 b1 f (fun _ => defaultValue .byte) c0 c1 c2 c3 h1 n0 Z1 f2 V1 hf_0 hf_1 hf_2 hf_3 hc_0 hc_1 hc_2 hc_3 g_b1 ne_r0_b1) hZ (hw _ (List.mem_of_getElem? (i := 156) rfl)) (hw _ (List.mem_of_getElem? (i := 152) rfl)) (by decide) (by decide)) (g := (mkF m 9 #[rv r0, iv (0 : Int32), iv (4 : Int32), rv b1, .unset, .unset] [(.int (4 : Int32)), (.int (0 : Int32)), (.ref b1), (.int (0 : Int32)), (.ref r0)])) rfl (by rw [hml]; rfl) (argsL := [(.ref r0), (.int (0 : Int32)), (.ref b1), (.int (0 : Int32)), (.int (4 : Int32))]) (rest := []) (lenOf own_pd0 rfl) rfl (by show 2 * 0 + _ ≤ _; exact Nat.le_of_eq rfl) (hD d27_9) (fun _ _ => ⟨rfl, e1, (by decide : 1 + 0 ≤ _), (by decide : 4 + 0 ≤ _)⟩)
  dsimp only [Pt.U, Pt.locs, Pt.cells, Pt.slots] at X3 l3 y3 z3 st3 hQ3
  subst l3 y3 z3
  obtain ⟨rfl, Nq3, Kc3, fk3, Ak3⟩ := hQ3
  have N3 := Fr.app N0 Nq3
  refine own_go st3 ?_
  have Z3 : n0 ≤ T3.heap.size := Nat.le_trans Z1 Kc3.1
  have K3 : Keep h0 T3.heap [] := Keep.trans K1 Kc3 (allS (Or.inr sz_b1) all0)
  refine own_go (fun t' k' => XS.istore X3.here hx rfl (hD d27_12) rfl (l' := #[rv r0, iv (0 : Int32), iv (4 : Int32), rv b1, iv (4 : Int32), .unset]) rfl k') ?_
  refine own_go (fun t' k' => XS.iload X3.here hx rfl (hD d27_14) rfl k') ?_
  show Gm p e below T3 m 16 #[rv r0, iv (0 : Int32), iv (4 : Int32), rv b1, iv (4 : Int32), .unset] [(.int (4 : Int32))] _
  refine own_go (fun t' k' => XS.iloadN X3.here hx rfl (hD d27_16) rfl k') ?_
  show Gm p e below T3 m 17 #[rv r0, iv (0 : Int32), iv (4 : Int32), rv b1, iv (4 : Int32), .unset] [(.int (4 : Int32)), (.int (4 : Int32))] _
  refine own_go (fun t' k' => XS.icmpYes X3.here hx rfl (pc0 := 17) (pc' := 57) rfl (hD d27_17) rfl (XT.ii_eq_t (by decide)) (by decide) (by decide) k') ?_
  refine own_go (fun t' k' => XS.aloadN X3.here hx rfl (hD d27_57) rfl rfl k') ?_
  show Gm p e below T3 m 58 #[rv r0, iv (0 : Int32), iv (4 : Int32), rv b1, iv (4 : Int32), .unset] [(.ref b1)] _
  have f4 := (Y1.keep Kc3)
  exact own_retA X3 hx hlk rfl Bd.returns rfl (hD d27_58) rfl ⟨b1, fk3, rfl, N3, K3, sz_b1, f4, Ak3⟩ (by decide) (by decide)
theorem own_pn_rmD_4 : plainName "java/lang/StringUTF16" = true := by first | (simp [plainName, overriddenIn]; done) | decide +kernel
theorem own_ef_rmD_4 (m : MethodId) (r0 : Addr) : entryFrame m #[(.ref r0), (.int (4 : Int32))] 2 = mkF m 0 #[.val (.ref r0), .val (.int (4 : Int32))] [] := by first | (simp [entryFrame, mkF, argsToLocals, Value.category]; done) | rfl
def QD_4 (Z : State) (r0 : Addr) (f : Nat → Value) (h0 : Heap) (n0 : Nat) (v : Option Value) (h : Heap) (L : List Loc) : Prop := v = some (.int (0 : Int32)) ∧ Fr n0 L ∧ h = h0
set_option maxRecDepth 65536 in
set_option maxHeartbeats 40000000 in
theorem rmD_4 (l : Launch) (Z : State) (a0 : Array Value) (hw : ∀ d ∈ tables_1, d.before a0 Z = true) (ws : List Jvm.Cond) (r0 : Addr) (f : Nat → Value) (h0 : Heap) (n0 : Nat) (Z0 : n0 ≤ h0.size) (A : Af Z h0 r0 .byte 4 f) :
    MetFree l (⟨"java/lang/StringUTF16", "coderFromArrayLen", "([BI)B"⟩ : MethodName) (head1 (Jvm.Cond.code (⟨"java/lang/StringUTF16", "coderFromArrayLen", "([BI)B"⟩ : MethodName) jdk_52_method_15_code 2 (some .byte) :: ws) ({ frames := 0, cells := 0, slots := 0, locals := 0 } : Room)) (fun a U => a = #[(.ref r0), (.int (4 : Int32))] ∧ Z.Warmed39 U.vm ∧ U.heap = h0) (fun _ _ _ _ _ => True) (fun _ U o U' => ∃ v L, o = .returned v ∧ QD_4 Z r0 f h0 n0 v U'.heap L ∧ FrameEnd U o U' L ({ frames := 0, cells := 0, slots := 0, locals := 0 } : Room).cells ({ frames := 0, cells := 0, slots := 0, locals := 0 } : Room).slots) := by
  refine MetFree.of_bodySF (plainFor_of_name own_pn_rmD_4) hisR ?_
  intro p e s m args below meth cO s₁ Bd hml0 hP hK
  obtain ⟨rfl, hZ, hh⟩ := hP
  have hx := Bd.exec
  have hby := Bd.bytes
  have hD := @Jvm.hb _ _ hby
  have hml : cO.maxLocals = 2 := hml0
  have hown : s.vm.findClass "java/lang/StringUTF16" = some m.cls := findClass_of_methodNamed Bd.named
  have hnm := (name_of_methodNamed Bd.named Bd.method).1
  have hlk : meth.locks = false := BodyLoose.notSynchronized Bd
  have X0 : Stand p l e ({ frames := 0, cells := 0, slots := 0, locals := 0 } : Room) s m #[(.ref r0), (.int (4 : Int32))] below meth cO s₁ [] 0 0 := Stand.of_body Bd
  have e0 : s₁.heap = h0 := by rw [← hh, Bd.state]; rfl
  have N0 := Fr.nil n0
  refine own_in (own_ef_rmD_4 m r0) ?_
  show Gm p e below s₁ m 0 #[rv r0, iv (4 : Int32)] [] _
  refine own_go (fun t' k' => XS.iloadN X0.here hx rfl (hD d29_0) rfl k') ?_
  refine own_go (fun t' k' => XS.aloadN X0.here hx rfl (hD d29_1) rfl rfl k') ?_
  show Gm p e below s₁ m 2 #[rv r0, iv (4 : Int32)] [(.ref r0), (.int (4 : Int32))] _
  refine own_go (fun t' k' => own_len X0 hx hZ e0 A (z := (4 : Int32)) rfl (g := (mkF m 2 #[rv r0, iv (4 : Int32)] [(.ref r0), (.int (4 : Int32))])) rfl rfl (hD d29_2) k') ?_
  refine own_go (fun t' k' => XS.isub X0.here hx rfl (hD d29_3) rfl k') ?_
  refine own_go (fun t' k' => XS.bipush X0.here hx rfl (hD d29_4) k') ?_
  show Gm p e below s₁ m 6 #[rv r0, iv (4 : Int32)] [(.int (31 : Int32)), (.int (0 : Int32))] _
  refine own_go (fun t' k' => XS.iushr X0.here hx rfl (hD d29_6) rfl k') ?_
  refine own_go (fun t' k' => XS.i2b X0.here hx rfl (hD d29_7) rfl k') ?_
  show Gm p e below s₁ m 8 #[rv r0, iv (4 : Int32)] [(.int ((((0 : Int32).toUInt32 >>> ((31 : Int32) &&& 31).toUInt32).toInt32).toInt8.toInt32))] _
  exact own_retI X0 hx hlk (t := .byte) Bd.returns (by decide +kernel) (by simp) (hD d29_8) e0 ⟨(by decide +kernel), N0, rfl⟩ (by decide) (by decide)
theorem own_pn_rmV_4 : plainName "java/lang/String" = true := by first | (simp [plainName, overriddenIn]; done) | decide +kernel
theorem own_ef_rmV_4 (m : MethodId) (r0 : Addr) (r1 : Addr) : entryFrame m #[(.ref r0), (.ref r1), (.int (0 : Int32)), (.int (4 : Int32)), .null] 6 = mkF m 0 #[.val (.ref r0), .val (.ref r1), .val (.int (0 : Int32)), .val (.int (4 : Int32)), .val .null, .unset] [] := by first | (simp [entryFrame, mkF, argsToLocals, Value.category]; done) | rfl
def QV_4 (Z : State) (r0 : Addr) (r1 : Addr) (f : Nat → Value) (c0 : Int32) (c1 : Int32) (c2 : Int32) (c3 : Int32) (cs : Int32) (h0 : Heap) (n0 : Nat) (v : Option Value) (h : Heap) (L : List Loc) : Prop := ∃ (b : Addr) (f' : Nat → Value), v = none ∧ Fr n0 L ∧ Keep h0 h [r0] ∧ Exa Z h r0 "java/lang/String" ∧ Fld Z h r0 "java/lang/String" "coder" "B" (.int (0 : Int32)) ∧ Fld Z h r0 "java/lang/String" "value" "[B" (.ref b) ∧ Exa Z h b "[B" ∧ Af Z h b .byte 4 f'
set_option maxRecDepth 65536 in
set_option maxHeartbeats 40000000 in
theorem rmV_4 (l : Launch) (Z : State) (a0 : Array Value) (hw : ∀ d ∈ tables_1, d.before a0 Z = true) (ws : List Jvm.Cond) (r0 : Addr) (r1 : Addr) (f : Nat → Value) (c0 : Int32) (c1 : Int32) (c2 : Int32) (c3 : Int32) (cs : Int32) (h0 : Heap) (n0 : Nat) (Z0 : n0 ≤ h0.size) (E_r0 : Exa Z h0 r0 "java/lang/String") (F_v : Fld Z h0 r0 "java/lang/String" "value" "[B" .null) (F_c : Fld Z h0 r0 "java/lang/String" "coder" "B" (.int (0 : Int32))) (A : Af Z h0 r1 .char 4 f) (hf_0 : f 0 = .int c0) (hf_1 : f 1 = .int c1) (hf_2 : f 2 = .int c2) (hf_3 : f 3 = .int c3) (hc_0 : ¬ (255 : Int32) < c0) (hc_1 : ¬ (255 : Int32) < c1) (hc_2 : ¬ (255 : Int32) < c2) (hc_3 : ¬ (255 : Int32) < c3) (S_c : Sta Z h0 "java/lang/String" "COMPACT_STRINGS" "Z" (.int cs)) (hcs : ¬ cs = 0) (g_r0 : n0 ≤ r0) :
    MetFree l (⟨"java/lang/String", "<init>", "([CIILjava/lang/Void;)V"⟩ : MethodName) (head1 (Jvm.Cond.code (⟨"java/lang/String", "<init>", "([CIILjava/lang/Void;)V"⟩ : MethodName) jdk_42_method_149_code 6 none :: ws) ({ frames := 2, cells := 1, slots := 4, locals := 35 } : Room)) (fun a U => a = #[(.ref r0), (.ref r1), (.int (0 : Int32)), (.int (4 : Int32)), .null] ∧ Z.Warmed39 U.vm ∧ U.heap = h0) (fun _ _ _ _ _ => True) (fun _ U o U' => ∃ v L, o = .returned v ∧ QV_4 Z r0 r1 f c0 c1 c2 c3 cs h0 n0 v U'.heap L ∧ FrameEnd U o U' L ({ frames := 2, cells := 1, slots := 4, locals := 35 } : Room).cells ({ frames := 2, cells := 1, slots := 4, locals := 35 } : Room).slots) := by
  refine MetFree.of_bodySF (plainFor_of_name own_pn_rmV_4) hisR ?_
  intro p e s m args below meth cO s₁ Bd hml0 hP hK
  obtain ⟨rfl, hZ, hh⟩ := hP
  have hx := Bd.exec
  have hby := Bd.bytes
  have hD := @Jvm.hb _ _ hby
  have hml : cO.maxLocals = 6 := hml0
  have hown : s.vm.findClass "java/lang/String" = some m.cls := findClass_of_methodNamed Bd.named
  have hnm := (name_of_methodNamed Bd.named Bd.method).1
  have hlk : meth.locks = false := BodyLoose.notSynchronized Bd
  have X0 : Stand p l e ({ frames := 2, cells := 1, slots := 4, locals := 35 } : Room) s m #[(.ref r0), (.ref r1), (.int (0 : Int32)), (.int (4 : Int32)), .null] below meth cO s₁ [] 0 0 := Stand.of_body Bd
  have e0 : s₁.heap = h0 := by rw [← hh, Bd.state]; rfl
  have N0 := Fr.nil n0
  refine own_in (own_ef_rmV_4 m r0 r1) ?_
  show Gm p e below s₁ m 0 #[rv r0, rv r1, iv (0 : Int32), iv (4 : Int32), .val .null, .unset] [] _
  refine own_go (fun t' k' => XS.aloadN X0.here hx rfl (hD d8_0) rfl rfl k') ?_
  show Gm p e below s₁ m 1 #[rv r0, rv r1, iv (0 : Int32), iv (4 : Int32), .val .null, .unset] [(.ref r0)] _
  obtain ⟨T1, X1, e1, st1⟩ := initO X0 hx hZ hown (hw _ (List.mem_of_getElem? (i := 23) rfl)) (hw _ (List.mem_of_getElem? (i := 24) rfl)) (hw _ (List.mem_of_getElem? (i := 25) rfl)) e0 (g := (mkF m 1 #[rv r0, rv r1, iv (0 : Int32), iv (4 : Int32), .val .null, .unset] [(.ref r0)])) rfl (by rw [hml]; rfl) rfl (hD d8_1) (by decide) (W := 0) (by show 2 * 0 + _ ≤ _; exact Nat.le_of_eq rfl) (by decide)
  refine own_go st1 ?_
  refine own_go (fun t' k' => XS.iloadN X1.here hx rfl (hD d8_4) rfl k') ?_
  show Gm p e below T1 m 5 #[rv r0, rv r1, iv (0 : Int32), iv (4 : Int32), .val .null, .unset] [(.int (4 : Int32))] _
  refine own_go (fun t' k' => XS.ifYes X1.here hx rfl (pc0 := 5) (pc' := 27) rfl (hD d8_5) rfl (XT.i0_ne_t (by decide)) (by decide) (by decide) k') ?_
  show Gm p e below T1 m 27 #[rv r0, rv r1, iv (0 : Int32), iv (4 : Int32), .val .null, .unset] [] _
  obtain ⟨T2, X2, e2, st2⟩ := getS2 X1 hx hZ hown (host := "") (Or.inl (hw _ (List.mem_of_getElem? (i := 8) rfl))) Via.refl e1 S_c (g := (mkF m 27 #[rv r0, rv r1, iv (0 : Int32), iv (4 : Int32), .val .null, .unset] [])) rfl (hD d8_27)
  refine own_go st2 ?_
  show Gm p e below T2 m 30 #[rv r0, rv r1, iv (0 : Int32), iv (4 : Int32), .val .null, .unset] [(.int cs)] _
  refine own_go (fun t' k' => XS.ifNo X2.here hx rfl (hD d8_30) rfl (XT.i0_eq_f hcs) k') ?_
  refine own_go (fun t' k' => XS.aloadN X2.here hx rfl (hD d8_33) rfl rfl k') ?_
  refine own_go (fun t' k' => XS.iloadN X2.here hx rfl (hD d8_34) rfl k') ?_
  show Gm p e below T2 m 35 #[rv r0, rv r1, iv (0 : Int32), iv (4 : Int32), .val .null, .unset] [(.int (0 : Int32)), (.ref r1)] _
  refine own_go (fun t' k' => XS.iloadN X2.here hx rfl (hD d8_35) rfl k') ?_
  show Gm p e below T2 m 36 #[rv r0, rv r1, iv (0 : Int32), iv (4 : Int32), .val .null, .unset] [(.int (4 : Int32)), (.int (0 : Int32)), (.ref r1)] _
  obtain ⟨_, _, ⟨T3, L3, k3, n3⟩, -, X3, ⟨Lc3, hQ3, l3, y3, z3⟩, st3⟩ := Jvm.LawKit.callS X2 hx (y := (⟨"java/lang/StringUTF16", "compress", "([CII)[B"⟩ : MethodName)) hown (mvT hZ (hw _ (List.mem_of_getElem? (i := 150) rfl))) (mvT hZ (hw _ (List.mem_of_getElem? (i := 151) rfl))) (mvT hZ (hw _ (List.mem_of_getElem? (i := 152) rfl))) (mvT hZ (hw _ (List.mem_of_getElem? (i := 153) rfl))) (by decide) (backOf (W := 0) (rmP_4 l Z a0 hw [] r1 f c0 c1 c2 c3 h0 n0 Z0 A hf_0 hf_1 hf_2 hf_3 hc_0 hc_1 hc_2 hc_3) hZ (hw _ (List.mem_of_getElem? (i := 153) rfl)) (hw _ (List.mem_of_getElem? (i := 152) rfl)) (by decide) (by decide)) (g := (mkF m 36 #[rv r0, rv r1, iv (0 : Int32), iv (4 : Int32), .val .null, .unset] [(.int (4 : Int32)), (.int (0 : Int32)), (.ref r1)])) rfl (by rw [hml]; rfl) (argsL := [(.ref r1), (.int (0 : Int32)), (.int (4 : Int32))]) (rest := []) (lenOf own_pd1 rfl) rfl (by show 2 * 0 + _ ≤ _; exact Nat.le_of_eq rfl) (hD d8_36) (fun _ _ => ⟨rfl, e2, (by decide : 0 + 1 ≤ _), (by decide : 0 + 4 ≤ _)⟩)
  dsimp only [Pt.U, Pt.locs, Pt.cells, Pt.slots] at X3 l3 y3 z3 st3 hQ3
  subst l3 y3 z3
  obtain ⟨bp3, fp3, rfl, Nq3, Kc3, sz3, Ep3, Ap3⟩ := hQ3
  have N3 := Fr.app N0 Nq3
  refine own_go st3 ?_
  have g_bp3 : n0 ≤ bp3 := Nat.le_trans Z0 sz3
  have Z3 : n0 ≤ T3.heap.size := Nat.le_trans Z0 Kc3.1
  have K3 : Keep h0 T3.heap [r0] := Keep.trans (Keep.refl h0 [r0]) Kc3 all0
  have sz_bp3 : h0.size ≤ bp3 := Nat.le_trans (Keep.refl h0 [r0]).1 sz3
  refine own_go (fun t' k' => XS.astore X3.here hx rfl (hD d8_39) rfl rfl (l' := #[rv r0, rv r1, iv (0 : Int32), iv (4 : Int32), .val .null, rv bp3]) rfl k') ?_
  refine own_go (fun t' k' => XS.aloadN X3.here hx rfl (hD d8_41) rfl rfl k') ?_
  show Gm p e below T3 m 42 #[rv r0, rv r1, iv (0 : Int32), iv (4 : Int32), .val .null, rv bp3] [(.ref r0)] _
  refine own_go (fun t' k' => XS.aload X3.here hx rfl (hD d8_42) rfl rfl k') ?_
  refine own_go (fun t' k' => XS.iloadN X3.here hx rfl (hD d8_44) rfl k') ?_
  show Gm p e below T3 m 45 #[rv r0, rv r1, iv (0 : Int32), iv (4 : Int32), .val .null, rv bp3] [(.int (4 : Int32)), (.ref bp3), (.ref r0)] _
  obtain ⟨_, _, ⟨T4, L4, k4, n4⟩, -, X4, ⟨Lc4, hQ4, l4, y4, z4⟩, st4⟩ := Jvm.LawKit.callS X3 hx (y := (⟨"java/lang/StringUTF16", "coderFromArrayLen", "([BI)B"⟩ : MethodName)) hown (mvT hZ (hw _ (List.mem_of_getElem? (i := 157) rfl))) (mvT hZ (hw _ (List.mem_of_getElem? (i := 158) rfl))) (mvT hZ (hw _ (List.mem_of_getElem? (i := 152) rfl))) (mvT hZ (hw _ (List.mem_of_getElem? (i := 159) rfl))) (by decide) (backOf (W := 1) (rmD_4 l Z a0 hw [] bp3 fp3 T3.heap n0 Z3 Ap3) hZ (hw _ (List.mem_of_getElem? (i := 159) rfl)) (hw _ (List.mem_of_getElem? (i := 152) rfl)) (by decide) (by decide)) (g := (mkF m 45 #[rv r0, rv r1, iv (0 : Int32), iv (4 : Int32), .val .null, rv bp3] [(.int (4 : Int32)), (.ref bp3), (.ref r0)])) rfl (by rw [hml]; rfl) (argsL := [(.ref bp3), (.int (4 : Int32))]) (rest := [(.ref r0)]) (lenOf own_pd2 rfl) rfl (by show 2 * 0 + _ ≤ _; exact Nat.le_of_eq rfl) (hD d8_45) (fun _ _ => ⟨rfl, rfl, (by decide : 1 + 0 ≤ _), (by decide : 4 + 0 ≤ _)⟩)
  dsimp only [Pt.U, Pt.locs, Pt.cells, Pt.slots] at X4 l4 y4 z4 st4 hQ4
  subst l4 y4 z4
  obtain ⟨rfl, Nq4, eq4⟩ := hQ4
  have N4 := Fr.app N3 Nq4
  have e4 : T4.heap = T3.heap := eq4
  refine own_go st4 ?_
  show Gm p e below T4 m 48 #[rv r0, rv r1, iv (0 : Int32), iv (4 : Int32), .val .null, rv bp3] [(.int (0 : Int32)), (.ref r0)] _
  have f5 := (E_r0.keep Kc3)
  have f6 := (F_c.keep Kc3 nin0)
  obtain ⟨T7, h7, X7, e7, W7, st7⟩ := putFN X4 hx hZ hown (hw _ (List.mem_of_getElem? (i := 28) rfl)) Via.refl e4 f6 f5 (Or.inr ⟨(hw _ (List.mem_of_getElem? (i := 29) rfl)), rfl, hnm⟩) (hw _ (List.mem_of_getElem? (i := 14) rfl)) (ty := .byte) (v' := (.int (0 : Int32))) (by decide) rfl rfl (g := (mkF m 48 #[rv r0, rv r1, iv (0 : Int32), iv (4 : Int32), .val .null, rv bp3] [(.int (0 : Int32)), (.ref r0)])) rfl rfl (hD d8_48)
  have Fw7 := Fld.same W7 f6
  have N7 := Fr.snoc X7 N4 g_r0
  have Z7 : n0 ≤ h7.size := W7.size ▸ Z3
  have K7 : Keep h0 h7 [r0] := Keep.wr K3 W7 (Or.inl (List.mem_of_getElem? (i := 0) rfl))
  refine own_go st7 ?_
  refine own_go (fun t' k' => XS.aloadN X7.here hx rfl (hD d8_51) rfl rfl k') ?_
  refine own_go (fun t' k' => XS.aload X7.here hx rfl (hD d8_52) rfl rfl k') ?_
  show Gm p e below T7 m 54 #[rv r0, rv r1, iv (0 : Int32), iv (4 : Int32), .val .null, rv bp3] [(.ref bp3), (.ref r0)] _
  have f8 := (f5.wr W7)
  have f9 := (Fld.other W7 (F_v.keep Kc3 nin0) (Or.inr (slot_ne (Or.inr (hw _ (List.mem_of_getElem? (i := 27) rfl))) (Or.inr (hw _ (List.mem_of_getElem? (i := 29) rfl))) (by decide) (t := (.array .byte)) (t' := .byte) (by decide) (by decide))))
  obtain ⟨T10, h10, X10, e10, W10, st10⟩ := putF X7 hx hZ hown (host := "") (Or.inl (hw _ (List.mem_of_getElem? (i := 26) rfl))) Via.refl e7 f9 f8 (Or.inr ⟨(hw _ (List.mem_of_getElem? (i := 27) rfl)), rfl, hnm⟩) (hw _ (List.mem_of_getElem? (i := 14) rfl)) (ty := (.array .byte)) (by decide) rfl rfl (g := (mkF m 54 #[rv r0, rv r1, iv (0 : Int32), iv (4 : Int32), .val .null, rv bp3] [(.ref bp3), (.ref r0)])) rfl rfl (hD d8_54)
  have Fw10 := Fld.same W10 f9
  have N10 := Fr.snoc X10 N7 g_r0
  have Z10 : n0 ≤ h10.size := W10.size ▸ Z7
  have K10 : Keep h0 h10 [r0] := Keep.wr K7 W10 (Or.inl (List.mem_of_getElem? (i := 0) rfl))
  refine own_go st10 ?_
  show Gm p e below T10 m 57 #[rv r0, rv r1, iv (0 : Int32), iv (4 : Int32), .val .null, rv bp3] [] _
  have f11 := ((Ap3.other W7 (Ne.symm (Nat.ne_of_lt (Nat.lt_of_lt_of_le E_r0.lt sz3)))).other W10 (Ne.symm (Nat.ne_of_lt (Nat.lt_of_lt_of_le E_r0.lt sz3))))
  have f12 := (f8.wr W10)
  have f13 := (Fld.other W10 Fw7 (Or.inr (slot_ne (Or.inr (hw _ (List.mem_of_getElem? (i := 29) rfl))) (Or.inr (hw _ (List.mem_of_getElem? (i := 27) rfl))) (by decide) (t := .byte) (t' := (.array .byte)) (by decide) (by decide))))
  have f14 := ((Ep3.wr W7).wr W10)
  exact own_retV X10 hx hlk Bd.returns (hD d8_57) e10 ⟨bp3, fp3, rfl, N10, K10, f12, f13, Fw10, f14, f11⟩ (by decide) (by decide)
theorem own_pn_rmC_4 : plainName "java/lang/String" = true := by first | (simp [plainName, overriddenIn]; done) | decide +kernel
theorem own_ef_rmC_4 (m : MethodId) (r0 : Addr) (r1 : Addr) : entryFrame m #[(.ref r0), (.ref r1)] 2 = mkF m 0 #[.val (.ref r0), .val (.ref r1)] [] := by first | (simp [entryFrame, mkF, argsToLocals, Value.category]; done) | rfl
def QC_4 (Z : State) (r0 : Addr) (r1 : Addr) (f : Nat → Value) (c0 : Int32) (c1 : Int32) (c2 : Int32) (c3 : Int32) (cs : Int32) (h0 : Heap) (n0 : Nat) (v : Option Value) (h : Heap) (L : List Loc) : Prop := ∃ (b : Addr) (f' : Nat → Value), v = none ∧ Fr n0 L ∧ Keep h0 h [r0] ∧ Exa Z h r0 "java/lang/String" ∧ Fld Z h r0 "java/lang/String" "coder" "B" (.int (0 : Int32)) ∧ Fld Z h r0 "java/lang/String" "value" "[B" (.ref b) ∧ Exa Z h b "[B" ∧ Af Z h b .byte 4 f'
set_option maxRecDepth 65536 in
set_option maxHeartbeats 40000000 in
theorem rmC_4 (l : Launch) (Z : State) (a0 : Array Value) (hw : ∀ d ∈ tables_1, d.before a0 Z = true) (ws : List Jvm.Cond) (r0 : Addr) (r1 : Addr) (f : Nat → Value) (c0 : Int32) (c1 : Int32) (c2 : Int32) (c3 : Int32) (cs : Int32) (h0 : Heap) (n0 : Nat) (Z0 : n0 ≤ h0.size) (E_r0 : Exa Z h0 r0 "java/lang/String") (F_v : Fld Z h0 r0 "java/lang/String" "value" "[B" .null) (F_c : Fld Z h0 r0 "java/lang/String" "coder" "B" (.int (0 : Int32))) (A : Af Z h0 r1 .char 4 f) (hf_0 : f 0 = .int c0) (hf_1 : f 1 = .int c1) (hf_2 : f 2 = .int c2) (hf_3 : f 3 = .int c3) (hc_0 : ¬ (255 : Int32) < c0) (hc_1 : ¬ (255 : Int32) < c1) (hc_2 : ¬ (255 : Int32) < c2) (hc_3 : ¬ (255 : Int32) < c3) (S_c : Sta Z h0 "java/lang/String" "COMPACT_STRINGS" "Z" (.int cs)) (hcs : ¬ cs = 0) (g_r0 : n0 ≤ r0) :
    MetFree l (⟨"java/lang/String", "<init>", "([C)V"⟩ : MethodName) (head1 (Jvm.Cond.code (⟨"java/lang/String", "<init>", "([C)V"⟩ : MethodName) jdk_42_method_3_code 2 none :: ws) ({ frames := 3, cells := 1, slots := 4, locals := 52 } : Room)) (fun a U => a = #[(.ref r0), (.ref r1)] ∧ Z.Warmed39 U.vm ∧ U.heap = h0) (fun _ _ _ _ _ => True) (fun _ U o U' => ∃ v L, o = .returned v ∧ QC_4 Z r0 r1 f c0 c1 c2 c3 cs h0 n0 v U'.heap L ∧ FrameEnd U o U' L ({ frames := 3, cells := 1, slots := 4, locals := 52 } : Room).cells ({ frames := 3, cells := 1, slots := 4, locals := 52 } : Room).slots) := by
  refine MetFree.of_bodySF (plainFor_of_name own_pn_rmC_4) hisR ?_
  intro p e s m args below meth cO s₁ Bd hml0 hP hK
  obtain ⟨rfl, hZ, hh⟩ := hP
  have hx := Bd.exec
  have hby := Bd.bytes
  have hD := @Jvm.hb _ _ hby
  have hml : cO.maxLocals = 2 := hml0
  have hown : s.vm.findClass "java/lang/String" = some m.cls := findClass_of_methodNamed Bd.named
  have hnm := (name_of_methodNamed Bd.named Bd.method).1
  have hlk : meth.locks = false := BodyLoose.notSynchronized Bd
  have X0 : Stand p l e ({ frames := 3, cells := 1, slots := 4, locals := 52 } : Room) s m #[(.ref r0), (.ref r1)] below meth cO s₁ [] 0 0 := Stand.of_body Bd
  have e0 : s₁.heap = h0 := by rw [← hh, Bd.state]; rfl
  have N0 := Fr.nil n0
  refine own_in (own_ef_rmC_4 m r0 r1) ?_
  show Gm p e below s₁ m 0 #[rv r0, rv r1] [] _
  refine own_go (fun t' k' => XS.aloadN X0.here hx rfl (hD d7_0) rfl rfl k') ?_
  refine own_go (fun t' k' => XS.aloadN X0.here hx rfl (hD d7_1) rfl rfl k') ?_
  refine own_go (fun t' k' => XS.iconst X0.here hx rfl (hD d7_2) k') ?_
  show Gm p e below s₁ m 3 #[rv r0, rv r1] [(.int (0 : Int32)), (.ref r1), (.ref r0)] _
  refine own_go (fun t' k' => XS.aloadN X0.here hx rfl (hD d7_3) rfl rfl k') ?_
  show Gm p e below s₁ m 4 #[rv r0, rv r1] [(.ref r1), (.int (0 : Int32)), (.ref r1), (.ref r0)] _
  refine own_go (fun t' k' => own_len X0 hx hZ e0 A (z := (4 : Int32)) rfl (g := (mkF m 4 #[rv r0, rv r1] [(.ref r1), (.int (0 : Int32)), (.ref r1), (.ref r0)])) rfl rfl (hD d7_4) k') ?_
  refine own_go (fun t' k' => XS.aconstNull X0.here hx rfl (hD d7_5) k') ?_
  show Gm p e below s₁ m 6 #[rv r0, rv r1] [.null, (.int (4 : Int32)), (.int (0 : Int32)), (.ref r1), (.ref r0)] _
  obtain ⟨_, _, ⟨T1, L1, k1, n1⟩, -, X1, ⟨Lc1, hQ1, l1, y1, z1⟩, st1⟩ := X0.specialBack hx (y := (⟨"java/lang/String", "<init>", "([CIILjava/lang/Void;)V"⟩ : MethodName)) rfl hown (mvT hZ (hw _ (List.mem_of_getElem? (i := 35) rfl))) (mvT hZ (hw _ (List.mem_of_getElem? (i := 36) rfl))) (mvT hZ (hw _ (List.mem_of_getElem? (i := 37) rfl))) (by decide) (backOf (W := 0) (rmV_4 l Z a0 hw [] r0 r1 f c0 c1 c2 c3 cs h0 n0 Z0 E_r0 F_v F_c A hf_0 hf_1 hf_2 hf_3 hc_0 hc_1 hc_2 hc_3 S_c hcs g_r0) hZ (hw _ (List.mem_of_getElem? (i := 37) rfl)) (hw _ (List.mem_of_getElem? (i := 6) rfl)) (by decide) (by decide)) (g := (mkF m 6 #[rv r0, rv r1] [.null, (.int (4 : Int32)), (.int (0 : Int32)), (.ref r1), (.ref r0)])) rfl (by rw [hml]; rfl) (Steps.refl _) (a := r0) (argsL := [(.ref r1), (.int (0 : Int32)), (.int (4 : Int32)), .null]) (rest := []) (lenOf own_pd3 rfl) rfl (by show 2 * 0 + _ ≤ _; exact Nat.le_of_eq rfl) (hD d7_6) (fun _ _ => ⟨rfl, e0, (by decide : 0 + 1 ≤ _), (by decide : 0 + 4 ≤ _)⟩)
  dsimp only [Pt.U, Pt.locs, Pt.cells, Pt.slots] at X1 l1 y1 z1 st1 hQ1
  subst l1 y1 z1
  obtain ⟨bq1, fq1, rfl, Nq1, Kc1, Ec1, Fc1, Fv1, Eb1, Aq1⟩ := hQ1
  have N1 := Fr.app N0 Nq1
  refine own_go (fun t k => st1.trans k) ?_
  have Z1 : n0 ≤ T1.heap.size := Nat.le_trans Z0 Kc1.1
  have K1 : Keep h0 T1.heap [r0] := Keep.trans (Keep.refl h0 [r0]) Kc1 (allS (Or.inl (List.mem_of_getElem? (i := 0) rfl)) all0)
  show Gm p e below T1 m 9 #[rv r0, rv r1] [] _
  exact own_retV X1 hx hlk Bd.returns (hD d7_9) rfl ⟨bq1, fq1, rfl, N1, K1, Ec1, Fc1, Fv1, Eb1, Aq1⟩ (by decide) (by decide)
theorem d8_8 : decode jdk_42_method_149_code 8 = .ok (.aload_n 0, 1) := by decide +kernel
theorem d8_9 : decode jdk_42_method_149_code 9 = .ok (.ldc 7, 2) := by decide +kernel
theorem d8_11 : decode jdk_42_method_149_code 11 = .ok (.getfield 9, 3) := by decide +kernel
theorem d8_14 : decode jdk_42_method_149_code 14 = .ok (.putfield 9, 3) := by decide +kernel
theorem d8_17 : decode jdk_42_method_149_code 17 = .ok (.aload_n 0, 1) := by decide +kernel
theorem d8_18 : decode jdk_42_method_149_code 18 = .ok (.ldc 7, 2) := by decide +kernel
theorem d8_20 : decode jdk_42_method_149_code 20 = .ok (.getfield 15, 3) := by decide +kernel
theorem d8_23 : decode jdk_42_method_149_code 23 = .ok (.putfield 15, 3) := by decide +kernel
theorem d8_26 : decode jdk_42_method_149_code 26 = .ok (.return_, 1) := by decide +kernel
theorem own_pn_rmV_0 : plainName "java/lang/String" = true := by first | (simp [plainName, overriddenIn]; done) | decide +kernel
theorem own_ef_rmV_0 (m : MethodId) (r0 : Addr) (r1 : Addr) : entryFrame m #[(.ref r0), (.ref r1), (.int (0 : Int32)), (.int (0 : Int32)), .null] 6 = mkF m 0 #[.val (.ref r0), .val (.ref r1), .val (.int (0 : Int32)), .val (.int (0 : Int32)), .val .null, .unset] [] := by first | (simp [entryFrame, mkF, argsToLocals, Value.category]; done) | rfl
def QV_0 (Z : State) (r0 : Addr) (r1 : Addr) (h0 : Heap) (n0 : Nat) (v : Option Value) (h : Heap) (L : List Loc) : Prop := ∃ (b : Addr) (f' : Nat → Value), v = none ∧ Fr n0 L ∧ Keep h0 h [r0] ∧ Exa Z h r0 "java/lang/String" ∧ Fld Z h r0 "java/lang/String" "coder" "B" (.int (0 : Int32)) ∧ Fld Z h r0 "java/lang/String" "value" "[B" (.ref b) ∧ Exa Z h b "[B" ∧ Af Z h b .byte 0 f'
set_option maxRecDepth 65536 in
set_option maxHeartbeats 40000000 in
theorem rmV_0 (l : Launch) (Z : State) (a0 : Array Value) (hw : ∀ d ∈ tables_1, d.before a0 Z = true) (ws : List Jvm.Cond) (r0 : Addr) (r1 : Addr) (h0 : Heap) (n0 : Nat) (Z0 : n0 ≤ h0.size) (E_r0 : Exa Z h0 r0 "java/lang/String") (F_v : Fld Z h0 r0 "java/lang/String" "value" "[B" .null) (F_c : Fld Z h0 r0 "java/lang/String" "coder" "B" (.int (0 : Int32))) (g_r0 : n0 ≤ r0) :
    MetFree l (⟨"java/lang/String", "<init>", "([CIILjava/lang/Void;)V"⟩ : MethodName) (head1 (Jvm.Cond.code (⟨"java/lang/String", "<init>", "([CIILjava/lang/Void;)V"⟩ : MethodName) jdk_42_method_149_code 6 none :: ws) ({ frames := 1, cells := 4, slots := 8, locals := 12 } : Room)) (fun a U => a = #[(.ref r0), (.ref r1), (.int (0 : Int32)), (.int (0 : Int32)), .null] ∧ Z.Warmed39 U.vm ∧ U.heap = h0 ∧ CHv Z own_EL U.vm h0 ∧ ∀ x ∈ [r0], Safe Z own_EL U.vm h0 x) (fun _ _ _ _ _ => True) (fun _ U o U' => ∃ v L, o = .returned v ∧ QV_0 Z r0 r1 h0 n0 v U'.heap L ∧ CHr Z own_EL U.vm U.heap U'.vm U'.heap ∧ ReturnedEndW U o U' L ({ frames := 1, cells := 4, slots := 8, locals := 12 } : Room).cells ({ frames := 1, cells := 4, slots := 8, locals := 12 } : Room).slots) := by
  refine MetFree.of_bodySF (plainFor_of_name own_pn_rmV_0) hisR ?_
  intro p e s m args below meth cO s₁ Bd hml0 hP hK
  obtain ⟨rfl, hZ, hh, hH, hsf⟩ := hP
  have hZ : Z.Warmed39 (s.setVm s.vm).vm := hZ
  have hx := Bd.exec
  have hby := Bd.bytes
  have hD := @Jvm.hb _ _ hby
  have hml : cO.maxLocals = 6 := hml0
  have hown : (s.setVm s.vm).vm.findClass "java/lang/String" = some m.cls := findClass_of_methodNamed Bd.named
  have hnm := (name_of_methodNamed Bd.named Bd.method).1
  have hlk : meth.locks = false := BodyLoose.notSynchronized Bd
  have X0 : Stand p l e ({ frames := 1, cells := 4, slots := 8, locals := 12 } : Room) (s.setVm s.vm) m #[(.ref r0), (.ref r1), (.int (0 : Int32)), (.int (0 : Int32)), .null] below meth cO s₁ [] 0 0 := Stand.of_body Bd
  have hS0 : s.Since s.vm h0.size := (State.WarmedH.refl s).since _
  have hk0 : h0.size ≤ h0.size := Nat.le_refl _
  have C0 : CHr Z own_EL s.vm s.heap s.vm h0 := by rw [hh]; exact CHr.refl hH
  have sf_r0 : Safe Z own_EL s.vm h0 r0 := hsf _ (List.mem_of_getElem? (i := 0) rfl)
  have e0 : s₁.heap = h0 := by rw [← hh, Bd.state]; rfl
  have N0 := Fr.nil n0
  refine own_in (own_ef_rmV_0 m r0 r1) ?_
  show Gm p e below s₁ m 0 #[rv r0, rv r1, iv (0 : Int32), iv (0 : Int32), .val .null, .unset] [] _
  refine own_go (fun t' k' => XS.aloadN X0.here hx rfl (hD d8_0) rfl rfl k') ?_
  show Gm p e below s₁ m 1 #[rv r0, rv r1, iv (0 : Int32), iv (0 : Int32), .val .null, .unset] [(.ref r0)] _
  obtain ⟨T1, X1, e1, st1⟩ := initO X0 hx hZ hown (hw _ (List.mem_of_getElem? (i := 23) rfl)) (hw _ (List.mem_of_getElem? (i := 24) rfl)) (hw _ (List.mem_of_getElem? (i := 25) rfl)) e0 (g := (mkF m 1 #[rv r0, rv r1, iv (0 : Int32), iv (0 : Int32), .val .null, .unset] [(.ref r0)])) rfl (by rw [hml]; rfl) rfl (hD d8_1) (by decide) (W := 0) (by show 2 * 0 + _ ≤ _; exact Nat.le_of_eq rfl) (by decide)
  refine own_go st1 ?_
  refine own_go (fun t' k' => XS.iloadN X1.here hx rfl (hD d8_4) rfl k') ?_
  show Gm p e below T1 m 5 #[rv r0, rv r1, iv (0 : Int32), iv (0 : Int32), .val .null, .unset] [(.int (0 : Int32))] _
  refine own_go (fun t' k' => XS.ifNo X1.here hx rfl (hD d8_5) rfl (XT.i0_ne_f (by decide)) k') ?_
  refine own_go (fun t' k' => XS.aloadN X1.here hx rfl (hD d8_8) rfl rfl k') ?_
  show Gm p e below T1 m 9 #[rv r0, rv r1, iv (0 : Int32), iv (0 : Int32), .val .null, .unset] [(.ref r0)] _
  obtain ⟨a2, T2, h2, k2, c2, kc2, X2, e2, E2, hS2, hk2, hZ, hown, El2, Fc2, Fv2, Av2, -, -, Cs2, Lt2, hne2, st2⟩ := ldcCH X1 hx hZ hown (hw _ (List.mem_of_getElem? (i := 38) rfl)) (own_wS hw) e1 hS0 hk0 (own_ew hw) (List.mem_of_getElem? (i := 0) rfl) C0.1 (z := 0) (vs := []) ⟨by simp, rfl⟩ (by decide) rfl (g := (mkF m 9 #[rv r0, rv r1, iv (0 : Int32), iv (0 : Int32), .val .null, .unset] [(.ref r0)])) rfl (hD d8_9) (n := 0) (by decide) (by decide) (by decide) (by decide)
  have sq_r0_2 := CHr.safe Cs2 E_r0.lt sf_r0
  have C2 := CHr.trans C0 Cs2
  have Z2 : n0 ≤ h2.size := Nat.le_trans Z0 E2.1
  have K2 : Keep h0 h2 [r0] := Keep.ext (Keep.refl h0 [r0]) E2
  refine own_go st2 ?_
  have Az2 : Af Z h2 c2 .byte 0 (fun _ => .int 0) := own_af0 Av2
  have Eb2 : Exa Z h2 c2 "[B" := own_litB hZ Cs2.1 (List.mem_of_getElem? (i := 0) rfl) hown (hw _ (List.mem_of_getElem? (i := 38) rfl)) Lt2 Fv2 Av2
  have na_r0_2 := (hne2 r0 sq_r0_2).1
  have nc_r0_2 := (hne2 r0 sq_r0_2).2
  show Gm p e below T2 m 11 #[rv r0, rv r1, iv (0 : Int32), iv (0 : Int32), .val .null, .unset] [(.ref a2), (.ref r0)] _
  obtain ⟨T3, X3, e3, st3⟩ := getF X2 hx hZ hown (host := "") (Or.inl (hw _ (List.mem_of_getElem? (i := 26) rfl))) Via.refl e2 Fv2 (g := (mkF m 11 #[rv r0, rv r1, iv (0 : Int32), iv (0 : Int32), .val .null, .unset] [(.ref a2), (.ref r0)])) rfl rfl (hD d8_11)
  refine own_go st3 ?_
  show Gm p e below T3 m 14 #[rv r0, rv r1, iv (0 : Int32), iv (0 : Int32), .val .null, .unset] [(.ref c2), (.ref r0)] _
  have f4 := (E_r0.ext E2)
  have f5 := (F_v.ext E2)
  obtain ⟨T6, h6, X6, e6, W6, st6⟩ := putF X3 hx hZ hown (host := "") (Or.inl (hw _ (List.mem_of_getElem? (i := 26) rfl))) Via.refl e3 f5 f4 (Or.inr ⟨(hw _ (List.mem_of_getElem? (i := 27) rfl)), rfl, hnm⟩) (hw _ (List.mem_of_getElem? (i := 14) rfl)) (ty := (.array .byte)) (by decide) rfl rfl (g := (mkF m 14 #[rv r0, rv r1, iv (0 : Int32), iv (0 : Int32), .val .null, .unset] [(.ref c2), (.ref r0)])) rfl rfl (hD d8_14)
  have Fw6 := Fld.same W6 f5
  have N6 := Fr.snoc X6 N0 g_r0
  have Z6 : n0 ≤ h6.size := W6.size ▸ Z2
  have K6 : Keep h0 h6 [r0] := Keep.wr K2 W6 (Or.inl (List.mem_of_getElem? (i := 0) rfl))
  have C6 := CHr.trans C2 (CHr.wr W6 sq_r0_2 C2.1)
  have hk6 : k2 ≤ h6.size := W6.size ▸ hk2
  refine own_go st6 ?_
  refine own_go (fun t' k' => XS.aloadN X6.here hx rfl (hD d8_17) rfl rfl k') ?_
  show Gm p e below T6 m 18 #[rv r0, rv r1, iv (0 : Int32), iv (0 : Int32), .val .null, .unset] [(.ref r0)] _
  have f8 := (Safe.wr W6 sq_r0_2 C2.1 sq_r0_2)
  have f9 := (f4.wr W6)
  obtain ⟨a7, T7, h7, k7, c7, kc7, X7, e7, E7, hS7, hk7, hZ, hown, El7, Fc7, Fv7, Av7, -, -, Cs7, Lt7, hne7, st7⟩ := ldcCH X6 hx hZ hown (hw _ (List.mem_of_getElem? (i := 38) rfl)) (own_wS hw) e6 hS2 hk6 (own_ew hw) (List.mem_of_getElem? (i := 0) rfl) C6.1 (z := 0) (vs := []) ⟨by simp, rfl⟩ (by decide) rfl (g := (mkF m 18 #[rv r0, rv r1, iv (0 : Int32), iv (0 : Int32), .val .null, .unset] [(.ref r0)])) rfl (hD d8_18) (n := 0) (by decide) (by decide) (by decide) (by decide)
  have sq_r0_7 := CHr.safe Cs7 f9.lt f8
  have C7 := CHr.trans C6 Cs7
  have Z7 : n0 ≤ h7.size := Nat.le_trans Z6 E7.1
  have K7 : Keep h0 h7 [r0] := Keep.ext K6 E7
  refine own_go st7 ?_
  have Az7 : Af Z h7 c7 .byte 0 (fun _ => .int 0) := own_af0 Av7
  have Eb7 : Exa Z h7 c7 "[B" := own_litB hZ Cs7.1 (List.mem_of_getElem? (i := 0) rfl) hown (hw _ (List.mem_of_getElem? (i := 38) rfl)) Lt7 Fv7 Av7
  have na_r0_7 := (hne7 r0 sq_r0_7).1
  have nc_r0_7 := (hne7 r0 sq_r0_7).2
  show Gm p e below T7 m 20 #[rv r0, rv r1, iv (0 : Int32), iv (0 : Int32), .val .null, .unset] [(.ref a7), (.ref r0)] _
  obtain ⟨T10, X10, e10, st10⟩ := getF X7 hx hZ hown (host := "") (Or.inl (hw _ (List.mem_of_getElem? (i := 28) rfl))) Via.refl e7 Fc7 (g := (mkF m 20 #[rv r0, rv r1, iv (0 : Int32), iv (0 : Int32), .val .null, .unset] [(.ref a7), (.ref r0)])) rfl rfl (hD d8_20)
  refine own_go st10 ?_
  show Gm p e below T10 m 23 #[rv r0, rv r1, iv (0 : Int32), iv (0 : Int32), .val .null, .unset] [(.int (0 : Int32)), (.ref r0)] _
  have f11 := (f9.ext E7)
  have f12 := ((Fld.other W6 (F_c.ext E2) (Or.inr (slot_ne (Or.inr (hw _ (List.mem_of_getElem? (i := 29) rfl))) (Or.inr (hw _ (List.mem_of_getElem? (i := 27) rfl))) (by decide) (t := .byte) (t' := (.array .byte)) (by decide) (by decide)))).ext E7)
  obtain ⟨T13, h13, X13, e13, W13, st13⟩ := putFN X10 hx hZ hown (hw _ (List.mem_of_getElem? (i := 28) rfl)) Via.refl e10 f12 f11 (Or.inr ⟨(hw _ (List.mem_of_getElem? (i := 29) rfl)), rfl, hnm⟩) (hw _ (List.mem_of_getElem? (i := 14) rfl)) (ty := .byte) (v' := (.int (0 : Int32))) (by decide) rfl rfl (g := (mkF m 23 #[rv r0, rv r1, iv (0 : Int32), iv (0 : Int32), .val .null, .unset] [(.int (0 : Int32)), (.ref r0)])) rfl rfl (hD d8_23)
  have Fw13 := Fld.same W13 f12
  have N13 := Fr.snoc X13 N6 g_r0
  have Z13 : n0 ≤ h13.size := W13.size ▸ Z7
  have K13 : Keep h0 h13 [r0] := Keep.wr K7 W13 (Or.inl (List.mem_of_getElem? (i := 0) rfl))
  have C13 := CHr.trans C7 (CHr.wr W13 sq_r0_7 C7.1)
  have hk13 : k7 ≤ h13.size := W13.size ▸ hk7
  refine own_go st13 ?_
  show Gm p e below T13 m 26 #[rv r0, rv r1, iv (0 : Int32), iv (0 : Int32), .val .null, .unset] [] _
  have f14 := (((Az2.other W6 (Ne.symm nc_r0_2)).ext E7).other W13 (Ne.symm nc_r0_2))
  have f15 := (f11.wr W13)
  have f16 := (Fld.other W13 (Fw6.ext E7) (Or.inr (slot_ne (Or.inr (hw _ (List.mem_of_getElem? (i := 27) rfl))) (Or.inr (hw _ (List.mem_of_getElem? (i := 29) rfl))) (by decide) (t := (.array .byte)) (t' := .byte) (by decide) (by decide))))
  have f17 := (((Eb2.wr W6).ext E7).wr W13)
  exact own_retVW X13 hx hlk hZ (own_ew hw) hS7 hk13 C13 Bd.returns (hD d8_26) e13 ⟨c2, (fun _ => .int 0), rfl, N13, K13, f15, Fw13, f16, f17, f14⟩ (by decide) (by decide)
theorem own_pn_rmC_0 : plainName "java/lang/String" = true := by first | (simp [plainName, overriddenIn]; done) | decide +kernel
theorem own_ef_rmC_0 (m : MethodId) (r0 : Addr) (r1 : Addr) : entryFrame m #[(.ref r0), (.ref r1)] 2 = mkF m 0 #[.val (.ref r0), .val (.ref r1)] [] := by first | (simp [entryFrame, mkF, argsToLocals, Value.category]; done) | rfl
def QC_0 (Z : State) (r0 : Addr) (r1 : Addr) (f : Nat → Value) (h0 : Heap) (n0 : Nat) (v : Option Value) (h : Heap) (L : List Loc) : Prop := ∃ (b : Addr) (f' : Nat → Value), v = none ∧ Fr n0 L ∧ Keep h0 h [r0] ∧ Exa Z h r0 "java/lang/String" ∧ Fld Z h r0 "java/lang/String" "coder" "B" (.int (0 : Int32)) ∧ Fld Z h r0 "java/lang/String" "value" "[B" (.ref b) ∧ Exa Z h b "[B" ∧ Af Z h b .byte 0 f'
set_option maxRecDepth 65536 in
set_option maxHeartbeats 40000000 in
theorem rmC_0 (l : Launch) (Z : State) (a0 : Array Value) (hw : ∀ d ∈ tables_1, d.before a0 Z = true) (ws : List Jvm.Cond) (r0 : Addr) (r1 : Addr) (f : Nat → Value) (h0 : Heap) (n0 : Nat) (Z0 : n0 ≤ h0.size) (E_r0 : Exa Z h0 r0 "java/lang/String") (F_v : Fld Z h0 r0 "java/lang/String" "value" "[B" .null) (F_c : Fld Z h0 r0 "java/lang/String" "coder" "B" (.int (0 : Int32))) (g_r0 : n0 ≤ r0) (A : Af Z h0 r1 .char 0 f) :
    MetFree l (⟨"java/lang/String", "<init>", "([C)V"⟩ : MethodName) (head1 (Jvm.Cond.code (⟨"java/lang/String", "<init>", "([C)V"⟩ : MethodName) jdk_42_method_3_code 2 none :: ws) ({ frames := 2, cells := 4, slots := 8, locals := 29 } : Room)) (fun a U => a = #[(.ref r0), (.ref r1)] ∧ Z.Warmed39 U.vm ∧ U.heap = h0 ∧ CHv Z own_EL U.vm h0 ∧ ∀ x ∈ [r0], Safe Z own_EL U.vm h0 x) (fun _ _ _ _ _ => True) (fun _ U o U' => ∃ v L, o = .returned v ∧ QC_0 Z r0 r1 f h0 n0 v U'.heap L ∧ CHr Z own_EL U.vm U.heap U'.vm U'.heap ∧ ReturnedEndW U o U' L ({ frames := 2, cells := 4, slots := 8, locals := 29 } : Room).cells ({ frames := 2, cells := 4, slots := 8, locals := 29 } : Room).slots) := by
  refine MetFree.of_bodySF (plainFor_of_name own_pn_rmC_0) hisR ?_
  intro p e s m args below meth cO s₁ Bd hml0 hP hK
  obtain ⟨rfl, hZ, hh, hH, hsf⟩ := hP
  have hZ : Z.Warmed39 (s.setVm s.vm).vm := hZ
  have hx := Bd.exec
  have hby := Bd.bytes
  have hD := @Jvm.hb _ _ hby
  have hml : cO.maxLocals = 2 := hml0
  have hown : (s.setVm s.vm).vm.findClass "java/lang/String" = some m.cls := findClass_of_methodNamed Bd.named
  have hnm := (name_of_methodNamed Bd.named Bd.method).1
  have hlk : meth.locks = false := BodyLoose.notSynchronized Bd
  have X0 : Stand p l e ({ frames := 2, cells := 4, slots := 8, locals := 29 } : Room) (s.setVm s.vm) m #[(.ref r0), (.ref r1)] below meth cO s₁ [] 0 0 := Stand.of_body Bd
  have hS0 : s.Since s.vm h0.size := (State.WarmedH.refl s).since _
  have hk0 : h0.size ≤ h0.size := Nat.le_refl _
  have C0 : CHr Z own_EL s.vm s.heap s.vm h0 := by rw [hh]; exact CHr.refl hH
  have sf_r0 : Safe Z own_EL s.vm h0 r0 := hsf _ (List.mem_of_getElem? (i := 0) rfl)
  have e0 : s₁.heap = h0 := by rw [← hh, Bd.state]; rfl
  have N0 := Fr.nil n0
  refine own_in (own_ef_rmC_0 m r0 r1) ?_
  show Gm p e below s₁ m 0 #[rv r0, rv r1] [] _
  refine own_go (fun t' k' => XS.aloadN X0.here hx rfl (hD d7_0) rfl rfl k') ?_
  refine own_go (fun t' k' => XS.aloadN X0.here hx rfl (hD d7_1) rfl rfl k') ?_
  refine own_go (fun t' k' => XS.iconst X0.here hx rfl (hD d7_2) k') ?_
  show Gm p e below s₁ m 3 #[rv r0, rv r1] [(.int (0 : Int32)), (.ref r1), (.ref r0)] _
  refine own_go (fun t' k' => XS.aloadN X0.here hx rfl (hD d7_3) rfl rfl k') ?_
  show Gm p e below s₁ m 4 #[rv r0, rv r1] [(.ref r1), (.int (0 : Int32)), (.ref r1), (.ref r0)] _
  refine own_go (fun t' k' => own_len X0 hx hZ e0 A (z := (0 : Int32)) rfl (g := (mkF m 4 #[rv r0, rv r1] [(.ref r1), (.int (0 : Int32)), (.ref r1), (.ref r0)])) rfl rfl (hD d7_4) k') ?_
  refine own_go (fun t' k' => XS.aconstNull X0.here hx rfl (hD d7_5) k') ?_
  show Gm p e below s₁ m 6 #[rv r0, rv r1] [.null, (.int (0 : Int32)), (.int (0 : Int32)), (.ref r1), (.ref r0)] _
  obtain ⟨_, _, ⟨T1, L1, q1, n1⟩, -, X1, hs1, hg1, ⟨Lc1, hQ1, l1, y1, z1, Cs1⟩, st1⟩ := X0.specialBackS hx (y := (⟨"java/lang/String", "<init>", "([CIILjava/lang/Void;)V"⟩ : MethodName)) rfl hown (mvT hZ (hw _ (List.mem_of_getElem? (i := 35) rfl))) (mvT hZ (hw _ (List.mem_of_getElem? (i := 36) rfl))) (mvT hZ (hw _ (List.mem_of_getElem? (i := 37) rfl))) (by decide) (own_backW (W := 0) (rmV_0 l Z a0 hw [] r0 r1 h0 n0 Z0 E_r0 F_v F_c g_r0 ) hZ (hw _ (List.mem_of_getElem? (i := 37) rfl)) (hw _ (List.mem_of_getElem? (i := 6) rfl)) (by decide) (by decide) (own_ew hw) C0.1 (own_hsS ⟨E_r0.lt, sf_r0⟩ own_hs0)) (g := (mkF m 6 #[rv r0, rv r1] [.null, (.int (0 : Int32)), (.int (0 : Int32)), (.ref r1), (.ref r0)])) rfl (by rw [hml]; rfl) (Steps.refl _) (a := r0) (argsL := [(.ref r1), (.int (0 : Int32)), (.int (0 : Int32)), .null]) (rest := []) (lenOf own_pd3 rfl) rfl (by show 2 * 0 + _ ≤ _; exact Nat.le_of_eq rfl) (hD d7_6) (fun _ _ => ⟨rfl, e0, (by decide : 0 + 4 ≤ _), (by decide : 0 + 8 ≤ _)⟩)
  dsimp only [Pt.U, Pt.locs, Pt.cells, Pt.slots] at X1 hs1 hg1 l1 y1 z1 st1 hQ1 Cs1
  subst l1 y1 z1
  have hS1 : s.Since T1.vm T1.heap.size := foldS hS0 (by rw [e0]; exact hk0) hs1 hg1
  have hZ : Z.Warmed39 (s.setVm T1.vm).vm := State.Warmed39.trans (t := s.setVm s.vm) hZ hs1.1
  have hown : (s.setVm T1.vm).vm.findClass "java/lang/String" = some m.cls := by rw [show (s.setVm T1.vm).vm = T1.vm from rfl, hs1.1.alike.findClass]; exact hown
  have X1 : Stand p l e _ (s.setVm T1.vm) m _ below meth cO T1 _ _ _ := X1
  have hk1 : T1.heap.size ≤ T1.heap.size := Nat.le_refl _
  obtain ⟨bq1, fq1, rfl, Nq1, Kc1, Ec1, Fc1, Fv1, Eb1, Aq1⟩ := hQ1
  have N1 := Fr.app N0 Nq1
  have sq_r0_1 := CHr.safe Cs1 E_r0.lt sf_r0
  have C1 := CHr.trans C0 Cs1
  refine own_go (fun t k => st1.trans k) ?_
  have Z1 : n0 ≤ T1.heap.size := Nat.le_trans Z0 Kc1.1
  have K1 : Keep h0 T1.heap [r0] := Keep.trans (Keep.refl h0 [r0]) Kc1 (allS (Or.inl (List.mem_of_getElem? (i := 0) rfl)) all0)
  show Gm p e below T1 m 9 #[rv r0, rv r1] [] _
  exact own_retVW X1 hx hlk hZ (own_ew hw) hS1 hk1 C1 Bd.returns (hD d7_9) rfl ⟨bq1, fq1, rfl, N1, K1, Ec1, Fc1, Fv1, Eb1, Aq1⟩ (by decide) (by decide)
theorem d3_0 : decode jdk_43_method_3_code 0 = .ok (.iload_n 0, 1) := by decide +kernel
theorem d3_1 : decode jdk_43_method_3_code 1 = .ok (.sipush 255, 3) := by decide +kernel
theorem d3_4 : decode jdk_43_method_3_code 4 = .ok (.if_icmp .gt 7, 3) := by decide +kernel
theorem d3_7 : decode jdk_43_method_3_code 7 = .ok (.iconst 1, 1) := by decide +kernel
theorem d3_8 : decode jdk_43_method_3_code 8 = .ok (.goto 4, 3) := by decide +kernel
theorem d3_12 : decode jdk_43_method_3_code 12 = .ok (.ireturn, 1) := by decide +kernel
theorem own_pn_rmCE : plainName "java/lang/StringLatin1" = true := by first | (simp [plainName, overriddenIn]; done) | decide +kernel
theorem own_ef_rmCE (m : MethodId) (p0 : Int32) : entryFrame m #[(.int p0)] 1 = mkF m 0 #[.val (.int p0)] [] := by first | (simp [entryFrame, mkF, argsToLocals, Value.category]; done) | rfl
def QCE (Z : State) (p0 : Int32) (h0 : Heap) (n0 : Nat) (v : Option Value) (h : Heap) (L : List Loc) : Prop := v = some (.int (1 : Int32)) ∧ Fr n0 L ∧ h = h0
set_option maxRecDepth 65536 in
set_option maxHeartbeats 40000000 in
theorem rmCE (l : Launch) (Z : State) (a0 : Array Value) (hw : ∀ d ∈ tables_1, d.before a0 Z = true) (ws : List Jvm.Cond) (p0 : Int32) (h0 : Heap) (n0 : Nat) (Z0 : n0 ≤ h0.size) (hc : ¬ (255 : Int32) < p0) :
    MetFree l (⟨"java/lang/StringLatin1", "canEncode", "(C)Z"⟩ : MethodName) (head1 (Jvm.Cond.code (⟨"java/lang/StringLatin1", "canEncode", "(C)Z"⟩ : MethodName) jdk_43_method_3_code 1 (some .boolean) :: ws) ({ frames := 0, cells := 0, slots := 0, locals := 0 } : Room)) (fun a U => a = #[(.int p0)] ∧ Z.Warmed39 U.vm ∧ U.heap = h0) (fun _ _ _ _ _ => True) (fun _ U o U' => ∃ v L, o = .returned v ∧ QCE Z p0 h0 n0 v U'.heap L ∧ FrameEnd U o U' L ({ frames := 0, cells := 0, slots := 0, locals := 0 } : Room).cells ({ frames := 0, cells := 0, slots := 0, locals := 0 } : Room).slots) := by
  refine MetFree.of_bodySF (plainFor_of_name own_pn_rmCE) hisR ?_
  intro p e s m args below meth cO s₁ Bd hml0 hP hK
  obtain ⟨rfl, hZ, hh⟩ := hP
  have hx := Bd.exec
  have hby := Bd.bytes
  have hD := @Jvm.hb _ _ hby
  have hml : cO.maxLocals = 1 := hml0
  have hown : s.vm.findClass "java/lang/StringLatin1" = some m.cls := findClass_of_methodNamed Bd.named
  have hnm := (name_of_methodNamed Bd.named Bd.method).1
  have hlk : meth.locks = false := BodyLoose.notSynchronized Bd
  have X0 : Stand p l e ({ frames := 0, cells := 0, slots := 0, locals := 0 } : Room) s m #[(.int p0)] below meth cO s₁ [] 0 0 := Stand.of_body Bd
  have e0 : s₁.heap = h0 := by rw [← hh, Bd.state]; rfl
  have N0 := Fr.nil n0
  refine own_in (own_ef_rmCE m p0) ?_
  show Gm p e below s₁ m 0 #[iv p0] [] _
  refine own_go (fun t' k' => XS.iloadN X0.here hx rfl (hD d3_0) rfl k') ?_
  refine own_go (fun t' k' => XS.sipush X0.here hx rfl (hD d3_1) k') ?_
  show Gm p e below s₁ m 4 #[iv p0] [(.int (255 : Int32)), (.int p0)] _
  refine own_go (fun t' k' => XS.icmpNo X0.here hx rfl (hD d3_4) rfl (XT.ii_gt_f hc) k') ?_
  refine own_go (fun t' k' => XS.iconst X0.here hx rfl (hD d3_7) k') ?_
  refine own_go (fun t' k' => XS.goto X0.here hx rfl (pc0 := 8) (pc' := 12) rfl (hD d3_8) (by decide) (by decide) k') ?_
  show Gm p e below s₁ m 12 #[iv p0] [(.int (1 : Int32))] _
  exact own_retI X0 hx hlk (t := .boolean) Bd.returns rfl (by simp) (hD d3_12) e0 ⟨rfl, N0, rfl⟩ (by decide) (by decide)
theorem d4_0 : decode jdk_43_method_46_code 0 = .ok (.iconst 1, 1) := by decide +kernel
theorem d4_1 : decode jdk_43_method_46_code 1 = .ok (.newarray .byte, 2) := by decide +kernel
theorem d4_3 : decode jdk_43_method_46_code 3 = .ok (.dup, 1) := by decide +kernel
theorem d4_4 : decode jdk_43_method_46_code 4 = .ok (.iconst 0, 1) := by decide +kernel
theorem d4_5 : decode jdk_43_method_46_code 5 = .ok (.iload_n 0, 1) := by decide +kernel
theorem d4_6 : decode jdk_43_method_46_code 6 = .ok (.i2b, 1) := by decide +kernel
theorem d4_7 : decode jdk_43_method_46_code 7 = .ok (.bastore, 1) := by decide +kernel
theorem d4_8 : decode jdk_43_method_46_code 8 = .ok (.areturn, 1) := by decide +kernel
theorem own_pn_rmTB : plainName "java/lang/StringLatin1" = true := by first | (simp [plainName, overriddenIn]; done) | decide +kernel
theorem own_ef_rmTB (m : MethodId) (p0 : Int32) : entryFrame m #[(.int p0)] 1 = mkF m 0 #[.val (.int p0)] [] := by first | (simp [entryFrame, mkF, argsToLocals, Value.category]; done) | rfl
def QTB (Z : State) (p0 : Int32) (h0 : Heap) (n0 : Nat) (v : Option Value) (h : Heap) (L : List Loc) : Prop := ∃ (b : Addr) (f' : Nat → Value), v = some (.ref b) ∧ Fr n0 L ∧ Keep h0 h [] ∧ h0.size ≤ b ∧ Exa Z h b "[B" ∧ Af Z h b .byte 1 f'
set_option maxRecDepth 65536 in
set_option maxHeartbeats 40000000 in
theorem rmTB (l : Launch) (Z : State) (a0 : Array Value) (hw : ∀ d ∈ tables_1, d.before a0 Z = true) (ws : List Jvm.Cond) (p0 : Int32) (h0 : Heap) (n0 : Nat) (Z0 : n0 ≤ h0.size) :
    MetFree l (⟨"java/lang/StringLatin1", "toBytes", "(C)[B"⟩ : MethodName) (head1 (Jvm.Cond.code (⟨"java/lang/StringLatin1", "toBytes", "(C)[B"⟩ : MethodName) jdk_43_method_46_code 1 (some (.array .byte)) :: ws) ({ frames := 0, cells := 1, slots := 1, locals := 0 } : Room)) (fun a U => a = #[(.int p0)] ∧ Z.Warmed39 U.vm ∧ U.heap = h0) (fun _ _ _ _ _ => True) (fun _ U o U' => ∃ v L, o = .returned v ∧ QTB Z p0 h0 n0 v U'.heap L ∧ FrameEnd U o U' L ({ frames := 0, cells := 1, slots := 1, locals := 0 } : Room).cells ({ frames := 0, cells := 1, slots := 1, locals := 0 } : Room).slots) := by
  refine MetFree.of_bodySF (plainFor_of_name own_pn_rmTB) hisR ?_
  intro p e s m args below meth cO s₁ Bd hml0 hP hK
  obtain ⟨rfl, hZ, hh⟩ := hP
  have hx := Bd.exec
  have hby := Bd.bytes
  have hD := @Jvm.hb _ _ hby
  have hml : cO.maxLocals = 1 := hml0
  have hown : s.vm.findClass "java/lang/StringLatin1" = some m.cls := findClass_of_methodNamed Bd.named
  have hnm := (name_of_methodNamed Bd.named Bd.method).1
  have hlk : meth.locks = false := BodyLoose.notSynchronized Bd
  have X0 : Stand p l e ({ frames := 0, cells := 1, slots := 1, locals := 0 } : Room) s m #[(.int p0)] below meth cO s₁ [] 0 0 := Stand.of_body Bd
  have e0 : s₁.heap = h0 := by rw [← hh, Bd.state]; rfl
  have N0 := Fr.nil n0
  refine own_in (own_ef_rmTB m p0) ?_
  show Gm p e below s₁ m 0 #[iv p0] [] _
  refine own_go (fun t' k' => XS.iconst X0.here hx rfl (hD d4_0) k') ?_
  show Gm p e below s₁ m 1 #[iv p0] [(.int (1 : Int32))] _
  obtain ⟨T1, h1, k1, X1, e1, E1, A1, Y1, st1⟩ := newPE X0 hx hZ (hw _ (List.mem_of_getElem? (i := 18) rfl)) e0 (g := (mkF m 1 #[iv p0] [(.int (1 : Int32))])) rfl (hD d4_1) rfl (by decide) (cap := 1) (by decide) (by decide) (by decide) (by decide) (ad := "[B") (by decide)
  obtain ⟨b1, g1⟩ : ∃ z, z = h0.size := ⟨_, rfl⟩
  rw [← g1] at A1 st1 Y1
  have g_b1 : n0 ≤ b1 := Nat.le_trans Z0 (Nat.le_of_eq g1.symm)
  have sz_b1 : h0.size ≤ b1 := Nat.le_trans (Keep.refl h0 []).1 (Nat.le_of_eq g1.symm)
  have K1 : Keep h0 h1 [] := Keep.ext (Keep.refl h0 []) E1
  have Z1 : n0 ≤ h1.size := Nat.le_trans Z0 E1.1
  have V1 : Af Z h1 b1 .byte 1 (fun _ => defaultValue .byte) := Af.new A1 (by decide) rfl rfl
  refine own_go st1 ?_
  refine own_go (fun t' k' => XS.dup X1.here hx rfl (hD d4_3) rfl rfl k') ?_
  refine own_go (fun t' k' => XS.iconst X1.here hx rfl (hD d4_4) k') ?_
  show Gm p e below T1 m 5 #[iv p0] [(.int (0 : Int32)), (.ref b1), (.ref b1)] _
  refine own_go (fun t' k' => XS.iloadN X1.here hx rfl (hD d4_5) rfl k') ?_
  refine own_go (fun t' k' => XS.i2b X1.here hx rfl (hD d4_6) rfl k') ?_
  show Gm p e below T1 m 7 #[iv p0] [(.int (p0.toInt8.toInt32)), (.int (0 : Int32)), (.ref b1), (.ref b1)] _
  obtain ⟨T2, h2, X2, e2, W2, A2, st2⟩ := own_stB X1 hx hZ e1 V1 (j := (0 : Int32)) (k := 0) (by decide) rfl (by decide) (y := (own_by p0)) rfl (g := (mkF m 7 #[iv p0] [(.int (p0.toInt8.toInt32)), (.int (0 : Int32)), (.ref b1), (.ref b1)])) rfl rfl (hD d4_7)
  have N2 := Fr.snoc X2 N0 g_b1
  have Z2 : n0 ≤ h2.size := W2.size ▸ Z1
  have K2 : Keep h0 h2 [] := Keep.wr K1 W2 (Or.inr sz_b1)
  refine own_go st2 ?_
  show Gm p e below T2 m 8 #[iv p0] [(.ref b1)] _
  have f3 := (Y1.wr W2)
  exact own_retA X2 hx hlk rfl Bd.returns rfl (hD d4_8) e2 ⟨b1, (fun i => if i = 0 then (.int (own_by p0)) else (fun _ => defaultValue .byte) i), rfl, N2, K2, sz_b1, f3, A2⟩ (by decide) (by decide)
theorem d5_0 : decode jdk_42_method_151_code 0 = .ok (.aload_n 0, 1) := by decide +kernel
theorem d5_1 : decode jdk_42_method_151_code 1 = .ok (.invokespecial 1, 3) := by decide +kernel
theorem d5_4 : decode jdk_42_method_151_code 4 = .ok (.aload_n 0, 1) := by decide +kernel
theorem d5_5 : decode jdk_42_method_151_code 5 = .ok (.aload_n 1, 1) := by decide +kernel
theorem d5_6 : decode jdk_42_method_151_code 6 = .ok (.putfield 9, 3) := by decide +kernel
theorem d5_9 : decode jdk_42_method_151_code 9 = .ok (.aload_n 0, 1) := by decide +kernel
theorem d5_10 : decode jdk_42_method_151_code 10 = .ok (.iload_n 2, 1) := by decide +kernel
theorem d5_11 : decode jdk_42_method_151_code 11 = .ok (.putfield 15, 3) := by decide +kernel
theorem d5_14 : decode jdk_42_method_151_code 14 = .ok (.return_, 1) := by decide +kernel
theorem own_pn_rmB : plainName "java/lang/String" = true := by first | (simp [plainName, overriddenIn]; done) | decide +kernel
theorem own_ef_rmB (m : MethodId) (r0 : Addr) (r1 : Addr) : entryFrame m #[(.ref r0), (.ref r1), (.int (0 : Int32))] 3 = mkF m 0 #[.val (.ref r0), .val (.ref r1), .val (.int (0 : Int32))] [] := by first | (simp [entryFrame, mkF, argsToLocals, Value.category]; done) | rfl
def QB (Z : State) (r0 : Addr) (r1 : Addr) (h0 : Heap) (n0 : Nat) (v : Option Value) (h : Heap) (L : List Loc) : Prop := v = none ∧ Fr n0 L ∧ Keep h0 h [r0] ∧ Exa Z h r0 "java/lang/String" ∧ Fld Z h r0 "java/lang/String" "coder" "B" (.int (0 : Int32)) ∧ Fld Z h r0 "java/lang/String" "value" "[B" (.ref r1)
set_option maxRecDepth 65536 in
set_option maxHeartbeats 40000000 in
theorem rmB (l : Launch) (Z : State) (a0 : Array Value) (hw : ∀ d ∈ tables_1, d.before a0 Z = true) (ws : List Jvm.Cond) (r0 : Addr) (r1 : Addr) (h0 : Heap) (n0 : Nat) (Z0 : n0 ≤ h0.size) (E_r0 : Exa Z h0 r0 "java/lang/String") (F_v : Fld Z h0 r0 "java/lang/String" "value" "[B" .null) (F_c : Fld Z h0 r0 "java/lang/String" "coder" "B" (.int (0 : Int32))) (g_r0 : n0 ≤ r0) :
    MetFree l (⟨"java/lang/String", "<init>", "([BB)V"⟩ : MethodName) (head1 (Jvm.Cond.code (⟨"java/lang/String", "<init>", "([BB)V"⟩ : MethodName) jdk_42_method_151_code 3 none :: ws) ({ frames := 1, cells := 0, slots := 0, locals := 12 } : Room)) (fun a U => a = #[(.ref r0), (.ref r1), (.int (0 : Int32))] ∧ Z.Warmed39 U.vm ∧ U.heap = h0) (fun _ _ _ _ _ => True) (fun _ U o U' => ∃ v L, o = .returned v ∧ QB Z r0 r1 h0 n0 v U'.heap L ∧ FrameEnd U o U' L ({ frames := 1, cells := 0, slots := 0, locals := 12 } : Room).cells ({ frames := 1, cells := 0, slots := 0, locals := 12 } : Room).slots) := by
  refine MetFree.of_bodySF (plainFor_of_name own_pn_rmB) hisR ?_
  intro p e s m args below meth cO s₁ Bd hml0 hP hK
  obtain ⟨rfl, hZ, hh⟩ := hP
  have hx := Bd.exec
  have hby := Bd.bytes
  have hD := @Jvm.hb _ _ hby
  have hml : cO.maxLocals = 3 := hml0
  have hown : s.vm.findClass "java/lang/String" = some m.cls := findClass_of_methodNamed Bd.named
  have hnm := (name_of_methodNamed Bd.named Bd.method).1
  have hlk : meth.locks = false := BodyLoose.notSynchronized Bd
  have X0 : Stand p l e ({ frames := 1, cells := 0, slots := 0, locals := 12 } : Room) s m #[(.ref r0), (.ref r1), (.int (0 : Int32))] below meth cO s₁ [] 0 0 := Stand.of_body Bd
  have e0 : s₁.heap = h0 := by rw [← hh, Bd.state]; rfl
  have N0 := Fr.nil n0
  refine own_in (own_ef_rmB m r0 r1) ?_
  show Gm p e below s₁ m 0 #[rv r0, rv r1, iv (0 : Int32)] [] _
  refine own_go (fun t' k' => XS.aloadN X0.here hx rfl (hD d5_0) rfl rfl k') ?_
  show Gm p e below s₁ m 1 #[rv r0, rv r1, iv (0 : Int32)] [(.ref r0)] _
  obtain ⟨T1, X1, e1, st1⟩ := initO X0 hx hZ hown (hw _ (List.mem_of_getElem? (i := 23) rfl)) (hw _ (List.mem_of_getElem? (i := 24) rfl)) (hw _ (List.mem_of_getElem? (i := 25) rfl)) e0 (g := (mkF m 1 #[rv r0, rv r1, iv (0 : Int32)] [(.ref r0)])) rfl (by rw [hml]; rfl) rfl (hD d5_1) (by decide) (W := 0) (by show 2 * 0 + _ ≤ _; exact Nat.le_of_eq rfl) (by decide)
  refine own_go st1 ?_
  refine own_go (fun t' k' => XS.aloadN X1.here hx rfl (hD d5_4) rfl rfl k') ?_
  refine own_go (fun t' k' => XS.aloadN X1.here hx rfl (hD d5_5) rfl rfl k') ?_
  show Gm p e below T1 m 6 #[rv r0, rv r1, iv (0 : Int32)] [(.ref r1), (.ref r0)] _
  obtain ⟨T2, h2, X2, e2, W2, st2⟩ := putF X1 hx hZ hown (host := "") (Or.inl (hw _ (List.mem_of_getElem? (i := 26) rfl))) Via.refl e1 F_v E_r0 (Or.inr ⟨(hw _ (List.mem_of_getElem? (i := 27) rfl)), rfl, hnm⟩) (hw _ (List.mem_of_getElem? (i := 14) rfl)) (ty := (.array .byte)) (by decide) rfl rfl (g := (mkF m 6 #[rv r0, rv r1, iv (0 : Int32)] [(.ref r1), (.ref r0)])) rfl rfl (hD d5_6)
  have Fw2 := Fld.same W2 F_v
  have N2 := Fr.snoc X2 N0 g_r0
  have Z2 : n0 ≤ h2.size := W2.size ▸ Z0
  have K2 : Keep h0 h2 [r0] := Keep.wr (Keep.refl h0 [r0]) W2 (Or.inl (List.mem_of_getElem? (i := 0) rfl))
  refine own_go st2 ?_
  refine own_go (fun t' k' => XS.aloadN X2.here hx rfl (hD d5_9) rfl rfl k') ?_
  refine own_go (fun t' k' => XS.iloadN X2.here hx rfl (hD d5_10) rfl k') ?_
  show Gm p e below T2 m 11 #[rv r0, rv r1, iv (0 : Int32)] [(.int (0 : Int32)), (.ref r0)] _
  have f3 := (E_r0.wr W2)
  have f4 := (Fld.other W2 F_c (Or.inr (slot_ne (Or.inr (hw _ (List.mem_of_getElem? (i := 29) rfl))) (Or.inr (hw _ (List.mem_of_getElem? (i := 27) rfl))) (by decide) (t := .byte) (t' := (.array .byte)) (by decide) (by decide))))
  obtain ⟨T5, h5, X5, e5, W5, st5⟩ := putFN X2 hx hZ hown (hw _ (List.mem_of_getElem? (i := 28) rfl)) Via.refl e2 f4 f3 (Or.inr ⟨(hw _ (List.mem_of_getElem? (i := 29) rfl)), rfl, hnm⟩) (hw _ (List.mem_of_getElem? (i := 14) rfl)) (ty := .byte) (v' := (.int (0 : Int32))) (by decide) rfl rfl (g := (mkF m 11 #[rv r0, rv r1, iv (0 : Int32)] [(.int (0 : Int32)), (.ref r0)])) rfl rfl (hD d5_11)
  have Fw5 := Fld.same W5 f4
  have N5 := Fr.snoc X5 N2 g_r0
  have Z5 : n0 ≤ h5.size := W5.size ▸ Z2
  have K5 : Keep h0 h5 [r0] := Keep.wr K2 W5 (Or.inl (List.mem_of_getElem? (i := 0) rfl))
  refine own_go st5 ?_
  show Gm p e below T5 m 14 #[rv r0, rv r1, iv (0 : Int32)] [] _
  have f6 := (f3.wr W5)
  have f7 := (Fld.other W5 Fw2 (Or.inr (slot_ne (Or.inr (hw _ (List.mem_of_getElem? (i := 27) rfl))) (Or.inr (hw _ (List.mem_of_getElem? (i := 29) rfl))) (by decide) (t := (.array .byte)) (t' := .byte) (by decide) (by decide))))
  exact own_retV X5 hx hlk Bd.returns (hD d5_14) e5 ⟨rfl, N5, K5, f6, Fw5, f7⟩ (by decide) (by decide)
theorem d2_0 : decode jdk_42_method_139_code 0 = .ok (.getstatic 38, 3) := by decide +kernel
theorem d2_3 : decode jdk_42_method_139_code 3 = .ok (.ifCond .eq 23, 3) := by decide +kernel
theorem d2_6 : decode jdk_42_method_139_code 6 = .ok (.iload_n 0, 1) := by decide +kernel
theorem d2_7 : decode jdk_42_method_139_code 7 = .ok (.invokestatic 1015, 3) := by decide +kernel
theorem d2_10 : decode jdk_42_method_139_code 10 = .ok (.ifCond .eq 16, 3) := by decide +kernel
theorem d2_13 : decode jdk_42_method_139_code 13 = .ok (.new 10, 3) := by decide +kernel
theorem d2_16 : decode jdk_42_method_139_code 16 = .ok (.dup, 1) := by decide +kernel
theorem d2_17 : decode jdk_42_method_139_code 17 = .ok (.iload_n 0, 1) := by decide +kernel
theorem d2_18 : decode jdk_42_method_139_code 18 = .ok (.invokestatic 1018, 3) := by decide +kernel
theorem d2_21 : decode jdk_42_method_139_code 21 = .ok (.iconst 0, 1) := by decide +kernel
theorem d2_22 : decode jdk_42_method_139_code 22 = .ok (.invokespecial 209, 3) := by decide +kernel
theorem d2_25 : decode jdk_42_method_139_code 25 = .ok (.areturn, 1) := by decide +kernel
theorem own_pd4 : parseMethodDescriptor "(C)Z" = some ⟨[.char], some .boolean⟩ := by decide +kernel
theorem own_pd5 : parseMethodDescriptor "(C)[B" = some ⟨[.char], some (.array .byte)⟩ := by decide +kernel
theorem own_pd6 : parseMethodDescriptor "([BB)V" = some ⟨[(.array .byte), .byte], none⟩ := by decide +kernel
theorem own_pn_rmO : plainName "java/lang/String" = true := by first | (simp [plainName, overriddenIn]; done) | decide +kernel
theorem own_ef_rmO (m : MethodId) (p0 : Int32) : entryFrame m #[(.int p0)] 1 = mkF m 0 #[.val (.int p0)] [] := by first | (simp [entryFrame, mkF, argsToLocals, Value.category]; done) | rfl
def QO (Z : State) (p0 : Int32) (cs : Int32) (h0 : Heap) (n0 : Nat) (v : Option Value) (h : Heap) (L : List Loc) : Prop := ∃ (x b : Addr) (f' : Nat → Value), v = some (.ref x) ∧ Fr n0 L ∧ Keep h0 h [] ∧ h0.size ≤ x ∧ Exa Z h x "java/lang/String" ∧ Fld Z h x "java/lang/String" "coder" "B" (.int (0 : Int32)) ∧ Fld Z h x "java/lang/String" "value" "[B" (.ref b) ∧ Exa Z h b "[B" ∧ Af Z h b .byte 1 f'
set_option maxRecDepth 65536 in
set_option maxHeartbeats 40000000 in
theorem rmO (l : Launch) (Z : State) (a0 : Array Value) (hw : ∀ d ∈ tables_1, d.before a0 Z = true) (ws : List Jvm.Cond) (p0 : Int32) (cs : Int32) (h0 : Heap) (n0 : Nat) (Z0 : n0 ≤ h0.size) (S_c : Sta Z h0 "java/lang/String" "COMPACT_STRINGS" "Z" (.int cs)) (hcs : ¬ cs = 0) (hc : ¬ (255 : Int32) < p0) :
    MetFree l (⟨"java/lang/String", "valueOf", "(C)Ljava/lang/String;"⟩ : MethodName) (head1 (Jvm.Cond.code (⟨"java/lang/String", "valueOf", "(C)Ljava/lang/String;"⟩ : MethodName) jdk_42_method_139_code 1 (some (.object "java/lang/String")) :: ws) ({ frames := 2, cells := 2, slots := 5, locals := 27 } : Room)) (fun a U => a = #[(.int p0)] ∧ Z.Warmed39 U.vm ∧ U.heap = h0) (fun _ _ _ _ _ => True) (fun _ U o U' => ∃ v L, o = .returned v ∧ QO Z p0 cs h0 n0 v U'.heap L ∧ FrameEnd U o U' L ({ frames := 2, cells := 2, slots := 5, locals := 27 } : Room).cells ({ frames := 2, cells := 2, slots := 5, locals := 27 } : Room).slots) := by
  refine MetFree.of_bodySF (plainFor_of_name own_pn_rmO) hisR ?_
  intro p e s m args below meth cO s₁ Bd hml0 hP hK
  obtain ⟨rfl, hZ, hh⟩ := hP
  have hx := Bd.exec
  have hby := Bd.bytes
  have hD := @Jvm.hb _ _ hby
  have hml : cO.maxLocals = 1 := hml0
  have hown : s.vm.findClass "java/lang/String" = some m.cls := findClass_of_methodNamed Bd.named
  have hnm := (name_of_methodNamed Bd.named Bd.method).1
  have hlk : meth.locks = false := BodyLoose.notSynchronized Bd
  have X0 : Stand p l e ({ frames := 2, cells := 2, slots := 5, locals := 27 } : Room) s m #[(.int p0)] below meth cO s₁ [] 0 0 := Stand.of_body Bd
  have e0 : s₁.heap = h0 := by rw [← hh, Bd.state]; rfl
  have N0 := Fr.nil n0
  refine own_in (own_ef_rmO m p0) ?_
  show Gm p e below s₁ m 0 #[iv p0] [] _
  obtain ⟨T1, X1, e1, st1⟩ := getS2 X0 hx hZ hown (host := "") (Or.inl (hw _ (List.mem_of_getElem? (i := 8) rfl))) Via.refl e0 S_c (g := (mkF m 0 #[iv p0] [])) rfl (hD d2_0)
  refine own_go st1 ?_
  show Gm p e below T1 m 3 #[iv p0] [(.int cs)] _
  refine own_go (fun t' k' => XS.ifNo X1.here hx rfl (hD d2_3) rfl (XT.i0_eq_f hcs) k') ?_
  refine own_go (fun t' k' => XS.iloadN X1.here hx rfl (hD d2_6) rfl k') ?_
  show Gm p e below T1 m 7 #[iv p0] [(.int p0)] _
  obtain ⟨_, _, ⟨T2, L2, k2, n2⟩, -, X2, ⟨Lc2, hQ2, l2, y2, z2⟩, st2⟩ := Jvm.LawKit.callS X1 hx (y := (⟨"java/lang/StringLatin1", "canEncode", "(C)Z"⟩ : MethodName)) hown (mvT hZ (hw _ (List.mem_of_getElem? (i := 9) rfl))) (mvT hZ (hw _ (List.mem_of_getElem? (i := 10) rfl))) (mvT hZ (hw _ (List.mem_of_getElem? (i := 11) rfl))) (mvT hZ (hw _ (List.mem_of_getElem? (i := 12) rfl))) (by decide) (backOf (W := 0) (rmCE l Z a0 hw [] p0 h0 n0 Z0 hc) hZ (hw _ (List.mem_of_getElem? (i := 12) rfl)) (hw _ (List.mem_of_getElem? (i := 11) rfl)) (by decide) (by decide)) (g := (mkF m 7 #[iv p0] [(.int p0)])) rfl (by rw [hml]; rfl) (argsL := [(.int p0)]) (rest := []) (lenOf own_pd4 rfl) rfl (by show 2 * 0 + _ ≤ _; exact Nat.le_of_eq rfl) (hD d2_7) (fun _ _ => ⟨rfl, e1, (by decide : 0 + 0 ≤ _), (by decide : 0 + 0 ≤ _)⟩)
  dsimp only [Pt.U, Pt.locs, Pt.cells, Pt.slots] at X2 l2 y2 z2 st2 hQ2
  subst l2 y2 z2
  obtain ⟨rfl, Nq2, eq2⟩ := hQ2
  have N2 := Fr.app N0 Nq2
  have e2 : T2.heap = h0 := eq2
  refine own_go st2 ?_
  show Gm p e below T2 m 10 #[iv p0] [(.int (1 : Int32))] _
  refine own_go (fun t' k' => XS.ifNo X2.here hx rfl (hD d2_10) rfl (XT.i0_eq_f (by decide)) k') ?_
  show Gm p e below T2 m 13 #[iv p0] [] _
  obtain ⟨T3, h3, X3, e3, E3, A3, D3, -, st3⟩ := newO X2 hx hZ hown (hw _ (List.mem_of_getElem? (i := 13) rfl)) (hw _ (List.mem_of_getElem? (i := 14) rfl)) (hw _ (List.mem_of_getElem? (i := 6) rfl)) e2 (g := (mkF m 13 #[iv p0] [])) rfl (hD d2_13) (by decide) (by decide)
  obtain ⟨b3, g3⟩ : ∃ z, z = h0.size := ⟨_, rfl⟩
  rw [← g3] at A3 D3 st3
  have g_b3 : n0 ≤ b3 := Nat.le_trans Z0 (Nat.le_of_eq g3.symm)
  have sz_b3 : h0.size ≤ b3 := Nat.le_trans (Keep.refl h0 []).1 (Nat.le_of_eq g3.symm)
  have K3 : Keep h0 h3 [] := Keep.ext (Keep.refl h0 []) E3
  have Z3 : n0 ≤ h3.size := Nat.le_trans Z0 E3.1
  have F_value_b3 : Fld Z h3 b3 "java/lang/String" "value" "[B" .null := D3 (Or.inr (hw _ (List.mem_of_getElem? (i := 27) rfl))) (ty := (.array .byte)) (by decide)
  have F_coder_b3 : Fld Z h3 b3 "java/lang/String" "coder" "B" (.int (0 : Int32)) := D3 (Or.inr (hw _ (List.mem_of_getElem? (i := 29) rfl))) (ty := .byte) (by decide)
  refine own_go st3 ?_
  refine own_go (fun t' k' => XS.dup X3.here hx rfl (hD d2_16) rfl rfl k') ?_
  refine own_go (fun t' k' => XS.iloadN X3.here hx rfl (hD d2_17) rfl k') ?_
  show Gm p e below T3 m 18 #[iv p0] [(.int p0), (.ref b3), (.ref b3)] _
  obtain ⟨_, _, ⟨T4, L4, k4, n4⟩, -, X4, ⟨Lc4, hQ4, l4, y4, z4⟩, st4⟩ := Jvm.LawKit.callS X3 hx (y := (⟨"java/lang/StringLatin1", "toBytes", "(C)[B"⟩ : MethodName)) hown (mvT hZ (hw _ (List.mem_of_getElem? (i := 15) rfl))) (mvT hZ (hw _ (List.mem_of_getElem? (i := 16) rfl))) (mvT hZ (hw _ (List.mem_of_getElem? (i := 11) rfl))) (mvT hZ (hw _ (List.mem_of_getElem? (i := 17) rfl))) (by decide) (backOf (W := 2) (rmTB l Z a0 hw [] p0 h3 n0 Z3) hZ (hw _ (List.mem_of_getElem? (i := 17) rfl)) (hw _ (List.mem_of_getElem? (i := 11) rfl)) (by decide) (by decide)) (g := (mkF m 18 #[iv p0] [(.int p0), (.ref b3), (.ref b3)])) rfl (by rw [hml]; rfl) (argsL := [(.int p0)]) (rest := [(.ref b3), (.ref b3)]) (lenOf own_pd5 rfl) rfl (by show 2 * 0 + _ ≤ _; exact Nat.le_of_eq rfl) (hD d2_18) (fun _ _ => ⟨rfl, e3, (by decide : 1 + 1 ≤ _), (by decide : 4 + 1 ≤ _)⟩)
  dsimp only [Pt.U, Pt.locs, Pt.cells, Pt.slots] at X4 l4 y4 z4 st4 hQ4
  subst l4 y4 z4
  obtain ⟨bt4, ft4, rfl, Nq4, Kc4, sz4, Et4, At4⟩ := hQ4
  have N4 := Fr.app N2 Nq4
  refine own_go st4 ?_
  have g_bt4 : n0 ≤ bt4 := Nat.le_trans Z3 sz4
  have Z4 : n0 ≤ T4.heap.size := Nat.le_trans Z3 Kc4.1
  have K4 : Keep h0 T4.heap [] := Keep.trans K3 Kc4 all0
  refine own_go (fun t' k' => XS.iconst X4.here hx rfl (hD d2_21) k') ?_
  show Gm p e below T4 m 22 #[iv p0] [(.int (0 : Int32)), (.ref bt4), (.ref b3), (.ref b3)] _
  have f5 := (A3.keep Kc4)
  have f6 := (F_value_b3.keep Kc4 nin0)
  have f7 := (F_coder_b3.keep Kc4 nin0)
  obtain ⟨_, _, ⟨T8, L8, k8, n8⟩, -, X8, ⟨Lc8, hQ8, l8, y8, z8⟩, st8⟩ := X4.specialBack hx (y := (⟨"java/lang/String", "<init>", "([BB)V"⟩ : MethodName)) rfl hown (mvT hZ (hw _ (List.mem_of_getElem? (i := 19) rfl))) (mvT hZ (hw _ (List.mem_of_getElem? (i := 20) rfl))) (mvT hZ (hw _ (List.mem_of_getElem? (i := 22) rfl))) (by decide) (backOf (W := 1) (rmB l Z a0 hw [] b3 bt4 T4.heap n0 Z4 f5 f6 f7 g_b3) hZ (hw _ (List.mem_of_getElem? (i := 22) rfl)) (hw _ (List.mem_of_getElem? (i := 6) rfl)) (by decide) (by decide)) (g := (mkF m 22 #[iv p0] [(.int (0 : Int32)), (.ref bt4), (.ref b3), (.ref b3)])) rfl (by rw [hml]; rfl) (Steps.refl _) (a := b3) (argsL := [(.ref bt4), (.int (0 : Int32))]) (rest := [(.ref b3)]) (lenOf own_pd6 rfl) rfl (by show 2 * 0 + _ ≤ _; exact Nat.le_of_eq rfl) (hD d2_22) (fun _ _ => ⟨rfl, rfl, (by decide : 2 + 0 ≤ _), (by decide : 5 + 0 ≤ _)⟩)
  dsimp only [Pt.U, Pt.locs, Pt.cells, Pt.slots] at X8 l8 y8 z8 st8 hQ8
  subst l8 y8 z8
  obtain ⟨rfl, Nq8, Kc8, Ec8, Fc8, Fv8⟩ := hQ8
  have N8 := Fr.app N4 Nq8
  refine own_go (fun t k => st8.trans k) ?_
  have Z8 : n0 ≤ T8.heap.size := Nat.le_trans Z4 Kc8.1
  have K8 : Keep h0 T8.heap [] := Keep.trans K4 Kc8 (allS (Or.inr sz_b3) all0)
  show Gm p e below T8 m 25 #[iv p0] [(.ref b3)] _
  have f9 := (At4.keep Kc8 (ninS (Ne.symm (Nat.ne_of_lt (Nat.lt_of_lt_of_le A3.lt sz4))) nin0))
  have f10 := (Et4.keep Kc8)
  exact own_retA X8 hx hlk rfl Bd.returns rfl (hD d2_25) rfl ⟨b3, bt4, ft4, rfl, N8, K8, sz_b3, Ec8, Fc8, Fv8, f10, f9⟩ (by decide) (by decide)
theorem d1_0 : decode method_2_code 0 = .ok (.iload_n 0, 1) := by decide +kernel
theorem d1_1 : decode method_2_code 1 = .ok (.sipush 255, 3) := by decide +kernel
theorem d1_4 : decode method_2_code 4 = .ok (.iand, 1) := by decide +kernel
theorem d1_5 : decode method_2_code 5 = .ok (.i2c, 1) := by decide +kernel
theorem d1_6 : decode method_2_code 6 = .ok (.istore_n 2, 1) := by decide +kernel
theorem d1_7 : decode method_2_code 7 = .ok (.iload_n 0, 1) := by decide +kernel
theorem d1_8 : decode method_2_code 8 = .ok (.bipush 8, 2) := by decide +kernel
theorem d1_10 : decode method_2_code 10 = .ok (.iushr, 1) := by decide +kernel
theorem d1_11 : decode method_2_code 11 = .ok (.sipush 255, 3) := by decide +kernel
theorem d1_14 : decode method_2_code 14 = .ok (.iand, 1) := by decide +kernel
theorem d1_15 : decode method_2_code 15 = .ok (.i2c, 1) := by decide +kernel
theorem d1_16 : decode method_2_code 16 = .ok (.istore_n 3, 1) := by decide +kernel
theorem d1_17 : decode method_2_code 17 = .ok (.iload_n 0, 1) := by decide +kernel
theorem d1_18 : decode method_2_code 18 = .ok (.bipush 16, 2) := by decide +kernel
theorem d1_20 : decode method_2_code 20 = .ok (.iushr, 1) := by decide +kernel
theorem d1_21 : decode method_2_code 21 = .ok (.sipush 255, 3) := by decide +kernel
theorem d1_24 : decode method_2_code 24 = .ok (.iand, 1) := by decide +kernel
theorem d1_25 : decode method_2_code 25 = .ok (.i2c, 1) := by decide +kernel
theorem d1_26 : decode method_2_code 26 = .ok (.istore 4, 2) := by decide +kernel
theorem d1_28 : decode method_2_code 28 = .ok (.iload_n 0, 1) := by decide +kernel
theorem d1_29 : decode method_2_code 29 = .ok (.bipush 24, 2) := by decide +kernel
theorem d1_31 : decode method_2_code 31 = .ok (.iushr, 1) := by decide +kernel
theorem d1_32 : decode method_2_code 32 = .ok (.sipush 255, 3) := by decide +kernel
theorem d1_35 : decode method_2_code 35 = .ok (.iand, 1) := by decide +kernel
theorem d1_36 : decode method_2_code 36 = .ok (.i2c, 1) := by decide +kernel
theorem d1_37 : decode method_2_code 37 = .ok (.istore 5, 2) := by decide +kernel
theorem d1_39 : decode method_2_code 39 = .ok (.iload_n 1, 1) := by decide +kernel
theorem d1_40 : decode method_2_code 40 = .ok (.ifCond .ne 14, 3) := by decide +kernel
theorem d1_43 : decode method_2_code 43 = .ok (.new 7, 3) := by decide +kernel
theorem d1_46 : decode method_2_code 46 = .ok (.dup, 1) := by decide +kernel
theorem d1_47 : decode method_2_code 47 = .ok (.iconst 0, 1) := by decide +kernel
theorem d1_48 : decode method_2_code 48 = .ok (.newarray .char, 2) := by decide +kernel
theorem d1_50 : decode method_2_code 50 = .ok (.invokespecial 9, 3) := by decide +kernel
theorem d1_53 : decode method_2_code 53 = .ok (.areturn, 1) := by decide +kernel
theorem d1_54 : decode method_2_code 54 = .ok (.iload_n 1, 1) := by decide +kernel
theorem d1_55 : decode method_2_code 55 = .ok (.iconst 1, 1) := by decide +kernel
theorem d1_56 : decode method_2_code 56 = .ok (.if_icmp .ne 8, 3) := by decide +kernel
theorem d1_59 : decode method_2_code 59 = .ok (.iload_n 2, 1) := by decide +kernel
theorem d1_60 : decode method_2_code 60 = .ok (.invokestatic 12, 3) := by decide +kernel
theorem d1_63 : decode method_2_code 63 = .ok (.areturn, 1) := by decide +kernel
theorem d1_64 : decode method_2_code 64 = .ok (.iload_n 1, 1) := by decide +kernel
theorem d1_65 : decode method_2_code 65 = .ok (.iconst 2, 1) := by decide +kernel
theorem d1_66 : decode method_2_code 66 = .ok (.if_icmp .ne 22, 3) := by decide +kernel
theorem d1_69 : decode method_2_code 69 = .ok (.new 7, 3) := by decide +kernel
theorem d1_72 : decode method_2_code 72 = .ok (.dup, 1) := by decide +kernel
theorem d1_73 : decode method_2_code 73 = .ok (.iconst 2, 1) := by decide +kernel
theorem d1_74 : decode method_2_code 74 = .ok (.newarray .char, 2) := by decide +kernel
theorem d1_76 : decode method_2_code 76 = .ok (.dup, 1) := by decide +kernel
theorem d1_77 : decode method_2_code 77 = .ok (.iconst 0, 1) := by decide +kernel
theorem d1_78 : decode method_2_code 78 = .ok (.iload_n 2, 1) := by decide +kernel
theorem d1_79 : decode method_2_code 79 = .ok (.castore, 1) := by decide +kernel
theorem d1_80 : decode method_2_code 80 = .ok (.dup, 1) := by decide +kernel
theorem d1_81 : decode method_2_code 81 = .ok (.iconst 1, 1) := by decide +kernel
theorem d1_82 : decode method_2_code 82 = .ok (.iload_n 3, 1) := by decide +kernel
theorem d1_83 : decode method_2_code 83 = .ok (.castore, 1) := by decide +kernel
theorem d1_84 : decode method_2_code 84 = .ok (.invokespecial 9, 3) := by decide +kernel
theorem d1_87 : decode method_2_code 87 = .ok (.areturn, 1) := by decide +kernel
theorem d1_88 : decode method_2_code 88 = .ok (.iload_n 1, 1) := by decide +kernel
theorem d1_89 : decode method_2_code 89 = .ok (.iconst 3, 1) := by decide +kernel
theorem d1_90 : decode method_2_code 90 = .ok (.if_icmp .ne 27, 3) := by decide +kernel
theorem d1_93 : decode method_2_code 93 = .ok (.new 7, 3) := by decide +kernel
theorem d1_96 : decode method_2_code 96 = .ok (.dup, 1) := by decide +kernel
theorem d1_97 : decode method_2_code 97 = .ok (.iconst 3, 1) := by decide +kernel
theorem d1_98 : decode method_2_code 98 = .ok (.newarray .char, 2) := by decide +kernel
theorem d1_100 : decode method_2_code 100 = .ok (.dup, 1) := by decide +kernel
theorem d1_101 : decode method_2_code 101 = .ok (.iconst 0, 1) := by decide +kernel
theorem d1_102 : decode method_2_code 102 = .ok (.iload_n 2, 1) := by decide +kernel
theorem d1_103 : decode method_2_code 103 = .ok (.castore, 1) := by decide +kernel
theorem d1_104 : decode method_2_code 104 = .ok (.dup, 1) := by decide +kernel
theorem d1_105 : decode method_2_code 105 = .ok (.iconst 1, 1) := by decide +kernel
theorem d1_106 : decode method_2_code 106 = .ok (.iload_n 3, 1) := by decide +kernel
theorem d1_107 : decode method_2_code 107 = .ok (.castore, 1) := by decide +kernel
theorem d1_108 : decode method_2_code 108 = .ok (.dup, 1) := by decide +kernel
theorem d1_109 : decode method_2_code 109 = .ok (.iconst 2, 1) := by decide +kernel
theorem d1_110 : decode method_2_code 110 = .ok (.iload 4, 2) := by decide +kernel
theorem d1_112 : decode method_2_code 112 = .ok (.castore, 1) := by decide +kernel
theorem d1_113 : decode method_2_code 113 = .ok (.invokespecial 9, 3) := by decide +kernel
theorem d1_116 : decode method_2_code 116 = .ok (.areturn, 1) := by decide +kernel
theorem d1_117 : decode method_2_code 117 = .ok (.new 7, 3) := by decide +kernel
theorem d1_120 : decode method_2_code 120 = .ok (.dup, 1) := by decide +kernel
theorem d1_121 : decode method_2_code 121 = .ok (.iconst 4, 1) := by decide +kernel
theorem d1_122 : decode method_2_code 122 = .ok (.newarray .char, 2) := by decide +kernel
theorem d1_124 : decode method_2_code 124 = .ok (.dup, 1) := by decide +kernel
theorem d1_125 : decode method_2_code 125 = .ok (.iconst 0, 1) := by decide +kernel
theorem d1_126 : decode method_2_code 126 = .ok (.iload_n 2, 1) := by decide +kernel
theorem d1_127 : decode method_2_code 127 = .ok (.castore, 1) := by decide +kernel
theorem d1_128 : decode method_2_code 128 = .ok (.dup, 1) := by decide +kernel
theorem d1_129 : decode method_2_code 129 = .ok (.iconst 1, 1) := by decide +kernel
theorem d1_130 : decode method_2_code 130 = .ok (.iload_n 3, 1) := by decide +kernel
theorem d1_131 : decode method_2_code 131 = .ok (.castore, 1) := by decide +kernel
theorem d1_132 : decode method_2_code 132 = .ok (.dup, 1) := by decide +kernel
theorem d1_133 : decode method_2_code 133 = .ok (.iconst 2, 1) := by decide +kernel
theorem d1_134 : decode method_2_code 134 = .ok (.iload 4, 2) := by decide +kernel
theorem d1_136 : decode method_2_code 136 = .ok (.castore, 1) := by decide +kernel
theorem d1_137 : decode method_2_code 137 = .ok (.dup, 1) := by decide +kernel
theorem d1_138 : decode method_2_code 138 = .ok (.iconst 3, 1) := by decide +kernel
theorem d1_139 : decode method_2_code 139 = .ok (.iload 5, 2) := by decide +kernel
theorem d1_141 : decode method_2_code 141 = .ok (.castore, 1) := by decide +kernel
theorem d1_142 : decode method_2_code 142 = .ok (.invokespecial 9, 3) := by decide +kernel
theorem d1_145 : decode method_2_code 145 = .ok (.areturn, 1) := by decide +kernel
theorem own_pd7 : parseMethodDescriptor "([C)V" = some ⟨[(.array .char)], none⟩ := by decide +kernel
theorem own_pd8 : parseMethodDescriptor "(C)Ljava/lang/String;" = some ⟨[.char], some (.object "java/lang/String")⟩ := by decide +kernel
theorem own_pn_rmS : plainName "com/example/design_drills/designdrills/service/listens/IdNumbersWrittenBytesPinLaw" = true := by first | (simp [plainName, overriddenIn]; done) | decide +kernel
theorem own_ef_rmS (m : MethodId) (p0 : Int32) (p1 : Int32) : entryFrame m #[(.int p0), (.int p1)] 6 = mkF m 0 #[.val (.int p0), .val (.int p1), .unset, .unset, .unset, .unset] [] := by first | (simp [entryFrame, mkF, argsToLocals, Value.category]; done) | rfl
def QS (Z : State) (p0 : Int32) (p1 : Int32) (cs : Int32) (h0 : Heap) (n0 : Nat) (v : Option Value) (h : Heap) (L : List Loc) : Prop := ∃ (x b : Addr) (n : Nat) (f' : Nat → Value), v = some (.ref x) ∧ Fr n0 L ∧ Ext h0 h ∧ Exa Z h x "java/lang/String" ∧ Fld Z h x "java/lang/String" "coder" "B" (.int (0 : Int32)) ∧ Fld Z h x "java/lang/String" "value" "[B" (.ref b) ∧ Exa Z h b "[B" ∧ Af Z h b .byte n f' ∧ n = lenS p1
set_option maxRecDepth 65536 in
set_option maxHeartbeats 40000000 in
theorem rmS (l : Launch) (Z : State) (a0 : Array Value) (hw : ∀ d ∈ tables_1, d.before a0 Z = true) (ws : List Jvm.Cond) (p0 : Int32) (p1 : Int32) (cs : Int32) (h0 : Heap) (n0 : Nat) (Z0 : n0 ≤ h0.size) (S_c : Sta Z h0 "java/lang/String" "COMPACT_STRINGS" "Z" (.int cs)) (hcs : ¬ cs = 0) :
    MetFree l (⟨"com/example/design_drills/designdrills/service/listens/IdNumbersWrittenBytesPinLaw", "id", "(II)Ljava/lang/String;"⟩ : MethodName) (head1 (Jvm.Cond.code (⟨"com/example/design_drills/designdrills/service/listens/IdNumbersWrittenBytesPinLaw", "id", "(II)Ljava/lang/String;"⟩ : MethodName) method_2_code 6 (some (.object "java/lang/String")) :: ws) ({ frames := 4, cells := 6, slots := 12, locals := 66 } : Room)) (fun a U => a = #[(.int p0), (.int p1)] ∧ Z.Warmed39 U.vm ∧ U.heap = h0 ∧ CHv Z own_EL U.vm h0 ∧ ∀ x ∈ ([] : List Addr), Safe Z own_EL U.vm h0 x) (fun _ _ _ _ _ => True) (fun _ U o U' => ∃ v L, o = .returned v ∧ QS Z p0 p1 cs h0 n0 v U'.heap L ∧ CHr Z own_EL U.vm U.heap U'.vm U'.heap ∧ ReturnedEndW U o U' L ({ frames := 4, cells := 6, slots := 12, locals := 66 } : Room).cells ({ frames := 4, cells := 6, slots := 12, locals := 66 } : Room).slots) := by
  refine MetFree.of_bodySF (plainFor_of_name own_pn_rmS) hisR ?_
  intro p e s m args below meth cO s₁ Bd hml0 hP hK
  obtain ⟨rfl, hZ, hh, hH, hsf⟩ := hP
  have hZ : Z.Warmed39 (s.setVm s.vm).vm := hZ
  have hx := Bd.exec
  have hby := Bd.bytes
  have hD := @Jvm.hb _ _ hby
  have hml : cO.maxLocals = 6 := hml0
  have hown : (s.setVm s.vm).vm.findClass "com/example/design_drills/designdrills/service/listens/IdNumbersWrittenBytesPinLaw" = some m.cls := findClass_of_methodNamed Bd.named
  have hnm := (name_of_methodNamed Bd.named Bd.method).1
  have hlk : meth.locks = false := BodyLoose.notSynchronized Bd
  have X0 : Stand p l e ({ frames := 4, cells := 6, slots := 12, locals := 66 } : Room) (s.setVm s.vm) m #[(.int p0), (.int p1)] below meth cO s₁ [] 0 0 := Stand.of_body Bd
  have hS0 : s.Since s.vm h0.size := (State.WarmedH.refl s).since _
  have hk0 : h0.size ≤ h0.size := Nat.le_refl _
  have C0 : CHr Z own_EL s.vm s.heap s.vm h0 := by rw [hh]; exact CHr.refl hH
  have e0 : s₁.heap = h0 := by rw [← hh, Bd.state]; rfl
  have N0 := Fr.nil n0
  refine own_in (own_ef_rmS m p0 p1) ?_
  show Gm p e below s₁ m 0 #[iv p0, iv p1, .unset, .unset, .unset, .unset] [] _
  refine own_go (fun t' k' => XS.iloadN X0.here hx rfl (hD d1_0) rfl k') ?_
  refine own_go (fun t' k' => XS.sipush X0.here hx rfl (hD d1_1) k') ?_
  refine own_go (fun t' k' => XS.iand X0.here hx rfl (hD d1_4) rfl k') ?_
  show Gm p e below s₁ m 5 #[iv p0, iv p1, .unset, .unset, .unset, .unset] [(.int (p0 &&& (255 : Int32)))] _
  refine own_go (fun t' k' => XS.i2c X0.here hx rfl (hD d1_5) rfl k') ?_
  refine own_go (fun t' k' => XS.istoreN X0.here hx rfl (hD d1_6) rfl (l' := #[iv p0, iv p1, iv ((p0 &&& (255 : Int32)).toUInt32.toUInt16.toUInt32.toInt32), .unset, .unset, .unset]) rfl k') ?_
  refine own_go (fun t' k' => XS.iloadN X0.here hx rfl (hD d1_7) rfl k') ?_
  show Gm p e below s₁ m 8 #[iv p0, iv p1, iv ((p0 &&& (255 : Int32)).toUInt32.toUInt16.toUInt32.toInt32), .unset, .unset, .unset] [(.int p0)] _
  refine own_go (fun t' k' => XS.bipush X0.here hx rfl (hD d1_8) k') ?_
  refine own_go (fun t' k' => XS.iushr X0.here hx rfl (hD d1_10) rfl k') ?_
  refine own_go (fun t' k' => XS.sipush X0.here hx rfl (hD d1_11) k') ?_
  show Gm p e below s₁ m 14 #[iv p0, iv p1, iv ((p0 &&& (255 : Int32)).toUInt32.toUInt16.toUInt32.toInt32), .unset, .unset, .unset] [(.int (255 : Int32)), (.int ((p0.toUInt32 >>> ((8 : Int32) &&& 31).toUInt32).toInt32))] _
  refine own_go (fun t' k' => XS.iand X0.here hx rfl (hD d1_14) rfl k') ?_
  refine own_go (fun t' k' => XS.i2c X0.here hx rfl (hD d1_15) rfl k') ?_
  refine own_go (fun t' k' => XS.istoreN X0.here hx rfl (hD d1_16) rfl (l' := #[iv p0, iv p1, iv ((p0 &&& (255 : Int32)).toUInt32.toUInt16.toUInt32.toInt32), iv ((((p0.toUInt32 >>> ((8 : Int32) &&& 31).toUInt32).toInt32) &&& (255 : Int32)).toUInt32.toUInt16.toUInt32.toInt32), .unset, .unset]) rfl k') ?_
  show Gm p e below s₁ m 17 #[iv p0, iv p1, iv ((p0 &&& (255 : Int32)).toUInt32.toUInt16.toUInt32.toInt32), iv ((((p0.toUInt32 >>> ((8 : Int32) &&& 31).toUInt32).toInt32) &&& (255 : Int32)).toUInt32.toUInt16.toUInt32.toInt32), .unset, .unset] [] _
  refine own_go (fun t' k' => XS.iloadN X0.here hx rfl (hD d1_17) rfl k') ?_
  refine own_go (fun t' k' => XS.bipush X0.here hx rfl (hD d1_18) k') ?_
  refine own_go (fun t' k' => XS.iushr X0.here hx rfl (hD d1_20) rfl k') ?_
  show Gm p e below s₁ m 21 #[iv p0, iv p1, iv ((p0 &&& (255 : Int32)).toUInt32.toUInt16.toUInt32.toInt32), iv ((((p0.toUInt32 >>> ((8 : Int32) &&& 31).toUInt32).toInt32) &&& (255 : Int32)).toUInt32.toUInt16.toUInt32.toInt32), .unset, .unset] [(.int ((p0.toUInt32 >>> ((16 : Int32) &&& 31).toUInt32).toInt32))] _
  refine own_go (fun t' k' => XS.sipush X0.here hx rfl (hD d1_21) k') ?_
  refine own_go (fun t' k' => XS.iand X0.here hx rfl (hD d1_24) rfl k') ?_
  refine own_go (fun t' k' => XS.i2c X0.here hx rfl (hD d1_25) rfl k') ?_
  show Gm p e below s₁ m 26 #[iv p0, iv p1, iv ((p0 &&& (255 : Int32)).toUInt32.toUInt16.toUInt32.toInt32), iv ((((p0.toUInt32 >>> ((8 : Int32) &&& 31).toUInt32).toInt32) &&& (255 : Int32)).toUInt32.toUInt16.toUInt32.toInt32), .unset, .unset] [(.int ((((p0.toUInt32 >>> ((16 : Int32) &&& 31).toUInt32).toInt32) &&& (255 : Int32)).toUInt32.toUInt16.toUInt32.toInt32))] _
  refine own_go (fun t' k' => XS.istore X0.here hx rfl (hD d1_26) rfl (l' := #[iv p0, iv p1, iv ((p0 &&& (255 : Int32)).toUInt32.toUInt16.toUInt32.toInt32), iv ((((p0.toUInt32 >>> ((8 : Int32) &&& 31).toUInt32).toInt32) &&& (255 : Int32)).toUInt32.toUInt16.toUInt32.toInt32), iv ((((p0.toUInt32 >>> ((16 : Int32) &&& 31).toUInt32).toInt32) &&& (255 : Int32)).toUInt32.toUInt16.toUInt32.toInt32), .unset]) rfl k') ?_
  refine own_go (fun t' k' => XS.iloadN X0.here hx rfl (hD d1_28) rfl k') ?_
  refine own_go (fun t' k' => XS.bipush X0.here hx rfl (hD d1_29) k') ?_
  show Gm p e below s₁ m 31 #[iv p0, iv p1, iv ((p0 &&& (255 : Int32)).toUInt32.toUInt16.toUInt32.toInt32), iv ((((p0.toUInt32 >>> ((8 : Int32) &&& 31).toUInt32).toInt32) &&& (255 : Int32)).toUInt32.toUInt16.toUInt32.toInt32), iv ((((p0.toUInt32 >>> ((16 : Int32) &&& 31).toUInt32).toInt32) &&& (255 : Int32)).toUInt32.toUInt16.toUInt32.toInt32), .unset] [(.int (24 : Int32)), (.int p0)] _
  refine own_go (fun t' k' => XS.iushr X0.here hx rfl (hD d1_31) rfl k') ?_
  refine own_go (fun t' k' => XS.sipush X0.here hx rfl (hD d1_32) k') ?_
  refine own_go (fun t' k' => XS.iand X0.here hx rfl (hD d1_35) rfl k') ?_
  show Gm p e below s₁ m 36 #[iv p0, iv p1, iv ((p0 &&& (255 : Int32)).toUInt32.toUInt16.toUInt32.toInt32), iv ((((p0.toUInt32 >>> ((8 : Int32) &&& 31).toUInt32).toInt32) &&& (255 : Int32)).toUInt32.toUInt16.toUInt32.toInt32), iv ((((p0.toUInt32 >>> ((16 : Int32) &&& 31).toUInt32).toInt32) &&& (255 : Int32)).toUInt32.toUInt16.toUInt32.toInt32), .unset] [(.int (((p0.toUInt32 >>> ((24 : Int32) &&& 31).toUInt32).toInt32) &&& (255 : Int32)))] _
  refine own_go (fun t' k' => XS.i2c X0.here hx rfl (hD d1_36) rfl k') ?_
  refine own_go (fun t' k' => XS.istore X0.here hx rfl (hD d1_37) rfl (l' := #[iv p0, iv p1, iv ((p0 &&& (255 : Int32)).toUInt32.toUInt16.toUInt32.toInt32), iv ((((p0.toUInt32 >>> ((8 : Int32) &&& 31).toUInt32).toInt32) &&& (255 : Int32)).toUInt32.toUInt16.toUInt32.toInt32), iv ((((p0.toUInt32 >>> ((16 : Int32) &&& 31).toUInt32).toInt32) &&& (255 : Int32)).toUInt32.toUInt16.toUInt32.toInt32), iv ((((p0.toUInt32 >>> ((24 : Int32) &&& 31).toUInt32).toInt32) &&& (255 : Int32)).toUInt32.toUInt16.toUInt32.toInt32)]) rfl k') ?_
  refine own_go (fun t' k' => XS.iloadN X0.here hx rfl (hD d1_39) rfl k') ?_
  show Gm p e below s₁ m 40 #[iv p0, iv p1, iv ((p0 &&& (255 : Int32)).toUInt32.toUInt16.toUInt32.toInt32), iv ((((p0.toUInt32 >>> ((8 : Int32) &&& 31).toUInt32).toInt32) &&& (255 : Int32)).toUInt32.toUInt16.toUInt32.toInt32), iv ((((p0.toUInt32 >>> ((16 : Int32) &&& 31).toUInt32).toInt32) &&& (255 : Int32)).toUInt32.toUInt16.toUInt32.toInt32), iv ((((p0.toUInt32 >>> ((24 : Int32) &&& 31).toUInt32).toInt32) &&& (255 : Int32)).toUInt32.toUInt16.toUInt32.toInt32)] [(.int p1)] _
  by_cases c1 : p1 = (0 : Int32)
  · have hfork := trivial
    refine own_go (fun t' k' => XS.ifNo X0.here hx rfl (hD d1_40) rfl (XT.i0_ne_f c1) k') ?_
    show Gm p e below s₁ m 43 #[iv p0, iv p1, iv ((p0 &&& (255 : Int32)).toUInt32.toUInt16.toUInt32.toInt32), iv ((((p0.toUInt32 >>> ((8 : Int32) &&& 31).toUInt32).toInt32) &&& (255 : Int32)).toUInt32.toUInt16.toUInt32.toInt32), iv ((((p0.toUInt32 >>> ((16 : Int32) &&& 31).toUInt32).toInt32) &&& (255 : Int32)).toUInt32.toUInt16.toUInt32.toInt32), iv ((((p0.toUInt32 >>> ((24 : Int32) &&& 31).toUInt32).toInt32) &&& (255 : Int32)).toUInt32.toUInt16.toUInt32.toInt32)] [] _
    obtain ⟨T2, h2, X2, e2, E2, A2, D2, -, st2⟩ := newO X0 hx hZ hown (hw _ (List.mem_of_getElem? (i := 30) rfl)) (hw _ (List.mem_of_getElem? (i := 14) rfl)) (hw _ (List.mem_of_getElem? (i := 6) rfl)) e0 (g := (mkF m 43 #[iv p0, iv p1, iv ((p0 &&& (255 : Int32)).toUInt32.toUInt16.toUInt32.toInt32), iv ((((p0.toUInt32 >>> ((8 : Int32) &&& 31).toUInt32).toInt32) &&& (255 : Int32)).toUInt32.toUInt16.toUInt32.toInt32), iv ((((p0.toUInt32 >>> ((16 : Int32) &&& 31).toUInt32).toInt32) &&& (255 : Int32)).toUInt32.toUInt16.toUInt32.toInt32), iv ((((p0.toUInt32 >>> ((24 : Int32) &&& 31).toUInt32).toInt32) &&& (255 : Int32)).toUInt32.toUInt16.toUInt32.toInt32)] [])) rfl (hD d1_43) (by decide) (by decide)
    obtain ⟨b2, g2⟩ : ∃ z, z = h0.size := ⟨_, rfl⟩
    rw [← g2] at A2 D2 st2
    have g_b2 : n0 ≤ b2 := Nat.le_trans Z0 (Nat.le_of_eq g2.symm)
    have sz_b2 : h0.size ≤ b2 := Nat.le_trans (Keep.refl h0 []).1 (Nat.le_of_eq g2.symm)
    have K2 : Keep h0 h2 [] := Keep.ext (Keep.refl h0 []) E2
    have Z2 : n0 ≤ h2.size := Nat.le_trans Z0 E2.1
    have C2 := CHr.trans C0 (CHr.ext E2 C0.1)
    have hk2 : h0.size ≤ h2.size := Nat.le_trans hk0 E2.1
    have sf_b2 := Safe.ext E2 C0.1 (Safe.new (Nat.le_of_eq g2.symm))
    have F_value_b2 : Fld Z h2 b2 "java/lang/String" "value" "[B" .null := D2 (Or.inr (hw _ (List.mem_of_getElem? (i := 27) rfl))) (ty := (.array .byte)) (by decide)
    have F_coder_b2 : Fld Z h2 b2 "java/lang/String" "coder" "B" (.int (0 : Int32)) := D2 (Or.inr (hw _ (List.mem_of_getElem? (i := 29) rfl))) (ty := .byte) (by decide)
    refine own_go st2 ?_
    refine own_go (fun t' k' => XS.dup X2.here hx rfl (hD d1_46) rfl rfl k') ?_
    refine own_go (fun t' k' => XS.iconst X2.here hx rfl (hD d1_47) k') ?_
    show Gm p e below T2 m 48 #[iv p0, iv p1, iv ((p0 &&& (255 : Int32)).toUInt32.toUInt16.toUInt32.toInt32), iv ((((p0.toUInt32 >>> ((8 : Int32) &&& 31).toUInt32).toInt32) &&& (255 : Int32)).toUInt32.toUInt16.toUInt32.toInt32), iv ((((p0.toUInt32 >>> ((16 : Int32) &&& 31).toUInt32).toInt32) &&& (255 : Int32)).toUInt32.toUInt16.toUInt32.toInt32), iv ((((p0.toUInt32 >>> ((24 : Int32) &&& 31).toUInt32).toInt32) &&& (255 : Int32)).toUInt32.toUInt16.toUInt32.toInt32)] [(.int (0 : Int32)), (.ref b2), (.ref b2)] _
    obtain ⟨T3, h3, k3, X3, e3, E3, A3, st3⟩ := newP X2 hx hZ (hw _ (List.mem_of_getElem? (i := 31) rfl)) e2 (g := (mkF m 48 #[iv p0, iv p1, iv ((p0 &&& (255 : Int32)).toUInt32.toUInt16.toUInt32.toInt32), iv ((((p0.toUInt32 >>> ((8 : Int32) &&& 31).toUInt32).toInt32) &&& (255 : Int32)).toUInt32.toUInt16.toUInt32.toInt32), iv ((((p0.toUInt32 >>> ((16 : Int32) &&& 31).toUInt32).toInt32) &&& (255 : Int32)).toUInt32.toUInt16.toUInt32.toInt32), iv ((((p0.toUInt32 >>> ((24 : Int32) &&& 31).toUInt32).toInt32) &&& (255 : Int32)).toUInt32.toUInt16.toUInt32.toInt32)] [(.int (0 : Int32)), (.ref b2), (.ref b2)])) rfl (hD d1_48) rfl (by decide) (cap := 0) (by decide) (by decide) (by decide) (by decide)
    obtain ⟨b3, g3⟩ : ∃ z, z = h2.size := ⟨_, rfl⟩
    rw [← g3] at A3 st3
    have g_b3 : n0 ≤ b3 := Nat.le_trans Z2 (Nat.le_of_eq g3.symm)
    have ne_b2_b3 : b2 ≠ b3 := Nat.ne_of_lt (Nat.lt_of_lt_of_le A2.lt (Nat.le_of_eq g3.symm))
    have sz_b3 : h0.size ≤ b3 := Nat.le_trans K2.1 (Nat.le_of_eq g3.symm)
    have K3 : Keep h0 h3 [] := Keep.ext K2 E3
    have Z3 : n0 ≤ h3.size := Nat.le_trans Z2 E3.1
    have C3 := CHr.trans C2 (CHr.ext E3 C2.1)
    have hk3 : h0.size ≤ h3.size := Nat.le_trans hk2 E3.1
    have sf_b3 := Safe.ext E3 C2.1 (Safe.new (Nat.le_of_eq g3.symm))
    have V3 : Af Z h3 b3 .char 0 (fun _ => defaultValue .char) := Af.new A3 (by decide) rfl rfl
    refine own_go st3 ?_
    show Gm p e below T3 m 50 #[iv p0, iv p1, iv ((p0 &&& (255 : Int32)).toUInt32.toUInt16.toUInt32.toInt32), iv ((((p0.toUInt32 >>> ((8 : Int32) &&& 31).toUInt32).toInt32) &&& (255 : Int32)).toUInt32.toUInt16.toUInt32.toInt32), iv ((((p0.toUInt32 >>> ((16 : Int32) &&& 31).toUInt32).toInt32) &&& (255 : Int32)).toUInt32.toUInt16.toUInt32.toInt32), iv ((((p0.toUInt32 >>> ((24 : Int32) &&& 31).toUInt32).toInt32) &&& (255 : Int32)).toUInt32.toUInt16.toUInt32.toInt32)] [(.ref b3), (.ref b2), (.ref b2)] _
    have f4 := (A2.ext E3)
    have f5 := (F_value_b2.ext E3)
    have f6 := (F_coder_b2.ext E3)
    have f7 := (Safe.ext E3 C2.1 sf_b2)
    obtain ⟨_, _, ⟨T8, L8, q8, n8⟩, -, X8, hs8, hg8, ⟨Lc8, hQ8, l8, y8, z8, Cs8⟩, st8⟩ := X3.specialBackS hx (y := (⟨"java/lang/String", "<init>", "([C)V"⟩ : MethodName)) rfl hown (mvT hZ (hw _ (List.mem_of_getElem? (i := 32) rfl))) (mvT hZ (hw _ (List.mem_of_getElem? (i := 33) rfl))) (mvT hZ (hw _ (List.mem_of_getElem? (i := 34) rfl))) (by decide) (own_backW (W := 1) (rmC_0 l Z a0 hw [] b2 b3 (fun _ => defaultValue .char) h3 n0 Z3 f4 f5 f6 g_b2 V3) hZ (hw _ (List.mem_of_getElem? (i := 34) rfl)) (hw _ (List.mem_of_getElem? (i := 6) rfl)) (by decide) (by decide) (own_ew hw) C3.1 (own_hsS ⟨f4.lt, f7⟩ own_hs0)) (g := (mkF m 50 #[iv p0, iv p1, iv ((p0 &&& (255 : Int32)).toUInt32.toUInt16.toUInt32.toInt32), iv ((((p0.toUInt32 >>> ((8 : Int32) &&& 31).toUInt32).toInt32) &&& (255 : Int32)).toUInt32.toUInt16.toUInt32.toInt32), iv ((((p0.toUInt32 >>> ((16 : Int32) &&& 31).toUInt32).toInt32) &&& (255 : Int32)).toUInt32.toUInt16.toUInt32.toInt32), iv ((((p0.toUInt32 >>> ((24 : Int32) &&& 31).toUInt32).toInt32) &&& (255 : Int32)).toUInt32.toUInt16.toUInt32.toInt32)] [(.ref b3), (.ref b2), (.ref b2)])) rfl (by rw [hml]; rfl) (Steps.refl _) (a := b2) (argsL := [(.ref b3)]) (rest := [(.ref b2)]) (lenOf own_pd7 rfl) rfl (by show 2 * 0 + _ ≤ _; exact Nat.le_of_eq rfl) (hD d1_50) (fun _ _ => ⟨rfl, e3, (by decide : 2 + 4 ≤ _), (by decide : 4 + 8 ≤ _)⟩)
    dsimp only [Pt.U, Pt.locs, Pt.cells, Pt.slots] at X8 hs8 hg8 l8 y8 z8 st8 hQ8 Cs8
    subst l8 y8 z8
    have hS8 : s.Since T8.vm T8.heap.size := foldS hS0 (by rw [e3]; exact hk3) hs8 hg8
    have hZ : Z.Warmed39 (s.setVm T8.vm).vm := State.Warmed39.trans (t := s.setVm s.vm) hZ hs8.1
    have hown : (s.setVm T8.vm).vm.findClass "com/example/design_drills/designdrills/service/listens/IdNumbersWrittenBytesPinLaw" = some m.cls := by rw [show (s.setVm T8.vm).vm = T8.vm from rfl, hs8.1.alike.findClass]; exact hown
    have X8 : Stand p l e _ (s.setVm T8.vm) m _ below meth cO T8 _ _ _ := X8
    have hk8 : T8.heap.size ≤ T8.heap.size := Nat.le_refl _
    obtain ⟨bq8, fq8, rfl, Nq8, Kc8, Ec8, Fc8, Fv8, Eb8, Aq8⟩ := hQ8
    have N8 := Fr.app N0 Nq8
    have sq_b2_8 := CHr.safe Cs8 f4.lt f7
    have sq_b3_8 := CHr.safe Cs8 V3.lt sf_b3
    have C8 := CHr.trans C3 Cs8
    refine own_go (fun t k => st8.trans k) ?_
    have Z8 : n0 ≤ T8.heap.size := Nat.le_trans Z3 Kc8.1
    have K8 : Keep h0 T8.heap [] := Keep.trans K3 Kc8 (allS (Or.inr sz_b2) all0)
    show Gm p e below T8 m 53 #[iv p0, iv p1, iv ((p0 &&& (255 : Int32)).toUInt32.toUInt16.toUInt32.toInt32), iv ((((p0.toUInt32 >>> ((8 : Int32) &&& 31).toUInt32).toInt32) &&& (255 : Int32)).toUInt32.toUInt16.toUInt32.toInt32), iv ((((p0.toUInt32 >>> ((16 : Int32) &&& 31).toUInt32).toInt32) &&& (255 : Int32)).toUInt32.toUInt16.toUInt32.toInt32), iv ((((p0.toUInt32 >>> ((24 : Int32) &&& 31).toUInt32).toInt32) &&& (255 : Int32)).toUInt32.toUInt16.toUInt32.toInt32)] [(.ref b2)] _
    have hl : lenS p1 = 0 := by unfold lenS; rw [if_pos c1]
    exact own_retAW X8 hx hlk hZ (own_ew hw) hS8 hk8 C8 rfl Bd.returns rfl (hD d1_53) rfl ⟨b2, bq8, 0, fq8, rfl, N8, own_stX K8, Ec8, Fc8, Fv8, Eb8, Aq8, hl.symm⟩ (by decide) (by decide)
  · have hfork := trivial
    refine own_go (fun t' k' => XS.ifYes X0.here hx rfl (pc0 := 40) (pc' := 54) rfl (hD d1_40) rfl (XT.i0_ne_t c1) (by decide) (by decide) k') ?_
    refine own_go (fun t' k' => XS.iloadN X0.here hx rfl (hD d1_54) rfl k') ?_
    refine own_go (fun t' k' => XS.iconst X0.here hx rfl (hD d1_55) k') ?_
    show Gm p e below s₁ m 56 #[iv p0, iv p1, iv ((p0 &&& (255 : Int32)).toUInt32.toUInt16.toUInt32.toInt32), iv ((((p0.toUInt32 >>> ((8 : Int32) &&& 31).toUInt32).toInt32) &&& (255 : Int32)).toUInt32.toUInt16.toUInt32.toInt32), iv ((((p0.toUInt32 >>> ((16 : Int32) &&& 31).toUInt32).toInt32) &&& (255 : Int32)).toUInt32.toUInt16.toUInt32.toInt32), iv ((((p0.toUInt32 >>> ((24 : Int32) &&& 31).toUInt32).toInt32) &&& (255 : Int32)).toUInt32.toUInt16.toUInt32.toInt32)] [(.int (1 : Int32)), (.int p1)] _
    by_cases c9 : p1 = (1 : Int32)
    · have hfork := trivial
      refine own_go (fun t' k' => XS.icmpNo X0.here hx rfl (hD d1_56) rfl (XT.ii_ne_f c9) k') ?_
      refine own_go (fun t' k' => XS.iloadN X0.here hx rfl (hD d1_59) rfl k') ?_
      show Gm p e below s₁ m 60 #[iv p0, iv p1, iv ((p0 &&& (255 : Int32)).toUInt32.toUInt16.toUInt32.toInt32), iv ((((p0.toUInt32 >>> ((8 : Int32) &&& 31).toUInt32).toInt32) &&& (255 : Int32)).toUInt32.toUInt16.toUInt32.toInt32), iv ((((p0.toUInt32 >>> ((16 : Int32) &&& 31).toUInt32).toInt32) &&& (255 : Int32)).toUInt32.toUInt16.toUInt32.toInt32), iv ((((p0.toUInt32 >>> ((24 : Int32) &&& 31).toUInt32).toInt32) &&& (255 : Int32)).toUInt32.toUInt16.toUInt32.toInt32)] [(.int ((p0 &&& (255 : Int32)).toUInt32.toUInt16.toUInt32.toInt32))] _
      obtain ⟨_, _, ⟨T10, L10, k10, n10⟩, -, X10, ⟨Lc10, hQ10, l10, y10, z10⟩, st10⟩ := Jvm.LawKit.callS X0 hx (y := (⟨"java/lang/String", "valueOf", "(C)Ljava/lang/String;"⟩ : MethodName)) hown (mvT hZ (hw _ (List.mem_of_getElem? (i := 4) rfl))) (mvT hZ (hw _ (List.mem_of_getElem? (i := 5) rfl))) (mvT hZ (hw _ (List.mem_of_getElem? (i := 6) rfl))) (mvT hZ (hw _ (List.mem_of_getElem? (i := 7) rfl))) (by decide) (backOf (W := 0) (rmO l Z a0 hw [] ((p0 &&& (255 : Int32)).toUInt32.toUInt16.toUInt32.toInt32) cs h0 n0 Z0 S_c hcs (own_c1_le p0)) hZ (hw _ (List.mem_of_getElem? (i := 7) rfl)) (hw _ (List.mem_of_getElem? (i := 6) rfl)) (by decide) (by decide)) (g := (mkF m 60 #[iv p0, iv p1, iv ((p0 &&& (255 : Int32)).toUInt32.toUInt16.toUInt32.toInt32), iv ((((p0.toUInt32 >>> ((8 : Int32) &&& 31).toUInt32).toInt32) &&& (255 : Int32)).toUInt32.toUInt16.toUInt32.toInt32), iv ((((p0.toUInt32 >>> ((16 : Int32) &&& 31).toUInt32).toInt32) &&& (255 : Int32)).toUInt32.toUInt16.toUInt32.toInt32), iv ((((p0.toUInt32 >>> ((24 : Int32) &&& 31).toUInt32).toInt32) &&& (255 : Int32)).toUInt32.toUInt16.toUInt32.toInt32)] [(.int ((p0 &&& (255 : Int32)).toUInt32.toUInt16.toUInt32.toInt32))])) rfl (by rw [hml]; rfl) (argsL := [(.int ((p0 &&& (255 : Int32)).toUInt32.toUInt16.toUInt32.toInt32))]) (rest := []) (lenOf own_pd8 rfl) rfl (by show 2 * 0 + _ ≤ _; exact Nat.le_of_eq rfl) (hD d1_60) (fun _ _ => ⟨rfl, e0, (by decide : 0 + 2 ≤ _), (by decide : 0 + 5 ≤ _)⟩)
      dsimp only [Pt.U, Pt.locs, Pt.cells, Pt.slots] at X10 l10 y10 z10 st10 hQ10
      subst l10 y10 z10
      obtain ⟨xo10, bo10, fo10, rfl, Nq10, Kc10, sz10, Ec10, Fc10, Fv10, Eb10, Ao10⟩ := hQ10
      have N10 := Fr.app N0 Nq10
      refine own_go st10 ?_
      have Z10 : n0 ≤ T10.heap.size := Nat.le_trans Z0 Kc10.1
      have K10 : Keep h0 T10.heap [] := Keep.trans (Keep.refl h0 []) Kc10 all0
      have C10 := CHr.trans C0 (CHr.keep Kc10 sf0 C0.1)
      have hk10 : h0.size ≤ T10.heap.size := Nat.le_trans hk0 Kc10.1
      show Gm p e below T10 m 63 #[iv p0, iv p1, iv ((p0 &&& (255 : Int32)).toUInt32.toUInt16.toUInt32.toInt32), iv ((((p0.toUInt32 >>> ((8 : Int32) &&& 31).toUInt32).toInt32) &&& (255 : Int32)).toUInt32.toUInt16.toUInt32.toInt32), iv ((((p0.toUInt32 >>> ((16 : Int32) &&& 31).toUInt32).toInt32) &&& (255 : Int32)).toUInt32.toUInt16.toUInt32.toInt32), iv ((((p0.toUInt32 >>> ((24 : Int32) &&& 31).toUInt32).toInt32) &&& (255 : Int32)).toUInt32.toUInt16.toUInt32.toInt32)] [(.ref xo10)] _
      have hl : lenS p1 = 1 := by unfold lenS; rw [if_neg c1, if_pos c9]
      exact own_retAW X10 hx hlk hZ (own_ew hw) hS0 hk10 C10 rfl Bd.returns rfl (hD d1_63) rfl ⟨xo10, bo10, 1, fo10, rfl, N10, own_stX K10, Ec10, Fc10, Fv10, Eb10, Ao10, hl.symm⟩ (by decide) (by decide)
    · have hfork := trivial
      refine own_go (fun t' k' => XS.icmpYes X0.here hx rfl (pc0 := 56) (pc' := 64) rfl (hD d1_56) rfl (XT.ii_ne_t c9) (by decide) (by decide) k') ?_
      refine own_go (fun t' k' => XS.iloadN X0.here hx rfl (hD d1_64) rfl k') ?_
      refine own_go (fun t' k' => XS.iconst X0.here hx rfl (hD d1_65) k') ?_
      show Gm p e below s₁ m 66 #[iv p0, iv p1, iv ((p0 &&& (255 : Int32)).toUInt32.toUInt16.toUInt32.toInt32), iv ((((p0.toUInt32 >>> ((8 : Int32) &&& 31).toUInt32).toInt32) &&& (255 : Int32)).toUInt32.toUInt16.toUInt32.toInt32), iv ((((p0.toUInt32 >>> ((16 : Int32) &&& 31).toUInt32).toInt32) &&& (255 : Int32)).toUInt32.toUInt16.toUInt32.toInt32), iv ((((p0.toUInt32 >>> ((24 : Int32) &&& 31).toUInt32).toInt32) &&& (255 : Int32)).toUInt32.toUInt16.toUInt32.toInt32)] [(.int (2 : Int32)), (.int p1)] _
      by_cases c11 : p1 = (2 : Int32)
      · have hfork := trivial
        refine own_go (fun t' k' => XS.icmpNo X0.here hx rfl (hD d1_66) rfl (XT.ii_ne_f c11) k') ?_
        show Gm p e below s₁ m 69 #[iv p0, iv p1, iv ((p0 &&& (255 : Int32)).toUInt32.toUInt16.toUInt32.toInt32), iv ((((p0.toUInt32 >>> ((8 : Int32) &&& 31).toUInt32).toInt32) &&& (255 : Int32)).toUInt32.toUInt16.toUInt32.toInt32), iv ((((p0.toUInt32 >>> ((16 : Int32) &&& 31).toUInt32).toInt32) &&& (255 : Int32)).toUInt32.toUInt16.toUInt32.toInt32), iv ((((p0.toUInt32 >>> ((24 : Int32) &&& 31).toUInt32).toInt32) &&& (255 : Int32)).toUInt32.toUInt16.toUInt32.toInt32)] [] _
        obtain ⟨T12, h12, X12, e12, E12, A12, D12, -, st12⟩ := newO X0 hx hZ hown (hw _ (List.mem_of_getElem? (i := 30) rfl)) (hw _ (List.mem_of_getElem? (i := 14) rfl)) (hw _ (List.mem_of_getElem? (i := 6) rfl)) e0 (g := (mkF m 69 #[iv p0, iv p1, iv ((p0 &&& (255 : Int32)).toUInt32.toUInt16.toUInt32.toInt32), iv ((((p0.toUInt32 >>> ((8 : Int32) &&& 31).toUInt32).toInt32) &&& (255 : Int32)).toUInt32.toUInt16.toUInt32.toInt32), iv ((((p0.toUInt32 >>> ((16 : Int32) &&& 31).toUInt32).toInt32) &&& (255 : Int32)).toUInt32.toUInt16.toUInt32.toInt32), iv ((((p0.toUInt32 >>> ((24 : Int32) &&& 31).toUInt32).toInt32) &&& (255 : Int32)).toUInt32.toUInt16.toUInt32.toInt32)] [])) rfl (hD d1_69) (by decide) (by decide)
        obtain ⟨b12, g12⟩ : ∃ z, z = h0.size := ⟨_, rfl⟩
        rw [← g12] at A12 D12 st12
        have g_b12 : n0 ≤ b12 := Nat.le_trans Z0 (Nat.le_of_eq g12.symm)
        have sz_b12 : h0.size ≤ b12 := Nat.le_trans (Keep.refl h0 []).1 (Nat.le_of_eq g12.symm)
        have K12 : Keep h0 h12 [] := Keep.ext (Keep.refl h0 []) E12
        have Z12 : n0 ≤ h12.size := Nat.le_trans Z0 E12.1
        have C12 := CHr.trans C0 (CHr.ext E12 C0.1)
        have hk12 : h0.size ≤ h12.size := Nat.le_trans hk0 E12.1
        have sf_b12 := Safe.ext E12 C0.1 (Safe.new (Nat.le_of_eq g12.symm))
        have F_value_b12 : Fld Z h12 b12 "java/lang/String" "value" "[B" .null := D12 (Or.inr (hw _ (List.mem_of_getElem? (i := 27) rfl))) (ty := (.array .byte)) (by decide)
        have F_coder_b12 : Fld Z h12 b12 "java/lang/String" "coder" "B" (.int (0 : Int32)) := D12 (Or.inr (hw _ (List.mem_of_getElem? (i := 29) rfl))) (ty := .byte) (by decide)
        refine own_go st12 ?_
        refine own_go (fun t' k' => XS.dup X12.here hx rfl (hD d1_72) rfl rfl k') ?_
        refine own_go (fun t' k' => XS.iconst X12.here hx rfl (hD d1_73) k') ?_
        show Gm p e below T12 m 74 #[iv p0, iv p1, iv ((p0 &&& (255 : Int32)).toUInt32.toUInt16.toUInt32.toInt32), iv ((((p0.toUInt32 >>> ((8 : Int32) &&& 31).toUInt32).toInt32) &&& (255 : Int32)).toUInt32.toUInt16.toUInt32.toInt32), iv ((((p0.toUInt32 >>> ((16 : Int32) &&& 31).toUInt32).toInt32) &&& (255 : Int32)).toUInt32.toUInt16.toUInt32.toInt32), iv ((((p0.toUInt32 >>> ((24 : Int32) &&& 31).toUInt32).toInt32) &&& (255 : Int32)).toUInt32.toUInt16.toUInt32.toInt32)] [(.int (2 : Int32)), (.ref b12), (.ref b12)] _
        obtain ⟨T13, h13, k13, X13, e13, E13, A13, st13⟩ := newP X12 hx hZ (hw _ (List.mem_of_getElem? (i := 31) rfl)) e12 (g := (mkF m 74 #[iv p0, iv p1, iv ((p0 &&& (255 : Int32)).toUInt32.toUInt16.toUInt32.toInt32), iv ((((p0.toUInt32 >>> ((8 : Int32) &&& 31).toUInt32).toInt32) &&& (255 : Int32)).toUInt32.toUInt16.toUInt32.toInt32), iv ((((p0.toUInt32 >>> ((16 : Int32) &&& 31).toUInt32).toInt32) &&& (255 : Int32)).toUInt32.toUInt16.toUInt32.toInt32), iv ((((p0.toUInt32 >>> ((24 : Int32) &&& 31).toUInt32).toInt32) &&& (255 : Int32)).toUInt32.toUInt16.toUInt32.toInt32)] [(.int (2 : Int32)), (.ref b12), (.ref b12)])) rfl (hD d1_74) rfl (by decide) (cap := 2) (by decide) (by decide) (by decide) (by decide)
        obtain ⟨b13, g13⟩ : ∃ z, z = h12.size := ⟨_, rfl⟩
        rw [← g13] at A13 st13
        have g_b13 : n0 ≤ b13 := Nat.le_trans Z12 (Nat.le_of_eq g13.symm)
        have ne_b12_b13 : b12 ≠ b13 := Nat.ne_of_lt (Nat.lt_of_lt_of_le A12.lt (Nat.le_of_eq g13.symm))
        have sz_b13 : h0.size ≤ b13 := Nat.le_trans K12.1 (Nat.le_of_eq g13.symm)
        have K13 : Keep h0 h13 [] := Keep.ext K12 E13
        have Z13 : n0 ≤ h13.size := Nat.le_trans Z12 E13.1
        have C13 := CHr.trans C12 (CHr.ext E13 C12.1)
        have hk13 : h0.size ≤ h13.size := Nat.le_trans hk12 E13.1
        have sf_b13 := Safe.ext E13 C12.1 (Safe.new (Nat.le_of_eq g13.symm))
        have V13 : Af Z h13 b13 .char 2 (fun _ => defaultValue .char) := Af.new A13 (by decide) rfl rfl
        refine own_go st13 ?_
        refine own_go (fun t' k' => XS.dup X13.here hx rfl (hD d1_76) rfl rfl k') ?_
        refine own_go (fun t' k' => XS.iconst X13.here hx rfl (hD d1_77) k') ?_
        show Gm p e below T13 m 78 #[iv p0, iv p1, iv ((p0 &&& (255 : Int32)).toUInt32.toUInt16.toUInt32.toInt32), iv ((((p0.toUInt32 >>> ((8 : Int32) &&& 31).toUInt32).toInt32) &&& (255 : Int32)).toUInt32.toUInt16.toUInt32.toInt32), iv ((((p0.toUInt32 >>> ((16 : Int32) &&& 31).toUInt32).toInt32) &&& (255 : Int32)).toUInt32.toUInt16.toUInt32.toInt32), iv ((((p0.toUInt32 >>> ((24 : Int32) &&& 31).toUInt32).toInt32) &&& (255 : Int32)).toUInt32.toUInt16.toUInt32.toInt32)] [(.int (0 : Int32)), (.ref b13), (.ref b13), (.ref b12), (.ref b12)] _
        refine own_go (fun t' k' => XS.iloadN X13.here hx rfl (hD d1_78) rfl k') ?_
        show Gm p e below T13 m 79 #[iv p0, iv p1, iv ((p0 &&& (255 : Int32)).toUInt32.toUInt16.toUInt32.toInt32), iv ((((p0.toUInt32 >>> ((8 : Int32) &&& 31).toUInt32).toInt32) &&& (255 : Int32)).toUInt32.toUInt16.toUInt32.toInt32), iv ((((p0.toUInt32 >>> ((16 : Int32) &&& 31).toUInt32).toInt32) &&& (255 : Int32)).toUInt32.toUInt16.toUInt32.toInt32), iv ((((p0.toUInt32 >>> ((24 : Int32) &&& 31).toUInt32).toInt32) &&& (255 : Int32)).toUInt32.toUInt16.toUInt32.toInt32)] [(.int ((p0 &&& (255 : Int32)).toUInt32.toUInt16.toUInt32.toInt32)), (.int (0 : Int32)), (.ref b13), (.ref b13), (.ref b12), (.ref b12)] _
        obtain ⟨T14, h14, X14, e14, W14, A14, st14⟩ := own_stC X13 hx hZ e13 V13 (j := (0 : Int32)) (k := 0) (by decide) rfl (by decide) (y := (own_ch p0)) rfl (g := (mkF m 79 #[iv p0, iv p1, iv ((p0 &&& (255 : Int32)).toUInt32.toUInt16.toUInt32.toInt32), iv ((((p0.toUInt32 >>> ((8 : Int32) &&& 31).toUInt32).toInt32) &&& (255 : Int32)).toUInt32.toUInt16.toUInt32.toInt32), iv ((((p0.toUInt32 >>> ((16 : Int32) &&& 31).toUInt32).toInt32) &&& (255 : Int32)).toUInt32.toUInt16.toUInt32.toInt32), iv ((((p0.toUInt32 >>> ((24 : Int32) &&& 31).toUInt32).toInt32) &&& (255 : Int32)).toUInt32.toUInt16.toUInt32.toInt32)] [(.int ((p0 &&& (255 : Int32)).toUInt32.toUInt16.toUInt32.toInt32)), (.int (0 : Int32)), (.ref b13), (.ref b13), (.ref b12), (.ref b12)])) rfl rfl (hD d1_79)
        have N14 := Fr.snoc X14 N0 g_b13
        have Z14 : n0 ≤ h14.size := W14.size ▸ Z13
        have K14 : Keep h0 h14 [] := Keep.wr K13 W14 (Or.inr sz_b13)
        have C14 := CHr.trans C13 (CHr.wr W14 sf_b13 C13.1)
        have hk14 : h0.size ≤ h14.size := W14.size ▸ hk13
        refine own_go st14 ?_
        refine own_go (fun t' k' => XS.dup X14.here hx rfl (hD d1_80) rfl rfl k') ?_
        refine own_go (fun t' k' => XS.iconst X14.here hx rfl (hD d1_81) k') ?_
        show Gm p e below T14 m 82 #[iv p0, iv p1, iv ((p0 &&& (255 : Int32)).toUInt32.toUInt16.toUInt32.toInt32), iv ((((p0.toUInt32 >>> ((8 : Int32) &&& 31).toUInt32).toInt32) &&& (255 : Int32)).toUInt32.toUInt16.toUInt32.toInt32), iv ((((p0.toUInt32 >>> ((16 : Int32) &&& 31).toUInt32).toInt32) &&& (255 : Int32)).toUInt32.toUInt16.toUInt32.toInt32), iv ((((p0.toUInt32 >>> ((24 : Int32) &&& 31).toUInt32).toInt32) &&& (255 : Int32)).toUInt32.toUInt16.toUInt32.toInt32)] [(.int (1 : Int32)), (.ref b13), (.ref b13), (.ref b12), (.ref b12)] _
        refine own_go (fun t' k' => XS.iloadN X14.here hx rfl (hD d1_82) rfl k') ?_
        show Gm p e below T14 m 83 #[iv p0, iv p1, iv ((p0 &&& (255 : Int32)).toUInt32.toUInt16.toUInt32.toInt32), iv ((((p0.toUInt32 >>> ((8 : Int32) &&& 31).toUInt32).toInt32) &&& (255 : Int32)).toUInt32.toUInt16.toUInt32.toInt32), iv ((((p0.toUInt32 >>> ((16 : Int32) &&& 31).toUInt32).toInt32) &&& (255 : Int32)).toUInt32.toUInt16.toUInt32.toInt32), iv ((((p0.toUInt32 >>> ((24 : Int32) &&& 31).toUInt32).toInt32) &&& (255 : Int32)).toUInt32.toUInt16.toUInt32.toInt32)] [(.int ((((p0.toUInt32 >>> ((8 : Int32) &&& 31).toUInt32).toInt32) &&& (255 : Int32)).toUInt32.toUInt16.toUInt32.toInt32)), (.int (1 : Int32)), (.ref b13), (.ref b13), (.ref b12), (.ref b12)] _
        obtain ⟨T15, h15, X15, e15, W15, A15, st15⟩ := own_stC X14 hx hZ e14 A14 (j := (1 : Int32)) (k := 1) (by decide) rfl (by decide) (y := (own_ch ((p0.toUInt32 >>> ((8 : Int32) &&& 31).toUInt32).toInt32))) rfl (g := (mkF m 83 #[iv p0, iv p1, iv ((p0 &&& (255 : Int32)).toUInt32.toUInt16.toUInt32.toInt32), iv ((((p0.toUInt32 >>> ((8 : Int32) &&& 31).toUInt32).toInt32) &&& (255 : Int32)).toUInt32.toUInt16.toUInt32.toInt32), iv ((((p0.toUInt32 >>> ((16 : Int32) &&& 31).toUInt32).toInt32) &&& (255 : Int32)).toUInt32.toUInt16.toUInt32.toInt32), iv ((((p0.toUInt32 >>> ((24 : Int32) &&& 31).toUInt32).toInt32) &&& (255 : Int32)).toUInt32.toUInt16.toUInt32.toInt32)] [(.int ((((p0.toUInt32 >>> ((8 : Int32) &&& 31).toUInt32).toInt32) &&& (255 : Int32)).toUInt32.toUInt16.toUInt32.toInt32)), (.int (1 : Int32)), (.ref b13), (.ref b13), (.ref b12), (.ref b12)])) rfl rfl (hD d1_83)
        have f16 := (Safe.wr W14 sf_b13 C13.1 sf_b13)
        have N15 := Fr.snoc X15 N14 g_b13
        have Z15 : n0 ≤ h15.size := W15.size ▸ Z14
        have K15 : Keep h0 h15 [] := Keep.wr K14 W15 (Or.inr sz_b13)
        have C15 := CHr.trans C14 (CHr.wr W15 f16 C14.1)
        have hk15 : h0.size ≤ h15.size := W15.size ▸ hk14
        refine own_go st15 ?_
        show Gm p e below T15 m 84 #[iv p0, iv p1, iv ((p0 &&& (255 : Int32)).toUInt32.toUInt16.toUInt32.toInt32), iv ((((p0.toUInt32 >>> ((8 : Int32) &&& 31).toUInt32).toInt32) &&& (255 : Int32)).toUInt32.toUInt16.toUInt32.toInt32), iv ((((p0.toUInt32 >>> ((16 : Int32) &&& 31).toUInt32).toInt32) &&& (255 : Int32)).toUInt32.toUInt16.toUInt32.toInt32), iv ((((p0.toUInt32 >>> ((24 : Int32) &&& 31).toUInt32).toInt32) &&& (255 : Int32)).toUInt32.toUInt16.toUInt32.toInt32)] [(.ref b13), (.ref b12), (.ref b12)] _
        have f17 := (((A12.ext E13).wr W14).wr W15)
        have f18 := (Fld.other W15 (Fld.other W14 (F_value_b12.ext E13) (Or.inl ne_b12_b13)) (Or.inl ne_b12_b13))
        have f19 := (Fld.other W15 (Fld.other W14 (F_coder_b12.ext E13) (Or.inl ne_b12_b13)) (Or.inl ne_b12_b13))
        have f20 := ((((S_c.ext E12).ext E13).wr W14).wr W15)
        obtain ⟨_, _, ⟨T21, L21, k21, n21⟩, -, X21, ⟨Lc21, hQ21, l21, y21, z21⟩, st21⟩ := X15.specialBack hx (y := (⟨"java/lang/String", "<init>", "([C)V"⟩ : MethodName)) rfl hown (mvT hZ (hw _ (List.mem_of_getElem? (i := 32) rfl))) (mvT hZ (hw _ (List.mem_of_getElem? (i := 33) rfl))) (mvT hZ (hw _ (List.mem_of_getElem? (i := 34) rfl))) (by decide) (backOf (W := 1) (rmC_2 l Z a0 hw [] b12 b13 (fun i => if i = 1 then (.int (own_ch ((p0.toUInt32 >>> ((8 : Int32) &&& 31).toUInt32).toInt32))) else (fun i => if i = 0 then (.int (own_ch p0)) else (fun _ => defaultValue .char) i) i) (own_ch p0) (own_ch ((p0.toUInt32 >>> ((8 : Int32) &&& 31).toUInt32).toInt32)) cs h15 n0 Z15 f17 f18 f19 A15 rfl rfl (own_ch_le _) (own_ch_le _) f20 hcs g_b12) hZ (hw _ (List.mem_of_getElem? (i := 34) rfl)) (hw _ (List.mem_of_getElem? (i := 6) rfl)) (by decide) (by decide)) (g := (mkF m 84 #[iv p0, iv p1, iv ((p0 &&& (255 : Int32)).toUInt32.toUInt16.toUInt32.toInt32), iv ((((p0.toUInt32 >>> ((8 : Int32) &&& 31).toUInt32).toInt32) &&& (255 : Int32)).toUInt32.toUInt16.toUInt32.toInt32), iv ((((p0.toUInt32 >>> ((16 : Int32) &&& 31).toUInt32).toInt32) &&& (255 : Int32)).toUInt32.toUInt16.toUInt32.toInt32), iv ((((p0.toUInt32 >>> ((24 : Int32) &&& 31).toUInt32).toInt32) &&& (255 : Int32)).toUInt32.toUInt16.toUInt32.toInt32)] [(.ref b13), (.ref b12), (.ref b12)])) rfl (by rw [hml]; rfl) (Steps.refl _) (a := b12) (argsL := [(.ref b13)]) (rest := [(.ref b12)]) (lenOf own_pd7 rfl) rfl (by show 2 * 0 + _ ≤ _; exact Nat.le_of_eq rfl) (hD d1_84) (fun _ _ => ⟨rfl, e15, (by decide : 2 + 1 ≤ _), (by decide : 6 + 2 ≤ _)⟩)
        dsimp only [Pt.U, Pt.locs, Pt.cells, Pt.slots] at X21 l21 y21 z21 st21 hQ21
        subst l21 y21 z21
        obtain ⟨bq21, fq21, rfl, Nq21, Kc21, Ec21, Fc21, Fv21, Eb21, Aq21⟩ := hQ21
        have N21 := Fr.app N15 Nq21
        refine own_go (fun t k => st21.trans k) ?_
        have f22 := (Safe.wr W15 f16 C14.1 (Safe.wr W14 sf_b13 C13.1 (Safe.ext E13 C12.1 sf_b12)))
        have Z21 : n0 ≤ T21.heap.size := Nat.le_trans Z15 Kc21.1
        have K21 : Keep h0 T21.heap [] := Keep.trans K15 Kc21 (allS (Or.inr sz_b12) all0)
        have C21 := CHr.trans C15 (CHr.keep Kc21 (sfS f22 sf0) C15.1)
        have hk21 : h0.size ≤ T21.heap.size := Nat.le_trans hk15 Kc21.1
        show Gm p e below T21 m 87 #[iv p0, iv p1, iv ((p0 &&& (255 : Int32)).toUInt32.toUInt16.toUInt32.toInt32), iv ((((p0.toUInt32 >>> ((8 : Int32) &&& 31).toUInt32).toInt32) &&& (255 : Int32)).toUInt32.toUInt16.toUInt32.toInt32), iv ((((p0.toUInt32 >>> ((16 : Int32) &&& 31).toUInt32).toInt32) &&& (255 : Int32)).toUInt32.toUInt16.toUInt32.toInt32), iv ((((p0.toUInt32 >>> ((24 : Int32) &&& 31).toUInt32).toInt32) &&& (255 : Int32)).toUInt32.toUInt16.toUInt32.toInt32)] [(.ref b12)] _
        have hl : lenS p1 = 2 := by unfold lenS; rw [if_neg c1, if_neg c9, if_pos c11]
        exact own_retAW X21 hx hlk hZ (own_ew hw) hS0 hk21 C21 rfl Bd.returns rfl (hD d1_87) rfl ⟨b12, bq21, 2, fq21, rfl, N21, own_stX K21, Ec21, Fc21, Fv21, Eb21, Aq21, hl.symm⟩ (by decide) (by decide)
      · have hfork := trivial
        refine own_go (fun t' k' => XS.icmpYes X0.here hx rfl (pc0 := 66) (pc' := 88) rfl (hD d1_66) rfl (XT.ii_ne_t c11) (by decide) (by decide) k') ?_
        refine own_go (fun t' k' => XS.iloadN X0.here hx rfl (hD d1_88) rfl k') ?_
        refine own_go (fun t' k' => XS.iconst X0.here hx rfl (hD d1_89) k') ?_
        show Gm p e below s₁ m 90 #[iv p0, iv p1, iv ((p0 &&& (255 : Int32)).toUInt32.toUInt16.toUInt32.toInt32), iv ((((p0.toUInt32 >>> ((8 : Int32) &&& 31).toUInt32).toInt32) &&& (255 : Int32)).toUInt32.toUInt16.toUInt32.toInt32), iv ((((p0.toUInt32 >>> ((16 : Int32) &&& 31).toUInt32).toInt32) &&& (255 : Int32)).toUInt32.toUInt16.toUInt32.toInt32), iv ((((p0.toUInt32 >>> ((24 : Int32) &&& 31).toUInt32).toInt32) &&& (255 : Int32)).toUInt32.toUInt16.toUInt32.toInt32)] [(.int (3 : Int32)), (.int p1)] _
        by_cases c23 : p1 = (3 : Int32)
        · have hfork := trivial
          refine own_go (fun t' k' => XS.icmpNo X0.here hx rfl (hD d1_90) rfl (XT.ii_ne_f c23) k') ?_
          show Gm p e below s₁ m 93 #[iv p0, iv p1, iv ((p0 &&& (255 : Int32)).toUInt32.toUInt16.toUInt32.toInt32), iv ((((p0.toUInt32 >>> ((8 : Int32) &&& 31).toUInt32).toInt32) &&& (255 : Int32)).toUInt32.toUInt16.toUInt32.toInt32), iv ((((p0.toUInt32 >>> ((16 : Int32) &&& 31).toUInt32).toInt32) &&& (255 : Int32)).toUInt32.toUInt16.toUInt32.toInt32), iv ((((p0.toUInt32 >>> ((24 : Int32) &&& 31).toUInt32).toInt32) &&& (255 : Int32)).toUInt32.toUInt16.toUInt32.toInt32)] [] _
          obtain ⟨T24, h24, X24, e24, E24, A24, D24, -, st24⟩ := newO X0 hx hZ hown (hw _ (List.mem_of_getElem? (i := 30) rfl)) (hw _ (List.mem_of_getElem? (i := 14) rfl)) (hw _ (List.mem_of_getElem? (i := 6) rfl)) e0 (g := (mkF m 93 #[iv p0, iv p1, iv ((p0 &&& (255 : Int32)).toUInt32.toUInt16.toUInt32.toInt32), iv ((((p0.toUInt32 >>> ((8 : Int32) &&& 31).toUInt32).toInt32) &&& (255 : Int32)).toUInt32.toUInt16.toUInt32.toInt32), iv ((((p0.toUInt32 >>> ((16 : Int32) &&& 31).toUInt32).toInt32) &&& (255 : Int32)).toUInt32.toUInt16.toUInt32.toInt32), iv ((((p0.toUInt32 >>> ((24 : Int32) &&& 31).toUInt32).toInt32) &&& (255 : Int32)).toUInt32.toUInt16.toUInt32.toInt32)] [])) rfl (hD d1_93) (by decide) (by decide)
          obtain ⟨b24, g24⟩ : ∃ z, z = h0.size := ⟨_, rfl⟩
          rw [← g24] at A24 D24 st24
          have g_b24 : n0 ≤ b24 := Nat.le_trans Z0 (Nat.le_of_eq g24.symm)
          have sz_b24 : h0.size ≤ b24 := Nat.le_trans (Keep.refl h0 []).1 (Nat.le_of_eq g24.symm)
          have K24 : Keep h0 h24 [] := Keep.ext (Keep.refl h0 []) E24
          have Z24 : n0 ≤ h24.size := Nat.le_trans Z0 E24.1
          have C24 := CHr.trans C0 (CHr.ext E24 C0.1)
          have hk24 : h0.size ≤ h24.size := Nat.le_trans hk0 E24.1
          have sf_b24 := Safe.ext E24 C0.1 (Safe.new (Nat.le_of_eq g24.symm))
          have F_value_b24 : Fld Z h24 b24 "java/lang/String" "value" "[B" .null := D24 (Or.inr (hw _ (List.mem_of_getElem? (i := 27) rfl))) (ty := (.array .byte)) (by decide)
          have F_coder_b24 : Fld Z h24 b24 "java/lang/String" "coder" "B" (.int (0 : Int32)) := D24 (Or.inr (hw _ (List.mem_of_getElem? (i := 29) rfl))) (ty := .byte) (by decide)
          refine own_go st24 ?_
          refine own_go (fun t' k' => XS.dup X24.here hx rfl (hD d1_96) rfl rfl k') ?_
          refine own_go (fun t' k' => XS.iconst X24.here hx rfl (hD d1_97) k') ?_
          show Gm p e below T24 m 98 #[iv p0, iv p1, iv ((p0 &&& (255 : Int32)).toUInt32.toUInt16.toUInt32.toInt32), iv ((((p0.toUInt32 >>> ((8 : Int32) &&& 31).toUInt32).toInt32) &&& (255 : Int32)).toUInt32.toUInt16.toUInt32.toInt32), iv ((((p0.toUInt32 >>> ((16 : Int32) &&& 31).toUInt32).toInt32) &&& (255 : Int32)).toUInt32.toUInt16.toUInt32.toInt32), iv ((((p0.toUInt32 >>> ((24 : Int32) &&& 31).toUInt32).toInt32) &&& (255 : Int32)).toUInt32.toUInt16.toUInt32.toInt32)] [(.int (3 : Int32)), (.ref b24), (.ref b24)] _
          obtain ⟨T25, h25, k25, X25, e25, E25, A25, st25⟩ := newP X24 hx hZ (hw _ (List.mem_of_getElem? (i := 31) rfl)) e24 (g := (mkF m 98 #[iv p0, iv p1, iv ((p0 &&& (255 : Int32)).toUInt32.toUInt16.toUInt32.toInt32), iv ((((p0.toUInt32 >>> ((8 : Int32) &&& 31).toUInt32).toInt32) &&& (255 : Int32)).toUInt32.toUInt16.toUInt32.toInt32), iv ((((p0.toUInt32 >>> ((16 : Int32) &&& 31).toUInt32).toInt32) &&& (255 : Int32)).toUInt32.toUInt16.toUInt32.toInt32), iv ((((p0.toUInt32 >>> ((24 : Int32) &&& 31).toUInt32).toInt32) &&& (255 : Int32)).toUInt32.toUInt16.toUInt32.toInt32)] [(.int (3 : Int32)), (.ref b24), (.ref b24)])) rfl (hD d1_98) rfl (by decide) (cap := 3) (by decide) (by decide) (by decide) (by decide)
          obtain ⟨b25, g25⟩ : ∃ z, z = h24.size := ⟨_, rfl⟩
          rw [← g25] at A25 st25
          have g_b25 : n0 ≤ b25 := Nat.le_trans Z24 (Nat.le_of_eq g25.symm)
          have ne_b24_b25 : b24 ≠ b25 := Nat.ne_of_lt (Nat.lt_of_lt_of_le A24.lt (Nat.le_of_eq g25.symm))
          have sz_b25 : h0.size ≤ b25 := Nat.le_trans K24.1 (Nat.le_of_eq g25.symm)
          have K25 : Keep h0 h25 [] := Keep.ext K24 E25
          have Z25 : n0 ≤ h25.size := Nat.le_trans Z24 E25.1
          have C25 := CHr.trans C24 (CHr.ext E25 C24.1)
          have hk25 : h0.size ≤ h25.size := Nat.le_trans hk24 E25.1
          have sf_b25 := Safe.ext E25 C24.1 (Safe.new (Nat.le_of_eq g25.symm))
          have V25 : Af Z h25 b25 .char 3 (fun _ => defaultValue .char) := Af.new A25 (by decide) rfl rfl
          refine own_go st25 ?_
          refine own_go (fun t' k' => XS.dup X25.here hx rfl (hD d1_100) rfl rfl k') ?_
          refine own_go (fun t' k' => XS.iconst X25.here hx rfl (hD d1_101) k') ?_
          show Gm p e below T25 m 102 #[iv p0, iv p1, iv ((p0 &&& (255 : Int32)).toUInt32.toUInt16.toUInt32.toInt32), iv ((((p0.toUInt32 >>> ((8 : Int32) &&& 31).toUInt32).toInt32) &&& (255 : Int32)).toUInt32.toUInt16.toUInt32.toInt32), iv ((((p0.toUInt32 >>> ((16 : Int32) &&& 31).toUInt32).toInt32) &&& (255 : Int32)).toUInt32.toUInt16.toUInt32.toInt32), iv ((((p0.toUInt32 >>> ((24 : Int32) &&& 31).toUInt32).toInt32) &&& (255 : Int32)).toUInt32.toUInt16.toUInt32.toInt32)] [(.int (0 : Int32)), (.ref b25), (.ref b25), (.ref b24), (.ref b24)] _
          refine own_go (fun t' k' => XS.iloadN X25.here hx rfl (hD d1_102) rfl k') ?_
          show Gm p e below T25 m 103 #[iv p0, iv p1, iv ((p0 &&& (255 : Int32)).toUInt32.toUInt16.toUInt32.toInt32), iv ((((p0.toUInt32 >>> ((8 : Int32) &&& 31).toUInt32).toInt32) &&& (255 : Int32)).toUInt32.toUInt16.toUInt32.toInt32), iv ((((p0.toUInt32 >>> ((16 : Int32) &&& 31).toUInt32).toInt32) &&& (255 : Int32)).toUInt32.toUInt16.toUInt32.toInt32), iv ((((p0.toUInt32 >>> ((24 : Int32) &&& 31).toUInt32).toInt32) &&& (255 : Int32)).toUInt32.toUInt16.toUInt32.toInt32)] [(.int ((p0 &&& (255 : Int32)).toUInt32.toUInt16.toUInt32.toInt32)), (.int (0 : Int32)), (.ref b25), (.ref b25), (.ref b24), (.ref b24)] _
          obtain ⟨T26, h26, X26, e26, W26, A26, st26⟩ := own_stC X25 hx hZ e25 V25 (j := (0 : Int32)) (k := 0) (by decide) rfl (by decide) (y := (own_ch p0)) rfl (g := (mkF m 103 #[iv p0, iv p1, iv ((p0 &&& (255 : Int32)).toUInt32.toUInt16.toUInt32.toInt32), iv ((((p0.toUInt32 >>> ((8 : Int32) &&& 31).toUInt32).toInt32) &&& (255 : Int32)).toUInt32.toUInt16.toUInt32.toInt32), iv ((((p0.toUInt32 >>> ((16 : Int32) &&& 31).toUInt32).toInt32) &&& (255 : Int32)).toUInt32.toUInt16.toUInt32.toInt32), iv ((((p0.toUInt32 >>> ((24 : Int32) &&& 31).toUInt32).toInt32) &&& (255 : Int32)).toUInt32.toUInt16.toUInt32.toInt32)] [(.int ((p0 &&& (255 : Int32)).toUInt32.toUInt16.toUInt32.toInt32)), (.int (0 : Int32)), (.ref b25), (.ref b25), (.ref b24), (.ref b24)])) rfl rfl (hD d1_103)
          have N26 := Fr.snoc X26 N0 g_b25
          have Z26 : n0 ≤ h26.size := W26.size ▸ Z25
          have K26 : Keep h0 h26 [] := Keep.wr K25 W26 (Or.inr sz_b25)
          have C26 := CHr.trans C25 (CHr.wr W26 sf_b25 C25.1)
          have hk26 : h0.size ≤ h26.size := W26.size ▸ hk25
          refine own_go st26 ?_
          refine own_go (fun t' k' => XS.dup X26.here hx rfl (hD d1_104) rfl rfl k') ?_
          refine own_go (fun t' k' => XS.iconst X26.here hx rfl (hD d1_105) k') ?_
          show Gm p e below T26 m 106 #[iv p0, iv p1, iv ((p0 &&& (255 : Int32)).toUInt32.toUInt16.toUInt32.toInt32), iv ((((p0.toUInt32 >>> ((8 : Int32) &&& 31).toUInt32).toInt32) &&& (255 : Int32)).toUInt32.toUInt16.toUInt32.toInt32), iv ((((p0.toUInt32 >>> ((16 : Int32) &&& 31).toUInt32).toInt32) &&& (255 : Int32)).toUInt32.toUInt16.toUInt32.toInt32), iv ((((p0.toUInt32 >>> ((24 : Int32) &&& 31).toUInt32).toInt32) &&& (255 : Int32)).toUInt32.toUInt16.toUInt32.toInt32)] [(.int (1 : Int32)), (.ref b25), (.ref b25), (.ref b24), (.ref b24)] _
          refine own_go (fun t' k' => XS.iloadN X26.here hx rfl (hD d1_106) rfl k') ?_
          show Gm p e below T26 m 107 #[iv p0, iv p1, iv ((p0 &&& (255 : Int32)).toUInt32.toUInt16.toUInt32.toInt32), iv ((((p0.toUInt32 >>> ((8 : Int32) &&& 31).toUInt32).toInt32) &&& (255 : Int32)).toUInt32.toUInt16.toUInt32.toInt32), iv ((((p0.toUInt32 >>> ((16 : Int32) &&& 31).toUInt32).toInt32) &&& (255 : Int32)).toUInt32.toUInt16.toUInt32.toInt32), iv ((((p0.toUInt32 >>> ((24 : Int32) &&& 31).toUInt32).toInt32) &&& (255 : Int32)).toUInt32.toUInt16.toUInt32.toInt32)] [(.int ((((p0.toUInt32 >>> ((8 : Int32) &&& 31).toUInt32).toInt32) &&& (255 : Int32)).toUInt32.toUInt16.toUInt32.toInt32)), (.int (1 : Int32)), (.ref b25), (.ref b25), (.ref b24), (.ref b24)] _
          obtain ⟨T27, h27, X27, e27, W27, A27, st27⟩ := own_stC X26 hx hZ e26 A26 (j := (1 : Int32)) (k := 1) (by decide) rfl (by decide) (y := (own_ch ((p0.toUInt32 >>> ((8 : Int32) &&& 31).toUInt32).toInt32))) rfl (g := (mkF m 107 #[iv p0, iv p1, iv ((p0 &&& (255 : Int32)).toUInt32.toUInt16.toUInt32.toInt32), iv ((((p0.toUInt32 >>> ((8 : Int32) &&& 31).toUInt32).toInt32) &&& (255 : Int32)).toUInt32.toUInt16.toUInt32.toInt32), iv ((((p0.toUInt32 >>> ((16 : Int32) &&& 31).toUInt32).toInt32) &&& (255 : Int32)).toUInt32.toUInt16.toUInt32.toInt32), iv ((((p0.toUInt32 >>> ((24 : Int32) &&& 31).toUInt32).toInt32) &&& (255 : Int32)).toUInt32.toUInt16.toUInt32.toInt32)] [(.int ((((p0.toUInt32 >>> ((8 : Int32) &&& 31).toUInt32).toInt32) &&& (255 : Int32)).toUInt32.toUInt16.toUInt32.toInt32)), (.int (1 : Int32)), (.ref b25), (.ref b25), (.ref b24), (.ref b24)])) rfl rfl (hD d1_107)
          have f28 := (Safe.wr W26 sf_b25 C25.1 sf_b25)
          have N27 := Fr.snoc X27 N26 g_b25
          have Z27 : n0 ≤ h27.size := W27.size ▸ Z26
          have K27 : Keep h0 h27 [] := Keep.wr K26 W27 (Or.inr sz_b25)
          have C27 := CHr.trans C26 (CHr.wr W27 f28 C26.1)
          have hk27 : h0.size ≤ h27.size := W27.size ▸ hk26
          refine own_go st27 ?_
          refine own_go (fun t' k' => XS.dup X27.here hx rfl (hD d1_108) rfl rfl k') ?_
          refine own_go (fun t' k' => XS.iconst X27.here hx rfl (hD d1_109) k') ?_
          show Gm p e below T27 m 110 #[iv p0, iv p1, iv ((p0 &&& (255 : Int32)).toUInt32.toUInt16.toUInt32.toInt32), iv ((((p0.toUInt32 >>> ((8 : Int32) &&& 31).toUInt32).toInt32) &&& (255 : Int32)).toUInt32.toUInt16.toUInt32.toInt32), iv ((((p0.toUInt32 >>> ((16 : Int32) &&& 31).toUInt32).toInt32) &&& (255 : Int32)).toUInt32.toUInt16.toUInt32.toInt32), iv ((((p0.toUInt32 >>> ((24 : Int32) &&& 31).toUInt32).toInt32) &&& (255 : Int32)).toUInt32.toUInt16.toUInt32.toInt32)] [(.int (2 : Int32)), (.ref b25), (.ref b25), (.ref b24), (.ref b24)] _
          refine own_go (fun t' k' => XS.iload X27.here hx rfl (hD d1_110) rfl k') ?_
          show Gm p e below T27 m 112 #[iv p0, iv p1, iv ((p0 &&& (255 : Int32)).toUInt32.toUInt16.toUInt32.toInt32), iv ((((p0.toUInt32 >>> ((8 : Int32) &&& 31).toUInt32).toInt32) &&& (255 : Int32)).toUInt32.toUInt16.toUInt32.toInt32), iv ((((p0.toUInt32 >>> ((16 : Int32) &&& 31).toUInt32).toInt32) &&& (255 : Int32)).toUInt32.toUInt16.toUInt32.toInt32), iv ((((p0.toUInt32 >>> ((24 : Int32) &&& 31).toUInt32).toInt32) &&& (255 : Int32)).toUInt32.toUInt16.toUInt32.toInt32)] [(.int ((((p0.toUInt32 >>> ((16 : Int32) &&& 31).toUInt32).toInt32) &&& (255 : Int32)).toUInt32.toUInt16.toUInt32.toInt32)), (.int (2 : Int32)), (.ref b25), (.ref b25), (.ref b24), (.ref b24)] _
          obtain ⟨T29, h29, X29, e29, W29, A29, st29⟩ := own_stC X27 hx hZ e27 A27 (j := (2 : Int32)) (k := 2) (by decide) rfl (by decide) (y := (own_ch ((p0.toUInt32 >>> ((16 : Int32) &&& 31).toUInt32).toInt32))) rfl (g := (mkF m 112 #[iv p0, iv p1, iv ((p0 &&& (255 : Int32)).toUInt32.toUInt16.toUInt32.toInt32), iv ((((p0.toUInt32 >>> ((8 : Int32) &&& 31).toUInt32).toInt32) &&& (255 : Int32)).toUInt32.toUInt16.toUInt32.toInt32), iv ((((p0.toUInt32 >>> ((16 : Int32) &&& 31).toUInt32).toInt32) &&& (255 : Int32)).toUInt32.toUInt16.toUInt32.toInt32), iv ((((p0.toUInt32 >>> ((24 : Int32) &&& 31).toUInt32).toInt32) &&& (255 : Int32)).toUInt32.toUInt16.toUInt32.toInt32)] [(.int ((((p0.toUInt32 >>> ((16 : Int32) &&& 31).toUInt32).toInt32) &&& (255 : Int32)).toUInt32.toUInt16.toUInt32.toInt32)), (.int (2 : Int32)), (.ref b25), (.ref b25), (.ref b24), (.ref b24)])) rfl rfl (hD d1_112)
          have f30 := (Safe.wr W27 f28 C26.1 f28)
          have N29 := Fr.snoc X29 N27 g_b25
          have Z29 : n0 ≤ h29.size := W29.size ▸ Z27
          have K29 : Keep h0 h29 [] := Keep.wr K27 W29 (Or.inr sz_b25)
          have C29 := CHr.trans C27 (CHr.wr W29 f30 C27.1)
          have hk29 : h0.size ≤ h29.size := W29.size ▸ hk27
          refine own_go st29 ?_
          show Gm p e below T29 m 113 #[iv p0, iv p1, iv ((p0 &&& (255 : Int32)).toUInt32.toUInt16.toUInt32.toInt32), iv ((((p0.toUInt32 >>> ((8 : Int32) &&& 31).toUInt32).toInt32) &&& (255 : Int32)).toUInt32.toUInt16.toUInt32.toInt32), iv ((((p0.toUInt32 >>> ((16 : Int32) &&& 31).toUInt32).toInt32) &&& (255 : Int32)).toUInt32.toUInt16.toUInt32.toInt32), iv ((((p0.toUInt32 >>> ((24 : Int32) &&& 31).toUInt32).toInt32) &&& (255 : Int32)).toUInt32.toUInt16.toUInt32.toInt32)] [(.ref b25), (.ref b24), (.ref b24)] _
          have f31 := ((((A24.ext E25).wr W26).wr W27).wr W29)
          have f32 := (Fld.other W29 (Fld.other W27 (Fld.other W26 (F_value_b24.ext E25) (Or.inl ne_b24_b25)) (Or.inl ne_b24_b25)) (Or.inl ne_b24_b25))
          have f33 := (Fld.other W29 (Fld.other W27 (Fld.other W26 (F_coder_b24.ext E25) (Or.inl ne_b24_b25)) (Or.inl ne_b24_b25)) (Or.inl ne_b24_b25))
          have f34 := (((((S_c.ext E24).ext E25).wr W26).wr W27).wr W29)
          obtain ⟨_, _, ⟨T35, L35, k35, n35⟩, -, X35, ⟨Lc35, hQ35, l35, y35, z35⟩, st35⟩ := X29.specialBack hx (y := (⟨"java/lang/String", "<init>", "([C)V"⟩ : MethodName)) rfl hown (mvT hZ (hw _ (List.mem_of_getElem? (i := 32) rfl))) (mvT hZ (hw _ (List.mem_of_getElem? (i := 33) rfl))) (mvT hZ (hw _ (List.mem_of_getElem? (i := 34) rfl))) (by decide) (backOf (W := 1) (rmC_3 l Z a0 hw [] b24 b25 (fun i => if i = 2 then (.int (own_ch ((p0.toUInt32 >>> ((16 : Int32) &&& 31).toUInt32).toInt32))) else (fun i => if i = 1 then (.int (own_ch ((p0.toUInt32 >>> ((8 : Int32) &&& 31).toUInt32).toInt32))) else (fun i => if i = 0 then (.int (own_ch p0)) else (fun _ => defaultValue .char) i) i) i) (own_ch p0) (own_ch ((p0.toUInt32 >>> ((8 : Int32) &&& 31).toUInt32).toInt32)) (own_ch ((p0.toUInt32 >>> ((16 : Int32) &&& 31).toUInt32).toInt32)) cs h29 n0 Z29 f31 f32 f33 A29 rfl rfl rfl (own_ch_le _) (own_ch_le _) (own_ch_le _) f34 hcs g_b24) hZ (hw _ (List.mem_of_getElem? (i := 34) rfl)) (hw _ (List.mem_of_getElem? (i := 6) rfl)) (by decide) (by decide)) (g := (mkF m 113 #[iv p0, iv p1, iv ((p0 &&& (255 : Int32)).toUInt32.toUInt16.toUInt32.toInt32), iv ((((p0.toUInt32 >>> ((8 : Int32) &&& 31).toUInt32).toInt32) &&& (255 : Int32)).toUInt32.toUInt16.toUInt32.toInt32), iv ((((p0.toUInt32 >>> ((16 : Int32) &&& 31).toUInt32).toInt32) &&& (255 : Int32)).toUInt32.toUInt16.toUInt32.toInt32), iv ((((p0.toUInt32 >>> ((24 : Int32) &&& 31).toUInt32).toInt32) &&& (255 : Int32)).toUInt32.toUInt16.toUInt32.toInt32)] [(.ref b25), (.ref b24), (.ref b24)])) rfl (by rw [hml]; rfl) (Steps.refl _) (a := b24) (argsL := [(.ref b25)]) (rest := [(.ref b24)]) (lenOf own_pd7 rfl) rfl (by show 2 * 0 + _ ≤ _; exact Nat.le_of_eq rfl) (hD d1_113) (fun _ _ => ⟨rfl, e29, (by decide : 2 + 1 ≤ _), (by decide : 7 + 3 ≤ _)⟩)
          dsimp only [Pt.U, Pt.locs, Pt.cells, Pt.slots] at X35 l35 y35 z35 st35 hQ35
          subst l35 y35 z35
          obtain ⟨bq35, fq35, rfl, Nq35, Kc35, Ec35, Fc35, Fv35, Eb35, Aq35⟩ := hQ35
          have N35 := Fr.app N29 Nq35
          refine own_go (fun t k => st35.trans k) ?_
          have f36 := (Safe.wr W29 f30 C27.1 (Safe.wr W27 f28 C26.1 (Safe.wr W26 sf_b25 C25.1 (Safe.ext E25 C24.1 sf_b24))))
          have Z35 : n0 ≤ T35.heap.size := Nat.le_trans Z29 Kc35.1
          have K35 : Keep h0 T35.heap [] := Keep.trans K29 Kc35 (allS (Or.inr sz_b24) all0)
          have C35 := CHr.trans C29 (CHr.keep Kc35 (sfS f36 sf0) C29.1)
          have hk35 : h0.size ≤ T35.heap.size := Nat.le_trans hk29 Kc35.1
          show Gm p e below T35 m 116 #[iv p0, iv p1, iv ((p0 &&& (255 : Int32)).toUInt32.toUInt16.toUInt32.toInt32), iv ((((p0.toUInt32 >>> ((8 : Int32) &&& 31).toUInt32).toInt32) &&& (255 : Int32)).toUInt32.toUInt16.toUInt32.toInt32), iv ((((p0.toUInt32 >>> ((16 : Int32) &&& 31).toUInt32).toInt32) &&& (255 : Int32)).toUInt32.toUInt16.toUInt32.toInt32), iv ((((p0.toUInt32 >>> ((24 : Int32) &&& 31).toUInt32).toInt32) &&& (255 : Int32)).toUInt32.toUInt16.toUInt32.toInt32)] [(.ref b24)] _
          have hl : lenS p1 = 3 := by unfold lenS; rw [if_neg c1, if_neg c9, if_neg c11, if_pos c23]
          exact own_retAW X35 hx hlk hZ (own_ew hw) hS0 hk35 C35 rfl Bd.returns rfl (hD d1_116) rfl ⟨b24, bq35, 3, fq35, rfl, N35, own_stX K35, Ec35, Fc35, Fv35, Eb35, Aq35, hl.symm⟩ (by decide) (by decide)
        · have hfork := trivial
          refine own_go (fun t' k' => XS.icmpYes X0.here hx rfl (pc0 := 90) (pc' := 117) rfl (hD d1_90) rfl (XT.ii_ne_t c23) (by decide) (by decide) k') ?_
          show Gm p e below s₁ m 117 #[iv p0, iv p1, iv ((p0 &&& (255 : Int32)).toUInt32.toUInt16.toUInt32.toInt32), iv ((((p0.toUInt32 >>> ((8 : Int32) &&& 31).toUInt32).toInt32) &&& (255 : Int32)).toUInt32.toUInt16.toUInt32.toInt32), iv ((((p0.toUInt32 >>> ((16 : Int32) &&& 31).toUInt32).toInt32) &&& (255 : Int32)).toUInt32.toUInt16.toUInt32.toInt32), iv ((((p0.toUInt32 >>> ((24 : Int32) &&& 31).toUInt32).toInt32) &&& (255 : Int32)).toUInt32.toUInt16.toUInt32.toInt32)] [] _
          obtain ⟨T37, h37, X37, e37, E37, A37, D37, -, st37⟩ := newO X0 hx hZ hown (hw _ (List.mem_of_getElem? (i := 30) rfl)) (hw _ (List.mem_of_getElem? (i := 14) rfl)) (hw _ (List.mem_of_getElem? (i := 6) rfl)) e0 (g := (mkF m 117 #[iv p0, iv p1, iv ((p0 &&& (255 : Int32)).toUInt32.toUInt16.toUInt32.toInt32), iv ((((p0.toUInt32 >>> ((8 : Int32) &&& 31).toUInt32).toInt32) &&& (255 : Int32)).toUInt32.toUInt16.toUInt32.toInt32), iv ((((p0.toUInt32 >>> ((16 : Int32) &&& 31).toUInt32).toInt32) &&& (255 : Int32)).toUInt32.toUInt16.toUInt32.toInt32), iv ((((p0.toUInt32 >>> ((24 : Int32) &&& 31).toUInt32).toInt32) &&& (255 : Int32)).toUInt32.toUInt16.toUInt32.toInt32)] [])) rfl (hD d1_117) (by decide) (by decide)
          obtain ⟨b37, g37⟩ : ∃ z, z = h0.size := ⟨_, rfl⟩
          rw [← g37] at A37 D37 st37
          have g_b37 : n0 ≤ b37 := Nat.le_trans Z0 (Nat.le_of_eq g37.symm)
          have sz_b37 : h0.size ≤ b37 := Nat.le_trans (Keep.refl h0 []).1 (Nat.le_of_eq g37.symm)
          have K37 : Keep h0 h37 [] := Keep.ext (Keep.refl h0 []) E37
          have Z37 : n0 ≤ h37.size := Nat.le_trans Z0 E37.1
          have C37 := CHr.trans C0 (CHr.ext E37 C0.1)
          have hk37 : h0.size ≤ h37.size := Nat.le_trans hk0 E37.1
          have sf_b37 := Safe.ext E37 C0.1 (Safe.new (Nat.le_of_eq g37.symm))
          have F_value_b37 : Fld Z h37 b37 "java/lang/String" "value" "[B" .null := D37 (Or.inr (hw _ (List.mem_of_getElem? (i := 27) rfl))) (ty := (.array .byte)) (by decide)
          have F_coder_b37 : Fld Z h37 b37 "java/lang/String" "coder" "B" (.int (0 : Int32)) := D37 (Or.inr (hw _ (List.mem_of_getElem? (i := 29) rfl))) (ty := .byte) (by decide)
          refine own_go st37 ?_
          refine own_go (fun t' k' => XS.dup X37.here hx rfl (hD d1_120) rfl rfl k') ?_
          refine own_go (fun t' k' => XS.iconst X37.here hx rfl (hD d1_121) k') ?_
          show Gm p e below T37 m 122 #[iv p0, iv p1, iv ((p0 &&& (255 : Int32)).toUInt32.toUInt16.toUInt32.toInt32), iv ((((p0.toUInt32 >>> ((8 : Int32) &&& 31).toUInt32).toInt32) &&& (255 : Int32)).toUInt32.toUInt16.toUInt32.toInt32), iv ((((p0.toUInt32 >>> ((16 : Int32) &&& 31).toUInt32).toInt32) &&& (255 : Int32)).toUInt32.toUInt16.toUInt32.toInt32), iv ((((p0.toUInt32 >>> ((24 : Int32) &&& 31).toUInt32).toInt32) &&& (255 : Int32)).toUInt32.toUInt16.toUInt32.toInt32)] [(.int (4 : Int32)), (.ref b37), (.ref b37)] _
          obtain ⟨T38, h38, k38, X38, e38, E38, A38, st38⟩ := newP X37 hx hZ (hw _ (List.mem_of_getElem? (i := 31) rfl)) e37 (g := (mkF m 122 #[iv p0, iv p1, iv ((p0 &&& (255 : Int32)).toUInt32.toUInt16.toUInt32.toInt32), iv ((((p0.toUInt32 >>> ((8 : Int32) &&& 31).toUInt32).toInt32) &&& (255 : Int32)).toUInt32.toUInt16.toUInt32.toInt32), iv ((((p0.toUInt32 >>> ((16 : Int32) &&& 31).toUInt32).toInt32) &&& (255 : Int32)).toUInt32.toUInt16.toUInt32.toInt32), iv ((((p0.toUInt32 >>> ((24 : Int32) &&& 31).toUInt32).toInt32) &&& (255 : Int32)).toUInt32.toUInt16.toUInt32.toInt32)] [(.int (4 : Int32)), (.ref b37), (.ref b37)])) rfl (hD d1_122) rfl (by decide) (cap := 4) (by decide) (by decide) (by decide) (by decide)
          obtain ⟨b38, g38⟩ : ∃ z, z = h37.size := ⟨_, rfl⟩
          rw [← g38] at A38 st38
          have g_b38 : n0 ≤ b38 := Nat.le_trans Z37 (Nat.le_of_eq g38.symm)
          have ne_b37_b38 : b37 ≠ b38 := Nat.ne_of_lt (Nat.lt_of_lt_of_le A37.lt (Nat.le_of_eq g38.symm))
          have sz_b38 : h0.size ≤ b38 := Nat.le_trans K37.1 (Nat.le_of_eq g38.symm)
          have K38 : Keep h0 h38 [] := Keep.ext K37 E38
          have Z38 : n0 ≤ h38.size := Nat.le_trans Z37 E38.1
          have C38 := CHr.trans C37 (CHr.ext E38 C37.1)
          have hk38 : h0.size ≤ h38.size := Nat.le_trans hk37 E38.1
          have sf_b38 := Safe.ext E38 C37.1 (Safe.new (Nat.le_of_eq g38.symm))
          have V38 : Af Z h38 b38 .char 4 (fun _ => defaultValue .char) := Af.new A38 (by decide) rfl rfl
          refine own_go st38 ?_
          refine own_go (fun t' k' => XS.dup X38.here hx rfl (hD d1_124) rfl rfl k') ?_
          refine own_go (fun t' k' => XS.iconst X38.here hx rfl (hD d1_125) k') ?_
          show Gm p e below T38 m 126 #[iv p0, iv p1, iv ((p0 &&& (255 : Int32)).toUInt32.toUInt16.toUInt32.toInt32), iv ((((p0.toUInt32 >>> ((8 : Int32) &&& 31).toUInt32).toInt32) &&& (255 : Int32)).toUInt32.toUInt16.toUInt32.toInt32), iv ((((p0.toUInt32 >>> ((16 : Int32) &&& 31).toUInt32).toInt32) &&& (255 : Int32)).toUInt32.toUInt16.toUInt32.toInt32), iv ((((p0.toUInt32 >>> ((24 : Int32) &&& 31).toUInt32).toInt32) &&& (255 : Int32)).toUInt32.toUInt16.toUInt32.toInt32)] [(.int (0 : Int32)), (.ref b38), (.ref b38), (.ref b37), (.ref b37)] _
          refine own_go (fun t' k' => XS.iloadN X38.here hx rfl (hD d1_126) rfl k') ?_
          show Gm p e below T38 m 127 #[iv p0, iv p1, iv ((p0 &&& (255 : Int32)).toUInt32.toUInt16.toUInt32.toInt32), iv ((((p0.toUInt32 >>> ((8 : Int32) &&& 31).toUInt32).toInt32) &&& (255 : Int32)).toUInt32.toUInt16.toUInt32.toInt32), iv ((((p0.toUInt32 >>> ((16 : Int32) &&& 31).toUInt32).toInt32) &&& (255 : Int32)).toUInt32.toUInt16.toUInt32.toInt32), iv ((((p0.toUInt32 >>> ((24 : Int32) &&& 31).toUInt32).toInt32) &&& (255 : Int32)).toUInt32.toUInt16.toUInt32.toInt32)] [(.int ((p0 &&& (255 : Int32)).toUInt32.toUInt16.toUInt32.toInt32)), (.int (0 : Int32)), (.ref b38), (.ref b38), (.ref b37), (.ref b37)] _
          obtain ⟨T39, h39, X39, e39, W39, A39, st39⟩ := own_stC X38 hx hZ e38 V38 (j := (0 : Int32)) (k := 0) (by decide) rfl (by decide) (y := (own_ch p0)) rfl (g := (mkF m 127 #[iv p0, iv p1, iv ((p0 &&& (255 : Int32)).toUInt32.toUInt16.toUInt32.toInt32), iv ((((p0.toUInt32 >>> ((8 : Int32) &&& 31).toUInt32).toInt32) &&& (255 : Int32)).toUInt32.toUInt16.toUInt32.toInt32), iv ((((p0.toUInt32 >>> ((16 : Int32) &&& 31).toUInt32).toInt32) &&& (255 : Int32)).toUInt32.toUInt16.toUInt32.toInt32), iv ((((p0.toUInt32 >>> ((24 : Int32) &&& 31).toUInt32).toInt32) &&& (255 : Int32)).toUInt32.toUInt16.toUInt32.toInt32)] [(.int ((p0 &&& (255 : Int32)).toUInt32.toUInt16.toUInt32.toInt32)), (.int (0 : Int32)), (.ref b38), (.ref b38), (.ref b37), (.ref b37)])) rfl rfl (hD d1_127)
          have N39 := Fr.snoc X39 N0 g_b38
          have Z39 : n0 ≤ h39.size := W39.size ▸ Z38
          have K39 : Keep h0 h39 [] := Keep.wr K38 W39 (Or.inr sz_b38)
          have C39 := CHr.trans C38 (CHr.wr W39 sf_b38 C38.1)
          have hk39 : h0.size ≤ h39.size := W39.size ▸ hk38
          refine own_go st39 ?_
          refine own_go (fun t' k' => XS.dup X39.here hx rfl (hD d1_128) rfl rfl k') ?_
          refine own_go (fun t' k' => XS.iconst X39.here hx rfl (hD d1_129) k') ?_
          show Gm p e below T39 m 130 #[iv p0, iv p1, iv ((p0 &&& (255 : Int32)).toUInt32.toUInt16.toUInt32.toInt32), iv ((((p0.toUInt32 >>> ((8 : Int32) &&& 31).toUInt32).toInt32) &&& (255 : Int32)).toUInt32.toUInt16.toUInt32.toInt32), iv ((((p0.toUInt32 >>> ((16 : Int32) &&& 31).toUInt32).toInt32) &&& (255 : Int32)).toUInt32.toUInt16.toUInt32.toInt32), iv ((((p0.toUInt32 >>> ((24 : Int32) &&& 31).toUInt32).toInt32) &&& (255 : Int32)).toUInt32.toUInt16.toUInt32.toInt32)] [(.int (1 : Int32)), (.ref b38), (.ref b38), (.ref b37), (.ref b37)] _
          refine own_go (fun t' k' => XS.iloadN X39.here hx rfl (hD d1_130) rfl k') ?_
          show Gm p e below T39 m 131 #[iv p0, iv p1, iv ((p0 &&& (255 : Int32)).toUInt32.toUInt16.toUInt32.toInt32), iv ((((p0.toUInt32 >>> ((8 : Int32) &&& 31).toUInt32).toInt32) &&& (255 : Int32)).toUInt32.toUInt16.toUInt32.toInt32), iv ((((p0.toUInt32 >>> ((16 : Int32) &&& 31).toUInt32).toInt32) &&& (255 : Int32)).toUInt32.toUInt16.toUInt32.toInt32), iv ((((p0.toUInt32 >>> ((24 : Int32) &&& 31).toUInt32).toInt32) &&& (255 : Int32)).toUInt32.toUInt16.toUInt32.toInt32)] [(.int ((((p0.toUInt32 >>> ((8 : Int32) &&& 31).toUInt32).toInt32) &&& (255 : Int32)).toUInt32.toUInt16.toUInt32.toInt32)), (.int (1 : Int32)), (.ref b38), (.ref b38), (.ref b37), (.ref b37)] _
          obtain ⟨T40, h40, X40, e40, W40, A40, st40⟩ := own_stC X39 hx hZ e39 A39 (j := (1 : Int32)) (k := 1) (by decide) rfl (by decide) (y := (own_ch ((p0.toUInt32 >>> ((8 : Int32) &&& 31).toUInt32).toInt32))) rfl (g := (mkF m 131 #[iv p0, iv p1, iv ((p0 &&& (255 : Int32)).toUInt32.toUInt16.toUInt32.toInt32), iv ((((p0.toUInt32 >>> ((8 : Int32) &&& 31).toUInt32).toInt32) &&& (255 : Int32)).toUInt32.toUInt16.toUInt32.toInt32), iv ((((p0.toUInt32 >>> ((16 : Int32) &&& 31).toUInt32).toInt32) &&& (255 : Int32)).toUInt32.toUInt16.toUInt32.toInt32), iv ((((p0.toUInt32 >>> ((24 : Int32) &&& 31).toUInt32).toInt32) &&& (255 : Int32)).toUInt32.toUInt16.toUInt32.toInt32)] [(.int ((((p0.toUInt32 >>> ((8 : Int32) &&& 31).toUInt32).toInt32) &&& (255 : Int32)).toUInt32.toUInt16.toUInt32.toInt32)), (.int (1 : Int32)), (.ref b38), (.ref b38), (.ref b37), (.ref b37)])) rfl rfl (hD d1_131)
          have f41 := (Safe.wr W39 sf_b38 C38.1 sf_b38)
          have N40 := Fr.snoc X40 N39 g_b38
          have Z40 : n0 ≤ h40.size := W40.size ▸ Z39
          have K40 : Keep h0 h40 [] := Keep.wr K39 W40 (Or.inr sz_b38)
          have C40 := CHr.trans C39 (CHr.wr W40 f41 C39.1)
          have hk40 : h0.size ≤ h40.size := W40.size ▸ hk39
          refine own_go st40 ?_
          refine own_go (fun t' k' => XS.dup X40.here hx rfl (hD d1_132) rfl rfl k') ?_
          refine own_go (fun t' k' => XS.iconst X40.here hx rfl (hD d1_133) k') ?_
          show Gm p e below T40 m 134 #[iv p0, iv p1, iv ((p0 &&& (255 : Int32)).toUInt32.toUInt16.toUInt32.toInt32), iv ((((p0.toUInt32 >>> ((8 : Int32) &&& 31).toUInt32).toInt32) &&& (255 : Int32)).toUInt32.toUInt16.toUInt32.toInt32), iv ((((p0.toUInt32 >>> ((16 : Int32) &&& 31).toUInt32).toInt32) &&& (255 : Int32)).toUInt32.toUInt16.toUInt32.toInt32), iv ((((p0.toUInt32 >>> ((24 : Int32) &&& 31).toUInt32).toInt32) &&& (255 : Int32)).toUInt32.toUInt16.toUInt32.toInt32)] [(.int (2 : Int32)), (.ref b38), (.ref b38), (.ref b37), (.ref b37)] _
          refine own_go (fun t' k' => XS.iload X40.here hx rfl (hD d1_134) rfl k') ?_
          show Gm p e below T40 m 136 #[iv p0, iv p1, iv ((p0 &&& (255 : Int32)).toUInt32.toUInt16.toUInt32.toInt32), iv ((((p0.toUInt32 >>> ((8 : Int32) &&& 31).toUInt32).toInt32) &&& (255 : Int32)).toUInt32.toUInt16.toUInt32.toInt32), iv ((((p0.toUInt32 >>> ((16 : Int32) &&& 31).toUInt32).toInt32) &&& (255 : Int32)).toUInt32.toUInt16.toUInt32.toInt32), iv ((((p0.toUInt32 >>> ((24 : Int32) &&& 31).toUInt32).toInt32) &&& (255 : Int32)).toUInt32.toUInt16.toUInt32.toInt32)] [(.int ((((p0.toUInt32 >>> ((16 : Int32) &&& 31).toUInt32).toInt32) &&& (255 : Int32)).toUInt32.toUInt16.toUInt32.toInt32)), (.int (2 : Int32)), (.ref b38), (.ref b38), (.ref b37), (.ref b37)] _
          obtain ⟨T42, h42, X42, e42, W42, A42, st42⟩ := own_stC X40 hx hZ e40 A40 (j := (2 : Int32)) (k := 2) (by decide) rfl (by decide) (y := (own_ch ((p0.toUInt32 >>> ((16 : Int32) &&& 31).toUInt32).toInt32))) rfl (g := (mkF m 136 #[iv p0, iv p1, iv ((p0 &&& (255 : Int32)).toUInt32.toUInt16.toUInt32.toInt32), iv ((((p0.toUInt32 >>> ((8 : Int32) &&& 31).toUInt32).toInt32) &&& (255 : Int32)).toUInt32.toUInt16.toUInt32.toInt32), iv ((((p0.toUInt32 >>> ((16 : Int32) &&& 31).toUInt32).toInt32) &&& (255 : Int32)).toUInt32.toUInt16.toUInt32.toInt32), iv ((((p0.toUInt32 >>> ((24 : Int32) &&& 31).toUInt32).toInt32) &&& (255 : Int32)).toUInt32.toUInt16.toUInt32.toInt32)] [(.int ((((p0.toUInt32 >>> ((16 : Int32) &&& 31).toUInt32).toInt32) &&& (255 : Int32)).toUInt32.toUInt16.toUInt32.toInt32)), (.int (2 : Int32)), (.ref b38), (.ref b38), (.ref b37), (.ref b37)])) rfl rfl (hD d1_136)
          have f43 := (Safe.wr W40 f41 C39.1 f41)
          have N42 := Fr.snoc X42 N40 g_b38
          have Z42 : n0 ≤ h42.size := W42.size ▸ Z40
          have K42 : Keep h0 h42 [] := Keep.wr K40 W42 (Or.inr sz_b38)
          have C42 := CHr.trans C40 (CHr.wr W42 f43 C40.1)
          have hk42 : h0.size ≤ h42.size := W42.size ▸ hk40
          refine own_go st42 ?_
          refine own_go (fun t' k' => XS.dup X42.here hx rfl (hD d1_137) rfl rfl k') ?_
          refine own_go (fun t' k' => XS.iconst X42.here hx rfl (hD d1_138) k') ?_
          show Gm p e below T42 m 139 #[iv p0, iv p1, iv ((p0 &&& (255 : Int32)).toUInt32.toUInt16.toUInt32.toInt32), iv ((((p0.toUInt32 >>> ((8 : Int32) &&& 31).toUInt32).toInt32) &&& (255 : Int32)).toUInt32.toUInt16.toUInt32.toInt32), iv ((((p0.toUInt32 >>> ((16 : Int32) &&& 31).toUInt32).toInt32) &&& (255 : Int32)).toUInt32.toUInt16.toUInt32.toInt32), iv ((((p0.toUInt32 >>> ((24 : Int32) &&& 31).toUInt32).toInt32) &&& (255 : Int32)).toUInt32.toUInt16.toUInt32.toInt32)] [(.int (3 : Int32)), (.ref b38), (.ref b38), (.ref b37), (.ref b37)] _
          refine own_go (fun t' k' => XS.iload X42.here hx rfl (hD d1_139) rfl k') ?_
          show Gm p e below T42 m 141 #[iv p0, iv p1, iv ((p0 &&& (255 : Int32)).toUInt32.toUInt16.toUInt32.toInt32), iv ((((p0.toUInt32 >>> ((8 : Int32) &&& 31).toUInt32).toInt32) &&& (255 : Int32)).toUInt32.toUInt16.toUInt32.toInt32), iv ((((p0.toUInt32 >>> ((16 : Int32) &&& 31).toUInt32).toInt32) &&& (255 : Int32)).toUInt32.toUInt16.toUInt32.toInt32), iv ((((p0.toUInt32 >>> ((24 : Int32) &&& 31).toUInt32).toInt32) &&& (255 : Int32)).toUInt32.toUInt16.toUInt32.toInt32)] [(.int ((((p0.toUInt32 >>> ((24 : Int32) &&& 31).toUInt32).toInt32) &&& (255 : Int32)).toUInt32.toUInt16.toUInt32.toInt32)), (.int (3 : Int32)), (.ref b38), (.ref b38), (.ref b37), (.ref b37)] _
          obtain ⟨T44, h44, X44, e44, W44, A44, st44⟩ := own_stC X42 hx hZ e42 A42 (j := (3 : Int32)) (k := 3) (by decide) rfl (by decide) (y := (own_ch ((p0.toUInt32 >>> ((24 : Int32) &&& 31).toUInt32).toInt32))) rfl (g := (mkF m 141 #[iv p0, iv p1, iv ((p0 &&& (255 : Int32)).toUInt32.toUInt16.toUInt32.toInt32), iv ((((p0.toUInt32 >>> ((8 : Int32) &&& 31).toUInt32).toInt32) &&& (255 : Int32)).toUInt32.toUInt16.toUInt32.toInt32), iv ((((p0.toUInt32 >>> ((16 : Int32) &&& 31).toUInt32).toInt32) &&& (255 : Int32)).toUInt32.toUInt16.toUInt32.toInt32), iv ((((p0.toUInt32 >>> ((24 : Int32) &&& 31).toUInt32).toInt32) &&& (255 : Int32)).toUInt32.toUInt16.toUInt32.toInt32)] [(.int ((((p0.toUInt32 >>> ((24 : Int32) &&& 31).toUInt32).toInt32) &&& (255 : Int32)).toUInt32.toUInt16.toUInt32.toInt32)), (.int (3 : Int32)), (.ref b38), (.ref b38), (.ref b37), (.ref b37)])) rfl rfl (hD d1_141)
          have f45 := (Safe.wr W42 f43 C40.1 f43)
          have N44 := Fr.snoc X44 N42 g_b38
          have Z44 : n0 ≤ h44.size := W44.size ▸ Z42
          have K44 : Keep h0 h44 [] := Keep.wr K42 W44 (Or.inr sz_b38)
          have C44 := CHr.trans C42 (CHr.wr W44 f45 C42.1)
          have hk44 : h0.size ≤ h44.size := W44.size ▸ hk42
          refine own_go st44 ?_
          show Gm p e below T44 m 142 #[iv p0, iv p1, iv ((p0 &&& (255 : Int32)).toUInt32.toUInt16.toUInt32.toInt32), iv ((((p0.toUInt32 >>> ((8 : Int32) &&& 31).toUInt32).toInt32) &&& (255 : Int32)).toUInt32.toUInt16.toUInt32.toInt32), iv ((((p0.toUInt32 >>> ((16 : Int32) &&& 31).toUInt32).toInt32) &&& (255 : Int32)).toUInt32.toUInt16.toUInt32.toInt32), iv ((((p0.toUInt32 >>> ((24 : Int32) &&& 31).toUInt32).toInt32) &&& (255 : Int32)).toUInt32.toUInt16.toUInt32.toInt32)] [(.ref b38), (.ref b37), (.ref b37)] _
          have f46 := (((((A37.ext E38).wr W39).wr W40).wr W42).wr W44)
          have f47 := (Fld.other W44 (Fld.other W42 (Fld.other W40 (Fld.other W39 (F_value_b37.ext E38) (Or.inl ne_b37_b38)) (Or.inl ne_b37_b38)) (Or.inl ne_b37_b38)) (Or.inl ne_b37_b38))
          have f48 := (Fld.other W44 (Fld.other W42 (Fld.other W40 (Fld.other W39 (F_coder_b37.ext E38) (Or.inl ne_b37_b38)) (Or.inl ne_b37_b38)) (Or.inl ne_b37_b38)) (Or.inl ne_b37_b38))
          have f49 := ((((((S_c.ext E37).ext E38).wr W39).wr W40).wr W42).wr W44)
          obtain ⟨_, _, ⟨T50, L50, k50, n50⟩, -, X50, ⟨Lc50, hQ50, l50, y50, z50⟩, st50⟩ := X44.specialBack hx (y := (⟨"java/lang/String", "<init>", "([C)V"⟩ : MethodName)) rfl hown (mvT hZ (hw _ (List.mem_of_getElem? (i := 32) rfl))) (mvT hZ (hw _ (List.mem_of_getElem? (i := 33) rfl))) (mvT hZ (hw _ (List.mem_of_getElem? (i := 34) rfl))) (by decide) (backOf (W := 1) (rmC_4 l Z a0 hw [] b37 b38 (fun i => if i = 3 then (.int (own_ch ((p0.toUInt32 >>> ((24 : Int32) &&& 31).toUInt32).toInt32))) else (fun i => if i = 2 then (.int (own_ch ((p0.toUInt32 >>> ((16 : Int32) &&& 31).toUInt32).toInt32))) else (fun i => if i = 1 then (.int (own_ch ((p0.toUInt32 >>> ((8 : Int32) &&& 31).toUInt32).toInt32))) else (fun i => if i = 0 then (.int (own_ch p0)) else (fun _ => defaultValue .char) i) i) i) i) (own_ch p0) (own_ch ((p0.toUInt32 >>> ((8 : Int32) &&& 31).toUInt32).toInt32)) (own_ch ((p0.toUInt32 >>> ((16 : Int32) &&& 31).toUInt32).toInt32)) (own_ch ((p0.toUInt32 >>> ((24 : Int32) &&& 31).toUInt32).toInt32)) cs h44 n0 Z44 f46 f47 f48 A44 rfl rfl rfl rfl (own_ch_le _) (own_ch_le _) (own_ch_le _) (own_ch_le _) f49 hcs g_b37) hZ (hw _ (List.mem_of_getElem? (i := 34) rfl)) (hw _ (List.mem_of_getElem? (i := 6) rfl)) (by decide) (by decide)) (g := (mkF m 142 #[iv p0, iv p1, iv ((p0 &&& (255 : Int32)).toUInt32.toUInt16.toUInt32.toInt32), iv ((((p0.toUInt32 >>> ((8 : Int32) &&& 31).toUInt32).toInt32) &&& (255 : Int32)).toUInt32.toUInt16.toUInt32.toInt32), iv ((((p0.toUInt32 >>> ((16 : Int32) &&& 31).toUInt32).toInt32) &&& (255 : Int32)).toUInt32.toUInt16.toUInt32.toInt32), iv ((((p0.toUInt32 >>> ((24 : Int32) &&& 31).toUInt32).toInt32) &&& (255 : Int32)).toUInt32.toUInt16.toUInt32.toInt32)] [(.ref b38), (.ref b37), (.ref b37)])) rfl (by rw [hml]; rfl) (Steps.refl _) (a := b37) (argsL := [(.ref b38)]) (rest := [(.ref b37)]) (lenOf own_pd7 rfl) rfl (by show 2 * 0 + _ ≤ _; exact Nat.le_of_eq rfl) (hD d1_142) (fun _ _ => ⟨rfl, e44, (by decide : 2 + 1 ≤ _), (by decide : 8 + 4 ≤ _)⟩)
          dsimp only [Pt.U, Pt.locs, Pt.cells, Pt.slots] at X50 l50 y50 z50 st50 hQ50
          subst l50 y50 z50
          obtain ⟨bq50, fq50, rfl, Nq50, Kc50, Ec50, Fc50, Fv50, Eb50, Aq50⟩ := hQ50
          have N50 := Fr.app N44 Nq50
          refine own_go (fun t k => st50.trans k) ?_
          have f51 := (Safe.wr W44 f45 C42.1 (Safe.wr W42 f43 C40.1 (Safe.wr W40 f41 C39.1 (Safe.wr W39 sf_b38 C38.1 (Safe.ext E38 C37.1 sf_b37)))))
          have Z50 : n0 ≤ T50.heap.size := Nat.le_trans Z44 Kc50.1
          have K50 : Keep h0 T50.heap [] := Keep.trans K44 Kc50 (allS (Or.inr sz_b37) all0)
          have C50 := CHr.trans C44 (CHr.keep Kc50 (sfS f51 sf0) C44.1)
          have hk50 : h0.size ≤ T50.heap.size := Nat.le_trans hk44 Kc50.1
          show Gm p e below T50 m 145 #[iv p0, iv p1, iv ((p0 &&& (255 : Int32)).toUInt32.toUInt16.toUInt32.toInt32), iv ((((p0.toUInt32 >>> ((8 : Int32) &&& 31).toUInt32).toInt32) &&& (255 : Int32)).toUInt32.toUInt16.toUInt32.toInt32), iv ((((p0.toUInt32 >>> ((16 : Int32) &&& 31).toUInt32).toInt32) &&& (255 : Int32)).toUInt32.toUInt16.toUInt32.toInt32), iv ((((p0.toUInt32 >>> ((24 : Int32) &&& 31).toUInt32).toInt32) &&& (255 : Int32)).toUInt32.toUInt16.toUInt32.toInt32)] [(.ref b37)] _
          have hl : lenS p1 = 4 := by unfold lenS; rw [if_neg c1, if_neg c9, if_neg c11, if_neg c23]
          exact own_retAW X50 hx hlk hZ (own_ew hw) hS0 hk50 C50 rfl Bd.returns rfl (hD d1_145) rfl ⟨b37, bq50, 4, fq50, rfl, N50, own_stX K50, Ec50, Fc50, Fv50, Eb50, Aq50, hl.symm⟩ (by decide) (by decide)
theorem d13_0 : decode jdk_42_method_152_code 0 = .ok (.getstatic 38, 3) := by decide +kernel
theorem d13_3 : decode jdk_42_method_152_code 3 = .ok (.ifCond .eq 10, 3) := by decide +kernel
theorem d13_6 : decode jdk_42_method_152_code 6 = .ok (.aload_n 0, 1) := by decide +kernel
theorem d13_7 : decode jdk_42_method_152_code 7 = .ok (.getfield 15, 3) := by decide +kernel
theorem d13_10 : decode jdk_42_method_152_code 10 = .ok (.goto 4, 3) := by decide +kernel
theorem d13_14 : decode jdk_42_method_152_code 14 = .ok (.ireturn, 1) := by decide +kernel
theorem own_pn_rmCo : plainName "java/lang/String" = true := by first | (simp [plainName, overriddenIn]; done) | decide +kernel
theorem own_ef_rmCo (m : MethodId) (r0 : Addr) : entryFrame m #[(.ref r0)] 1 = mkF m 0 #[.val (.ref r0)] [] := by first | (simp [entryFrame, mkF, argsToLocals, Value.category]; done) | rfl
def QCo (Z : State) (r0 : Addr) (cs : Int32) (h0 : Heap) (n0 : Nat) (v : Option Value) (h : Heap) (L : List Loc) : Prop := v = some (.int (0 : Int32)) ∧ Fr n0 L ∧ h = h0
set_option maxRecDepth 65536 in
set_option maxHeartbeats 40000000 in
theorem rmCo (l : Launch) (Z : State) (a0 : Array Value) (hw : ∀ d ∈ tables_1, d.before a0 Z = true) (ws : List Jvm.Cond) (r0 : Addr) (cs : Int32) (h0 : Heap) (n0 : Nat) (Z0 : n0 ≤ h0.size) (S_c : Sta Z h0 "java/lang/String" "COMPACT_STRINGS" "Z" (.int cs)) (hcs : ¬ cs = 0) (F_c : Fld Z h0 r0 "java/lang/String" "coder" "B" (.int (0 : Int32))) :
    MetFree l (⟨"java/lang/String", "coder", "()B"⟩ : MethodName) (head1 (Jvm.Cond.code (⟨"java/lang/String", "coder", "()B"⟩ : MethodName) jdk_42_method_152_code 1 (some .byte) :: ws) ({ frames := 0, cells := 0, slots := 0, locals := 0 } : Room)) (fun a U => a = #[(.ref r0)] ∧ Z.Warmed39 U.vm ∧ U.heap = h0) (fun _ _ _ _ _ => True) (fun _ U o U' => ∃ v L, o = .returned v ∧ QCo Z r0 cs h0 n0 v U'.heap L ∧ FrameEnd U o U' L ({ frames := 0, cells := 0, slots := 0, locals := 0 } : Room).cells ({ frames := 0, cells := 0, slots := 0, locals := 0 } : Room).slots) := by
  refine MetFree.of_bodySF (plainFor_of_name own_pn_rmCo) hisR ?_
  intro p e s m args below meth cO s₁ Bd hml0 hP hK
  obtain ⟨rfl, hZ, hh⟩ := hP
  have hx := Bd.exec
  have hby := Bd.bytes
  have hD := @Jvm.hb _ _ hby
  have hml : cO.maxLocals = 1 := hml0
  have hown : s.vm.findClass "java/lang/String" = some m.cls := findClass_of_methodNamed Bd.named
  have hnm := (name_of_methodNamed Bd.named Bd.method).1
  have hlk : meth.locks = false := BodyLoose.notSynchronized Bd
  have X0 : Stand p l e ({ frames := 0, cells := 0, slots := 0, locals := 0 } : Room) s m #[(.ref r0)] below meth cO s₁ [] 0 0 := Stand.of_body Bd
  have e0 : s₁.heap = h0 := by rw [← hh, Bd.state]; rfl
  have N0 := Fr.nil n0
  refine own_in (own_ef_rmCo m r0) ?_
  show Gm p e below s₁ m 0 #[rv r0] [] _
  obtain ⟨T1, X1, e1, st1⟩ := getS2 X0 hx hZ hown (host := "") (Or.inl (hw _ (List.mem_of_getElem? (i := 8) rfl))) Via.refl e0 S_c (g := (mkF m 0 #[rv r0] [])) rfl (hD d13_0)
  refine own_go st1 ?_
  show Gm p e below T1 m 3 #[rv r0] [(.int cs)] _
  refine own_go (fun t' k' => XS.ifNo X1.here hx rfl (hD d13_3) rfl (XT.i0_eq_f hcs) k') ?_
  refine own_go (fun t' k' => XS.aloadN X1.here hx rfl (hD d13_6) rfl rfl k') ?_
  show Gm p e below T1 m 7 #[rv r0] [(.ref r0)] _
  obtain ⟨T2, X2, e2, st2⟩ := getF X1 hx hZ hown (host := "") (Or.inl (hw _ (List.mem_of_getElem? (i := 28) rfl))) Via.refl e1 F_c (g := (mkF m 7 #[rv r0] [(.ref r0)])) rfl rfl (hD d13_7)
  refine own_go st2 ?_
  refine own_go (fun t' k' => XS.goto X2.here hx rfl (pc0 := 10) (pc' := 14) rfl (hD d13_10) (by decide) (by decide) k') ?_
  show Gm p e below T2 m 14 #[rv r0] [(.int (0 : Int32))] _
  exact own_retI X2 hx hlk (t := .byte) Bd.returns rfl (by simp) (hD d13_14) e2 ⟨rfl, N0, rfl⟩ (by decide) (by decide)
def QE (Z : State) (n : Nat) (h0 : Heap) (n0 : Nat) (v : Option Value) (h : Heap) (L : List Loc) : Prop := ∃ (c : Addr) (f' : Nat → Value), v = some (.ref c) ∧ Fr n0 L ∧ Ext h0 h ∧ h0.size ≤ c ∧ Af Z h c .byte n f'
def QCP (n : Nat) (h0 : Heap) (n0 : Nat) (v : Option Value) (h : Heap) (L : List Loc) : Prop := ∃ k : Nat, k ≤ n ∧ v = some (.int k.toInt32) ∧ Fr n0 L ∧ h = h0
theorem d16_0 : decode jdk_123_method_3_code 0 = .ok (.iload_n 1, 1) := by decide +kernel
theorem d16_1 : decode jdk_123_method_3_code 1 = .ok (.iload_n 2, 1) := by decide +kernel
theorem d16_2 : decode jdk_123_method_3_code 2 = .ok (.iadd, 1) := by decide +kernel
theorem d16_3 : decode jdk_123_method_3_code 3 = .ok (.istore_n 3, 1) := by decide +kernel
theorem d16_4 : decode jdk_123_method_3_code 4 = .ok (.iload_n 1, 1) := by decide +kernel
theorem d16_5 : decode jdk_123_method_3_code 5 = .ok (.istore 4, 2) := by decide +kernel
theorem d16_7 : decode jdk_123_method_3_code 7 = .ok (.iload 4, 2) := by decide +kernel
theorem d16_9 : decode jdk_123_method_3_code 9 = .ok (.iload_n 3, 1) := by decide +kernel
theorem d16_10 : decode jdk_123_method_3_code 10 = .ok (.if_icmp .ge 21, 3) := by decide +kernel
theorem d16_13 : decode jdk_123_method_3_code 13 = .ok (.aload_n 0, 1) := by decide +kernel
theorem d16_14 : decode jdk_123_method_3_code 14 = .ok (.iload 4, 2) := by decide +kernel
theorem d16_16 : decode jdk_123_method_3_code 16 = .ok (.baload, 1) := by decide +kernel
theorem d16_17 : decode jdk_123_method_3_code 17 = .ok (.ifCond .ge 8, 3) := by decide +kernel
theorem d16_20 : decode jdk_123_method_3_code 20 = .ok (.iload 4, 2) := by decide +kernel
theorem d16_22 : decode jdk_123_method_3_code 22 = .ok (.iload_n 1, 1) := by decide +kernel
theorem d16_23 : decode jdk_123_method_3_code 23 = .ok (.isub, 1) := by decide +kernel
theorem d16_24 : decode jdk_123_method_3_code 24 = .ok (.ireturn, 1) := by decide +kernel
theorem d16_25 : decode jdk_123_method_3_code 25 = .ok (.iinc 4 1, 3) := by decide +kernel
theorem d16_28 : decode jdk_123_method_3_code 28 = .ok (.goto (-21), 3) := by decide +kernel
theorem d16_31 : decode jdk_123_method_3_code 31 = .ok (.iload_n 2, 1) := by decide +kernel
theorem d16_32 : decode jdk_123_method_3_code 32 = .ok (.ireturn, 1) := by decide +kernel
theorem own_pn_rmCP : plainName "java/lang/StringCoding" = true := by first | (simp [plainName, overriddenIn]; done) | decide +kernel
theorem own_ef_rmCP (m : MethodId) (r0 : Addr) (p2 : Int32) : entryFrame m #[(.ref r0), (.int (0 : Int32)), (.int p2)] 5 = mkF m 0 #[.val (.ref r0), .val (.int (0 : Int32)), .val (.int p2), .unset, .unset] [] := by first | (simp [entryFrame, mkF, argsToLocals, Value.category]; done) | rfl
set_option maxRecDepth 65536 in
set_option maxHeartbeats 40000000 in
theorem rmCP (l : Launch) (Z : State) (a0 : Array Value) (hw : ∀ d ∈ tables_1, d.before a0 Z = true) (ws : List Jvm.Cond) (r0 : Addr) (p2 : Int32) (n : Nat) (f : Nat → Value) (h0 : Heap) (n0 : Nat) (Z0 : n0 ≤ h0.size) (hn : n ≤ 4) (hp : p2 = n.toInt32) (A : Af Z h0 r0 .byte n f) :
    MetFree l (⟨"java/lang/StringCoding", "countPositives", "([BII)I"⟩ : MethodName) (head1 (Jvm.Cond.code (⟨"java/lang/StringCoding", "countPositives", "([BII)I"⟩ : MethodName) jdk_123_method_3_code 5 (some .int) :: ws) ({ frames := 0, cells := 0, slots := 0, locals := 0 } : Room)) (fun a U => a = #[(.ref r0), (.int (0 : Int32)), (.int p2)] ∧ Z.Warmed39 U.vm ∧ U.heap = h0) (fun _ _ _ _ _ => True) (fun _ U o U' => ∃ v L, o = .returned v ∧ QCP n h0 n0 v U'.heap L ∧ FrameEnd U o U' L ({ frames := 0, cells := 0, slots := 0, locals := 0 } : Room).cells ({ frames := 0, cells := 0, slots := 0, locals := 0 } : Room).slots) := by
  refine MetFree.of_bodySF (plainFor_of_name own_pn_rmCP) hisR ?_
  intro p e s m args below meth cO s₁ Bd hml0 hP hK
  obtain ⟨rfl, hZ, hh⟩ := hP
  have hx := Bd.exec
  have hby := Bd.bytes
  have hD := @Jvm.hb _ _ hby
  have hml : cO.maxLocals = 5 := hml0
  have hown : s.vm.findClass "java/lang/StringCoding" = some m.cls := findClass_of_methodNamed Bd.named
  have hnm := (name_of_methodNamed Bd.named Bd.method).1
  have hlk : meth.locks = false := BodyLoose.notSynchronized Bd
  have X0 : Stand p l e ({ frames := 0, cells := 0, slots := 0, locals := 0 } : Room) s m #[(.ref r0), (.int (0 : Int32)), (.int p2)] below meth cO s₁ [] 0 0 := Stand.of_body Bd
  have e0 : s₁.heap = h0 := by rw [← hh, Bd.state]; rfl
  have N0 := Fr.nil n0
  refine own_in (own_ef_rmCP m r0 p2) ?_
  show Gm p e below s₁ m 0 #[rv r0, iv (0 : Int32), iv p2, .unset, .unset] [] _
  refine own_go (fun t' k' => XS.iloadN X0.here hx rfl (hD d16_0) rfl k') ?_
  refine own_go (fun t' k' => XS.iloadN X0.here hx rfl (hD d16_1) rfl k') ?_
  refine own_go (fun t' k' => XS.iadd X0.here hx rfl (hD d16_2) rfl k') ?_
  show Gm p e below s₁ m 3 #[rv r0, iv (0 : Int32), iv p2, .unset, .unset] [(.int ((0 : Int32) + p2))] _
  refine own_go (fun t' k' => XS.istoreN X0.here hx rfl (hD d16_3) rfl (l' := #[rv r0, iv (0 : Int32), iv p2, iv ((0 : Int32) + p2), .unset]) rfl k') ?_
  refine own_go (fun t' k' => XS.iloadN X0.here hx rfl (hD d16_4) rfl k') ?_
  refine own_go (fun t' k' => XS.istore X0.here hx rfl (hD d16_5) rfl (l' := #[rv r0, iv (0 : Int32), iv p2, iv ((0 : Int32) + p2), iv (0 : Int32)]) rfl k') ?_
  have lp : ∀ (d i : Nat) (z : Int32), z = i.toInt32 → i + d = n → Gm p e below s₁ m 7 #[rv r0, iv (0 : Int32), iv p2, iv ((0 : Int32) + p2), iv z] [] (fun t o => t.status = .running ∧ Ended t below o ∧ ∃ v L, o = .returned v ∧ QCP n h0 n0 v t.heap L ∧ FrameEnd s o t L ({ frames := 0, cells := 0, slots := 0, locals := 0 } : Room).cells ({ frames := 0, cells := 0, slots := 0, locals := 0 } : Room).slots) := by
    intro d
    induction d with
    | zero =>
      intro i z hz hi
      show Gm p e below s₁ m 7 #[rv r0, iv (0 : Int32), iv p2, iv ((0 : Int32) + p2), iv z] [] _
      refine own_go (fun t' k' => XS.iload X0.here hx rfl (hD d16_7) rfl k') ?_
      refine own_go (fun t' k' => XS.iloadN X0.here hx rfl (hD d16_9) rfl k') ?_
      show Gm p e below s₁ m 10 #[rv r0, iv (0 : Int32), iv p2, iv ((0 : Int32) + p2), iv z] [(.int ((0 : Int32) + p2)), (.int z)] _
      refine own_go (fun t' k' => XS.icmpYes X0.here hx rfl (pc0 := 10) (pc' := 31) rfl (hD d16_10) rfl (XT.ii_ge_t (own_nlt (by omega) hz (own_z0 hp))) (by decide) (by decide) k') ?_
      refine own_go (fun t' k' => XS.iloadN X0.here hx rfl (hD d16_31) rfl k') ?_
      show Gm p e below s₁ m 32 #[rv r0, iv (0 : Int32), iv p2, iv ((0 : Int32) + p2), iv z] [(.int p2)] _
      exact own_retI X0 hx hlk (t := .int) Bd.returns rfl (by simp) (hD d16_32) e0 ⟨n, Nat.le_refl _, by rw [hp], N0, rfl⟩ (by decide) (by decide)
    | succ d ih =>
      intro i z hz hi
      show Gm p e below s₁ m 7 #[rv r0, iv (0 : Int32), iv p2, iv ((0 : Int32) + p2), iv z] [] _
      refine own_go (fun t' k' => XS.iload X0.here hx rfl (hD d16_7) rfl k') ?_
      refine own_go (fun t' k' => XS.iloadN X0.here hx rfl (hD d16_9) rfl k') ?_
      show Gm p e below s₁ m 10 #[rv r0, iv (0 : Int32), iv p2, iv ((0 : Int32) + p2), iv z] [(.int ((0 : Int32) + p2)), (.int z)] _
      refine own_go (fun t' k' => XS.icmpNo X0.here hx rfl (hD d16_10) rfl (XT.ii_ge_f (own_lt hn (by omega) hz (own_z0 hp))) k') ?_
      refine own_go (fun t' k' => XS.aloadN X0.here hx rfl (hD d16_13) rfl rfl k') ?_
      refine own_go (fun t' k' => XS.iload X0.here hx rfl (hD d16_14) rfl k') ?_
      show Gm p e below s₁ m 16 #[rv r0, iv (0 : Int32), iv p2, iv ((0 : Int32) + p2), iv z] [(.int z), (.ref r0)] _
      obtain ⟨y1, hy1⟩ := own_byteAt A (k := i) (by omega)
      refine own_go (fun t' k' => own_ldB X0 hx hZ e0 A (j := z) (k := i) (own_tz (by omega : i < 24) hz).1 (own_tz (by omega : i < 24) hz).2 (by omega) (w := (.int y1)) hy1 (g := (mkF m 16 #[rv r0, iv (0 : Int32), iv p2, iv ((0 : Int32) + p2), iv z] [(.int z), (.ref r0)])) rfl rfl (hD d16_16) k') ?_
      show Gm p e below s₁ m 17 #[rv r0, iv (0 : Int32), iv p2, iv ((0 : Int32) + p2), iv z] [(.int y1)] _
      by_cases c2 : y1 < (0 : Int32)
      · have hfork := trivial
        refine own_go (fun t' k' => XS.ifNo X0.here hx rfl (hD d16_17) rfl (XT.i0_ge_f c2) k') ?_
        refine own_go (fun t' k' => XS.iload X0.here hx rfl (hD d16_20) rfl k') ?_
        refine own_go (fun t' k' => XS.iloadN X0.here hx rfl (hD d16_22) rfl k') ?_
        show Gm p e below s₁ m 23 #[rv r0, iv (0 : Int32), iv p2, iv ((0 : Int32) + p2), iv z] [(.int (0 : Int32)), (.int z)] _
        refine own_go (fun t' k' => XS.isub X0.here hx rfl (hD d16_23) rfl k') ?_
        show Gm p e below s₁ m 24 #[rv r0, iv (0 : Int32), iv p2, iv ((0 : Int32) + p2), iv z] [(.int (z - (0 : Int32)))] _
        exact own_retI X0 hx hlk (t := .int) Bd.returns rfl (by simp) (hD d16_24) e0 ⟨i, by omega, by rw [hz, Int32.sub_zero], N0, rfl⟩ (by decide) (by decide)
      · have hfork := trivial
        refine own_go (fun t' k' => XS.ifYes X0.here hx rfl (pc0 := 17) (pc' := 25) rfl (hD d16_17) rfl (XT.i0_ge_t c2) (by decide) (by decide) k') ?_
        refine own_go (fun t' k' => XS.iinc X0.here hx rfl (hD d16_25) rfl (l' := #[rv r0, iv (0 : Int32), iv p2, iv ((0 : Int32) + p2), iv (z + (1 : Int32))]) rfl k') ?_
        refine own_go (fun t' k' => XS.goto X0.here hx rfl (pc0 := 28) (pc' := 7) rfl (hD d16_28) (by decide) (by decide) k') ?_
        exact ih (i + 1) _ (own_up (by omega) hz) (by omega)
  exact lp n 0 _ rfl (by omega)
def QRN (Z : State) (r0 : Addr) (n : Nat) (h0 : Heap) (n0 : Nat) (v : Option Value) (h : Heap) (L : List Loc) : Prop := v = none ∧ Fr n0 L ∧ Keep h0 h [r0] ∧ ∃ f' : Nat → Value, Af Z h r0 .byte n f'
theorem d30_0 : decode jdk_42_method_25_code 0 = .ok (.iload_n 1, 1) := by decide +kernel
theorem d30_1 : decode jdk_42_method_25_code 1 = .ok (.istore_n 2, 1) := by decide +kernel
theorem d30_2 : decode jdk_42_method_25_code 2 = .ok (.iload_n 2, 1) := by decide +kernel
theorem d30_3 : decode jdk_42_method_25_code 3 = .ok (.aload_n 0, 1) := by decide +kernel
theorem d30_4 : decode jdk_42_method_25_code 4 = .ok (.arraylength, 1) := by decide +kernel
theorem d30_5 : decode jdk_42_method_25_code 5 = .ok (.if_icmp .ge 20, 3) := by decide +kernel
theorem d30_8 : decode jdk_42_method_25_code 8 = .ok (.aload_n 0, 1) := by decide +kernel
theorem d30_9 : decode jdk_42_method_25_code 9 = .ok (.iload_n 2, 1) := by decide +kernel
theorem d30_10 : decode jdk_42_method_25_code 10 = .ok (.baload, 1) := by decide +kernel
theorem d30_11 : decode jdk_42_method_25_code 11 = .ok (.ifCond .ge 8, 3) := by decide +kernel
theorem d30_14 : decode jdk_42_method_25_code 14 = .ok (.aload_n 0, 1) := by decide +kernel
theorem d30_15 : decode jdk_42_method_25_code 15 = .ok (.iload_n 2, 1) := by decide +kernel
theorem d30_16 : decode jdk_42_method_25_code 16 = .ok (.bipush 63, 2) := by decide +kernel
theorem d30_18 : decode jdk_42_method_25_code 18 = .ok (.bastore, 1) := by decide +kernel
theorem d30_19 : decode jdk_42_method_25_code 19 = .ok (.iinc 2 1, 3) := by decide +kernel
theorem d30_22 : decode jdk_42_method_25_code 22 = .ok (.goto (-20), 3) := by decide +kernel
theorem d30_25 : decode jdk_42_method_25_code 25 = .ok (.return_, 1) := by decide +kernel
theorem own_pn_rmRN : plainName "java/lang/String" = true := by first | (simp [plainName, overriddenIn]; done) | decide +kernel
theorem own_ef_rmRN (m : MethodId) (r0 : Addr) (p1 : Int32) : entryFrame m #[(.ref r0), (.int p1)] 3 = mkF m 0 #[.val (.ref r0), .val (.int p1), .unset] [] := by first | (simp [entryFrame, mkF, argsToLocals, Value.category]; done) | rfl
set_option maxRecDepth 65536 in
set_option maxHeartbeats 40000000 in
theorem rmRN (l : Launch) (Z : State) (a0 : Array Value) (hw : ∀ d ∈ tables_1, d.before a0 Z = true) (ws : List Jvm.Cond) (r0 : Addr) (p1 : Int32) (i0 : Nat) (n : Nat) (f : Nat → Value) (h0 : Heap) (n0 : Nat) (Z0 : n0 ≤ h0.size) (hn : n ≤ 4) (hi0 : i0 ≤ n) (hp : p1 = i0.toInt32) (A : Af Z h0 r0 .byte n f) (g_r0 : n0 ≤ r0) :
    MetFree l (⟨"java/lang/String", "replaceNegatives", "([BI)V"⟩ : MethodName) (head1 (Jvm.Cond.code (⟨"java/lang/String", "replaceNegatives", "([BI)V"⟩ : MethodName) jdk_42_method_25_code 3 none :: ws) ({ frames := 0, cells := 0, slots := 0, locals := 0 } : Room)) (fun a U => a = #[(.ref r0), (.int p1)] ∧ Z.Warmed39 U.vm ∧ U.heap = h0) (fun _ _ _ _ _ => True) (fun _ U o U' => ∃ v L, o = .returned v ∧ QRN Z r0 n h0 n0 v U'.heap L ∧ FrameEnd U o U' L ({ frames := 0, cells := 0, slots := 0, locals := 0 } : Room).cells ({ frames := 0, cells := 0, slots := 0, locals := 0 } : Room).slots) := by
  refine MetFree.of_bodySF (plainFor_of_name own_pn_rmRN) hisR ?_
  intro p e s m args below meth cO s₁ Bd hml0 hP hK
  obtain ⟨rfl, hZ, hh⟩ := hP
  have hx := Bd.exec
  have hby := Bd.bytes
  have hD := @Jvm.hb _ _ hby
  have hml : cO.maxLocals = 3 := hml0
  have hown : s.vm.findClass "java/lang/String" = some m.cls := findClass_of_methodNamed Bd.named
  have hnm := (name_of_methodNamed Bd.named Bd.method).1
  have hlk : meth.locks = false := BodyLoose.notSynchronized Bd
  have X0 : Stand p l e ({ frames := 0, cells := 0, slots := 0, locals := 0 } : Room) s m #[(.ref r0), (.int p1)] below meth cO s₁ [] 0 0 := Stand.of_body Bd
  have e0 : s₁.heap = h0 := by rw [← hh, Bd.state]; rfl
  have N0 := Fr.nil n0
  refine own_in (own_ef_rmRN m r0 p1) ?_
  show Gm p e below s₁ m 0 #[rv r0, iv p1, .unset] [] _
  refine own_go (fun t' k' => XS.iloadN X0.here hx rfl (hD d30_0) rfl k') ?_
  refine own_go (fun t' k' => XS.istoreN X0.here hx rfl (hD d30_1) rfl (l' := #[rv r0, iv p1, iv p1]) rfl k') ?_
  have lp : ∀ (d i : Nat) (z : Int32), z = i.toInt32 → i + d = n → ∀ (Ta : State) (ha : Heap) (fa : Nat → Value) (La : List Loc), Stand p l e ({ frames := 0, cells := 0, slots := 0, locals := 0 } : Room) s m #[(.ref r0), (.int p1)] below meth cO Ta La 0 0 → Ta.heap = ha → Fr n0 La → n0 ≤ ha.size → Keep h0 ha [r0] → Af Z ha r0 .byte n fa → Gm p e below Ta m 2 #[rv r0, iv p1, iv z] [] (fun t o => t.status = .running ∧ Ended t below o ∧ ∃ v L, o = .returned v ∧ QRN Z r0 n h0 n0 v t.heap L ∧ FrameEnd s o t L ({ frames := 0, cells := 0, slots := 0, locals := 0 } : Room).cells ({ frames := 0, cells := 0, slots := 0, locals := 0 } : Room).slots) := by
    intro d
    induction d with
    | zero =>
      intro i z hz hi Ta ha fa La Xa ea Na Za Ka Aa
      show Gm p e below Ta m 2 #[rv r0, iv p1, iv z] [] _
      refine own_go (fun t' k' => XS.iloadN Xa.here hx rfl (hD d30_2) rfl k') ?_
      refine own_go (fun t' k' => XS.aloadN Xa.here hx rfl (hD d30_3) rfl rfl k') ?_
      show Gm p e below Ta m 4 #[rv r0, iv p1, iv z] [(.ref r0), (.int z)] _
      refine own_go (fun t' k' => own_len Xa hx hZ ea Aa (z := (n.toInt32)) rfl (g := (mkF m 4 #[rv r0, iv p1, iv z] [(.ref r0), (.int z)])) rfl rfl (hD d30_4) k') ?_
      show Gm p e below Ta m 5 #[rv r0, iv p1, iv z] [(.int (n.toInt32)), (.int z)] _
      refine own_go (fun t' k' => XS.icmpYes Xa.here hx rfl (pc0 := 5) (pc' := 25) rfl (hD d30_5) rfl (XT.ii_ge_t (own_nlt (by omega) hz rfl)) (by decide) (by decide) k') ?_
      show Gm p e below Ta m 25 #[rv r0, iv p1, iv z] [] _
      exact own_retV Xa hx hlk Bd.returns (hD d30_25) ea ⟨rfl, Na, Ka, fa, Aa⟩ (by decide) (by decide)
    | succ d ih =>
      intro i z hz hi Ta ha fa La Xa ea Na Za Ka Aa
      show Gm p e below Ta m 2 #[rv r0, iv p1, iv z] [] _
      refine own_go (fun t' k' => XS.iloadN Xa.here hx rfl (hD d30_2) rfl k') ?_
      refine own_go (fun t' k' => XS.aloadN Xa.here hx rfl (hD d30_3) rfl rfl k') ?_
      show Gm p e below Ta m 4 #[rv r0, iv p1, iv z] [(.ref r0), (.int z)] _
      refine own_go (fun t' k' => own_len Xa hx hZ ea Aa (z := (n.toInt32)) rfl (g := (mkF m 4 #[rv r0, iv p1, iv z] [(.ref r0), (.int z)])) rfl rfl (hD d30_4) k') ?_
      show Gm p e below Ta m 5 #[rv r0, iv p1, iv z] [(.int (n.toInt32)), (.int z)] _
      refine own_go (fun t' k' => XS.icmpNo Xa.here hx rfl (hD d30_5) rfl (XT.ii_ge_f (own_lt hn (by omega) hz rfl)) k') ?_
      refine own_go (fun t' k' => XS.aloadN Xa.here hx rfl (hD d30_8) rfl rfl k') ?_
      refine own_go (fun t' k' => XS.iloadN Xa.here hx rfl (hD d30_9) rfl k') ?_
      show Gm p e below Ta m 10 #[rv r0, iv p1, iv z] [(.int z), (.ref r0)] _
      obtain ⟨y1, hy1⟩ := own_byteAt Aa (k := i) (by omega)
      refine own_go (fun t' k' => own_ldB Xa hx hZ ea Aa (j := z) (k := i) (own_tz (by omega : i < 24) hz).1 (own_tz (by omega : i < 24) hz).2 (by omega) (w := (.int y1)) hy1 (g := (mkF m 10 #[rv r0, iv p1, iv z] [(.int z), (.ref r0)])) rfl rfl (hD d30_10) k') ?_
      show Gm p e below Ta m 11 #[rv r0, iv p1, iv z] [(.int y1)] _
      by_cases c2 : y1 < (0 : Int32)
      · have hfork := trivial
        refine own_go (fun t' k' => XS.ifNo Xa.here hx rfl (hD d30_11) rfl (XT.i0_ge_f c2) k') ?_
        refine own_go (fun t' k' => XS.aloadN Xa.here hx rfl (hD d30_14) rfl rfl k') ?_
        refine own_go (fun t' k' => XS.iloadN Xa.here hx rfl (hD d30_15) rfl k') ?_
        show Gm p e below Ta m 16 #[rv r0, iv p1, iv z] [(.int z), (.ref r0)] _
        refine own_go (fun t' k' => XS.bipush Xa.here hx rfl (hD d30_16) k') ?_
        show Gm p e below Ta m 18 #[rv r0, iv p1, iv z] [(.int (63 : Int32)), (.int z), (.ref r0)] _
        obtain ⟨T3, h3, X3, e3, W3, A3, st3⟩ := own_stB Xa hx hZ ea Aa (j := z) (k := i) (own_tz (by omega : i < 24) hz).1 (own_tz (by omega : i < 24) hz).2 (by omega) (y := (63 : Int32)) (by decide) (g := (mkF m 18 #[rv r0, iv p1, iv z] [(.int (63 : Int32)), (.int z), (.ref r0)])) rfl rfl (hD d30_18)
        have N3 := Fr.snoc X3 Na g_r0
        have Z3 : n0 ≤ h3.size := W3.size ▸ Za
        have K3 : Keep h0 h3 [r0] := Keep.wr Ka W3 (Or.inl (List.mem_of_getElem? (i := 0) rfl))
        refine own_go st3 ?_
        refine own_go (fun t' k' => XS.iinc X3.here hx rfl (hD d30_19) rfl (l' := #[rv r0, iv p1, iv (z + (1 : Int32))]) rfl k') ?_
        refine own_go (fun t' k' => XS.goto X3.here hx rfl (pc0 := 22) (pc' := 2) rfl (hD d30_22) (by decide) (by decide) k') ?_
        exact ih (i + 1) _ (own_up (by omega) hz) (by omega) _ _ _ _ X3 e3 N3 Z3 K3 A3
      · have hfork := trivial
        refine own_go (fun t' k' => XS.ifYes Xa.here hx rfl (pc0 := 11) (pc' := 19) rfl (hD d30_11) rfl (XT.i0_ge_t c2) (by decide) (by decide) k') ?_
        refine own_go (fun t' k' => XS.iinc Xa.here hx rfl (hD d30_19) rfl (l' := #[rv r0, iv p1, iv (z + (1 : Int32))]) rfl k') ?_
        refine own_go (fun t' k' => XS.goto Xa.here hx rfl (pc0 := 22) (pc' := 2) rfl (hD d30_22) (by decide) (by decide) k') ?_
        exact ih (i + 1) _ (own_up (by omega) hz) (by omega) _ _ _ _ Xa ea Na Za Ka Aa
  exact lp (n - i0) i0 _ hp (by omega) _ _ _ _ X0 e0 N0 Z0 (Keep.refl h0 [r0]) A
theorem d15_0 : decode jdk_42_method_24_code 0 = .ok (.iload_n 0, 1) := by decide +kernel
theorem d15_1 : decode jdk_42_method_24_code 1 = .ok (.ifCond .ne 32, 3) := by decide +kernel
theorem d15_4 : decode jdk_42_method_24_code 4 = .ok (.aload_n 1, 1) := by decide +kernel
theorem d15_5 : decode jdk_42_method_24_code 5 = .ok (.iconst 0, 1) := by decide +kernel
theorem d15_6 : decode jdk_42_method_24_code 6 = .ok (.aload_n 1, 1) := by decide +kernel
theorem d15_7 : decode jdk_42_method_24_code 7 = .ok (.arraylength, 1) := by decide +kernel
theorem d15_8 : decode jdk_42_method_24_code 8 = .ok (.invokestatic 92, 3) := by decide +kernel
theorem d15_11 : decode jdk_42_method_24_code 11 = .ok (.istore_n 2, 1) := by decide +kernel
theorem d15_12 : decode jdk_42_method_24_code 12 = .ok (.aload_n 1, 1) := by decide +kernel
theorem d15_13 : decode jdk_42_method_24_code 13 = .ok (.invokevirtual 279, 3) := by decide +kernel
theorem d15_16 : decode jdk_42_method_24_code 16 = .ok (.checkcast 280, 3) := by decide +kernel
theorem d15_19 : decode jdk_42_method_24_code 19 = .ok (.astore_n 3, 1) := by decide +kernel
theorem d15_20 : decode jdk_42_method_24_code 20 = .ok (.iload_n 2, 1) := by decide +kernel
theorem d15_21 : decode jdk_42_method_24_code 21 = .ok (.aload_n 3, 1) := by decide +kernel
theorem d15_22 : decode jdk_42_method_24_code 22 = .ok (.arraylength, 1) := by decide +kernel
theorem d15_23 : decode jdk_42_method_24_code 23 = .ok (.if_icmp .ge 8, 3) := by decide +kernel
theorem d15_26 : decode jdk_42_method_24_code 26 = .ok (.aload_n 3, 1) := by decide +kernel
theorem d15_27 : decode jdk_42_method_24_code 27 = .ok (.iload_n 2, 1) := by decide +kernel
theorem d15_28 : decode jdk_42_method_24_code 28 = .ok (.invokestatic 356, 3) := by decide +kernel
theorem d15_31 : decode jdk_42_method_24_code 31 = .ok (.aload_n 3, 1) := by decide +kernel
theorem d15_32 : decode jdk_42_method_24_code 32 = .ok (.areturn, 1) := by decide +kernel
theorem own_pd9 : parseMethodDescriptor "([BII)I" = some ⟨[(.array .byte), .int, .int], some .int⟩ := by decide +kernel
theorem own_pd10 : parseMethodDescriptor "([BI)V" = some ⟨[(.array .byte), .int], none⟩ := by decide +kernel
theorem own_pn_rmEA : plainName "java/lang/String" = true := by first | (simp [plainName, overriddenIn]; done) | decide +kernel
theorem own_ef_rmEA (m : MethodId) (r1 : Addr) : entryFrame m #[(.int (0 : Int32)), (.ref r1)] 7 = mkF m 0 #[.val (.int (0 : Int32)), .val (.ref r1), .unset, .unset, .unset, .unset, .unset] [] := by first | (simp [entryFrame, mkF, argsToLocals, Value.category]; done) | rfl
set_option maxRecDepth 65536 in
set_option maxHeartbeats 40000000 in
theorem rmEA (l : Launch) (Z : State) (a0 : Array Value) (hw : ∀ d ∈ tables_1, d.before a0 Z = true) (ws : List Jvm.Cond) (r1 : Addr) (n : Nat) (f : Nat → Value) (h0 : Heap) (n0 : Nat) (Z0 : n0 ≤ h0.size) (hn : n ≤ 4) (A : Af Z h0 r1 .byte n f) (E : Exa Z h0 r1 "[B") :
    MetFree l (⟨"java/lang/String", "encodeASCII", "(B[B)[B"⟩ : MethodName) (head1 (Jvm.Cond.code (⟨"java/lang/String", "encodeASCII", "(B[B)[B"⟩ : MethodName) jdk_42_method_24_code 7 (some (.array .byte)) :: ws) ({ frames := 1, cells := 1, slots := 4, locals := 16 } : Room)) (fun a U => a = #[(.int (0 : Int32)), (.ref r1)] ∧ Z.Warmed39 U.vm ∧ U.heap = h0) (fun _ _ _ _ _ => True) (fun _ U o U' => ∃ v L, o = .returned v ∧ QE Z n h0 n0 v U'.heap L ∧ FrameEnd U o U' L ({ frames := 1, cells := 1, slots := 4, locals := 16 } : Room).cells ({ frames := 1, cells := 1, slots := 4, locals := 16 } : Room).slots) := by
  refine MetFree.of_bodySF (plainFor_of_name own_pn_rmEA) hisR ?_
  intro p e s m args below meth cO s₁ Bd hml0 hP hK
  obtain ⟨rfl, hZ, hh⟩ := hP
  have hx := Bd.exec
  have hby := Bd.bytes
  have hD := @Jvm.hb _ _ hby
  have hml : cO.maxLocals = 7 := hml0
  have hown : s.vm.findClass "java/lang/String" = some m.cls := findClass_of_methodNamed Bd.named
  have hnm := (name_of_methodNamed Bd.named Bd.method).1
  have hlk : meth.locks = false := BodyLoose.notSynchronized Bd
  have X0 : Stand p l e ({ frames := 1, cells := 1, slots := 4, locals := 16 } : Room) s m #[(.int (0 : Int32)), (.ref r1)] below meth cO s₁ [] 0 0 := Stand.of_body Bd
  have e0 : s₁.heap = h0 := by rw [← hh, Bd.state]; rfl
  have N0 := Fr.nil n0
  refine own_in (own_ef_rmEA m r1) ?_
  show Gm p e below s₁ m 0 #[iv (0 : Int32), rv r1, .unset, .unset, .unset, .unset, .unset] [] _
  refine own_go (fun t' k' => XS.iloadN X0.here hx rfl (hD d15_0) rfl k') ?_
  show Gm p e below s₁ m 1 #[iv (0 : Int32), rv r1, .unset, .unset, .unset, .unset, .unset] [(.int (0 : Int32))] _
  refine own_go (fun t' k' => XS.ifNo X0.here hx rfl (hD d15_1) rfl (XT.i0_ne_f (by decide)) k') ?_
  refine own_go (fun t' k' => XS.aloadN X0.here hx rfl (hD d15_4) rfl rfl k') ?_
  refine own_go (fun t' k' => XS.iconst X0.here hx rfl (hD d15_5) k') ?_
  show Gm p e below s₁ m 6 #[iv (0 : Int32), rv r1, .unset, .unset, .unset, .unset, .unset] [(.int (0 : Int32)), (.ref r1)] _
  refine own_go (fun t' k' => XS.aloadN X0.here hx rfl (hD d15_6) rfl rfl k') ?_
  show Gm p e below s₁ m 7 #[iv (0 : Int32), rv r1, .unset, .unset, .unset, .unset, .unset] [(.ref r1), (.int (0 : Int32)), (.ref r1)] _
  refine own_go (fun t' k' => own_len X0 hx hZ e0 A (z := (n.toInt32)) rfl (g := (mkF m 7 #[iv (0 : Int32), rv r1, .unset, .unset, .unset, .unset, .unset] [(.ref r1), (.int (0 : Int32)), (.ref r1)])) rfl rfl (hD d15_7) k') ?_
  show Gm p e below s₁ m 8 #[iv (0 : Int32), rv r1, .unset, .unset, .unset, .unset, .unset] [(.int (n.toInt32)), (.int (0 : Int32)), (.ref r1)] _
  obtain ⟨_, _, ⟨T1, L1, k1, n1⟩, -, X1, ⟨Lc1, hQ1, l1, y1, z1⟩, st1⟩ := Jvm.LawKit.callS X0 hx (y := (⟨"java/lang/StringCoding", "countPositives", "([BII)I"⟩ : MethodName)) hown (mvT hZ (hw _ (List.mem_of_getElem? (i := 87) rfl))) (mvT hZ (hw _ (List.mem_of_getElem? (i := 88) rfl))) (mvT hZ (hw _ (List.mem_of_getElem? (i := 89) rfl))) (mvT hZ (hw _ (List.mem_of_getElem? (i := 90) rfl))) (by decide) (backOf (W := 0) (rmCP l Z a0 hw [] r1 (n.toInt32) n f h0 n0 Z0 hn rfl A) hZ (hw _ (List.mem_of_getElem? (i := 90) rfl)) (hw _ (List.mem_of_getElem? (i := 89) rfl)) (by decide) (by decide)) (g := (mkF m 8 #[iv (0 : Int32), rv r1, .unset, .unset, .unset, .unset, .unset] [(.int (n.toInt32)), (.int (0 : Int32)), (.ref r1)])) rfl (by rw [hml]; rfl) (argsL := [(.ref r1), (.int (0 : Int32)), (.int (n.toInt32))]) (rest := []) (lenOf own_pd9 rfl) rfl (by show 2 * 0 + _ ≤ _; exact Nat.le_of_eq rfl) (hD d15_8) (fun _ _ => ⟨rfl, e0, (by decide : 0 + 0 ≤ _), (by decide : 0 + 0 ≤ _)⟩)
  dsimp only [Pt.U, Pt.locs, Pt.cells, Pt.slots] at X1 l1 y1 z1 st1 hQ1
  subst l1 y1 z1
  obtain ⟨kp1, hkp1, rfl, Nq1, eq1⟩ := hQ1
  have N1 := Fr.app N0 Nq1
  have e1 : T1.heap = h0 := eq1
  refine own_go st1 ?_
  refine own_go (fun t' k' => XS.istoreN X1.here hx rfl (hD d15_11) rfl (l' := #[iv (0 : Int32), rv r1, iv (kp1.toInt32), .unset, .unset, .unset, .unset]) rfl k') ?_
  refine own_go (fun t' k' => XS.aloadN X1.here hx rfl (hD d15_12) rfl rfl k') ?_
  show Gm p e below T1 m 13 #[iv (0 : Int32), rv r1, iv (kp1.toInt32), .unset, .unset, .unset, .unset] [(.ref r1)] _
  obtain ⟨T2, h2, X2, e2, E2, A2, Y2, st2⟩ := own_clone X1 hx hZ hown (hw _ (List.mem_of_getElem? (i := 91) rfl)) (hw _ (List.mem_of_getElem? (i := 92) rfl)) (hw _ (List.mem_of_getElem? (i := 96) rfl)) (hw _ (List.mem_of_getElem? (i := 94) rfl)) (hw _ (List.mem_of_getElem? (i := 95) rfl)) (hw _ (List.mem_of_getElem? (i := 97) rfl)) e1 A E (g := (mkF m 13 #[iv (0 : Int32), rv r1, iv (kp1.toInt32), .unset, .unset, .unset, .unset] [(.ref r1)])) rfl (by rw [hml]; rfl) rfl (hD d15_13) (by decide) (W := 0) (cap := 4) (by show 2 * 0 + _ ≤ _; exact Nat.le_of_eq rfl) (by decide) hn (by decide) (by decide)
  obtain ⟨b2, g2⟩ : ∃ z, z = h0.size := ⟨_, rfl⟩
  rw [← g2] at A2 Y2 st2
  have g_b2 : n0 ≤ b2 := Nat.le_trans Z0 (Nat.le_of_eq g2.symm)
  have ne_r1_b2 : r1 ≠ b2 := Nat.ne_of_lt (Nat.lt_of_lt_of_le A.lt (Nat.le_of_eq g2.symm))
  have sz_b2 : h0.size ≤ b2 := Nat.le_trans (Keep.refl h0 []).1 (Nat.le_of_eq g2.symm)
  have K2 : Keep h0 h2 [] := Keep.ext (Keep.refl h0 []) E2
  have Z2 : n0 ≤ h2.size := Nat.le_trans Z0 E2.1
  refine own_go st2 ?_
  show Gm p e below T2 m 16 #[iv (0 : Int32), rv r1, iv (kp1.toInt32), .unset, .unset, .unset, .unset] [(.ref b2)] _
  obtain ⟨T3, X3, e3, st3⟩ := castY X2 hx hZ hown (hw _ (List.mem_of_getElem? (i := 98) rfl)) e2 (Ins.self Y2) (g := (mkF m 16 #[iv (0 : Int32), rv r1, iv (kp1.toInt32), .unset, .unset, .unset, .unset] [(.ref b2)])) rfl rfl (hD d15_16)
  refine own_go st3 ?_
  refine own_go (fun t' k' => XS.astoreN X3.here hx rfl (hD d15_19) rfl rfl (l' := #[iv (0 : Int32), rv r1, iv (kp1.toInt32), rv b2, .unset, .unset, .unset]) rfl k') ?_
  refine own_go (fun t' k' => XS.iloadN X3.here hx rfl (hD d15_20) rfl k') ?_
  show Gm p e below T3 m 21 #[iv (0 : Int32), rv r1, iv (kp1.toInt32), rv b2, .unset, .unset, .unset] [(.int (kp1.toInt32))] _
  refine own_go (fun t' k' => XS.aloadN X3.here hx rfl (hD d15_21) rfl rfl k') ?_
  show Gm p e below T3 m 22 #[iv (0 : Int32), rv r1, iv (kp1.toInt32), rv b2, .unset, .unset, .unset] [(.ref b2), (.int (kp1.toInt32))] _
  refine own_go (fun t' k' => own_len X3 hx hZ e3 A2 (z := (n.toInt32)) rfl (g := (mkF m 22 #[iv (0 : Int32), rv r1, iv (kp1.toInt32), rv b2, .unset, .unset, .unset] [(.ref b2), (.int (kp1.toInt32))])) rfl rfl (hD d15_22) k') ?_
  show Gm p e below T3 m 23 #[iv (0 : Int32), rv r1, iv (kp1.toInt32), rv b2, .unset, .unset, .unset] [(.int (n.toInt32)), (.int (kp1.toInt32))] _
  by_cases c4 : (kp1.toInt32) < (n.toInt32)
  · have hfork := trivial
    refine own_go (fun t' k' => XS.icmpNo X3.here hx rfl (hD d15_23) rfl (XT.ii_ge_f c4) k') ?_
    refine own_go (fun t' k' => XS.aloadN X3.here hx rfl (hD d15_26) rfl rfl k') ?_
    refine own_go (fun t' k' => XS.iloadN X3.here hx rfl (hD d15_27) rfl k') ?_
    show Gm p e below T3 m 28 #[iv (0 : Int32), rv r1, iv (kp1.toInt32), rv b2, .unset, .unset, .unset] [(.int (kp1.toInt32)), (.ref b2)] _
    obtain ⟨_, _, ⟨T5, L5, k5, n5⟩, -, X5, ⟨Lc5, hQ5, l5, y5, z5⟩, st5⟩ := Jvm.LawKit.callS X3 hx (y := (⟨"java/lang/String", "replaceNegatives", "([BI)V"⟩ : MethodName)) hown (mvT hZ (hw _ (List.mem_of_getElem? (i := 160) rfl))) (mvT hZ (hw _ (List.mem_of_getElem? (i := 161) rfl))) (mvT hZ (hw _ (List.mem_of_getElem? (i := 6) rfl))) (mvT hZ (hw _ (List.mem_of_getElem? (i := 162) rfl))) (by decide) (backOf (W := 0) (rmRN l Z a0 hw [] b2 (kp1.toInt32) kp1 n f h2 n0 Z2 hn hkp1 rfl A2 g_b2) hZ (hw _ (List.mem_of_getElem? (i := 162) rfl)) (hw _ (List.mem_of_getElem? (i := 6) rfl)) (by decide) (by decide)) (g := (mkF m 28 #[iv (0 : Int32), rv r1, iv (kp1.toInt32), rv b2, .unset, .unset, .unset] [(.int (kp1.toInt32)), (.ref b2)])) rfl (by rw [hml]; rfl) (argsL := [(.ref b2), (.int (kp1.toInt32))]) (rest := []) (lenOf own_pd10 rfl) rfl (by show 2 * 0 + _ ≤ _; exact Nat.le_of_eq rfl) (hD d15_28) (fun _ _ => ⟨rfl, e3, (by decide : 1 + 0 ≤ _), (by decide : 4 + 0 ≤ _)⟩)
    dsimp only [Pt.U, Pt.locs, Pt.cells, Pt.slots] at X5 l5 y5 z5 st5 hQ5
    subst l5 y5 z5
    obtain ⟨rfl, Nq5, Kc5, fr5, Ar5⟩ := hQ5
    have N5 := Fr.app N1 Nq5
    refine own_go st5 ?_
    have Z5 : n0 ≤ T5.heap.size := Nat.le_trans Z2 Kc5.1
    have K5 : Keep h0 T5.heap [] := Keep.trans K2 Kc5 (allS (Or.inr sz_b2) all0)
    refine own_go (fun t' k' => XS.aloadN X5.here hx rfl (hD d15_31) rfl rfl k') ?_
    show Gm p e below T5 m 32 #[iv (0 : Int32), rv r1, iv (kp1.toInt32), rv b2, .unset, .unset, .unset] [(.ref b2)] _
    exact own_retA X5 hx hlk rfl Bd.returns rfl (hD d15_32) rfl ⟨b2, fr5, rfl, N5, own_stX K5, sz_b2, Ar5⟩ (by decide) (by decide)
  · have hfork := trivial
    refine own_go (fun t' k' => XS.icmpYes X3.here hx rfl (pc0 := 23) (pc' := 31) rfl (hD d15_23) rfl (XT.ii_ge_t c4) (by decide) (by decide) k') ?_
    refine own_go (fun t' k' => XS.aloadN X3.here hx rfl (hD d15_31) rfl rfl k') ?_
    show Gm p e below T3 m 32 #[iv (0 : Int32), rv r1, iv (kp1.toInt32), rv b2, .unset, .unset, .unset] [(.ref b2)] _
    exact own_retA X3 hx hlk rfl Bd.returns rfl (hD d15_32) e3 ⟨b2, f, rfl, N1, own_stX K2, sz_b2, A2⟩ (by decide) (by decide)
theorem d14_0 : decode jdk_42_method_18_code 0 = .ok (.aload_n 0, 1) := by decide +kernel
theorem d14_1 : decode jdk_42_method_18_code 1 = .ok (.getstatic 86, 3) := by decide +kernel
theorem d14_4 : decode jdk_42_method_18_code 4 = .ok (.if_acmp .ne 10, 3) := by decide +kernel
theorem d14_14 : decode jdk_42_method_18_code 14 = .ok (.aload_n 0, 1) := by decide +kernel
theorem d14_15 : decode jdk_42_method_18_code 15 = .ok (.getstatic 116, 3) := by decide +kernel
theorem d14_18 : decode jdk_42_method_18_code 18 = .ok (.if_acmp .ne 9, 3) := by decide +kernel
theorem d14_27 : decode jdk_42_method_18_code 27 = .ok (.aload_n 0, 1) := by decide +kernel
theorem d14_28 : decode jdk_42_method_18_code 28 = .ok (.getstatic 123, 3) := by decide +kernel
theorem d14_31 : decode jdk_42_method_18_code 31 = .ok (.if_acmp .ne 9, 3) := by decide +kernel
theorem d14_34 : decode jdk_42_method_18_code 34 = .ok (.iload_n 1, 1) := by decide +kernel
theorem d14_35 : decode jdk_42_method_18_code 35 = .ok (.aload_n 2, 1) := by decide +kernel
theorem d14_36 : decode jdk_42_method_18_code 36 = .ok (.invokestatic 260, 3) := by decide +kernel
theorem d14_39 : decode jdk_42_method_18_code 39 = .ok (.areturn, 1) := by decide +kernel
theorem own_pd11 : parseMethodDescriptor "(B[B)[B" = some ⟨[.byte, (.array .byte)], some (.array .byte)⟩ := by decide +kernel
theorem own_pn_rmEn : plainName "java/lang/String" = true := by first | (simp [plainName, overriddenIn]; done) | decide +kernel
theorem own_ef_rmEn (m : MethodId) (aU : Addr) (r2 : Addr) : entryFrame m #[(.ref aU), (.int (0 : Int32)), (.ref r2)] 3 = mkF m 0 #[.val (.ref aU), .val (.int (0 : Int32)), .val (.ref r2)] [] := by first | (simp [entryFrame, mkF, argsToLocals, Value.category]; done) | rfl
set_option maxRecDepth 65536 in
set_option maxHeartbeats 40000000 in
theorem rmEn (l : Launch) (Z : State) (a0 : Array Value) (hw : ∀ d ∈ tables_1, d.before a0 Z = true) (ws : List Jvm.Cond) (aU : Addr) (r2 : Addr) (n : Nat) (f : Nat → Value) (a8 : Addr) (aI : Addr) (h0 : Heap) (n0 : Nat) (Z0 : n0 ≤ h0.size) (hn : n ≤ 4) (A : Af Z h0 r2 .byte n f) (E : Exa Z h0 r2 "[B") (S_8 : Sta Z h0 "sun/nio/cs/UTF_8" "INSTANCE" "Lsun/nio/cs/UTF_8;" (.ref a8)) (S_i : Sta Z h0 "sun/nio/cs/ISO_8859_1" "INSTANCE" "Lsun/nio/cs/ISO_8859_1;" (.ref aI)) (S_a : Sta Z h0 "sun/nio/cs/US_ASCII" "INSTANCE" "Lsun/nio/cs/US_ASCII;" (.ref aU)) (n8 : aU ≠ a8) (nI : aU ≠ aI) :
    MetFree l (⟨"java/lang/String", "encode", "(Ljava/nio/charset/Charset;B[B)[B"⟩ : MethodName) (head1 (Jvm.Cond.code (⟨"java/lang/String", "encode", "(Ljava/nio/charset/Charset;B[B)[B"⟩ : MethodName) jdk_42_method_18_code 3 (some (.array .byte)) :: ws) ({ frames := 2, cells := 1, slots := 4, locals := 34 } : Room)) (fun a U => a = #[(.ref aU), (.int (0 : Int32)), (.ref r2)] ∧ Z.Warmed39 U.vm ∧ U.heap = h0) (fun _ _ _ _ _ => True) (fun _ U o U' => ∃ v L, o = .returned v ∧ QE Z n h0 n0 v U'.heap L ∧ FrameEnd U o U' L ({ frames := 2, cells := 1, slots := 4, locals := 34 } : Room).cells ({ frames := 2, cells := 1, slots := 4, locals := 34 } : Room).slots) := by
  refine MetFree.of_bodySF (plainFor_of_name own_pn_rmEn) hisR ?_
  intro p e s m args below meth cO s₁ Bd hml0 hP hK
  obtain ⟨rfl, hZ, hh⟩ := hP
  have hx := Bd.exec
  have hby := Bd.bytes
  have hD := @Jvm.hb _ _ hby
  have hml : cO.maxLocals = 3 := hml0
  have hown : s.vm.findClass "java/lang/String" = some m.cls := findClass_of_methodNamed Bd.named
  have hnm := (name_of_methodNamed Bd.named Bd.method).1
  have hlk : meth.locks = false := BodyLoose.notSynchronized Bd
  have X0 : Stand p l e ({ frames := 2, cells := 1, slots := 4, locals := 34 } : Room) s m #[(.ref aU), (.int (0 : Int32)), (.ref r2)] below meth cO s₁ [] 0 0 := Stand.of_body Bd
  have e0 : s₁.heap = h0 := by rw [← hh, Bd.state]; rfl
  have N0 := Fr.nil n0
  refine own_in (own_ef_rmEn m aU r2) ?_
  show Gm p e below s₁ m 0 #[rv aU, iv (0 : Int32), rv r2] [] _
  refine own_go (fun t' k' => XS.aloadN X0.here hx rfl (hD d14_0) rfl rfl k') ?_
  show Gm p e below s₁ m 1 #[rv aU, iv (0 : Int32), rv r2] [(.ref aU)] _
  obtain ⟨T1, X1, e1, st1⟩ := getS2 X0 hx hZ hown (host := "") (Or.inl (hw _ (List.mem_of_getElem? (i := 78) rfl))) Via.refl e0 S_8 (g := (mkF m 1 #[rv aU, iv (0 : Int32), rv r2] [(.ref aU)])) rfl (hD d14_1)
  refine own_go st1 ?_
  show Gm p e below T1 m 4 #[rv aU, iv (0 : Int32), rv r2] [(.ref a8), (.ref aU)] _
  refine own_go (fun t' k' => XT.acmpYes X1.here hx rfl (pc0 := 4) (pc' := 14) rfl (hD d14_4) rfl rfl rfl (XT.aa_ne_t (fun q => n8 (Value.ref.inj q))) (by decide) (by decide) k') ?_
  refine own_go (fun t' k' => XS.aloadN X1.here hx rfl (hD d14_14) rfl rfl k') ?_
  show Gm p e below T1 m 15 #[rv aU, iv (0 : Int32), rv r2] [(.ref aU)] _
  obtain ⟨T2, X2, e2, st2⟩ := getS2 X1 hx hZ hown (host := "") (Or.inl (hw _ (List.mem_of_getElem? (i := 80) rfl))) Via.refl e1 S_i (g := (mkF m 15 #[rv aU, iv (0 : Int32), rv r2] [(.ref aU)])) rfl (hD d14_15)
  refine own_go st2 ?_
  show Gm p e below T2 m 18 #[rv aU, iv (0 : Int32), rv r2] [(.ref aI), (.ref aU)] _
  refine own_go (fun t' k' => XT.acmpYes X2.here hx rfl (pc0 := 18) (pc' := 27) rfl (hD d14_18) rfl rfl rfl (XT.aa_ne_t (fun q => nI (Value.ref.inj q))) (by decide) (by decide) k') ?_
  refine own_go (fun t' k' => XS.aloadN X2.here hx rfl (hD d14_27) rfl rfl k') ?_
  show Gm p e below T2 m 28 #[rv aU, iv (0 : Int32), rv r2] [(.ref aU)] _
  obtain ⟨T3, X3, e3, st3⟩ := getS2 X2 hx hZ hown (host := "") (Or.inl (hw _ (List.mem_of_getElem? (i := 82) rfl))) Via.refl e2 S_a (g := (mkF m 28 #[rv aU, iv (0 : Int32), rv r2] [(.ref aU)])) rfl (hD d14_28)
  refine own_go st3 ?_
  show Gm p e below T3 m 31 #[rv aU, iv (0 : Int32), rv r2] [(.ref aU), (.ref aU)] _
  refine own_go (fun t' k' => XT.acmpNo X3.here hx rfl (hD d14_31) rfl rfl rfl (XT.aa_ne_f rfl) k') ?_
  refine own_go (fun t' k' => XS.iloadN X3.here hx rfl (hD d14_34) rfl k') ?_
  refine own_go (fun t' k' => XS.aloadN X3.here hx rfl (hD d14_35) rfl rfl k') ?_
  show Gm p e below T3 m 36 #[rv aU, iv (0 : Int32), rv r2] [(.ref r2), (.int (0 : Int32))] _
  obtain ⟨_, _, ⟨T4, L4, k4, n4⟩, -, X4, ⟨Lc4, hQ4, l4, y4, z4⟩, st4⟩ := Jvm.LawKit.callS X3 hx (y := (⟨"java/lang/String", "encodeASCII", "(B[B)[B"⟩ : MethodName)) hown (mvT hZ (hw _ (List.mem_of_getElem? (i := 84) rfl))) (mvT hZ (hw _ (List.mem_of_getElem? (i := 85) rfl))) (mvT hZ (hw _ (List.mem_of_getElem? (i := 6) rfl))) (mvT hZ (hw _ (List.mem_of_getElem? (i := 86) rfl))) (by decide) (backOf (W := 0) (rmEA l Z a0 hw [] r2 n f h0 n0 Z0 hn A E) hZ (hw _ (List.mem_of_getElem? (i := 86) rfl)) (hw _ (List.mem_of_getElem? (i := 6) rfl)) (by decide) (by decide)) (g := (mkF m 36 #[rv aU, iv (0 : Int32), rv r2] [(.ref r2), (.int (0 : Int32))])) rfl (by rw [hml]; rfl) (argsL := [(.int (0 : Int32)), (.ref r2)]) (rest := []) (lenOf own_pd11 rfl) rfl (by show 2 * 0 + _ ≤ _; exact Nat.le_of_eq rfl) (hD d14_36) (fun _ _ => ⟨rfl, e3, (by decide : 0 + 1 ≤ _), (by decide : 0 + 4 ≤ _)⟩)
  dsimp only [Pt.U, Pt.locs, Pt.cells, Pt.slots] at X4 l4 y4 z4 st4 hQ4
  subst l4 y4 z4
  obtain ⟨ca4, fa4, rfl, Nq4, Ex4, sz4, Aa4⟩ := hQ4
  have N4 := Fr.app N0 Nq4
  refine own_go st4 ?_
  have Z4 : n0 ≤ T4.heap.size := Nat.le_trans Z0 Ex4.1
  show Gm p e below T4 m 39 #[rv aU, iv (0 : Int32), rv r2] [(.ref ca4)] _
  exact own_retA X4 hx hlk rfl Bd.returns rfl (hD d14_39) rfl ⟨ca4, _, rfl, N4, Ex4, sz4, Aa4⟩ (by decide) (by decide)
theorem d12_0 : decode jdk_42_method_64_code 0 = .ok (.aload_n 1, 1) := by decide +kernel
theorem d12_1 : decode jdk_42_method_64_code 1 = .ok (.ifnonnull 11, 3) := by decide +kernel
theorem d12_12 : decode jdk_42_method_64_code 12 = .ok (.aload_n 1, 1) := by decide +kernel
theorem d12_13 : decode jdk_42_method_64_code 13 = .ok (.aload_n 0, 1) := by decide +kernel
theorem d12_14 : decode jdk_42_method_64_code 14 = .ok (.invokevirtual 335, 3) := by decide +kernel
theorem d12_17 : decode jdk_42_method_64_code 17 = .ok (.aload_n 0, 1) := by decide +kernel
theorem d12_18 : decode jdk_42_method_64_code 18 = .ok (.getfield 9, 3) := by decide +kernel
theorem d12_21 : decode jdk_42_method_64_code 21 = .ok (.invokestatic 535, 3) := by decide +kernel
theorem d12_24 : decode jdk_42_method_64_code 24 = .ok (.areturn, 1) := by decide +kernel
theorem own_pd12 : parseMethodDescriptor "()B" = some ⟨[], some .byte⟩ := by decide +kernel
theorem own_pd13 : parseMethodDescriptor "(Ljava/nio/charset/Charset;B[B)[B" = some ⟨[(.object "java/nio/charset/Charset"), .byte, (.array .byte)], some (.array .byte)⟩ := by decide +kernel
theorem own_pn_rmGB : plainName "java/lang/String" = true := by first | (simp [plainName, overriddenIn]; done) | decide +kernel
theorem own_ef_rmGB (m : MethodId) (r0 : Addr) (aU : Addr) : entryFrame m #[(.ref r0), (.ref aU)] 2 = mkF m 0 #[.val (.ref r0), .val (.ref aU)] [] := by first | (simp [entryFrame, mkF, argsToLocals, Value.category]; done) | rfl
set_option maxRecDepth 65536 in
set_option maxHeartbeats 40000000 in
theorem rmGB (l : Launch) (Z : State) (a0 : Array Value) (hw : ∀ d ∈ tables_1, d.before a0 Z = true) (ws : List Jvm.Cond) (r0 : Addr) (aU : Addr) (n : Nat) (b : Addr) (f : Nat → Value) (cs : Int32) (a8 : Addr) (aI : Addr) (h0 : Heap) (n0 : Nat) (Z0 : n0 ≤ h0.size) (hn : n ≤ 4) (E_r0 : Exa Z h0 r0 "java/lang/String") (F_c : Fld Z h0 r0 "java/lang/String" "coder" "B" (.int (0 : Int32))) (F_v : Fld Z h0 r0 "java/lang/String" "value" "[B" (.ref b)) (E_b : Exa Z h0 b "[B") (A : Af Z h0 b .byte n f) (S_c : Sta Z h0 "java/lang/String" "COMPACT_STRINGS" "Z" (.int cs)) (hcs : ¬ cs = 0) (S_8 : Sta Z h0 "sun/nio/cs/UTF_8" "INSTANCE" "Lsun/nio/cs/UTF_8;" (.ref a8)) (S_i : Sta Z h0 "sun/nio/cs/ISO_8859_1" "INSTANCE" "Lsun/nio/cs/ISO_8859_1;" (.ref aI)) (S_a : Sta Z h0 "sun/nio/cs/US_ASCII" "INSTANCE" "Lsun/nio/cs/US_ASCII;" (.ref aU)) (n8 : aU ≠ a8) (nI : aU ≠ aI) :
    MetFree l (⟨"java/lang/String", "getBytes", "(Ljava/nio/charset/Charset;)[B"⟩ : MethodName) (head1 (Jvm.Cond.code (⟨"java/lang/String", "getBytes", "(Ljava/nio/charset/Charset;)[B"⟩ : MethodName) jdk_42_method_64_code 2 (some (.array .byte)) :: ws) ({ frames := 3, cells := 1, slots := 4, locals := 48 } : Room)) (fun a U => a = #[(.ref r0), (.ref aU)] ∧ Z.Warmed39 U.vm ∧ U.heap = h0) (fun _ _ _ _ _ => True) (fun _ U o U' => ∃ v L, o = .returned v ∧ QE Z n h0 n0 v U'.heap L ∧ FrameEnd U o U' L ({ frames := 3, cells := 1, slots := 4, locals := 48 } : Room).cells ({ frames := 3, cells := 1, slots := 4, locals := 48 } : Room).slots) := by
  refine MetFree.of_bodySF (plainFor_of_name own_pn_rmGB) hisR ?_
  intro p e s m args below meth cO s₁ Bd hml0 hP hK
  obtain ⟨rfl, hZ, hh⟩ := hP
  have hx := Bd.exec
  have hby := Bd.bytes
  have hD := @Jvm.hb _ _ hby
  have hml : cO.maxLocals = 2 := hml0
  have hown : s.vm.findClass "java/lang/String" = some m.cls := findClass_of_methodNamed Bd.named
  have hnm := (name_of_methodNamed Bd.named Bd.method).1
  have hlk : meth.locks = false := BodyLoose.notSynchronized Bd
  have X0 : Stand p l e ({ frames := 3, cells := 1, slots := 4, locals := 48 } : Room) s m #[(.ref r0), (.ref aU)] below meth cO s₁ [] 0 0 := Stand.of_body Bd
  have e0 : s₁.heap = h0 := by rw [← hh, Bd.state]; rfl
  have N0 := Fr.nil n0
  refine own_in (own_ef_rmGB m r0 aU) ?_
  show Gm p e below s₁ m 0 #[rv r0, rv aU] [] _
  refine own_go (fun t' k' => XS.aloadN X0.here hx rfl (hD d12_0) rfl rfl k') ?_
  show Gm p e below s₁ m 1 #[rv r0, rv aU] [(.ref aU)] _
  refine own_go (fun t' k' => XS.ifnonnullYes X0.here hx rfl (pc0 := 1) (pc' := 12) rfl (hD d12_1) rfl (by decide) (by decide) k') ?_
  refine own_go (fun t' k' => XS.aloadN X0.here hx rfl (hD d12_12) rfl rfl k') ?_
  refine own_go (fun t' k' => XS.aloadN X0.here hx rfl (hD d12_13) rfl rfl k') ?_
  show Gm p e below s₁ m 14 #[rv r0, rv aU] [(.ref r0), (.ref aU)] _
  obtain ⟨cq1, kq1, q1a, q1b, q1c⟩ := isOf hZ e0 E_r0
  obtain ⟨_, _, ⟨T1, L1, k1, n1⟩, -, X1, ⟨Lc1, hQ1, l1, y1, z1⟩, st1⟩ := X0.virtualBack hx (y := (⟨"java/lang/String", "coder", "()B"⟩ : MethodName)) (z := (⟨"java/lang/String", "coder", "()B"⟩ : MethodName)) hown (mvT hZ (hw _ (List.mem_of_getElem? (i := 70) rfl))) (mvT hZ (hw _ (List.mem_of_getElem? (i := 71) rfl))) (notFace_of_selects (args := #[]) (mvT hZ (hw _ (List.mem_of_getElem? (i := 73) rfl)))) (mvT hZ (hw _ (List.mem_of_getElem? (i := 73) rfl))) (mvT hZ (hw _ (List.mem_of_getElem? (i := 72) rfl))) (by decide) (backOf (W := 1) (rmCo l Z a0 hw [] r0 cs h0 n0 Z0 S_c hcs F_c) hZ (hw _ (List.mem_of_getElem? (i := 74) rfl)) (hw _ (List.mem_of_getElem? (i := 6) rfl)) (by decide) (by decide)) q1a q1c (g := (mkF m 14 #[rv r0, rv aU] [(.ref r0), (.ref aU)])) rfl (by rw [hml]; rfl) (Steps.refl _) (argsL := []) (rest := [(.ref aU)]) (lenOf own_pd12 rfl) rfl (by show 2 * 0 + _ ≤ _; exact Nat.le_of_eq rfl) (hD d12_14) (fun _ _ => ⟨rfl, e0, (by decide : 0 + 0 ≤ _), (by decide : 0 + 0 ≤ _)⟩)
  dsimp only [Pt.U, Pt.locs, Pt.cells, Pt.slots] at X1 l1 y1 z1 st1 hQ1
  subst l1 y1 z1
  obtain ⟨rfl, Nq1, eq1⟩ := hQ1
  have N1 := Fr.app N0 Nq1
  have e1 : T1.heap = h0 := eq1
  refine own_go (fun t k => st1.trans k) ?_
  refine own_go (fun t' k' => XS.aloadN X1.here hx rfl (hD d12_17) rfl rfl k') ?_
  show Gm p e below T1 m 18 #[rv r0, rv aU] [(.ref r0), (.int (0 : Int32)), (.ref aU)] _
  obtain ⟨T2, X2, e2, st2⟩ := getF X1 hx hZ hown (host := "") (Or.inl (hw _ (List.mem_of_getElem? (i := 26) rfl))) Via.refl e1 F_v (g := (mkF m 18 #[rv r0, rv aU] [(.ref r0), (.int (0 : Int32)), (.ref aU)])) rfl rfl (hD d12_18)
  refine own_go st2 ?_
  show Gm p e below T2 m 21 #[rv r0, rv aU] [(.ref b), (.int (0 : Int32)), (.ref aU)] _
  obtain ⟨_, _, ⟨T3, L3, k3, n3⟩, -, X3, ⟨Lc3, hQ3, l3, y3, z3⟩, st3⟩ := Jvm.LawKit.callS X2 hx (y := (⟨"java/lang/String", "encode", "(Ljava/nio/charset/Charset;B[B)[B"⟩ : MethodName)) hown (mvT hZ (hw _ (List.mem_of_getElem? (i := 75) rfl))) (mvT hZ (hw _ (List.mem_of_getElem? (i := 76) rfl))) (mvT hZ (hw _ (List.mem_of_getElem? (i := 6) rfl))) (mvT hZ (hw _ (List.mem_of_getElem? (i := 77) rfl))) (by decide) (backOf (W := 0) (rmEn l Z a0 hw [] aU b n f a8 aI h0 n0 Z0 hn A E_b S_8 S_i S_a n8 nI) hZ (hw _ (List.mem_of_getElem? (i := 77) rfl)) (hw _ (List.mem_of_getElem? (i := 6) rfl)) (by decide) (by decide)) (g := (mkF m 21 #[rv r0, rv aU] [(.ref b), (.int (0 : Int32)), (.ref aU)])) rfl (by rw [hml]; rfl) (argsL := [(.ref aU), (.int (0 : Int32)), (.ref b)]) (rest := []) (lenOf own_pd13 rfl) rfl (by show 2 * 0 + _ ≤ _; exact Nat.le_of_eq rfl) (hD d12_21) (fun _ _ => ⟨rfl, e2, (by decide : 0 + 1 ≤ _), (by decide : 0 + 4 ≤ _)⟩)
  dsimp only [Pt.U, Pt.locs, Pt.cells, Pt.slots] at X3 l3 y3 z3 st3 hQ3
  subst l3 y3 z3
  obtain ⟨ca3, fa3, rfl, Nq3, Ex3, sz3, Aa3⟩ := hQ3
  have N3 := Fr.app N1 Nq3
  refine own_go st3 ?_
  have Z3 : n0 ≤ T3.heap.size := Nat.le_trans Z0 Ex3.1
  show Gm p e below T3 m 24 #[rv r0, rv aU] [(.ref ca3)] _
  exact own_retA X3 hx hlk rfl Bd.returns rfl (hD d12_24) rfl ⟨ca3, _, rfl, N3, Ex3, sz3, Aa3⟩ (by decide) (by decide)
theorem d11_0 : decode prog_65_method_17_code 0 = .ok (.aload_n 0, 1) := by decide +kernel
theorem d11_1 : decode prog_65_method_17_code 1 = .ok (.getstatic 77, 3) := by decide +kernel
theorem d11_4 : decode prog_65_method_17_code 4 = .ok (.invokevirtual 124, 3) := by decide +kernel
theorem d11_7 : decode prog_65_method_17_code 7 = .ok (.areturn, 1) := by decide +kernel
theorem own_pd14 : parseMethodDescriptor "(Ljava/nio/charset/Charset;)[B" = some ⟨[(.object "java/nio/charset/Charset")], some (.array .byte)⟩ := by decide +kernel
theorem own_pn_rmAs : plainName "com/example/design_drills/designdrills/service/listens/IdNumbers" = true := by first | (simp [plainName, overriddenIn]; done) | decide +kernel
theorem own_ef_rmAs (m : MethodId) (r0 : Addr) : entryFrame m #[(.ref r0)] 1 = mkF m 0 #[.val (.ref r0)] [] := by first | (simp [entryFrame, mkF, argsToLocals, Value.category]; done) | rfl
set_option maxRecDepth 65536 in
set_option maxHeartbeats 40000000 in
theorem rmAs (l : Launch) (Z : State) (a0 : Array Value) (hw : ∀ d ∈ tables_1, d.before a0 Z = true) (ws : List Jvm.Cond) (r0 : Addr) (n : Nat) (b : Addr) (f : Nat → Value) (cs : Int32) (a8 : Addr) (aI : Addr) (aU : Addr) (h0 : Heap) (n0 : Nat) (Z0 : n0 ≤ h0.size) (hn : n ≤ 4) (E_r0 : Exa Z h0 r0 "java/lang/String") (F_c : Fld Z h0 r0 "java/lang/String" "coder" "B" (.int (0 : Int32))) (F_v : Fld Z h0 r0 "java/lang/String" "value" "[B" (.ref b)) (E_b : Exa Z h0 b "[B") (A : Af Z h0 b .byte n f) (S_c : Sta Z h0 "java/lang/String" "COMPACT_STRINGS" "Z" (.int cs)) (hcs : ¬ cs = 0) (S_8 : Sta Z h0 "sun/nio/cs/UTF_8" "INSTANCE" "Lsun/nio/cs/UTF_8;" (.ref a8)) (S_i : Sta Z h0 "sun/nio/cs/ISO_8859_1" "INSTANCE" "Lsun/nio/cs/ISO_8859_1;" (.ref aI)) (S_a : Sta Z h0 "sun/nio/cs/US_ASCII" "INSTANCE" "Lsun/nio/cs/US_ASCII;" (.ref aU)) (S_u : Sta Z h0 "java/nio/charset/StandardCharsets" "US_ASCII" "Ljava/nio/charset/Charset;" (.ref aU)) (n8 : aU ≠ a8) (nI : aU ≠ aI) :
    MetFree l (⟨"com/example/design_drills/designdrills/service/listens/IdNumbers", "ascii", "(Ljava/lang/String;)[B"⟩ : MethodName) (head1 (Jvm.Cond.code (⟨"com/example/design_drills/designdrills/service/listens/IdNumbers", "ascii", "(Ljava/lang/String;)[B"⟩ : MethodName) prog_65_method_17_code 1 (some (.array .byte)) :: ws) ({ frames := 4, cells := 1, slots := 4, locals := 61 } : Room)) (fun a U => a = #[(.ref r0)] ∧ Z.Warmed39 U.vm ∧ U.heap = h0) (fun _ _ _ _ _ => True) (fun _ U o U' => ∃ v L, o = .returned v ∧ QE Z n h0 n0 v U'.heap L ∧ FrameEnd U o U' L ({ frames := 4, cells := 1, slots := 4, locals := 61 } : Room).cells ({ frames := 4, cells := 1, slots := 4, locals := 61 } : Room).slots) := by
  refine MetFree.of_bodySF (plainFor_of_name own_pn_rmAs) hisR ?_
  intro p e s m args below meth cO s₁ Bd hml0 hP hK
  obtain ⟨rfl, hZ, hh⟩ := hP
  have hx := Bd.exec
  have hby := Bd.bytes
  have hD := @Jvm.hb _ _ hby
  have hml : cO.maxLocals = 1 := hml0
  have hown : s.vm.findClass "com/example/design_drills/designdrills/service/listens/IdNumbers" = some m.cls := findClass_of_methodNamed Bd.named
  have hnm := (name_of_methodNamed Bd.named Bd.method).1
  have hlk : meth.locks = false := BodyLoose.notSynchronized Bd
  have X0 : Stand p l e ({ frames := 4, cells := 1, slots := 4, locals := 61 } : Room) s m #[(.ref r0)] below meth cO s₁ [] 0 0 := Stand.of_body Bd
  have e0 : s₁.heap = h0 := by rw [← hh, Bd.state]; rfl
  have N0 := Fr.nil n0
  refine own_in (own_ef_rmAs m r0) ?_
  show Gm p e below s₁ m 0 #[rv r0] [] _
  refine own_go (fun t' k' => XS.aloadN X0.here hx rfl (hD d11_0) rfl rfl k') ?_
  show Gm p e below s₁ m 1 #[rv r0] [(.ref r0)] _
  obtain ⟨T1, X1, e1, st1⟩ := getS2 X0 hx hZ hown (host := "") (Or.inl (hw _ (List.mem_of_getElem? (i := 63) rfl))) Via.refl e0 S_u (g := (mkF m 1 #[rv r0] [(.ref r0)])) rfl (hD d11_1)
  refine own_go st1 ?_
  show Gm p e below T1 m 4 #[rv r0] [(.ref aU), (.ref r0)] _
  obtain ⟨cq2, kq2, q2a, q2b, q2c⟩ := isOf hZ e1 E_r0
  obtain ⟨_, _, ⟨T2, L2, k2, n2⟩, -, X2, ⟨Lc2, hQ2, l2, y2, z2⟩, st2⟩ := X1.virtualBack hx (y := (⟨"java/lang/String", "getBytes", "(Ljava/nio/charset/Charset;)[B"⟩ : MethodName)) (z := (⟨"java/lang/String", "getBytes", "(Ljava/nio/charset/Charset;)[B"⟩ : MethodName)) hown (mvT hZ (hw _ (List.mem_of_getElem? (i := 65) rfl))) (mvT hZ (hw _ (List.mem_of_getElem? (i := 66) rfl))) (notFace_of_selects (args := #[]) (mvT hZ (hw _ (List.mem_of_getElem? (i := 68) rfl)))) (mvT hZ (hw _ (List.mem_of_getElem? (i := 68) rfl))) (mvT hZ (hw _ (List.mem_of_getElem? (i := 67) rfl))) (by decide) (backOf (W := 0) (rmGB l Z a0 hw [] r0 aU n b f cs a8 aI h0 n0 Z0 hn E_r0 F_c F_v E_b A S_c hcs S_8 S_i S_a n8 nI) hZ (hw _ (List.mem_of_getElem? (i := 69) rfl)) (hw _ (List.mem_of_getElem? (i := 6) rfl)) (by decide) (by decide)) q2a q2c (g := (mkF m 4 #[rv r0] [(.ref aU), (.ref r0)])) rfl (by rw [hml]; rfl) (Steps.refl _) (argsL := [(.ref aU)]) (rest := []) (lenOf own_pd14 rfl) rfl (by show 2 * 0 + _ ≤ _; exact Nat.le_of_eq rfl) (hD d11_4) (fun _ _ => ⟨rfl, e1, (by decide : 0 + 1 ≤ _), (by decide : 0 + 4 ≤ _)⟩)
  dsimp only [Pt.U, Pt.locs, Pt.cells, Pt.slots] at X2 l2 y2 z2 st2 hQ2
  subst l2 y2 z2
  obtain ⟨ca2, fa2, rfl, Nq2, Ex2, sz2, Aa2⟩ := hQ2
  have N2 := Fr.app N0 Nq2
  refine own_go (fun t k => st2.trans k) ?_
  have Z2 : n0 ≤ T2.heap.size := Nat.le_trans Z0 Ex2.1
  show Gm p e below T2 m 7 #[rv r0] [(.ref ca2)] _
  exact own_retA X2 hx hlk rfl Bd.returns rfl (hD d11_7) rfl ⟨ca2, _, rfl, N2, Ex2, sz2, Aa2⟩ (by decide) (by decide)
def QL (n : Nat) (h0 : Heap) (n0 : Nat) (v : Option Value) (h : Heap) (L : List Loc) : Prop := v = some (.int n.toInt32) ∧ Fr n0 L ∧ h = h0
theorem d26_0 : decode jdk_42_method_54_code 0 = .ok (.aload_n 0, 1) := by decide +kernel
theorem d26_1 : decode jdk_42_method_54_code 1 = .ok (.getfield 9, 3) := by decide +kernel
theorem d26_4 : decode jdk_42_method_54_code 4 = .ok (.arraylength, 1) := by decide +kernel
theorem d26_5 : decode jdk_42_method_54_code 5 = .ok (.aload_n 0, 1) := by decide +kernel
theorem d26_6 : decode jdk_42_method_54_code 6 = .ok (.invokevirtual 335, 3) := by decide +kernel
theorem d26_9 : decode jdk_42_method_54_code 9 = .ok (.ishr, 1) := by decide +kernel
theorem d26_10 : decode jdk_42_method_54_code 10 = .ok (.ireturn, 1) := by decide +kernel
theorem own_pn_rmLn_0 : plainName "java/lang/String" = true := by first | (simp [plainName, overriddenIn]; done) | decide +kernel
theorem own_ef_rmLn_0 (m : MethodId) (r0 : Addr) : entryFrame m #[(.ref r0)] 1 = mkF m 0 #[.val (.ref r0)] [] := by first | (simp [entryFrame, mkF, argsToLocals, Value.category]; done) | rfl
set_option maxRecDepth 65536 in
set_option maxHeartbeats 40000000 in
theorem rmLn_0 (l : Launch) (Z : State) (a0 : Array Value) (hw : ∀ d ∈ tables_1, d.before a0 Z = true) (ws : List Jvm.Cond) (r0 : Addr) (b : Addr) (f : Nat → Value) (cs : Int32) (h0 : Heap) (n0 : Nat) (Z0 : n0 ≤ h0.size) (E_r0 : Exa Z h0 r0 "java/lang/String") (F_c : Fld Z h0 r0 "java/lang/String" "coder" "B" (.int (0 : Int32))) (F_v : Fld Z h0 r0 "java/lang/String" "value" "[B" (.ref b)) (E_b : Exa Z h0 b "[B") (A : Af Z h0 b .byte 0 f) (S_c : Sta Z h0 "java/lang/String" "COMPACT_STRINGS" "Z" (.int cs)) (hcs : ¬ cs = 0) :
    MetFree l (⟨"java/lang/String", "length", "()I"⟩ : MethodName) (head1 (Jvm.Cond.code (⟨"java/lang/String", "length", "()I"⟩ : MethodName) jdk_42_method_54_code 1 (some .int) :: ws) ({ frames := 1, cells := 0, slots := 0, locals := 14 } : Room)) (fun a U => a = #[(.ref r0)] ∧ Z.Warmed39 U.vm ∧ U.heap = h0) (fun _ _ _ _ _ => True) (fun _ U o U' => ∃ v L, o = .returned v ∧ QL 0 h0 n0 v U'.heap L ∧ FrameEnd U o U' L ({ frames := 1, cells := 0, slots := 0, locals := 14 } : Room).cells ({ frames := 1, cells := 0, slots := 0, locals := 14 } : Room).slots) := by
  refine MetFree.of_bodySF (plainFor_of_name own_pn_rmLn_0) hisR ?_
  intro p e s m args below meth cO s₁ Bd hml0 hP hK
  obtain ⟨rfl, hZ, hh⟩ := hP
  have hx := Bd.exec
  have hby := Bd.bytes
  have hD := @Jvm.hb _ _ hby
  have hml : cO.maxLocals = 1 := hml0
  have hown : s.vm.findClass "java/lang/String" = some m.cls := findClass_of_methodNamed Bd.named
  have hnm := (name_of_methodNamed Bd.named Bd.method).1
  have hlk : meth.locks = false := BodyLoose.notSynchronized Bd
  have X0 : Stand p l e ({ frames := 1, cells := 0, slots := 0, locals := 14 } : Room) s m #[(.ref r0)] below meth cO s₁ [] 0 0 := Stand.of_body Bd
  have e0 : s₁.heap = h0 := by rw [← hh, Bd.state]; rfl
  have N0 := Fr.nil n0
  refine own_in (own_ef_rmLn_0 m r0) ?_
  show Gm p e below s₁ m 0 #[rv r0] [] _
  refine own_go (fun t' k' => XS.aloadN X0.here hx rfl (hD d26_0) rfl rfl k') ?_
  show Gm p e below s₁ m 1 #[rv r0] [(.ref r0)] _
  obtain ⟨T1, X1, e1, st1⟩ := getF X0 hx hZ hown (host := "") (Or.inl (hw _ (List.mem_of_getElem? (i := 26) rfl))) Via.refl e0 F_v (g := (mkF m 1 #[rv r0] [(.ref r0)])) rfl rfl (hD d26_1)
  refine own_go st1 ?_
  show Gm p e below T1 m 4 #[rv r0] [(.ref b)] _
  refine own_go (fun t' k' => own_len X1 hx hZ e1 A (z := (0 : Int32)) rfl (g := (mkF m 4 #[rv r0] [(.ref b)])) rfl rfl (hD d26_4) k') ?_
  refine own_go (fun t' k' => XS.aloadN X1.here hx rfl (hD d26_5) rfl rfl k') ?_
  show Gm p e below T1 m 6 #[rv r0] [(.ref r0), (.int (0 : Int32))] _
  obtain ⟨cq2, kq2, q2a, q2b, q2c⟩ := isOf hZ e1 E_r0
  obtain ⟨_, _, ⟨T2, L2, k2, n2⟩, -, X2, ⟨Lc2, hQ2, l2, y2, z2⟩, st2⟩ := X1.virtualBack hx (y := (⟨"java/lang/String", "coder", "()B"⟩ : MethodName)) (z := (⟨"java/lang/String", "coder", "()B"⟩ : MethodName)) hown (mvT hZ (hw _ (List.mem_of_getElem? (i := 70) rfl))) (mvT hZ (hw _ (List.mem_of_getElem? (i := 71) rfl))) (notFace_of_selects (args := #[]) (mvT hZ (hw _ (List.mem_of_getElem? (i := 73) rfl)))) (mvT hZ (hw _ (List.mem_of_getElem? (i := 73) rfl))) (mvT hZ (hw _ (List.mem_of_getElem? (i := 72) rfl))) (by decide) (backOf (W := 1) (rmCo l Z a0 hw [] r0 cs h0 n0 Z0 S_c hcs F_c) hZ (hw _ (List.mem_of_getElem? (i := 74) rfl)) (hw _ (List.mem_of_getElem? (i := 6) rfl)) (by decide) (by decide)) q2a q2c (g := (mkF m 6 #[rv r0] [(.ref r0), (.int (0 : Int32))])) rfl (by rw [hml]; rfl) (Steps.refl _) (argsL := []) (rest := [(.int (0 : Int32))]) (lenOf own_pd12 rfl) rfl (by show 2 * 0 + _ ≤ _; exact Nat.le_of_eq rfl) (hD d26_6) (fun _ _ => ⟨rfl, e1, (by decide : 0 + 0 ≤ _), (by decide : 0 + 0 ≤ _)⟩)
  dsimp only [Pt.U, Pt.locs, Pt.cells, Pt.slots] at X2 l2 y2 z2 st2 hQ2
  subst l2 y2 z2
  obtain ⟨rfl, Nq2, eq2⟩ := hQ2
  have N2 := Fr.app N0 Nq2
  have e2 : T2.heap = h0 := eq2
  refine own_go (fun t k => st2.trans k) ?_
  refine own_go (fun t' k' => XS.ishr X2.here hx rfl (hD d26_9) rfl k') ?_
  show Gm p e below T2 m 10 #[rv r0] [(.int ((0 : Int32) >>> ((0 : Int32) &&& 31)))] _
  exact own_retI X2 hx hlk (t := .int) Bd.returns rfl (by simp) (hD d26_10) e2 ⟨(by decide +kernel), N2, rfl⟩ (by decide) (by decide)
theorem own_pn_rmLn_1 : plainName "java/lang/String" = true := by first | (simp [plainName, overriddenIn]; done) | decide +kernel
theorem own_ef_rmLn_1 (m : MethodId) (r0 : Addr) : entryFrame m #[(.ref r0)] 1 = mkF m 0 #[.val (.ref r0)] [] := by first | (simp [entryFrame, mkF, argsToLocals, Value.category]; done) | rfl
set_option maxRecDepth 65536 in
set_option maxHeartbeats 40000000 in
theorem rmLn_1 (l : Launch) (Z : State) (a0 : Array Value) (hw : ∀ d ∈ tables_1, d.before a0 Z = true) (ws : List Jvm.Cond) (r0 : Addr) (b : Addr) (f : Nat → Value) (cs : Int32) (h0 : Heap) (n0 : Nat) (Z0 : n0 ≤ h0.size) (E_r0 : Exa Z h0 r0 "java/lang/String") (F_c : Fld Z h0 r0 "java/lang/String" "coder" "B" (.int (0 : Int32))) (F_v : Fld Z h0 r0 "java/lang/String" "value" "[B" (.ref b)) (E_b : Exa Z h0 b "[B") (A : Af Z h0 b .byte 1 f) (S_c : Sta Z h0 "java/lang/String" "COMPACT_STRINGS" "Z" (.int cs)) (hcs : ¬ cs = 0) :
    MetFree l (⟨"java/lang/String", "length", "()I"⟩ : MethodName) (head1 (Jvm.Cond.code (⟨"java/lang/String", "length", "()I"⟩ : MethodName) jdk_42_method_54_code 1 (some .int) :: ws) ({ frames := 1, cells := 0, slots := 0, locals := 14 } : Room)) (fun a U => a = #[(.ref r0)] ∧ Z.Warmed39 U.vm ∧ U.heap = h0) (fun _ _ _ _ _ => True) (fun _ U o U' => ∃ v L, o = .returned v ∧ QL 1 h0 n0 v U'.heap L ∧ FrameEnd U o U' L ({ frames := 1, cells := 0, slots := 0, locals := 14 } : Room).cells ({ frames := 1, cells := 0, slots := 0, locals := 14 } : Room).slots) := by
  refine MetFree.of_bodySF (plainFor_of_name own_pn_rmLn_1) hisR ?_
  intro p e s m args below meth cO s₁ Bd hml0 hP hK
  obtain ⟨rfl, hZ, hh⟩ := hP
  have hx := Bd.exec
  have hby := Bd.bytes
  have hD := @Jvm.hb _ _ hby
  have hml : cO.maxLocals = 1 := hml0
  have hown : s.vm.findClass "java/lang/String" = some m.cls := findClass_of_methodNamed Bd.named
  have hnm := (name_of_methodNamed Bd.named Bd.method).1
  have hlk : meth.locks = false := BodyLoose.notSynchronized Bd
  have X0 : Stand p l e ({ frames := 1, cells := 0, slots := 0, locals := 14 } : Room) s m #[(.ref r0)] below meth cO s₁ [] 0 0 := Stand.of_body Bd
  have e0 : s₁.heap = h0 := by rw [← hh, Bd.state]; rfl
  have N0 := Fr.nil n0
  refine own_in (own_ef_rmLn_1 m r0) ?_
  show Gm p e below s₁ m 0 #[rv r0] [] _
  refine own_go (fun t' k' => XS.aloadN X0.here hx rfl (hD d26_0) rfl rfl k') ?_
  show Gm p e below s₁ m 1 #[rv r0] [(.ref r0)] _
  obtain ⟨T1, X1, e1, st1⟩ := getF X0 hx hZ hown (host := "") (Or.inl (hw _ (List.mem_of_getElem? (i := 26) rfl))) Via.refl e0 F_v (g := (mkF m 1 #[rv r0] [(.ref r0)])) rfl rfl (hD d26_1)
  refine own_go st1 ?_
  show Gm p e below T1 m 4 #[rv r0] [(.ref b)] _
  refine own_go (fun t' k' => own_len X1 hx hZ e1 A (z := (1 : Int32)) rfl (g := (mkF m 4 #[rv r0] [(.ref b)])) rfl rfl (hD d26_4) k') ?_
  refine own_go (fun t' k' => XS.aloadN X1.here hx rfl (hD d26_5) rfl rfl k') ?_
  show Gm p e below T1 m 6 #[rv r0] [(.ref r0), (.int (1 : Int32))] _
  obtain ⟨cq2, kq2, q2a, q2b, q2c⟩ := isOf hZ e1 E_r0
  obtain ⟨_, _, ⟨T2, L2, k2, n2⟩, -, X2, ⟨Lc2, hQ2, l2, y2, z2⟩, st2⟩ := X1.virtualBack hx (y := (⟨"java/lang/String", "coder", "()B"⟩ : MethodName)) (z := (⟨"java/lang/String", "coder", "()B"⟩ : MethodName)) hown (mvT hZ (hw _ (List.mem_of_getElem? (i := 70) rfl))) (mvT hZ (hw _ (List.mem_of_getElem? (i := 71) rfl))) (notFace_of_selects (args := #[]) (mvT hZ (hw _ (List.mem_of_getElem? (i := 73) rfl)))) (mvT hZ (hw _ (List.mem_of_getElem? (i := 73) rfl))) (mvT hZ (hw _ (List.mem_of_getElem? (i := 72) rfl))) (by decide) (backOf (W := 1) (rmCo l Z a0 hw [] r0 cs h0 n0 Z0 S_c hcs F_c) hZ (hw _ (List.mem_of_getElem? (i := 74) rfl)) (hw _ (List.mem_of_getElem? (i := 6) rfl)) (by decide) (by decide)) q2a q2c (g := (mkF m 6 #[rv r0] [(.ref r0), (.int (1 : Int32))])) rfl (by rw [hml]; rfl) (Steps.refl _) (argsL := []) (rest := [(.int (1 : Int32))]) (lenOf own_pd12 rfl) rfl (by show 2 * 0 + _ ≤ _; exact Nat.le_of_eq rfl) (hD d26_6) (fun _ _ => ⟨rfl, e1, (by decide : 0 + 0 ≤ _), (by decide : 0 + 0 ≤ _)⟩)
  dsimp only [Pt.U, Pt.locs, Pt.cells, Pt.slots] at X2 l2 y2 z2 st2 hQ2
  subst l2 y2 z2
  obtain ⟨rfl, Nq2, eq2⟩ := hQ2
  have N2 := Fr.app N0 Nq2
  have e2 : T2.heap = h0 := eq2
  refine own_go (fun t k => st2.trans k) ?_
  refine own_go (fun t' k' => XS.ishr X2.here hx rfl (hD d26_9) rfl k') ?_
  show Gm p e below T2 m 10 #[rv r0] [(.int ((1 : Int32) >>> ((0 : Int32) &&& 31)))] _
  exact own_retI X2 hx hlk (t := .int) Bd.returns rfl (by simp) (hD d26_10) e2 ⟨(by decide +kernel), N2, rfl⟩ (by decide) (by decide)
theorem own_pn_rmLn_2 : plainName "java/lang/String" = true := by first | (simp [plainName, overriddenIn]; done) | decide +kernel
theorem own_ef_rmLn_2 (m : MethodId) (r0 : Addr) : entryFrame m #[(.ref r0)] 1 = mkF m 0 #[.val (.ref r0)] [] := by first | (simp [entryFrame, mkF, argsToLocals, Value.category]; done) | rfl
set_option maxRecDepth 65536 in
set_option maxHeartbeats 40000000 in
theorem rmLn_2 (l : Launch) (Z : State) (a0 : Array Value) (hw : ∀ d ∈ tables_1, d.before a0 Z = true) (ws : List Jvm.Cond) (r0 : Addr) (b : Addr) (f : Nat → Value) (cs : Int32) (h0 : Heap) (n0 : Nat) (Z0 : n0 ≤ h0.size) (E_r0 : Exa Z h0 r0 "java/lang/String") (F_c : Fld Z h0 r0 "java/lang/String" "coder" "B" (.int (0 : Int32))) (F_v : Fld Z h0 r0 "java/lang/String" "value" "[B" (.ref b)) (E_b : Exa Z h0 b "[B") (A : Af Z h0 b .byte 2 f) (S_c : Sta Z h0 "java/lang/String" "COMPACT_STRINGS" "Z" (.int cs)) (hcs : ¬ cs = 0) :
    MetFree l (⟨"java/lang/String", "length", "()I"⟩ : MethodName) (head1 (Jvm.Cond.code (⟨"java/lang/String", "length", "()I"⟩ : MethodName) jdk_42_method_54_code 1 (some .int) :: ws) ({ frames := 1, cells := 0, slots := 0, locals := 14 } : Room)) (fun a U => a = #[(.ref r0)] ∧ Z.Warmed39 U.vm ∧ U.heap = h0) (fun _ _ _ _ _ => True) (fun _ U o U' => ∃ v L, o = .returned v ∧ QL 2 h0 n0 v U'.heap L ∧ FrameEnd U o U' L ({ frames := 1, cells := 0, slots := 0, locals := 14 } : Room).cells ({ frames := 1, cells := 0, slots := 0, locals := 14 } : Room).slots) := by
  refine MetFree.of_bodySF (plainFor_of_name own_pn_rmLn_2) hisR ?_
  intro p e s m args below meth cO s₁ Bd hml0 hP hK
  obtain ⟨rfl, hZ, hh⟩ := hP
  have hx := Bd.exec
  have hby := Bd.bytes
  have hD := @Jvm.hb _ _ hby
  have hml : cO.maxLocals = 1 := hml0
  have hown : s.vm.findClass "java/lang/String" = some m.cls := findClass_of_methodNamed Bd.named
  have hnm := (name_of_methodNamed Bd.named Bd.method).1
  have hlk : meth.locks = false := BodyLoose.notSynchronized Bd
  have X0 : Stand p l e ({ frames := 1, cells := 0, slots := 0, locals := 14 } : Room) s m #[(.ref r0)] below meth cO s₁ [] 0 0 := Stand.of_body Bd
  have e0 : s₁.heap = h0 := by rw [← hh, Bd.state]; rfl
  have N0 := Fr.nil n0
  refine own_in (own_ef_rmLn_2 m r0) ?_
  show Gm p e below s₁ m 0 #[rv r0] [] _
  refine own_go (fun t' k' => XS.aloadN X0.here hx rfl (hD d26_0) rfl rfl k') ?_
  show Gm p e below s₁ m 1 #[rv r0] [(.ref r0)] _
  obtain ⟨T1, X1, e1, st1⟩ := getF X0 hx hZ hown (host := "") (Or.inl (hw _ (List.mem_of_getElem? (i := 26) rfl))) Via.refl e0 F_v (g := (mkF m 1 #[rv r0] [(.ref r0)])) rfl rfl (hD d26_1)
  refine own_go st1 ?_
  show Gm p e below T1 m 4 #[rv r0] [(.ref b)] _
  refine own_go (fun t' k' => own_len X1 hx hZ e1 A (z := (2 : Int32)) rfl (g := (mkF m 4 #[rv r0] [(.ref b)])) rfl rfl (hD d26_4) k') ?_
  refine own_go (fun t' k' => XS.aloadN X1.here hx rfl (hD d26_5) rfl rfl k') ?_
  show Gm p e below T1 m 6 #[rv r0] [(.ref r0), (.int (2 : Int32))] _
  obtain ⟨cq2, kq2, q2a, q2b, q2c⟩ := isOf hZ e1 E_r0
  obtain ⟨_, _, ⟨T2, L2, k2, n2⟩, -, X2, ⟨Lc2, hQ2, l2, y2, z2⟩, st2⟩ := X1.virtualBack hx (y := (⟨"java/lang/String", "coder", "()B"⟩ : MethodName)) (z := (⟨"java/lang/String", "coder", "()B"⟩ : MethodName)) hown (mvT hZ (hw _ (List.mem_of_getElem? (i := 70) rfl))) (mvT hZ (hw _ (List.mem_of_getElem? (i := 71) rfl))) (notFace_of_selects (args := #[]) (mvT hZ (hw _ (List.mem_of_getElem? (i := 73) rfl)))) (mvT hZ (hw _ (List.mem_of_getElem? (i := 73) rfl))) (mvT hZ (hw _ (List.mem_of_getElem? (i := 72) rfl))) (by decide) (backOf (W := 1) (rmCo l Z a0 hw [] r0 cs h0 n0 Z0 S_c hcs F_c) hZ (hw _ (List.mem_of_getElem? (i := 74) rfl)) (hw _ (List.mem_of_getElem? (i := 6) rfl)) (by decide) (by decide)) q2a q2c (g := (mkF m 6 #[rv r0] [(.ref r0), (.int (2 : Int32))])) rfl (by rw [hml]; rfl) (Steps.refl _) (argsL := []) (rest := [(.int (2 : Int32))]) (lenOf own_pd12 rfl) rfl (by show 2 * 0 + _ ≤ _; exact Nat.le_of_eq rfl) (hD d26_6) (fun _ _ => ⟨rfl, e1, (by decide : 0 + 0 ≤ _), (by decide : 0 + 0 ≤ _)⟩)
  dsimp only [Pt.U, Pt.locs, Pt.cells, Pt.slots] at X2 l2 y2 z2 st2 hQ2
  subst l2 y2 z2
  obtain ⟨rfl, Nq2, eq2⟩ := hQ2
  have N2 := Fr.app N0 Nq2
  have e2 : T2.heap = h0 := eq2
  refine own_go (fun t k => st2.trans k) ?_
  refine own_go (fun t' k' => XS.ishr X2.here hx rfl (hD d26_9) rfl k') ?_
  show Gm p e below T2 m 10 #[rv r0] [(.int ((2 : Int32) >>> ((0 : Int32) &&& 31)))] _
  exact own_retI X2 hx hlk (t := .int) Bd.returns rfl (by simp) (hD d26_10) e2 ⟨(by decide +kernel), N2, rfl⟩ (by decide) (by decide)
theorem own_pn_rmLn_3 : plainName "java/lang/String" = true := by first | (simp [plainName, overriddenIn]; done) | decide +kernel
theorem own_ef_rmLn_3 (m : MethodId) (r0 : Addr) : entryFrame m #[(.ref r0)] 1 = mkF m 0 #[.val (.ref r0)] [] := by first | (simp [entryFrame, mkF, argsToLocals, Value.category]; done) | rfl
set_option maxRecDepth 65536 in
set_option maxHeartbeats 40000000 in
theorem rmLn_3 (l : Launch) (Z : State) (a0 : Array Value) (hw : ∀ d ∈ tables_1, d.before a0 Z = true) (ws : List Jvm.Cond) (r0 : Addr) (b : Addr) (f : Nat → Value) (cs : Int32) (h0 : Heap) (n0 : Nat) (Z0 : n0 ≤ h0.size) (E_r0 : Exa Z h0 r0 "java/lang/String") (F_c : Fld Z h0 r0 "java/lang/String" "coder" "B" (.int (0 : Int32))) (F_v : Fld Z h0 r0 "java/lang/String" "value" "[B" (.ref b)) (E_b : Exa Z h0 b "[B") (A : Af Z h0 b .byte 3 f) (S_c : Sta Z h0 "java/lang/String" "COMPACT_STRINGS" "Z" (.int cs)) (hcs : ¬ cs = 0) :
    MetFree l (⟨"java/lang/String", "length", "()I"⟩ : MethodName) (head1 (Jvm.Cond.code (⟨"java/lang/String", "length", "()I"⟩ : MethodName) jdk_42_method_54_code 1 (some .int) :: ws) ({ frames := 1, cells := 0, slots := 0, locals := 14 } : Room)) (fun a U => a = #[(.ref r0)] ∧ Z.Warmed39 U.vm ∧ U.heap = h0) (fun _ _ _ _ _ => True) (fun _ U o U' => ∃ v L, o = .returned v ∧ QL 3 h0 n0 v U'.heap L ∧ FrameEnd U o U' L ({ frames := 1, cells := 0, slots := 0, locals := 14 } : Room).cells ({ frames := 1, cells := 0, slots := 0, locals := 14 } : Room).slots) := by
  refine MetFree.of_bodySF (plainFor_of_name own_pn_rmLn_3) hisR ?_
  intro p e s m args below meth cO s₁ Bd hml0 hP hK
  obtain ⟨rfl, hZ, hh⟩ := hP
  have hx := Bd.exec
  have hby := Bd.bytes
  have hD := @Jvm.hb _ _ hby
  have hml : cO.maxLocals = 1 := hml0
  have hown : s.vm.findClass "java/lang/String" = some m.cls := findClass_of_methodNamed Bd.named
  have hnm := (name_of_methodNamed Bd.named Bd.method).1
  have hlk : meth.locks = false := BodyLoose.notSynchronized Bd
  have X0 : Stand p l e ({ frames := 1, cells := 0, slots := 0, locals := 14 } : Room) s m #[(.ref r0)] below meth cO s₁ [] 0 0 := Stand.of_body Bd
  have e0 : s₁.heap = h0 := by rw [← hh, Bd.state]; rfl
  have N0 := Fr.nil n0
  refine own_in (own_ef_rmLn_3 m r0) ?_
  show Gm p e below s₁ m 0 #[rv r0] [] _
  refine own_go (fun t' k' => XS.aloadN X0.here hx rfl (hD d26_0) rfl rfl k') ?_
  show Gm p e below s₁ m 1 #[rv r0] [(.ref r0)] _
  obtain ⟨T1, X1, e1, st1⟩ := getF X0 hx hZ hown (host := "") (Or.inl (hw _ (List.mem_of_getElem? (i := 26) rfl))) Via.refl e0 F_v (g := (mkF m 1 #[rv r0] [(.ref r0)])) rfl rfl (hD d26_1)
  refine own_go st1 ?_
  show Gm p e below T1 m 4 #[rv r0] [(.ref b)] _
  refine own_go (fun t' k' => own_len X1 hx hZ e1 A (z := (3 : Int32)) rfl (g := (mkF m 4 #[rv r0] [(.ref b)])) rfl rfl (hD d26_4) k') ?_
  refine own_go (fun t' k' => XS.aloadN X1.here hx rfl (hD d26_5) rfl rfl k') ?_
  show Gm p e below T1 m 6 #[rv r0] [(.ref r0), (.int (3 : Int32))] _
  obtain ⟨cq2, kq2, q2a, q2b, q2c⟩ := isOf hZ e1 E_r0
  obtain ⟨_, _, ⟨T2, L2, k2, n2⟩, -, X2, ⟨Lc2, hQ2, l2, y2, z2⟩, st2⟩ := X1.virtualBack hx (y := (⟨"java/lang/String", "coder", "()B"⟩ : MethodName)) (z := (⟨"java/lang/String", "coder", "()B"⟩ : MethodName)) hown (mvT hZ (hw _ (List.mem_of_getElem? (i := 70) rfl))) (mvT hZ (hw _ (List.mem_of_getElem? (i := 71) rfl))) (notFace_of_selects (args := #[]) (mvT hZ (hw _ (List.mem_of_getElem? (i := 73) rfl)))) (mvT hZ (hw _ (List.mem_of_getElem? (i := 73) rfl))) (mvT hZ (hw _ (List.mem_of_getElem? (i := 72) rfl))) (by decide) (backOf (W := 1) (rmCo l Z a0 hw [] r0 cs h0 n0 Z0 S_c hcs F_c) hZ (hw _ (List.mem_of_getElem? (i := 74) rfl)) (hw _ (List.mem_of_getElem? (i := 6) rfl)) (by decide) (by decide)) q2a q2c (g := (mkF m 6 #[rv r0] [(.ref r0), (.int (3 : Int32))])) rfl (by rw [hml]; rfl) (Steps.refl _) (argsL := []) (rest := [(.int (3 : Int32))]) (lenOf own_pd12 rfl) rfl (by show 2 * 0 + _ ≤ _; exact Nat.le_of_eq rfl) (hD d26_6) (fun _ _ => ⟨rfl, e1, (by decide : 0 + 0 ≤ _), (by decide : 0 + 0 ≤ _)⟩)
  dsimp only [Pt.U, Pt.locs, Pt.cells, Pt.slots] at X2 l2 y2 z2 st2 hQ2
  subst l2 y2 z2
  obtain ⟨rfl, Nq2, eq2⟩ := hQ2
  have N2 := Fr.app N0 Nq2
  have e2 : T2.heap = h0 := eq2
  refine own_go (fun t k => st2.trans k) ?_
  refine own_go (fun t' k' => XS.ishr X2.here hx rfl (hD d26_9) rfl k') ?_
  show Gm p e below T2 m 10 #[rv r0] [(.int ((3 : Int32) >>> ((0 : Int32) &&& 31)))] _
  exact own_retI X2 hx hlk (t := .int) Bd.returns rfl (by simp) (hD d26_10) e2 ⟨(by decide +kernel), N2, rfl⟩ (by decide) (by decide)
theorem own_pn_rmLn_4 : plainName "java/lang/String" = true := by first | (simp [plainName, overriddenIn]; done) | decide +kernel
theorem own_ef_rmLn_4 (m : MethodId) (r0 : Addr) : entryFrame m #[(.ref r0)] 1 = mkF m 0 #[.val (.ref r0)] [] := by first | (simp [entryFrame, mkF, argsToLocals, Value.category]; done) | rfl
set_option maxRecDepth 65536 in
set_option maxHeartbeats 40000000 in
theorem rmLn_4 (l : Launch) (Z : State) (a0 : Array Value) (hw : ∀ d ∈ tables_1, d.before a0 Z = true) (ws : List Jvm.Cond) (r0 : Addr) (b : Addr) (f : Nat → Value) (cs : Int32) (h0 : Heap) (n0 : Nat) (Z0 : n0 ≤ h0.size) (E_r0 : Exa Z h0 r0 "java/lang/String") (F_c : Fld Z h0 r0 "java/lang/String" "coder" "B" (.int (0 : Int32))) (F_v : Fld Z h0 r0 "java/lang/String" "value" "[B" (.ref b)) (E_b : Exa Z h0 b "[B") (A : Af Z h0 b .byte 4 f) (S_c : Sta Z h0 "java/lang/String" "COMPACT_STRINGS" "Z" (.int cs)) (hcs : ¬ cs = 0) :
    MetFree l (⟨"java/lang/String", "length", "()I"⟩ : MethodName) (head1 (Jvm.Cond.code (⟨"java/lang/String", "length", "()I"⟩ : MethodName) jdk_42_method_54_code 1 (some .int) :: ws) ({ frames := 1, cells := 0, slots := 0, locals := 14 } : Room)) (fun a U => a = #[(.ref r0)] ∧ Z.Warmed39 U.vm ∧ U.heap = h0) (fun _ _ _ _ _ => True) (fun _ U o U' => ∃ v L, o = .returned v ∧ QL 4 h0 n0 v U'.heap L ∧ FrameEnd U o U' L ({ frames := 1, cells := 0, slots := 0, locals := 14 } : Room).cells ({ frames := 1, cells := 0, slots := 0, locals := 14 } : Room).slots) := by
  refine MetFree.of_bodySF (plainFor_of_name own_pn_rmLn_4) hisR ?_
  intro p e s m args below meth cO s₁ Bd hml0 hP hK
  obtain ⟨rfl, hZ, hh⟩ := hP
  have hx := Bd.exec
  have hby := Bd.bytes
  have hD := @Jvm.hb _ _ hby
  have hml : cO.maxLocals = 1 := hml0
  have hown : s.vm.findClass "java/lang/String" = some m.cls := findClass_of_methodNamed Bd.named
  have hnm := (name_of_methodNamed Bd.named Bd.method).1
  have hlk : meth.locks = false := BodyLoose.notSynchronized Bd
  have X0 : Stand p l e ({ frames := 1, cells := 0, slots := 0, locals := 14 } : Room) s m #[(.ref r0)] below meth cO s₁ [] 0 0 := Stand.of_body Bd
  have e0 : s₁.heap = h0 := by rw [← hh, Bd.state]; rfl
  have N0 := Fr.nil n0
  refine own_in (own_ef_rmLn_4 m r0) ?_
  show Gm p e below s₁ m 0 #[rv r0] [] _
  refine own_go (fun t' k' => XS.aloadN X0.here hx rfl (hD d26_0) rfl rfl k') ?_
  show Gm p e below s₁ m 1 #[rv r0] [(.ref r0)] _
  obtain ⟨T1, X1, e1, st1⟩ := getF X0 hx hZ hown (host := "") (Or.inl (hw _ (List.mem_of_getElem? (i := 26) rfl))) Via.refl e0 F_v (g := (mkF m 1 #[rv r0] [(.ref r0)])) rfl rfl (hD d26_1)
  refine own_go st1 ?_
  show Gm p e below T1 m 4 #[rv r0] [(.ref b)] _
  refine own_go (fun t' k' => own_len X1 hx hZ e1 A (z := (4 : Int32)) rfl (g := (mkF m 4 #[rv r0] [(.ref b)])) rfl rfl (hD d26_4) k') ?_
  refine own_go (fun t' k' => XS.aloadN X1.here hx rfl (hD d26_5) rfl rfl k') ?_
  show Gm p e below T1 m 6 #[rv r0] [(.ref r0), (.int (4 : Int32))] _
  obtain ⟨cq2, kq2, q2a, q2b, q2c⟩ := isOf hZ e1 E_r0
  obtain ⟨_, _, ⟨T2, L2, k2, n2⟩, -, X2, ⟨Lc2, hQ2, l2, y2, z2⟩, st2⟩ := X1.virtualBack hx (y := (⟨"java/lang/String", "coder", "()B"⟩ : MethodName)) (z := (⟨"java/lang/String", "coder", "()B"⟩ : MethodName)) hown (mvT hZ (hw _ (List.mem_of_getElem? (i := 70) rfl))) (mvT hZ (hw _ (List.mem_of_getElem? (i := 71) rfl))) (notFace_of_selects (args := #[]) (mvT hZ (hw _ (List.mem_of_getElem? (i := 73) rfl)))) (mvT hZ (hw _ (List.mem_of_getElem? (i := 73) rfl))) (mvT hZ (hw _ (List.mem_of_getElem? (i := 72) rfl))) (by decide) (backOf (W := 1) (rmCo l Z a0 hw [] r0 cs h0 n0 Z0 S_c hcs F_c) hZ (hw _ (List.mem_of_getElem? (i := 74) rfl)) (hw _ (List.mem_of_getElem? (i := 6) rfl)) (by decide) (by decide)) q2a q2c (g := (mkF m 6 #[rv r0] [(.ref r0), (.int (4 : Int32))])) rfl (by rw [hml]; rfl) (Steps.refl _) (argsL := []) (rest := [(.int (4 : Int32))]) (lenOf own_pd12 rfl) rfl (by show 2 * 0 + _ ≤ _; exact Nat.le_of_eq rfl) (hD d26_6) (fun _ _ => ⟨rfl, e1, (by decide : 0 + 0 ≤ _), (by decide : 0 + 0 ≤ _)⟩)
  dsimp only [Pt.U, Pt.locs, Pt.cells, Pt.slots] at X2 l2 y2 z2 st2 hQ2
  subst l2 y2 z2
  obtain ⟨rfl, Nq2, eq2⟩ := hQ2
  have N2 := Fr.app N0 Nq2
  have e2 : T2.heap = h0 := eq2
  refine own_go (fun t k => st2.trans k) ?_
  refine own_go (fun t' k' => XS.ishr X2.here hx rfl (hD d26_9) rfl k') ?_
  show Gm p e below T2 m 10 #[rv r0] [(.int ((4 : Int32) >>> ((0 : Int32) &&& 31)))] _
  exact own_retI X2 hx hlk (t := .int) Bd.returns rfl (by simp) (hD d26_10) e2 ⟨(by decide +kernel), N2, rfl⟩ (by decide) (by decide)
theorem rmLn (l : Launch) (Z : State) (a0 : Array Value) (hw : ∀ d ∈ tables_1, d.before a0 Z = true) (ws : List Jvm.Cond) (r0 : Addr) (n : Nat) (b : Addr) (f : Nat → Value) (cs : Int32) (h0 : Heap) (n0 : Nat) (Z0 : n0 ≤ h0.size) (hn : n ≤ 4) (E_r0 : Exa Z h0 r0 "java/lang/String") (F_c : Fld Z h0 r0 "java/lang/String" "coder" "B" (.int (0 : Int32))) (F_v : Fld Z h0 r0 "java/lang/String" "value" "[B" (.ref b)) (E_b : Exa Z h0 b "[B") (A : Af Z h0 b .byte n f) (S_c : Sta Z h0 "java/lang/String" "COMPACT_STRINGS" "Z" (.int cs)) (hcs : ¬ cs = 0) :
    MetFree l (⟨"java/lang/String", "length", "()I"⟩ : MethodName) (head1 (Jvm.Cond.code (⟨"java/lang/String", "length", "()I"⟩ : MethodName) jdk_42_method_54_code 1 (some .int) :: ws) ({ frames := 1, cells := 0, slots := 0, locals := 14 } : Room)) (fun a U => a = #[.ref r0] ∧ Z.Warmed39 U.vm ∧ U.heap = h0) (fun _ _ _ _ _ => True) (fun _ U o U' => ∃ v L, o = .returned v ∧ QL n h0 n0 v U'.heap L ∧ FrameEnd U o U' L ({ frames := 1, cells := 0, slots := 0, locals := 14 } : Room).cells ({ frames := 1, cells := 0, slots := 0, locals := 14 } : Room).slots) := by
  rcases (by omega : n = 0 ∨ n = 1 ∨ n = 2 ∨ n = 3 ∨ n = 4) with rfl | rfl | rfl | rfl | rfl
  · exact rmLn_0 l Z a0 hw ws r0 b f cs h0 n0 Z0 E_r0 F_c F_v E_b A S_c hcs
  · exact rmLn_1 l Z a0 hw ws r0 b f cs h0 n0 Z0 E_r0 F_c F_v E_b A S_c hcs
  · exact rmLn_2 l Z a0 hw ws r0 b f cs h0 n0 Z0 E_r0 F_c F_v E_b A S_c hcs
  · exact rmLn_3 l Z a0 hw ws r0 b f cs h0 n0 Z0 E_r0 F_c F_v E_b A S_c hcs
  · exact rmLn_4 l Z a0 hw ws r0 b f cs h0 n0 Z0 E_r0 F_c F_v E_b A S_c hcs
def QZ (h0 : Heap) (n0 : Nat) (v : Option Value) (h : Heap) (L : List Loc) : Prop := ∃ z : Int32, v = some (.int z) ∧ Fr n0 L ∧ h = h0
theorem d18_0 : decode prog_65_method_15_code 0 = .ok (.iconst 0, 1) := by decide +kernel
theorem d18_1 : decode prog_65_method_15_code 1 = .ok (.istore_n 3, 1) := by decide +kernel
theorem d18_2 : decode prog_65_method_15_code 2 = .ok (.iload_n 1, 1) := by decide +kernel
theorem d18_3 : decode prog_65_method_15_code 3 = .ok (.istore 4, 2) := by decide +kernel
theorem d18_5 : decode prog_65_method_15_code 5 = .ok (.iload 4, 2) := by decide +kernel
theorem d18_7 : decode prog_65_method_15_code 7 = .ok (.iload_n 1, 1) := by decide +kernel
theorem d18_8 : decode prog_65_method_15_code 8 = .ok (.iload_n 2, 1) := by decide +kernel
theorem d18_9 : decode prog_65_method_15_code 9 = .ok (.iadd, 1) := by decide +kernel
theorem d18_10 : decode prog_65_method_15_code 10 = .ok (.if_icmp .ge 19, 3) := by decide +kernel
theorem d18_13 : decode prog_65_method_15_code 13 = .ok (.bipush 31, 2) := by decide +kernel
theorem d18_15 : decode prog_65_method_15_code 15 = .ok (.iload_n 3, 1) := by decide +kernel
theorem d18_16 : decode prog_65_method_15_code 16 = .ok (.imul, 1) := by decide +kernel
theorem d18_17 : decode prog_65_method_15_code 17 = .ok (.aload_n 0, 1) := by decide +kernel
theorem d18_18 : decode prog_65_method_15_code 18 = .ok (.iload 4, 2) := by decide +kernel
theorem d18_20 : decode prog_65_method_15_code 20 = .ok (.baload, 1) := by decide +kernel
theorem d18_21 : decode prog_65_method_15_code 21 = .ok (.iadd, 1) := by decide +kernel
theorem d18_22 : decode prog_65_method_15_code 22 = .ok (.istore_n 3, 1) := by decide +kernel
theorem d18_23 : decode prog_65_method_15_code 23 = .ok (.iinc 4 1, 3) := by decide +kernel
theorem d18_26 : decode prog_65_method_15_code 26 = .ok (.goto (-21), 3) := by decide +kernel
theorem d18_29 : decode prog_65_method_15_code 29 = .ok (.iload_n 3, 1) := by decide +kernel
theorem d18_30 : decode prog_65_method_15_code 30 = .ok (.ireturn, 1) := by decide +kernel
theorem own_pn_rmHa : plainName "com/example/design_drills/designdrills/service/listens/IdNumbers" = true := by first | (simp [plainName, overriddenIn]; done) | decide +kernel
theorem own_ef_rmHa (m : MethodId) (r0 : Addr) (p2 : Int32) : entryFrame m #[(.ref r0), (.int (0 : Int32)), (.int p2)] 5 = mkF m 0 #[.val (.ref r0), .val (.int (0 : Int32)), .val (.int p2), .unset, .unset] [] := by first | (simp [entryFrame, mkF, argsToLocals, Value.category]; done) | rfl
set_option maxRecDepth 65536 in
set_option maxHeartbeats 40000000 in
theorem rmHa (l : Launch) (Z : State) (a0 : Array Value) (hw : ∀ d ∈ tables_1, d.before a0 Z = true) (ws : List Jvm.Cond) (r0 : Addr) (p2 : Int32) (n : Nat) (f : Nat → Value) (h0 : Heap) (n0 : Nat) (Z0 : n0 ≤ h0.size) (hn : n ≤ 4) (hp : p2 = n.toInt32) (A : Af Z h0 r0 .byte n f) :
    MetFree l (⟨"com/example/design_drills/designdrills/service/listens/IdNumbers", "hash", "([BII)I"⟩ : MethodName) (head1 (Jvm.Cond.code (⟨"com/example/design_drills/designdrills/service/listens/IdNumbers", "hash", "([BII)I"⟩ : MethodName) prog_65_method_15_code 5 (some .int) :: ws) ({ frames := 0, cells := 0, slots := 0, locals := 0 } : Room)) (fun a U => a = #[(.ref r0), (.int (0 : Int32)), (.int p2)] ∧ Z.Warmed39 U.vm ∧ U.heap = h0) (fun _ _ _ _ _ => True) (fun _ U o U' => ∃ v L, o = .returned v ∧ QZ h0 n0 v U'.heap L ∧ FrameEnd U o U' L ({ frames := 0, cells := 0, slots := 0, locals := 0 } : Room).cells ({ frames := 0, cells := 0, slots := 0, locals := 0 } : Room).slots) := by
  refine MetFree.of_bodySF (plainFor_of_name own_pn_rmHa) hisR ?_
  intro p e s m args below meth cO s₁ Bd hml0 hP hK
  obtain ⟨rfl, hZ, hh⟩ := hP
  have hx := Bd.exec
  have hby := Bd.bytes
  have hD := @Jvm.hb _ _ hby
  have hml : cO.maxLocals = 5 := hml0
  have hown : s.vm.findClass "com/example/design_drills/designdrills/service/listens/IdNumbers" = some m.cls := findClass_of_methodNamed Bd.named
  have hnm := (name_of_methodNamed Bd.named Bd.method).1
  have hlk : meth.locks = false := BodyLoose.notSynchronized Bd
  have X0 : Stand p l e ({ frames := 0, cells := 0, slots := 0, locals := 0 } : Room) s m #[(.ref r0), (.int (0 : Int32)), (.int p2)] below meth cO s₁ [] 0 0 := Stand.of_body Bd
  have e0 : s₁.heap = h0 := by rw [← hh, Bd.state]; rfl
  have N0 := Fr.nil n0
  refine own_in (own_ef_rmHa m r0 p2) ?_
  show Gm p e below s₁ m 0 #[rv r0, iv (0 : Int32), iv p2, .unset, .unset] [] _
  refine own_go (fun t' k' => XS.iconst X0.here hx rfl (hD d18_0) k') ?_
  refine own_go (fun t' k' => XS.istoreN X0.here hx rfl (hD d18_1) rfl (l' := #[rv r0, iv (0 : Int32), iv p2, iv (0 : Int32), .unset]) rfl k') ?_
  refine own_go (fun t' k' => XS.iloadN X0.here hx rfl (hD d18_2) rfl k') ?_
  show Gm p e below s₁ m 3 #[rv r0, iv (0 : Int32), iv p2, iv (0 : Int32), .unset] [(.int (0 : Int32))] _
  refine own_go (fun t' k' => XS.istore X0.here hx rfl (hD d18_3) rfl (l' := #[rv r0, iv (0 : Int32), iv p2, iv (0 : Int32), iv (0 : Int32)]) rfl k') ?_
  have lp : ∀ (d i : Nat) (z w3 : Int32), z = i.toInt32 → i + d = n → Gm p e below s₁ m 5 #[rv r0, iv (0 : Int32), iv p2, iv w3, iv z] [] (fun t o => t.status = .running ∧ Ended t below o ∧ ∃ v L, o = .returned v ∧ QZ h0 n0 v t.heap L ∧ FrameEnd s o t L ({ frames := 0, cells := 0, slots := 0, locals := 0 } : Room).cells ({ frames := 0, cells := 0, slots := 0, locals := 0 } : Room).slots) := by
    intro d
    induction d with
    | zero =>
      intro i z w3 hz hi
      show Gm p e below s₁ m 5 #[rv r0, iv (0 : Int32), iv p2, iv w3, iv z] [] _
      refine own_go (fun t' k' => XS.iload X0.here hx rfl (hD d18_5) rfl k') ?_
      refine own_go (fun t' k' => XS.iloadN X0.here hx rfl (hD d18_7) rfl k') ?_
      refine own_go (fun t' k' => XS.iloadN X0.here hx rfl (hD d18_8) rfl k') ?_
      show Gm p e below s₁ m 9 #[rv r0, iv (0 : Int32), iv p2, iv w3, iv z] [(.int p2), (.int (0 : Int32)), (.int z)] _
      refine own_go (fun t' k' => XS.iadd X0.here hx rfl (hD d18_9) rfl k') ?_
      show Gm p e below s₁ m 10 #[rv r0, iv (0 : Int32), iv p2, iv w3, iv z] [(.int ((0 : Int32) + p2)), (.int z)] _
      refine own_go (fun t' k' => XS.icmpYes X0.here hx rfl (pc0 := 10) (pc' := 29) rfl (hD d18_10) rfl (XT.ii_ge_t (own_nlt (by omega) hz (own_z0 hp))) (by decide) (by decide) k') ?_
      refine own_go (fun t' k' => XS.iloadN X0.here hx rfl (hD d18_29) rfl k') ?_
      show Gm p e below s₁ m 30 #[rv r0, iv (0 : Int32), iv p2, iv w3, iv z] [(.int w3)] _
      exact own_retI X0 hx hlk (t := .int) Bd.returns rfl (by simp) (hD d18_30) e0 ⟨_, rfl, N0, rfl⟩ (by decide) (by decide)
    | succ d ih =>
      intro i z w3 hz hi
      show Gm p e below s₁ m 5 #[rv r0, iv (0 : Int32), iv p2, iv w3, iv z] [] _
      refine own_go (fun t' k' => XS.iload X0.here hx rfl (hD d18_5) rfl k') ?_
      refine own_go (fun t' k' => XS.iloadN X0.here hx rfl (hD d18_7) rfl k') ?_
      refine own_go (fun t' k' => XS.iloadN X0.here hx rfl (hD d18_8) rfl k') ?_
      show Gm p e below s₁ m 9 #[rv r0, iv (0 : Int32), iv p2, iv w3, iv z] [(.int p2), (.int (0 : Int32)), (.int z)] _
      refine own_go (fun t' k' => XS.iadd X0.here hx rfl (hD d18_9) rfl k') ?_
      show Gm p e below s₁ m 10 #[rv r0, iv (0 : Int32), iv p2, iv w3, iv z] [(.int ((0 : Int32) + p2)), (.int z)] _
      refine own_go (fun t' k' => XS.icmpNo X0.here hx rfl (hD d18_10) rfl (XT.ii_ge_f (own_lt hn (by omega) hz (own_z0 hp))) k') ?_
      refine own_go (fun t' k' => XS.bipush X0.here hx rfl (hD d18_13) k') ?_
      refine own_go (fun t' k' => XS.iloadN X0.here hx rfl (hD d18_15) rfl k') ?_
      show Gm p e below s₁ m 16 #[rv r0, iv (0 : Int32), iv p2, iv w3, iv z] [(.int w3), (.int (31 : Int32))] _
      refine own_go (fun t' k' => XS.imul X0.here hx rfl (hD d18_16) rfl k') ?_
      refine own_go (fun t' k' => XS.aloadN X0.here hx rfl (hD d18_17) rfl rfl k') ?_
      refine own_go (fun t' k' => XS.iload X0.here hx rfl (hD d18_18) rfl k') ?_
      show Gm p e below s₁ m 20 #[rv r0, iv (0 : Int32), iv p2, iv w3, iv z] [(.int z), (.ref r0), (.int ((31 : Int32) * w3))] _
      obtain ⟨y1, hy1⟩ := own_byteAt A (k := i) (by omega)
      refine own_go (fun t' k' => own_ldB X0 hx hZ e0 A (j := z) (k := i) (own_tz (by omega : i < 24) hz).1 (own_tz (by omega : i < 24) hz).2 (by omega) (w := (.int y1)) hy1 (g := (mkF m 20 #[rv r0, iv (0 : Int32), iv p2, iv w3, iv z] [(.int z), (.ref r0), (.int ((31 : Int32) * w3))])) rfl rfl (hD d18_20) k') ?_
      refine own_go (fun t' k' => XS.iadd X0.here hx rfl (hD d18_21) rfl k') ?_
      refine own_go (fun t' k' => XS.istoreN X0.here hx rfl (hD d18_22) rfl (l' := #[rv r0, iv (0 : Int32), iv p2, iv (((31 : Int32) * w3) + y1), iv z]) rfl k') ?_
      show Gm p e below s₁ m 23 #[rv r0, iv (0 : Int32), iv p2, iv (((31 : Int32) * w3) + y1), iv z] [] _
      refine own_go (fun t' k' => XS.iinc X0.here hx rfl (hD d18_23) rfl (l' := #[rv r0, iv (0 : Int32), iv p2, iv (((31 : Int32) * w3) + y1), iv (z + (1 : Int32))]) rfl k') ?_
      refine own_go (fun t' k' => XS.goto X0.here hx rfl (pc0 := 26) (pc' := 5) rfl (hD d18_26) (by decide) (by decide) k') ?_
      exact ih (i + 1) _ _ (own_up (by omega) hz) (by omega)
  exact lp n 0 _ _ rfl (by omega)
theorem d23_0 : decode jdk_65_method_30_code 0 = .ok (.iload_n 1, 1) := by decide +kernel
theorem d23_1 : decode jdk_65_method_30_code 1 = .ok (.iload_n 2, 1) := by decide +kernel
theorem d23_2 : decode jdk_65_method_30_code 2 = .ok (.if_icmp .le 44, 3) := by decide +kernel
theorem d23_46 : decode jdk_65_method_30_code 46 = .ok (.iload_n 1, 1) := by decide +kernel
theorem d23_47 : decode jdk_65_method_30_code 47 = .ok (.ifCond .ge 12, 3) := by decide +kernel
theorem d23_59 : decode jdk_65_method_30_code 59 = .ok (.iload_n 2, 1) := by decide +kernel
theorem d23_60 : decode jdk_65_method_30_code 60 = .ok (.iload_n 0, 1) := by decide +kernel
theorem d23_61 : decode jdk_65_method_30_code 61 = .ok (.if_icmp .le 12, 3) := by decide +kernel
theorem d23_73 : decode jdk_65_method_30_code 73 = .ok (.return_, 1) := by decide +kernel
theorem own_pn_rmRC : plainName "java/util/Arrays" = true := by first | (simp [plainName, overriddenIn]; done) | decide +kernel
theorem own_ef_rmRC (m : MethodId) (p0 : Int32) (p1 : Int32) (p2 : Int32) : entryFrame m #[(.int p0), (.int p1), (.int p2)] 3 = mkF m 0 #[.val (.int p0), .val (.int p1), .val (.int p2)] [] := by first | (simp [entryFrame, mkF, argsToLocals, Value.category]; done) | rfl
def QRC (Z : State) (p0 : Int32) (p1 : Int32) (p2 : Int32) (h0 : Heap) (n0 : Nat) (v : Option Value) (h : Heap) (L : List Loc) : Prop := v = none ∧ Fr n0 L ∧ h = h0
set_option maxRecDepth 65536 in
set_option maxHeartbeats 40000000 in
theorem rmRC (l : Launch) (Z : State) (a0 : Array Value) (hw : ∀ d ∈ tables_1, d.before a0 Z = true) (ws : List Jvm.Cond) (p0 : Int32) (p1 : Int32) (p2 : Int32) (h0 : Heap) (n0 : Nat) (Z0 : n0 ≤ h0.size) (h1 : ¬ p2 < p1) (h2 : ¬ p1 < 0) (h3 : ¬ p0 < p2) :
    MetFree l (⟨"java/util/Arrays", "rangeCheck", "(III)V"⟩ : MethodName) (head1 (Jvm.Cond.code (⟨"java/util/Arrays", "rangeCheck", "(III)V"⟩ : MethodName) jdk_65_method_30_code 3 none :: ws) ({ frames := 0, cells := 0, slots := 0, locals := 0 } : Room)) (fun a U => a = #[(.int p0), (.int p1), (.int p2)] ∧ Z.Warmed39 U.vm ∧ U.heap = h0) (fun _ _ _ _ _ => True) (fun _ U o U' => ∃ v L, o = .returned v ∧ QRC Z p0 p1 p2 h0 n0 v U'.heap L ∧ FrameEnd U o U' L ({ frames := 0, cells := 0, slots := 0, locals := 0 } : Room).cells ({ frames := 0, cells := 0, slots := 0, locals := 0 } : Room).slots) := by
  refine MetFree.of_bodySF (plainFor_of_name own_pn_rmRC) hisR ?_
  intro p e s m args below meth cO s₁ Bd hml0 hP hK
  obtain ⟨rfl, hZ, hh⟩ := hP
  have hx := Bd.exec
  have hby := Bd.bytes
  have hD := @Jvm.hb _ _ hby
  have hml : cO.maxLocals = 3 := hml0
  have hown : s.vm.findClass "java/util/Arrays" = some m.cls := findClass_of_methodNamed Bd.named
  have hnm := (name_of_methodNamed Bd.named Bd.method).1
  have hlk : meth.locks = false := BodyLoose.notSynchronized Bd
  have X0 : Stand p l e ({ frames := 0, cells := 0, slots := 0, locals := 0 } : Room) s m #[(.int p0), (.int p1), (.int p2)] below meth cO s₁ [] 0 0 := Stand.of_body Bd
  have e0 : s₁.heap = h0 := by rw [← hh, Bd.state]; rfl
  have N0 := Fr.nil n0
  refine own_in (own_ef_rmRC m p0 p1 p2) ?_
  show Gm p e below s₁ m 0 #[iv p0, iv p1, iv p2] [] _
  refine own_go (fun t' k' => XS.iloadN X0.here hx rfl (hD d23_0) rfl k') ?_
  refine own_go (fun t' k' => XS.iloadN X0.here hx rfl (hD d23_1) rfl k') ?_
  show Gm p e below s₁ m 2 #[iv p0, iv p1, iv p2] [(.int p2), (.int p1)] _
  refine own_go (fun t' k' => XS.icmpYes X0.here hx rfl (pc0 := 2) (pc' := 46) rfl (hD d23_2) rfl (XT.ii_le_t h1) (by decide) (by decide) k') ?_
  refine own_go (fun t' k' => XS.iloadN X0.here hx rfl (hD d23_46) rfl k') ?_
  show Gm p e below s₁ m 47 #[iv p0, iv p1, iv p2] [(.int p1)] _
  refine own_go (fun t' k' => XS.ifYes X0.here hx rfl (pc0 := 47) (pc' := 59) rfl (hD d23_47) rfl (XT.i0_ge_t h2) (by decide) (by decide) k') ?_
  refine own_go (fun t' k' => XS.iloadN X0.here hx rfl (hD d23_59) rfl k') ?_
  refine own_go (fun t' k' => XS.iloadN X0.here hx rfl (hD d23_60) rfl k') ?_
  show Gm p e below s₁ m 61 #[iv p0, iv p1, iv p2] [(.int p0), (.int p2)] _
  refine own_go (fun t' k' => XS.icmpYes X0.here hx rfl (pc0 := 61) (pc' := 73) rfl (hD d23_61) rfl (XT.ii_le_t h3) (by decide) (by decide) k') ?_
  show Gm p e below s₁ m 73 #[iv p0, iv p1, iv p2] [] _
  exact own_retV X0 hx hlk Bd.returns (hD d23_73) e0 ⟨rfl, N0, rfl⟩ (by decide) (by decide)
theorem d24_0 : decode jdk_48_method_14_code 0 = .ok (.iconst 0, 1) := by decide +kernel
theorem d24_1 : decode jdk_48_method_14_code 1 = .ok (.istore 5, 2) := by decide +kernel
theorem d24_3 : decode jdk_48_method_14_code 3 = .ok (.iload 4, 2) := by decide +kernel
theorem d24_5 : decode jdk_48_method_14_code 5 = .ok (.bipush 7, 2) := by decide +kernel
theorem d24_7 : decode jdk_48_method_14_code 7 = .ok (.if_icmp .le 63, 3) := by decide +kernel
theorem d24_70 : decode jdk_48_method_14_code 70 = .ok (.iload 5, 2) := by decide +kernel
theorem d24_72 : decode jdk_48_method_14_code 72 = .ok (.iload 4, 2) := by decide +kernel
theorem d24_74 : decode jdk_48_method_14_code 74 = .ok (.if_icmp .ge 27, 3) := by decide +kernel
theorem d24_77 : decode jdk_48_method_14_code 77 = .ok (.aload_n 0, 1) := by decide +kernel
theorem d24_78 : decode jdk_48_method_14_code 78 = .ok (.iload_n 1, 1) := by decide +kernel
theorem d24_79 : decode jdk_48_method_14_code 79 = .ok (.iload 5, 2) := by decide +kernel
theorem d24_81 : decode jdk_48_method_14_code 81 = .ok (.iadd, 1) := by decide +kernel
theorem d24_82 : decode jdk_48_method_14_code 82 = .ok (.baload, 1) := by decide +kernel
theorem d24_83 : decode jdk_48_method_14_code 83 = .ok (.aload_n 2, 1) := by decide +kernel
theorem d24_84 : decode jdk_48_method_14_code 84 = .ok (.iload_n 3, 1) := by decide +kernel
theorem d24_85 : decode jdk_48_method_14_code 85 = .ok (.iload 5, 2) := by decide +kernel
theorem d24_87 : decode jdk_48_method_14_code 87 = .ok (.iadd, 1) := by decide +kernel
theorem d24_88 : decode jdk_48_method_14_code 88 = .ok (.baload, 1) := by decide +kernel
theorem d24_89 : decode jdk_48_method_14_code 89 = .ok (.if_icmp .eq 6, 3) := by decide +kernel
theorem d24_92 : decode jdk_48_method_14_code 92 = .ok (.iload 5, 2) := by decide +kernel
theorem d24_94 : decode jdk_48_method_14_code 94 = .ok (.ireturn, 1) := by decide +kernel
theorem d24_95 : decode jdk_48_method_14_code 95 = .ok (.iinc 5 1, 3) := by decide +kernel
theorem d24_98 : decode jdk_48_method_14_code 98 = .ok (.goto (-28), 3) := by decide +kernel
theorem d24_101 : decode jdk_48_method_14_code 101 = .ok (.iconst (-1), 1) := by decide +kernel
theorem d24_102 : decode jdk_48_method_14_code 102 = .ok (.ireturn, 1) := by decide +kernel
theorem own_pn_rmM : plainName "jdk/internal/util/ArraysSupport" = true := by first | (simp [plainName, overriddenIn]; done) | decide +kernel
theorem own_ef_rmM (m : MethodId) (r0 : Addr) (p1 : Int32) (r2 : Addr) (p4 : Int32) : entryFrame m #[(.ref r0), (.int p1), (.ref r2), (.int (0 : Int32)), (.int p4)] 8 = mkF m 0 #[.val (.ref r0), .val (.int p1), .val (.ref r2), .val (.int (0 : Int32)), .val (.int p4), .unset, .unset, .unset] [] := by first | (simp [entryFrame, mkF, argsToLocals, Value.category]; done) | rfl
set_option maxRecDepth 65536 in
set_option maxHeartbeats 40000000 in
theorem rmM (l : Launch) (Z : State) (a0 : Array Value) (hw : ∀ d ∈ tables_1, d.before a0 Z = true) (ws : List Jvm.Cond) (r0 : Addr) (p1 : Int32) (r2 : Addr) (p4 : Int32) (o : Nat) (n : Nat) (f : Nat → Value) (g : Nat → Value) (h0 : Heap) (n0 : Nat) (Z0 : n0 ≤ h0.size) (hn : n ≤ 4) (A : Af Z h0 r0 .byte 256 f) (B : Af Z h0 r2 .byte n g) (ho : o < 24) (hp1 : p1 = o.toInt32) (hp : p4 = n.toInt32) :
    MetFree l (⟨"jdk/internal/util/ArraysSupport", "mismatch", "([BI[BII)I"⟩ : MethodName) (head1 (Jvm.Cond.code (⟨"jdk/internal/util/ArraysSupport", "mismatch", "([BI[BII)I"⟩ : MethodName) jdk_48_method_14_code 8 (some .int) :: ws) ({ frames := 0, cells := 0, slots := 0, locals := 0 } : Room)) (fun a U => a = #[(.ref r0), (.int p1), (.ref r2), (.int (0 : Int32)), (.int p4)] ∧ Z.Warmed39 U.vm ∧ U.heap = h0) (fun _ _ _ _ _ => True) (fun _ U o U' => ∃ v L, o = .returned v ∧ QZ h0 n0 v U'.heap L ∧ FrameEnd U o U' L ({ frames := 0, cells := 0, slots := 0, locals := 0 } : Room).cells ({ frames := 0, cells := 0, slots := 0, locals := 0 } : Room).slots) := by
  refine MetFree.of_bodySF (plainFor_of_name own_pn_rmM) hisR ?_
  intro p e s m args below meth cO s₁ Bd hml0 hP hK
  obtain ⟨rfl, hZ, hh⟩ := hP
  have hx := Bd.exec
  have hby := Bd.bytes
  have hD := @Jvm.hb _ _ hby
  have hml : cO.maxLocals = 8 := hml0
  have hown : s.vm.findClass "jdk/internal/util/ArraysSupport" = some m.cls := findClass_of_methodNamed Bd.named
  have hnm := (name_of_methodNamed Bd.named Bd.method).1
  have hlk : meth.locks = false := BodyLoose.notSynchronized Bd
  have X0 : Stand p l e ({ frames := 0, cells := 0, slots := 0, locals := 0 } : Room) s m #[(.ref r0), (.int p1), (.ref r2), (.int (0 : Int32)), (.int p4)] below meth cO s₁ [] 0 0 := Stand.of_body Bd
  have e0 : s₁.heap = h0 := by rw [← hh, Bd.state]; rfl
  have N0 := Fr.nil n0
  refine own_in (own_ef_rmM m r0 p1 r2 p4) ?_
  show Gm p e below s₁ m 0 #[rv r0, iv p1, rv r2, iv (0 : Int32), iv p4, .unset, .unset, .unset] [] _
  refine own_go (fun t' k' => XS.iconst X0.here hx rfl (hD d24_0) k') ?_
  refine own_go (fun t' k' => XS.istore X0.here hx rfl (hD d24_1) rfl (l' := #[rv r0, iv p1, rv r2, iv (0 : Int32), iv p4, iv (0 : Int32), .unset, .unset]) rfl k') ?_
  refine own_go (fun t' k' => XS.iload X0.here hx rfl (hD d24_3) rfl k') ?_
  show Gm p e below s₁ m 5 #[rv r0, iv p1, rv r2, iv (0 : Int32), iv p4, iv (0 : Int32), .unset, .unset] [(.int p4)] _
  refine own_go (fun t' k' => XS.bipush X0.here hx rfl (hD d24_5) k') ?_
  show Gm p e below s₁ m 7 #[rv r0, iv p1, rv r2, iv (0 : Int32), iv p4, iv (0 : Int32), .unset, .unset] [(.int (7 : Int32)), (.int p4)] _
  refine own_go (fun t' k' => XS.icmpYes X0.here hx rfl (pc0 := 7) (pc' := 70) rfl (hD d24_7) rfl (XT.ii_le_t (by rw [hp]; exact own_f6 ⟨n, by omega⟩ hn)) (by decide) (by decide) k') ?_
  have lp : ∀ (d i : Nat) (z : Int32), z = i.toInt32 → i + d = n → Gm p e below s₁ m 70 #[rv r0, iv p1, rv r2, iv (0 : Int32), iv p4, iv z, .unset, .unset] [] (fun t o => t.status = .running ∧ Ended t below o ∧ ∃ v L, o = .returned v ∧ QZ h0 n0 v t.heap L ∧ FrameEnd s o t L ({ frames := 0, cells := 0, slots := 0, locals := 0 } : Room).cells ({ frames := 0, cells := 0, slots := 0, locals := 0 } : Room).slots) := by
    intro d
    induction d with
    | zero =>
      intro i z hz hi
      show Gm p e below s₁ m 70 #[rv r0, iv p1, rv r2, iv (0 : Int32), iv p4, iv z, .unset, .unset] [] _
      refine own_go (fun t' k' => XS.iload X0.here hx rfl (hD d24_70) rfl k') ?_
      refine own_go (fun t' k' => XS.iload X0.here hx rfl (hD d24_72) rfl k') ?_
      show Gm p e below s₁ m 74 #[rv r0, iv p1, rv r2, iv (0 : Int32), iv p4, iv z, .unset, .unset] [(.int p4), (.int z)] _
      refine own_go (fun t' k' => XS.icmpYes X0.here hx rfl (pc0 := 74) (pc' := 101) rfl (hD d24_74) rfl (XT.ii_ge_t (own_nlt (by omega) hz hp)) (by decide) (by decide) k') ?_
      refine own_go (fun t' k' => XS.iconst X0.here hx rfl (hD d24_101) k') ?_
      show Gm p e below s₁ m 102 #[rv r0, iv p1, rv r2, iv (0 : Int32), iv p4, iv z, .unset, .unset] [(.int (-1 : Int32))] _
      exact own_retI X0 hx hlk (t := .int) Bd.returns rfl (by simp) (hD d24_102) e0 ⟨_, rfl, N0, rfl⟩ (by decide) (by decide)
    | succ d ih =>
      intro i z hz hi
      show Gm p e below s₁ m 70 #[rv r0, iv p1, rv r2, iv (0 : Int32), iv p4, iv z, .unset, .unset] [] _
      refine own_go (fun t' k' => XS.iload X0.here hx rfl (hD d24_70) rfl k') ?_
      refine own_go (fun t' k' => XS.iload X0.here hx rfl (hD d24_72) rfl k') ?_
      show Gm p e below s₁ m 74 #[rv r0, iv p1, rv r2, iv (0 : Int32), iv p4, iv z, .unset, .unset] [(.int p4), (.int z)] _
      refine own_go (fun t' k' => XS.icmpNo X0.here hx rfl (hD d24_74) rfl (XT.ii_ge_f (own_lt hn (by omega) hz hp)) k') ?_
      refine own_go (fun t' k' => XS.aloadN X0.here hx rfl (hD d24_77) rfl rfl k') ?_
      refine own_go (fun t' k' => XS.iloadN X0.here hx rfl (hD d24_78) rfl k') ?_
      show Gm p e below s₁ m 79 #[rv r0, iv p1, rv r2, iv (0 : Int32), iv p4, iv z, .unset, .unset] [(.int p1), (.ref r0)] _
      refine own_go (fun t' k' => XS.iload X0.here hx rfl (hD d24_79) rfl k') ?_
      refine own_go (fun t' k' => XS.iadd X0.here hx rfl (hD d24_81) rfl k') ?_
      show Gm p e below s₁ m 82 #[rv r0, iv p1, rv r2, iv (0 : Int32), iv p4, iv z, .unset, .unset] [(.int (p1 + z)), (.ref r0)] _
      obtain ⟨y1, hy1⟩ := own_byteAt A (k := (o + i)) (by omega)
      refine own_go (fun t' k' => own_ldB X0 hx hZ e0 A (j := (p1 + z)) (k := (o + i)) (own_ixz ho (by omega : i < 8) hp1 hz).1 (own_ixz ho (by omega : i < 8) hp1 hz).2 (by omega) (w := (.int y1)) hy1 (g := (mkF m 82 #[rv r0, iv p1, rv r2, iv (0 : Int32), iv p4, iv z, .unset, .unset] [(.int (p1 + z)), (.ref r0)])) rfl rfl (hD d24_82) k') ?_
      refine own_go (fun t' k' => XS.aloadN X0.here hx rfl (hD d24_83) rfl rfl k') ?_
      refine own_go (fun t' k' => XS.iloadN X0.here hx rfl (hD d24_84) rfl k') ?_
      show Gm p e below s₁ m 85 #[rv r0, iv p1, rv r2, iv (0 : Int32), iv p4, iv z, .unset, .unset] [(.int (0 : Int32)), (.ref r2), (.int y1)] _
      refine own_go (fun t' k' => XS.iload X0.here hx rfl (hD d24_85) rfl k') ?_
      refine own_go (fun t' k' => XS.iadd X0.here hx rfl (hD d24_87) rfl k') ?_
      show Gm p e below s₁ m 88 #[rv r0, iv p1, rv r2, iv (0 : Int32), iv p4, iv z, .unset, .unset] [(.int ((0 : Int32) + z)), (.ref r2), (.int y1)] _
      obtain ⟨y2, hy2⟩ := own_byteAt B (k := i) (by omega)
      refine own_go (fun t' k' => own_ldB X0 hx hZ e0 B (j := ((0 : Int32) + z)) (k := i) (own_tz (by omega : i < 24) (own_z0 hz)).1 (own_tz (by omega : i < 24) (own_z0 hz)).2 (by omega) (w := (.int y2)) hy2 (g := (mkF m 88 #[rv r0, iv p1, rv r2, iv (0 : Int32), iv p4, iv z, .unset, .unset] [(.int ((0 : Int32) + z)), (.ref r2), (.int y1)])) rfl rfl (hD d24_88) k') ?_
      show Gm p e below s₁ m 89 #[rv r0, iv p1, rv r2, iv (0 : Int32), iv p4, iv z, .unset, .unset] [(.int y2), (.int y1)] _
      by_cases c3 : y1 = y2
      · have hfork := trivial
        refine own_go (fun t' k' => XS.icmpYes X0.here hx rfl (pc0 := 89) (pc' := 95) rfl (hD d24_89) rfl (XT.ii_eq_t c3) (by decide) (by decide) k') ?_
        refine own_go (fun t' k' => XS.iinc X0.here hx rfl (hD d24_95) rfl (l' := #[rv r0, iv p1, rv r2, iv (0 : Int32), iv p4, iv (z + (1 : Int32)), .unset, .unset]) rfl k') ?_
        refine own_go (fun t' k' => XS.goto X0.here hx rfl (pc0 := 98) (pc' := 70) rfl (hD d24_98) (by decide) (by decide) k') ?_
        exact ih (i + 1) _ (own_up (by omega) hz) (by omega)
      · have hfork := trivial
        refine own_go (fun t' k' => XS.icmpNo X0.here hx rfl (hD d24_89) rfl (XT.ii_eq_f c3) k') ?_
        refine own_go (fun t' k' => XS.iload X0.here hx rfl (hD d24_92) rfl k') ?_
        show Gm p e below s₁ m 94 #[rv r0, iv p1, rv r2, iv (0 : Int32), iv p4, iv z, .unset, .unset] [(.int z)] _
        exact own_retI X0 hx hlk (t := .int) Bd.returns rfl (by simp) (hD d24_94) e0 ⟨_, rfl, N0, rfl⟩ (by decide) (by decide)
  exact lp n 0 _ rfl (by omega)
theorem d22_0 : decode jdk_65_method_90_code 0 = .ok (.aload_n 0, 1) := by decide +kernel
theorem d22_1 : decode jdk_65_method_90_code 1 = .ok (.arraylength, 1) := by decide +kernel
theorem d22_2 : decode jdk_65_method_90_code 2 = .ok (.iload_n 1, 1) := by decide +kernel
theorem d22_3 : decode jdk_65_method_90_code 3 = .ok (.iload_n 2, 1) := by decide +kernel
theorem d22_4 : decode jdk_65_method_90_code 4 = .ok (.invokestatic 13, 3) := by decide +kernel
theorem d22_7 : decode jdk_65_method_90_code 7 = .ok (.aload_n 3, 1) := by decide +kernel
theorem d22_8 : decode jdk_65_method_90_code 8 = .ok (.arraylength, 1) := by decide +kernel
theorem d22_9 : decode jdk_65_method_90_code 9 = .ok (.iload 4, 2) := by decide +kernel
theorem d22_11 : decode jdk_65_method_90_code 11 = .ok (.iload 5, 2) := by decide +kernel
theorem d22_13 : decode jdk_65_method_90_code 13 = .ok (.invokestatic 13, 3) := by decide +kernel
theorem d22_16 : decode jdk_65_method_90_code 16 = .ok (.iload_n 2, 1) := by decide +kernel
theorem d22_17 : decode jdk_65_method_90_code 17 = .ok (.iload_n 1, 1) := by decide +kernel
theorem d22_18 : decode jdk_65_method_90_code 18 = .ok (.isub, 1) := by decide +kernel
theorem d22_19 : decode jdk_65_method_90_code 19 = .ok (.istore 6, 2) := by decide +kernel
theorem d22_21 : decode jdk_65_method_90_code 21 = .ok (.iload 5, 2) := by decide +kernel
theorem d22_23 : decode jdk_65_method_90_code 23 = .ok (.iload 4, 2) := by decide +kernel
theorem d22_25 : decode jdk_65_method_90_code 25 = .ok (.isub, 1) := by decide +kernel
theorem d22_26 : decode jdk_65_method_90_code 26 = .ok (.istore 7, 2) := by decide +kernel
theorem d22_28 : decode jdk_65_method_90_code 28 = .ok (.iload 6, 2) := by decide +kernel
theorem d22_30 : decode jdk_65_method_90_code 30 = .ok (.iload 7, 2) := by decide +kernel
theorem d22_32 : decode jdk_65_method_90_code 32 = .ok (.if_icmp .eq 5, 3) := by decide +kernel
theorem d22_37 : decode jdk_65_method_90_code 37 = .ok (.aload_n 0, 1) := by decide +kernel
theorem d22_38 : decode jdk_65_method_90_code 38 = .ok (.iload_n 1, 1) := by decide +kernel
theorem d22_39 : decode jdk_65_method_90_code 39 = .ok (.aload_n 3, 1) := by decide +kernel
theorem d22_40 : decode jdk_65_method_90_code 40 = .ok (.iload 4, 2) := by decide +kernel
theorem d22_42 : decode jdk_65_method_90_code 42 = .ok (.iload 6, 2) := by decide +kernel
theorem d22_44 : decode jdk_65_method_90_code 44 = .ok (.invokestatic 275, 3) := by decide +kernel
theorem d22_47 : decode jdk_65_method_90_code 47 = .ok (.ifCond .ge 7, 3) := by decide +kernel
theorem d22_50 : decode jdk_65_method_90_code 50 = .ok (.iconst 1, 1) := by decide +kernel
theorem d22_51 : decode jdk_65_method_90_code 51 = .ok (.goto 4, 3) := by decide +kernel
theorem d22_54 : decode jdk_65_method_90_code 54 = .ok (.iconst 0, 1) := by decide +kernel
theorem d22_55 : decode jdk_65_method_90_code 55 = .ok (.ireturn, 1) := by decide +kernel
theorem own_pd15 : parseMethodDescriptor "(III)V" = some ⟨[.int, .int, .int], none⟩ := by decide +kernel
theorem own_pd16 : parseMethodDescriptor "([BI[BII)I" = some ⟨[(.array .byte), .int, (.array .byte), .int, .int], some .int⟩ := by decide +kernel
theorem own_pn_rmAE : plainName "java/util/Arrays" = true := by first | (simp [plainName, overriddenIn]; done) | decide +kernel
theorem own_ef_rmAE (m : MethodId) (r0 : Addr) (p1 : Int32) (p2 : Int32) (r3 : Addr) (p5 : Int32) : entryFrame m #[(.ref r0), (.int p1), (.int p2), (.ref r3), (.int (0 : Int32)), (.int p5)] 8 = mkF m 0 #[.val (.ref r0), .val (.int p1), .val (.int p2), .val (.ref r3), .val (.int (0 : Int32)), .val (.int p5), .unset, .unset] [] := by first | (simp [entryFrame, mkF, argsToLocals, Value.category]; done) | rfl
set_option maxRecDepth 65536 in
set_option maxHeartbeats 40000000 in
theorem rmAE (l : Launch) (Z : State) (a0 : Array Value) (hw : ∀ d ∈ tables_1, d.before a0 Z = true) (ws : List Jvm.Cond) (r0 : Addr) (p1 : Int32) (p2 : Int32) (r3 : Addr) (p5 : Int32) (n : Nat) (o : Nat) (f : Nat → Value) (g : Nat → Value) (h0 : Heap) (n0 : Nat) (Z0 : n0 ≤ h0.size) (hn : n ≤ 4) (A : Af Z h0 r0 .byte 256 f) (B : Af Z h0 r3 .byte n g) (ho : o < 24) (hp1 : p1 = o.toInt32) (hp2 : p2 = (o + n).toInt32) (hp5 : p5 = n.toInt32) :
    MetFree l (⟨"java/util/Arrays", "equals", "([BII[BII)Z"⟩ : MethodName) (head1 (Jvm.Cond.code (⟨"java/util/Arrays", "equals", "([BII[BII)Z"⟩ : MethodName) jdk_65_method_90_code 8 (some .boolean) :: ws) ({ frames := 1, cells := 0, slots := 0, locals := 19 } : Room)) (fun a U => a = #[(.ref r0), (.int p1), (.int p2), (.ref r3), (.int (0 : Int32)), (.int p5)] ∧ Z.Warmed39 U.vm ∧ U.heap = h0) (fun _ _ _ _ _ => True) (fun _ U o U' => ∃ v L, o = .returned v ∧ QZ h0 n0 v U'.heap L ∧ FrameEnd U o U' L ({ frames := 1, cells := 0, slots := 0, locals := 19 } : Room).cells ({ frames := 1, cells := 0, slots := 0, locals := 19 } : Room).slots) := by
  refine MetFree.of_bodySF (plainFor_of_name own_pn_rmAE) hisR ?_
  intro p e s m args below meth cO s₁ Bd hml0 hP hK
  obtain ⟨rfl, hZ, hh⟩ := hP
  have hx := Bd.exec
  have hby := Bd.bytes
  have hD := @Jvm.hb _ _ hby
  have hml : cO.maxLocals = 8 := hml0
  have hown : s.vm.findClass "java/util/Arrays" = some m.cls := findClass_of_methodNamed Bd.named
  have hnm := (name_of_methodNamed Bd.named Bd.method).1
  have hlk : meth.locks = false := BodyLoose.notSynchronized Bd
  have X0 : Stand p l e ({ frames := 1, cells := 0, slots := 0, locals := 19 } : Room) s m #[(.ref r0), (.int p1), (.int p2), (.ref r3), (.int (0 : Int32)), (.int p5)] below meth cO s₁ [] 0 0 := Stand.of_body Bd
  have e0 : s₁.heap = h0 := by rw [← hh, Bd.state]; rfl
  have N0 := Fr.nil n0
  have hr := own_ar ho (by omega : n < 8) hp1 hp2
  refine own_in (own_ef_rmAE m r0 p1 p2 r3 p5) ?_
  show Gm p e below s₁ m 0 #[rv r0, iv p1, iv p2, rv r3, iv (0 : Int32), iv p5, .unset, .unset] [] _
  refine own_go (fun t' k' => XS.aloadN X0.here hx rfl (hD d22_0) rfl rfl k') ?_
  show Gm p e below s₁ m 1 #[rv r0, iv p1, iv p2, rv r3, iv (0 : Int32), iv p5, .unset, .unset] [(.ref r0)] _
  refine own_go (fun t' k' => own_len X0 hx hZ e0 A (z := (256 : Int32)) rfl (g := (mkF m 1 #[rv r0, iv p1, iv p2, rv r3, iv (0 : Int32), iv p5, .unset, .unset] [(.ref r0)])) rfl rfl (hD d22_1) k') ?_
  refine own_go (fun t' k' => XS.iloadN X0.here hx rfl (hD d22_2) rfl k') ?_
  refine own_go (fun t' k' => XS.iloadN X0.here hx rfl (hD d22_3) rfl k') ?_
  show Gm p e below s₁ m 4 #[rv r0, iv p1, iv p2, rv r3, iv (0 : Int32), iv p5, .unset, .unset] [(.int p2), (.int p1), (.int (256 : Int32))] _
  obtain ⟨_, _, ⟨T1, L1, k1, n1⟩, -, X1, ⟨Lc1, hQ1, l1, y1, z1⟩, st1⟩ := Jvm.LawKit.callS X0 hx (y := (⟨"java/util/Arrays", "rangeCheck", "(III)V"⟩ : MethodName)) hown (mvT hZ (hw _ (List.mem_of_getElem? (i := 133) rfl))) (mvT hZ (hw _ (List.mem_of_getElem? (i := 134) rfl))) (mvT hZ (hw _ (List.mem_of_getElem? (i := 131) rfl))) (mvT hZ (hw _ (List.mem_of_getElem? (i := 135) rfl))) (by decide) (backOf (W := 0) (rmRC l Z a0 hw [] (256 : Int32) p1 p2 h0 n0 Z0 hr.1 hr.2.1 hr.2.2.1) hZ (hw _ (List.mem_of_getElem? (i := 135) rfl)) (hw _ (List.mem_of_getElem? (i := 131) rfl)) (by decide) (by decide)) (g := (mkF m 4 #[rv r0, iv p1, iv p2, rv r3, iv (0 : Int32), iv p5, .unset, .unset] [(.int p2), (.int p1), (.int (256 : Int32))])) rfl (by rw [hml]; rfl) (argsL := [(.int (256 : Int32)), (.int p1), (.int p2)]) (rest := []) (lenOf own_pd15 rfl) rfl (by show 2 * 0 + _ ≤ _; exact Nat.le_of_eq rfl) (hD d22_4) (fun _ _ => ⟨rfl, e0, (by decide : 0 + 0 ≤ _), (by decide : 0 + 0 ≤ _)⟩)
  dsimp only [Pt.U, Pt.locs, Pt.cells, Pt.slots] at X1 l1 y1 z1 st1 hQ1
  subst l1 y1 z1
  obtain ⟨rfl, Nq1, eq1⟩ := hQ1
  have N1 := Fr.app N0 Nq1
  have e1 : T1.heap = h0 := eq1
  refine own_go st1 ?_
  refine own_go (fun t' k' => XS.aloadN X1.here hx rfl (hD d22_7) rfl rfl k') ?_
  show Gm p e below T1 m 8 #[rv r0, iv p1, iv p2, rv r3, iv (0 : Int32), iv p5, .unset, .unset] [(.ref r3)] _
  refine own_go (fun t' k' => own_len X1 hx hZ e1 B (z := (n.toInt32)) rfl (g := (mkF m 8 #[rv r0, iv p1, iv p2, rv r3, iv (0 : Int32), iv p5, .unset, .unset] [(.ref r3)])) rfl rfl (hD d22_8) k') ?_
  refine own_go (fun t' k' => XS.iload X1.here hx rfl (hD d22_9) rfl k') ?_
  refine own_go (fun t' k' => XS.iload X1.here hx rfl (hD d22_11) rfl k') ?_
  show Gm p e below T1 m 13 #[rv r0, iv p1, iv p2, rv r3, iv (0 : Int32), iv p5, .unset, .unset] [(.int p5), (.int (0 : Int32)), (.int (n.toInt32))] _
  obtain ⟨_, _, ⟨T2, L2, k2, n2⟩, -, X2, ⟨Lc2, hQ2, l2, y2, z2⟩, st2⟩ := Jvm.LawKit.callS X1 hx (y := (⟨"java/util/Arrays", "rangeCheck", "(III)V"⟩ : MethodName)) hown (mvT hZ (hw _ (List.mem_of_getElem? (i := 133) rfl))) (mvT hZ (hw _ (List.mem_of_getElem? (i := 134) rfl))) (mvT hZ (hw _ (List.mem_of_getElem? (i := 131) rfl))) (mvT hZ (hw _ (List.mem_of_getElem? (i := 135) rfl))) (by decide) (backOf (W := 0) (rmRC l Z a0 hw [] (n.toInt32) (0 : Int32) p5 h0 n0 Z0 (own_tz (by omega) hp5).1 (by decide) (own_nlt rfl rfl hp5)) hZ (hw _ (List.mem_of_getElem? (i := 135) rfl)) (hw _ (List.mem_of_getElem? (i := 131) rfl)) (by decide) (by decide)) (g := (mkF m 13 #[rv r0, iv p1, iv p2, rv r3, iv (0 : Int32), iv p5, .unset, .unset] [(.int p5), (.int (0 : Int32)), (.int (n.toInt32))])) rfl (by rw [hml]; rfl) (argsL := [(.int (n.toInt32)), (.int (0 : Int32)), (.int p5)]) (rest := []) (lenOf own_pd15 rfl) rfl (by show 2 * 0 + _ ≤ _; exact Nat.le_of_eq rfl) (hD d22_13) (fun _ _ => ⟨rfl, e1, (by decide : 0 + 0 ≤ _), (by decide : 0 + 0 ≤ _)⟩)
  dsimp only [Pt.U, Pt.locs, Pt.cells, Pt.slots] at X2 l2 y2 z2 st2 hQ2
  subst l2 y2 z2
  obtain ⟨rfl, Nq2, eq2⟩ := hQ2
  have N2 := Fr.app N1 Nq2
  have e2 : T2.heap = h0 := eq2
  refine own_go st2 ?_
  refine own_go (fun t' k' => XS.iloadN X2.here hx rfl (hD d22_16) rfl k') ?_
  refine own_go (fun t' k' => XS.iloadN X2.here hx rfl (hD d22_17) rfl k') ?_
  show Gm p e below T2 m 18 #[rv r0, iv p1, iv p2, rv r3, iv (0 : Int32), iv p5, .unset, .unset] [(.int p1), (.int p2)] _
  refine own_go (fun t' k' => XS.isub X2.here hx rfl (hD d22_18) rfl k') ?_
  refine own_go (fun t' k' => XS.istore X2.here hx rfl (hD d22_19) rfl (l' := #[rv r0, iv p1, iv p2, rv r3, iv (0 : Int32), iv p5, iv (p2 - p1), .unset]) rfl k') ?_
  refine own_go (fun t' k' => XS.iload X2.here hx rfl (hD d22_21) rfl k') ?_
  show Gm p e below T2 m 23 #[rv r0, iv p1, iv p2, rv r3, iv (0 : Int32), iv p5, iv (p2 - p1), .unset] [(.int p5)] _
  refine own_go (fun t' k' => XS.iload X2.here hx rfl (hD d22_23) rfl k') ?_
  refine own_go (fun t' k' => XS.isub X2.here hx rfl (hD d22_25) rfl k') ?_
  refine own_go (fun t' k' => XS.istore X2.here hx rfl (hD d22_26) rfl (l' := #[rv r0, iv p1, iv p2, rv r3, iv (0 : Int32), iv p5, iv (p2 - p1), iv (p5 - (0 : Int32))]) rfl k') ?_
  show Gm p e below T2 m 28 #[rv r0, iv p1, iv p2, rv r3, iv (0 : Int32), iv p5, iv (p2 - p1), iv (p5 - (0 : Int32))] [] _
  refine own_go (fun t' k' => XS.iload X2.here hx rfl (hD d22_28) rfl k') ?_
  refine own_go (fun t' k' => XS.iload X2.here hx rfl (hD d22_30) rfl k') ?_
  show Gm p e below T2 m 32 #[rv r0, iv p1, iv p2, rv r3, iv (0 : Int32), iv p5, iv (p2 - p1), iv (p5 - (0 : Int32))] [(.int (p5 - (0 : Int32))), (.int (p2 - p1))] _
  refine own_go (fun t' k' => XS.icmpYes X2.here hx rfl (pc0 := 32) (pc' := 37) rfl (hD d22_32) rfl (XT.ii_eq_t (by rw [hr.2.2.2, hp5, Int32.sub_zero])) (by decide) (by decide) k') ?_
  refine own_go (fun t' k' => XS.aloadN X2.here hx rfl (hD d22_37) rfl rfl k') ?_
  refine own_go (fun t' k' => XS.iloadN X2.here hx rfl (hD d22_38) rfl k') ?_
  show Gm p e below T2 m 39 #[rv r0, iv p1, iv p2, rv r3, iv (0 : Int32), iv p5, iv (p2 - p1), iv (p5 - (0 : Int32))] [(.int p1), (.ref r0)] _
  refine own_go (fun t' k' => XS.aloadN X2.here hx rfl (hD d22_39) rfl rfl k') ?_
  refine own_go (fun t' k' => XS.iload X2.here hx rfl (hD d22_40) rfl k') ?_
  refine own_go (fun t' k' => XS.iload X2.here hx rfl (hD d22_42) rfl k') ?_
  show Gm p e below T2 m 44 #[rv r0, iv p1, iv p2, rv r3, iv (0 : Int32), iv p5, iv (p2 - p1), iv (p5 - (0 : Int32))] [(.int (p2 - p1)), (.int (0 : Int32)), (.ref r3), (.int p1), (.ref r0)] _
  obtain ⟨_, _, ⟨T3, L3, k3, n3⟩, -, X3, ⟨Lc3, hQ3, l3, y3, z3⟩, st3⟩ := Jvm.LawKit.callS X2 hx (y := (⟨"jdk/internal/util/ArraysSupport", "mismatch", "([BI[BII)I"⟩ : MethodName)) hown (mvT hZ (hw _ (List.mem_of_getElem? (i := 136) rfl))) (mvT hZ (hw _ (List.mem_of_getElem? (i := 137) rfl))) (mvT hZ (hw _ (List.mem_of_getElem? (i := 138) rfl))) (mvT hZ (hw _ (List.mem_of_getElem? (i := 139) rfl))) (by decide) (backOf (W := 0) (rmM l Z a0 hw [] r0 p1 r3 (p2 - p1) o n f g h0 n0 Z0 hn A B ho hp1 hr.2.2.2) hZ (hw _ (List.mem_of_getElem? (i := 139) rfl)) (hw _ (List.mem_of_getElem? (i := 138) rfl)) (by decide) (by decide)) (g := (mkF m 44 #[rv r0, iv p1, iv p2, rv r3, iv (0 : Int32), iv p5, iv (p2 - p1), iv (p5 - (0 : Int32))] [(.int (p2 - p1)), (.int (0 : Int32)), (.ref r3), (.int p1), (.ref r0)])) rfl (by rw [hml]; rfl) (argsL := [(.ref r0), (.int p1), (.ref r3), (.int (0 : Int32)), (.int (p2 - p1))]) (rest := []) (lenOf own_pd16 rfl) rfl (by show 2 * 0 + _ ≤ _; exact Nat.le_of_eq rfl) (hD d22_44) (fun _ _ => ⟨rfl, e2, (by decide : 0 + 0 ≤ _), (by decide : 0 + 0 ≤ _)⟩)
  dsimp only [Pt.U, Pt.locs, Pt.cells, Pt.slots] at X3 l3 y3 z3 st3 hQ3
  subst l3 y3 z3
  obtain ⟨zm3, rfl, Nq3, eq3⟩ := hQ3
  have N3 := Fr.app N2 Nq3
  have e3 : T3.heap = h0 := eq3
  refine own_go st3 ?_
  show Gm p e below T3 m 47 #[rv r0, iv p1, iv p2, rv r3, iv (0 : Int32), iv p5, iv (p2 - p1), iv (p5 - (0 : Int32))] [(.int zm3)] _
  by_cases c4 : zm3 < (0 : Int32)
  · have hfork := trivial
    refine own_go (fun t' k' => XS.ifNo X3.here hx rfl (hD d22_47) rfl (XT.i0_ge_f c4) k') ?_
    refine own_go (fun t' k' => XS.iconst X3.here hx rfl (hD d22_50) k') ?_
    refine own_go (fun t' k' => XS.goto X3.here hx rfl (pc0 := 51) (pc' := 55) rfl (hD d22_51) (by decide) (by decide) k') ?_
    show Gm p e below T3 m 55 #[rv r0, iv p1, iv p2, rv r3, iv (0 : Int32), iv p5, iv (p2 - p1), iv (p5 - (0 : Int32))] [(.int (1 : Int32))] _
    exact own_retI X3 hx hlk (t := .boolean) Bd.returns rfl (by simp) (hD d22_55) e3 ⟨_, rfl, N3, rfl⟩ (by decide) (by decide)
  · have hfork := trivial
    refine own_go (fun t' k' => XS.ifYes X3.here hx rfl (pc0 := 47) (pc' := 54) rfl (hD d22_47) rfl (XT.i0_ge_t c4) (by decide) (by decide) k') ?_
    refine own_go (fun t' k' => XS.iconst X3.here hx rfl (hD d22_54) k') ?_
    show Gm p e below T3 m 55 #[rv r0, iv p1, iv p2, rv r3, iv (0 : Int32), iv p5, iv (p2 - p1), iv (p5 - (0 : Int32))] [(.int (0 : Int32))] _
    exact own_retI X3 hx hlk (t := .boolean) Bd.returns rfl (by simp) (hD d22_55) e3 ⟨_, rfl, N3, rfl⟩ (by decide) (by decide)
def QH (l : Nat) (p4 : Int32) (h0 : Heap) (n0 : Nat) (v : Option Value) (h : Heap) (L : List Loc) : Prop := ∃ z : Int32, v = some (.int z) ∧ (¬ z = 0 → l.toInt32 = p4) ∧ Fr n0 L ∧ h = h0
theorem d21_0 : decode prog_65_method_12_code 0 = .ok (.aload_n 0, 1) := by decide +kernel
theorem d21_1 : decode prog_65_method_12_code 1 = .ok (.getfield 15, 3) := by decide +kernel
theorem d21_4 : decode prog_65_method_12_code 4 = .ok (.iload_n 1, 1) := by decide +kernel
theorem d21_5 : decode prog_65_method_12_code 5 = .ok (.iaload, 1) := by decide +kernel
theorem d21_6 : decode prog_65_method_12_code 6 = .ok (.istore 5, 2) := by decide +kernel
theorem d21_8 : decode prog_65_method_12_code 8 = .ok (.aload_n 0, 1) := by decide +kernel
theorem d21_9 : decode prog_65_method_12_code 9 = .ok (.getfield 9, 3) := by decide +kernel
theorem d21_12 : decode prog_65_method_12_code 12 = .ok (.iload 5, 2) := by decide +kernel
theorem d21_14 : decode prog_65_method_12_code 14 = .ok (.baload, 1) := by decide +kernel
theorem d21_15 : decode prog_65_method_12_code 15 = .ok (.iload 4, 2) := by decide +kernel
theorem d21_17 : decode prog_65_method_12_code 17 = .ok (.if_icmp .ne 34, 3) := by decide +kernel
theorem d21_20 : decode prog_65_method_12_code 20 = .ok (.aload_n 0, 1) := by decide +kernel
theorem d21_21 : decode prog_65_method_12_code 21 = .ok (.getfield 9, 3) := by decide +kernel
theorem d21_24 : decode prog_65_method_12_code 24 = .ok (.iload 5, 2) := by decide +kernel
theorem d21_26 : decode prog_65_method_12_code 26 = .ok (.iconst 1, 1) := by decide +kernel
theorem d21_27 : decode prog_65_method_12_code 27 = .ok (.iadd, 1) := by decide +kernel
theorem d21_28 : decode prog_65_method_12_code 28 = .ok (.iload 5, 2) := by decide +kernel
theorem d21_30 : decode prog_65_method_12_code 30 = .ok (.iconst 1, 1) := by decide +kernel
theorem d21_31 : decode prog_65_method_12_code 31 = .ok (.iadd, 1) := by decide +kernel
theorem d21_32 : decode prog_65_method_12_code 32 = .ok (.iload 4, 2) := by decide +kernel
theorem d21_34 : decode prog_65_method_12_code 34 = .ok (.iadd, 1) := by decide +kernel
theorem d21_35 : decode prog_65_method_12_code 35 = .ok (.aload_n 2, 1) := by decide +kernel
theorem d21_36 : decode prog_65_method_12_code 36 = .ok (.iload_n 3, 1) := by decide +kernel
theorem d21_37 : decode prog_65_method_12_code 37 = .ok (.iload_n 3, 1) := by decide +kernel
theorem d21_38 : decode prog_65_method_12_code 38 = .ok (.iload 4, 2) := by decide +kernel
theorem d21_40 : decode prog_65_method_12_code 40 = .ok (.iadd, 1) := by decide +kernel
theorem d21_41 : decode prog_65_method_12_code 41 = .ok (.invokestatic 97, 3) := by decide +kernel
theorem d21_44 : decode prog_65_method_12_code 44 = .ok (.ifCond .eq 7, 3) := by decide +kernel
theorem d21_47 : decode prog_65_method_12_code 47 = .ok (.iconst 1, 1) := by decide +kernel
theorem d21_48 : decode prog_65_method_12_code 48 = .ok (.goto 4, 3) := by decide +kernel
theorem d21_51 : decode prog_65_method_12_code 51 = .ok (.iconst 0, 1) := by decide +kernel
theorem d21_52 : decode prog_65_method_12_code 52 = .ok (.ireturn, 1) := by decide +kernel
theorem own_pd17 : parseMethodDescriptor "([BII[BII)Z" = some ⟨[(.array .byte), .int, .int, (.array .byte), .int, .int], some .boolean⟩ := by decide +kernel
theorem own_pn_rmH_0 : plainName "com/example/design_drills/designdrills/service/listens/IdNumbers" = true := by first | (simp [plainName, overriddenIn]; done) | decide +kernel
theorem own_ef_rmH_0 (m : MethodId) (r0 : Addr) (r2 : Addr) (p4 : Int32) : entryFrame m #[(.ref r0), (.int (0 : Int32)), (.ref r2), (.int (0 : Int32)), (.int p4)] 6 = mkF m 0 #[.val (.ref r0), .val (.int (0 : Int32)), .val (.ref r2), .val (.int (0 : Int32)), .val (.int p4), .unset] [] := by first | (simp [entryFrame, mkF, argsToLocals, Value.category]; done) | rfl
set_option maxRecDepth 65536 in
set_option maxHeartbeats 40000000 in
theorem rmH_0 (l : Launch) (Z : State) (a0 : Array Value) (hw : ∀ d ∈ tables_1, d.before a0 Z = true) (ws : List Jvm.Cond) (r0 : Addr) (r2 : Addr) (p4 : Int32) (cb : Addr) (cs : Addr) (fb : Nat → Value) (fs : Nat → Value) (q : Nat) (q1 : Nat) (n : Nat) (g : Nat → Value) (h0 : Heap) (n0 : Nat) (Z0 : n0 ≤ h0.size) (F_b : Fld Z h0 r0 "com/example/design_drills/designdrills/service/listens/IdNumbers" "bytes" "[B" (.ref cb)) (F_s : Fld Z h0 r0 "com/example/design_drills/designdrills/service/listens/IdNumbers" "starts" "[I" (.ref cs)) (Ab : Af Z h0 cb .byte 256 fb) (As : Af Z h0 cs .int 16 fs) (hs : fs 0 = .int q.toInt32) (hb : fb q = .int q1.toInt32) (hq : q < 23) (hp : p4 = n.toInt32) (hn : n ≤ 4) (B : Af Z h0 r2 .byte n g) :
    MetFree l (⟨"com/example/design_drills/designdrills/service/listens/IdNumbers", "holds", "(I[BII)Z"⟩ : MethodName) (head1 (Jvm.Cond.code (⟨"com/example/design_drills/designdrills/service/listens/IdNumbers", "holds", "(I[BII)Z"⟩ : MethodName) prog_65_method_12_code 6 (some .boolean) :: ws) ({ frames := 2, cells := 0, slots := 0, locals := 38 } : Room)) (fun a U => a = #[(.ref r0), (.int (0 : Int32)), (.ref r2), (.int (0 : Int32)), (.int p4)] ∧ Z.Warmed39 U.vm ∧ U.heap = h0) (fun _ _ _ _ _ => True) (fun _ U o U' => ∃ v L, o = .returned v ∧ QH q1 p4 h0 n0 v U'.heap L ∧ FrameEnd U o U' L ({ frames := 2, cells := 0, slots := 0, locals := 38 } : Room).cells ({ frames := 2, cells := 0, slots := 0, locals := 38 } : Room).slots) := by
  refine MetFree.of_bodySF (plainFor_of_name own_pn_rmH_0) hisR ?_
  intro p e s m args below meth cO s₁ Bd hml0 hP hK
  obtain ⟨rfl, hZ, hh⟩ := hP
  have hx := Bd.exec
  have hby := Bd.bytes
  have hD := @Jvm.hb _ _ hby
  have hml : cO.maxLocals = 6 := hml0
  have hown : s.vm.findClass "com/example/design_drills/designdrills/service/listens/IdNumbers" = some m.cls := findClass_of_methodNamed Bd.named
  have hnm := (name_of_methodNamed Bd.named Bd.method).1
  have hlk : meth.locks = false := BodyLoose.notSynchronized Bd
  have X0 : Stand p l e ({ frames := 2, cells := 0, slots := 0, locals := 38 } : Room) s m #[(.ref r0), (.int (0 : Int32)), (.ref r2), (.int (0 : Int32)), (.int p4)] below meth cO s₁ [] 0 0 := Stand.of_body Bd
  have e0 : s₁.heap = h0 := by rw [← hh, Bd.state]; rfl
  have N0 := Fr.nil n0
  refine own_in (own_ef_rmH_0 m r0 r2 p4) ?_
  show Gm p e below s₁ m 0 #[rv r0, iv (0 : Int32), rv r2, iv (0 : Int32), iv p4, .unset] [] _
  refine own_go (fun t' k' => XS.aloadN X0.here hx rfl (hD d21_0) rfl rfl k') ?_
  show Gm p e below s₁ m 1 #[rv r0, iv (0 : Int32), rv r2, iv (0 : Int32), iv p4, .unset] [(.ref r0)] _
  obtain ⟨T1, X1, e1, st1⟩ := getF X0 hx hZ hown (host := "") (Or.inl (hw _ (List.mem_of_getElem? (i := 51) rfl))) Via.refl e0 F_s (g := (mkF m 1 #[rv r0, iv (0 : Int32), rv r2, iv (0 : Int32), iv p4, .unset] [(.ref r0)])) rfl rfl (hD d21_1)
  refine own_go st1 ?_
  refine own_go (fun t' k' => XS.iloadN X1.here hx rfl (hD d21_4) rfl k') ?_
  show Gm p e below T1 m 5 #[rv r0, iv (0 : Int32), rv r2, iv (0 : Int32), iv p4, .unset] [(.int (0 : Int32)), (.ref cs)] _
  refine own_go (fun t' k' => own_ldI X1 hx hZ e1 As (j := (0 : Int32)) (k := 0) (by decide) rfl (by decide) (w := (.int (q.toInt32))) hs (g := (mkF m 5 #[rv r0, iv (0 : Int32), rv r2, iv (0 : Int32), iv p4, .unset] [(.int (0 : Int32)), (.ref cs)])) rfl rfl (hD d21_5) k') ?_
  refine own_go (fun t' k' => XS.istore X1.here hx rfl (hD d21_6) rfl (l' := #[rv r0, iv (0 : Int32), rv r2, iv (0 : Int32), iv p4, iv (q.toInt32)]) rfl k') ?_
  refine own_go (fun t' k' => XS.aloadN X1.here hx rfl (hD d21_8) rfl rfl k') ?_
  show Gm p e below T1 m 9 #[rv r0, iv (0 : Int32), rv r2, iv (0 : Int32), iv p4, iv (q.toInt32)] [(.ref r0)] _
  obtain ⟨T2, X2, e2, st2⟩ := getF X1 hx hZ hown (host := "") (Or.inl (hw _ (List.mem_of_getElem? (i := 48) rfl))) Via.refl e1 F_b (g := (mkF m 9 #[rv r0, iv (0 : Int32), rv r2, iv (0 : Int32), iv p4, iv (q.toInt32)] [(.ref r0)])) rfl rfl (hD d21_9)
  refine own_go st2 ?_
  refine own_go (fun t' k' => XS.iload X2.here hx rfl (hD d21_12) rfl k') ?_
  show Gm p e below T2 m 14 #[rv r0, iv (0 : Int32), rv r2, iv (0 : Int32), iv p4, iv (q.toInt32)] [(.int (q.toInt32)), (.ref cb)] _
  refine own_go (fun t' k' => own_ldB X2 hx hZ e2 Ab (j := (q.toInt32)) (k := q) (own_tn (by omega : q < 24)).1 (own_tn (by omega : q < 24)).2 (by omega) (w := (.int (q1.toInt32))) hb (g := (mkF m 14 #[rv r0, iv (0 : Int32), rv r2, iv (0 : Int32), iv p4, iv (q.toInt32)] [(.int (q.toInt32)), (.ref cb)])) rfl rfl (hD d21_14) k') ?_
  refine own_go (fun t' k' => XS.iload X2.here hx rfl (hD d21_15) rfl k') ?_
  show Gm p e below T2 m 17 #[rv r0, iv (0 : Int32), rv r2, iv (0 : Int32), iv p4, iv (q.toInt32)] [(.int p4), (.int (q1.toInt32))] _
  by_cases c3 : (q1.toInt32) = p4
  · have hfork := trivial
    refine own_go (fun t' k' => XS.icmpNo X2.here hx rfl (hD d21_17) rfl (XT.ii_ne_f c3) k') ?_
    refine own_go (fun t' k' => XS.aloadN X2.here hx rfl (hD d21_20) rfl rfl k') ?_
    show Gm p e below T2 m 21 #[rv r0, iv (0 : Int32), rv r2, iv (0 : Int32), iv p4, iv (q.toInt32)] [(.ref r0)] _
    obtain ⟨T4, X4, e4, st4⟩ := getF X2 hx hZ hown (host := "") (Or.inl (hw _ (List.mem_of_getElem? (i := 48) rfl))) Via.refl e2 F_b (g := (mkF m 21 #[rv r0, iv (0 : Int32), rv r2, iv (0 : Int32), iv p4, iv (q.toInt32)] [(.ref r0)])) rfl rfl (hD d21_21)
    refine own_go st4 ?_
    refine own_go (fun t' k' => XS.iload X4.here hx rfl (hD d21_24) rfl k') ?_
    refine own_go (fun t' k' => XS.iconst X4.here hx rfl (hD d21_26) k') ?_
    show Gm p e below T4 m 27 #[rv r0, iv (0 : Int32), rv r2, iv (0 : Int32), iv p4, iv (q.toInt32)] [(.int (1 : Int32)), (.int (q.toInt32)), (.ref cb)] _
    refine own_go (fun t' k' => XS.iadd X4.here hx rfl (hD d21_27) rfl k') ?_
    refine own_go (fun t' k' => XS.iload X4.here hx rfl (hD d21_28) rfl k') ?_
    refine own_go (fun t' k' => XS.iconst X4.here hx rfl (hD d21_30) k') ?_
    show Gm p e below T4 m 31 #[rv r0, iv (0 : Int32), rv r2, iv (0 : Int32), iv p4, iv (q.toInt32)] [(.int (1 : Int32)), (.int (q.toInt32)), (.int ((q.toInt32) + (1 : Int32))), (.ref cb)] _
    refine own_go (fun t' k' => XS.iadd X4.here hx rfl (hD d21_31) rfl k') ?_
    refine own_go (fun t' k' => XS.iload X4.here hx rfl (hD d21_32) rfl k') ?_
    refine own_go (fun t' k' => XS.iadd X4.here hx rfl (hD d21_34) rfl k') ?_
    show Gm p e below T4 m 35 #[rv r0, iv (0 : Int32), rv r2, iv (0 : Int32), iv p4, iv (q.toInt32)] [(.int (((q.toInt32) + (1 : Int32)) + p4)), (.int ((q.toInt32) + (1 : Int32))), (.ref cb)] _
    refine own_go (fun t' k' => XS.aloadN X4.here hx rfl (hD d21_35) rfl rfl k') ?_
    refine own_go (fun t' k' => XS.iloadN X4.here hx rfl (hD d21_36) rfl k') ?_
    refine own_go (fun t' k' => XS.iloadN X4.here hx rfl (hD d21_37) rfl k') ?_
    show Gm p e below T4 m 38 #[rv r0, iv (0 : Int32), rv r2, iv (0 : Int32), iv p4, iv (q.toInt32)] [(.int (0 : Int32)), (.int (0 : Int32)), (.ref r2), (.int (((q.toInt32) + (1 : Int32)) + p4)), (.int ((q.toInt32) + (1 : Int32))), (.ref cb)] _
    refine own_go (fun t' k' => XS.iload X4.here hx rfl (hD d21_38) rfl k') ?_
    refine own_go (fun t' k' => XS.iadd X4.here hx rfl (hD d21_40) rfl k') ?_
    show Gm p e below T4 m 41 #[rv r0, iv (0 : Int32), rv r2, iv (0 : Int32), iv p4, iv (q.toInt32)] [(.int ((0 : Int32) + p4)), (.int (0 : Int32)), (.ref r2), (.int (((q.toInt32) + (1 : Int32)) + p4)), (.int ((q.toInt32) + (1 : Int32))), (.ref cb)] _
    obtain ⟨_, _, ⟨T5, L5, k5, n5⟩, -, X5, ⟨Lc5, hQ5, l5, y5, z5⟩, st5⟩ := Jvm.LawKit.callS X4 hx (y := (⟨"java/util/Arrays", "equals", "([BII[BII)Z"⟩ : MethodName)) hown (mvT hZ (hw _ (List.mem_of_getElem? (i := 129) rfl))) (mvT hZ (hw _ (List.mem_of_getElem? (i := 130) rfl))) (mvT hZ (hw _ (List.mem_of_getElem? (i := 131) rfl))) (mvT hZ (hw _ (List.mem_of_getElem? (i := 132) rfl))) (by decide) (backOf (W := 0) (rmAE l Z a0 hw [] cb ((q.toInt32) + (1 : Int32)) (((q.toInt32) + (1 : Int32)) + p4) r2 ((0 : Int32) + p4) n (q + 1) fb g h0 n0 Z0 hn Ab B (by omega) (own_pl (n := 1) (by omega) (by decide)) (by rw [hp]; exact (congrArg (· + n.toInt32) (own_pl (o := q) (n := 1) (by omega) (by decide))).trans (own_pl (by omega) (by omega))) (by rw [hp]; exact (own_pl (o := 0) (by decide) (by omega)).trans (by rw [Nat.zero_add]))) hZ (hw _ (List.mem_of_getElem? (i := 132) rfl)) (hw _ (List.mem_of_getElem? (i := 131) rfl)) (by decide) (by decide)) (g := (mkF m 41 #[rv r0, iv (0 : Int32), rv r2, iv (0 : Int32), iv p4, iv (q.toInt32)] [(.int ((0 : Int32) + p4)), (.int (0 : Int32)), (.ref r2), (.int (((q.toInt32) + (1 : Int32)) + p4)), (.int ((q.toInt32) + (1 : Int32))), (.ref cb)])) rfl (by rw [hml]; rfl) (argsL := [(.ref cb), (.int ((q.toInt32) + (1 : Int32))), (.int (((q.toInt32) + (1 : Int32)) + p4)), (.ref r2), (.int (0 : Int32)), (.int ((0 : Int32) + p4))]) (rest := []) (lenOf own_pd17 rfl) rfl (by show 2 * 0 + _ ≤ _; exact Nat.le_of_eq rfl) (hD d21_41) (fun _ _ => ⟨rfl, e4, (by decide : 0 + 0 ≤ _), (by decide : 0 + 0 ≤ _)⟩)
    dsimp only [Pt.U, Pt.locs, Pt.cells, Pt.slots] at X5 l5 y5 z5 st5 hQ5
    subst l5 y5 z5
    obtain ⟨za5, rfl, Nq5, eq5⟩ := hQ5
    have N5 := Fr.app N0 Nq5
    have e5 : T5.heap = h0 := eq5
    refine own_go st5 ?_
    show Gm p e below T5 m 44 #[rv r0, iv (0 : Int32), rv r2, iv (0 : Int32), iv p4, iv (q.toInt32)] [(.int za5)] _
    by_cases c6 : za5 = (0 : Int32)
    · have hfork := trivial
      refine own_go (fun t' k' => XS.ifYes X5.here hx rfl (pc0 := 44) (pc' := 51) rfl (hD d21_44) rfl (XT.i0_eq_t c6) (by decide) (by decide) k') ?_
      refine own_go (fun t' k' => XS.iconst X5.here hx rfl (hD d21_51) k') ?_
      show Gm p e below T5 m 52 #[rv r0, iv (0 : Int32), rv r2, iv (0 : Int32), iv p4, iv (q.toInt32)] [(.int (0 : Int32))] _
      exact own_retI X5 hx hlk (t := .boolean) Bd.returns rfl (by simp) (hD d21_52) e5 ⟨_, rfl, fun u => absurd rfl u, N5, rfl⟩ (by decide) (by decide)
    · have hfork := trivial
      refine own_go (fun t' k' => XS.ifNo X5.here hx rfl (hD d21_44) rfl (XT.i0_eq_f c6) k') ?_
      refine own_go (fun t' k' => XS.iconst X5.here hx rfl (hD d21_47) k') ?_
      refine own_go (fun t' k' => XS.goto X5.here hx rfl (pc0 := 48) (pc' := 52) rfl (hD d21_48) (by decide) (by decide) k') ?_
      show Gm p e below T5 m 52 #[rv r0, iv (0 : Int32), rv r2, iv (0 : Int32), iv p4, iv (q.toInt32)] [(.int (1 : Int32))] _
      exact own_retI X5 hx hlk (t := .boolean) Bd.returns rfl (by simp) (hD d21_52) e5 ⟨_, rfl, fun _ => c3, N5, rfl⟩ (by decide) (by decide)
  · have hfork := trivial
    refine own_go (fun t' k' => XS.icmpYes X2.here hx rfl (pc0 := 17) (pc' := 51) rfl (hD d21_17) rfl (XT.ii_ne_t c3) (by decide) (by decide) k') ?_
    refine own_go (fun t' k' => XS.iconst X2.here hx rfl (hD d21_51) k') ?_
    show Gm p e below T2 m 52 #[rv r0, iv (0 : Int32), rv r2, iv (0 : Int32), iv p4, iv (q.toInt32)] [(.int (0 : Int32))] _
    exact own_retI X2 hx hlk (t := .boolean) Bd.returns rfl (by simp) (hD d21_52) e2 ⟨_, rfl, fun u => absurd rfl u, N0, rfl⟩ (by decide) (by decide)
theorem own_pn_rmH_1 : plainName "com/example/design_drills/designdrills/service/listens/IdNumbers" = true := by first | (simp [plainName, overriddenIn]; done) | decide +kernel
theorem own_ef_rmH_1 (m : MethodId) (r0 : Addr) (r2 : Addr) (p4 : Int32) : entryFrame m #[(.ref r0), (.int (1 : Int32)), (.ref r2), (.int (0 : Int32)), (.int p4)] 6 = mkF m 0 #[.val (.ref r0), .val (.int (1 : Int32)), .val (.ref r2), .val (.int (0 : Int32)), .val (.int p4), .unset] [] := by first | (simp [entryFrame, mkF, argsToLocals, Value.category]; done) | rfl
set_option maxRecDepth 65536 in
set_option maxHeartbeats 40000000 in
theorem rmH_1 (l : Launch) (Z : State) (a0 : Array Value) (hw : ∀ d ∈ tables_1, d.before a0 Z = true) (ws : List Jvm.Cond) (r0 : Addr) (r2 : Addr) (p4 : Int32) (cb : Addr) (cs : Addr) (fb : Nat → Value) (fs : Nat → Value) (q : Nat) (q1 : Nat) (n : Nat) (g : Nat → Value) (h0 : Heap) (n0 : Nat) (Z0 : n0 ≤ h0.size) (F_b : Fld Z h0 r0 "com/example/design_drills/designdrills/service/listens/IdNumbers" "bytes" "[B" (.ref cb)) (F_s : Fld Z h0 r0 "com/example/design_drills/designdrills/service/listens/IdNumbers" "starts" "[I" (.ref cs)) (Ab : Af Z h0 cb .byte 256 fb) (As : Af Z h0 cs .int 16 fs) (hs : fs 1 = .int q.toInt32) (hb : fb q = .int q1.toInt32) (hq : q < 23) (hp : p4 = n.toInt32) (hn : n ≤ 4) (B : Af Z h0 r2 .byte n g) :
    MetFree l (⟨"com/example/design_drills/designdrills/service/listens/IdNumbers", "holds", "(I[BII)Z"⟩ : MethodName) (head1 (Jvm.Cond.code (⟨"com/example/design_drills/designdrills/service/listens/IdNumbers", "holds", "(I[BII)Z"⟩ : MethodName) prog_65_method_12_code 6 (some .boolean) :: ws) ({ frames := 2, cells := 0, slots := 0, locals := 38 } : Room)) (fun a U => a = #[(.ref r0), (.int (1 : Int32)), (.ref r2), (.int (0 : Int32)), (.int p4)] ∧ Z.Warmed39 U.vm ∧ U.heap = h0) (fun _ _ _ _ _ => True) (fun _ U o U' => ∃ v L, o = .returned v ∧ QH q1 p4 h0 n0 v U'.heap L ∧ FrameEnd U o U' L ({ frames := 2, cells := 0, slots := 0, locals := 38 } : Room).cells ({ frames := 2, cells := 0, slots := 0, locals := 38 } : Room).slots) := by
  refine MetFree.of_bodySF (plainFor_of_name own_pn_rmH_1) hisR ?_
  intro p e s m args below meth cO s₁ Bd hml0 hP hK
  obtain ⟨rfl, hZ, hh⟩ := hP
  have hx := Bd.exec
  have hby := Bd.bytes
  have hD := @Jvm.hb _ _ hby
  have hml : cO.maxLocals = 6 := hml0
  have hown : s.vm.findClass "com/example/design_drills/designdrills/service/listens/IdNumbers" = some m.cls := findClass_of_methodNamed Bd.named
  have hnm := (name_of_methodNamed Bd.named Bd.method).1
  have hlk : meth.locks = false := BodyLoose.notSynchronized Bd
  have X0 : Stand p l e ({ frames := 2, cells := 0, slots := 0, locals := 38 } : Room) s m #[(.ref r0), (.int (1 : Int32)), (.ref r2), (.int (0 : Int32)), (.int p4)] below meth cO s₁ [] 0 0 := Stand.of_body Bd
  have e0 : s₁.heap = h0 := by rw [← hh, Bd.state]; rfl
  have N0 := Fr.nil n0
  refine own_in (own_ef_rmH_1 m r0 r2 p4) ?_
  show Gm p e below s₁ m 0 #[rv r0, iv (1 : Int32), rv r2, iv (0 : Int32), iv p4, .unset] [] _
  refine own_go (fun t' k' => XS.aloadN X0.here hx rfl (hD d21_0) rfl rfl k') ?_
  show Gm p e below s₁ m 1 #[rv r0, iv (1 : Int32), rv r2, iv (0 : Int32), iv p4, .unset] [(.ref r0)] _
  obtain ⟨T1, X1, e1, st1⟩ := getF X0 hx hZ hown (host := "") (Or.inl (hw _ (List.mem_of_getElem? (i := 51) rfl))) Via.refl e0 F_s (g := (mkF m 1 #[rv r0, iv (1 : Int32), rv r2, iv (0 : Int32), iv p4, .unset] [(.ref r0)])) rfl rfl (hD d21_1)
  refine own_go st1 ?_
  refine own_go (fun t' k' => XS.iloadN X1.here hx rfl (hD d21_4) rfl k') ?_
  show Gm p e below T1 m 5 #[rv r0, iv (1 : Int32), rv r2, iv (0 : Int32), iv p4, .unset] [(.int (1 : Int32)), (.ref cs)] _
  refine own_go (fun t' k' => own_ldI X1 hx hZ e1 As (j := (1 : Int32)) (k := 1) (by decide) rfl (by decide) (w := (.int (q.toInt32))) hs (g := (mkF m 5 #[rv r0, iv (1 : Int32), rv r2, iv (0 : Int32), iv p4, .unset] [(.int (1 : Int32)), (.ref cs)])) rfl rfl (hD d21_5) k') ?_
  refine own_go (fun t' k' => XS.istore X1.here hx rfl (hD d21_6) rfl (l' := #[rv r0, iv (1 : Int32), rv r2, iv (0 : Int32), iv p4, iv (q.toInt32)]) rfl k') ?_
  refine own_go (fun t' k' => XS.aloadN X1.here hx rfl (hD d21_8) rfl rfl k') ?_
  show Gm p e below T1 m 9 #[rv r0, iv (1 : Int32), rv r2, iv (0 : Int32), iv p4, iv (q.toInt32)] [(.ref r0)] _
  obtain ⟨T2, X2, e2, st2⟩ := getF X1 hx hZ hown (host := "") (Or.inl (hw _ (List.mem_of_getElem? (i := 48) rfl))) Via.refl e1 F_b (g := (mkF m 9 #[rv r0, iv (1 : Int32), rv r2, iv (0 : Int32), iv p4, iv (q.toInt32)] [(.ref r0)])) rfl rfl (hD d21_9)
  refine own_go st2 ?_
  refine own_go (fun t' k' => XS.iload X2.here hx rfl (hD d21_12) rfl k') ?_
  show Gm p e below T2 m 14 #[rv r0, iv (1 : Int32), rv r2, iv (0 : Int32), iv p4, iv (q.toInt32)] [(.int (q.toInt32)), (.ref cb)] _
  refine own_go (fun t' k' => own_ldB X2 hx hZ e2 Ab (j := (q.toInt32)) (k := q) (own_tn (by omega : q < 24)).1 (own_tn (by omega : q < 24)).2 (by omega) (w := (.int (q1.toInt32))) hb (g := (mkF m 14 #[rv r0, iv (1 : Int32), rv r2, iv (0 : Int32), iv p4, iv (q.toInt32)] [(.int (q.toInt32)), (.ref cb)])) rfl rfl (hD d21_14) k') ?_
  refine own_go (fun t' k' => XS.iload X2.here hx rfl (hD d21_15) rfl k') ?_
  show Gm p e below T2 m 17 #[rv r0, iv (1 : Int32), rv r2, iv (0 : Int32), iv p4, iv (q.toInt32)] [(.int p4), (.int (q1.toInt32))] _
  by_cases c3 : (q1.toInt32) = p4
  · have hfork := trivial
    refine own_go (fun t' k' => XS.icmpNo X2.here hx rfl (hD d21_17) rfl (XT.ii_ne_f c3) k') ?_
    refine own_go (fun t' k' => XS.aloadN X2.here hx rfl (hD d21_20) rfl rfl k') ?_
    show Gm p e below T2 m 21 #[rv r0, iv (1 : Int32), rv r2, iv (0 : Int32), iv p4, iv (q.toInt32)] [(.ref r0)] _
    obtain ⟨T4, X4, e4, st4⟩ := getF X2 hx hZ hown (host := "") (Or.inl (hw _ (List.mem_of_getElem? (i := 48) rfl))) Via.refl e2 F_b (g := (mkF m 21 #[rv r0, iv (1 : Int32), rv r2, iv (0 : Int32), iv p4, iv (q.toInt32)] [(.ref r0)])) rfl rfl (hD d21_21)
    refine own_go st4 ?_
    refine own_go (fun t' k' => XS.iload X4.here hx rfl (hD d21_24) rfl k') ?_
    refine own_go (fun t' k' => XS.iconst X4.here hx rfl (hD d21_26) k') ?_
    show Gm p e below T4 m 27 #[rv r0, iv (1 : Int32), rv r2, iv (0 : Int32), iv p4, iv (q.toInt32)] [(.int (1 : Int32)), (.int (q.toInt32)), (.ref cb)] _
    refine own_go (fun t' k' => XS.iadd X4.here hx rfl (hD d21_27) rfl k') ?_
    refine own_go (fun t' k' => XS.iload X4.here hx rfl (hD d21_28) rfl k') ?_
    refine own_go (fun t' k' => XS.iconst X4.here hx rfl (hD d21_30) k') ?_
    show Gm p e below T4 m 31 #[rv r0, iv (1 : Int32), rv r2, iv (0 : Int32), iv p4, iv (q.toInt32)] [(.int (1 : Int32)), (.int (q.toInt32)), (.int ((q.toInt32) + (1 : Int32))), (.ref cb)] _
    refine own_go (fun t' k' => XS.iadd X4.here hx rfl (hD d21_31) rfl k') ?_
    refine own_go (fun t' k' => XS.iload X4.here hx rfl (hD d21_32) rfl k') ?_
    refine own_go (fun t' k' => XS.iadd X4.here hx rfl (hD d21_34) rfl k') ?_
    show Gm p e below T4 m 35 #[rv r0, iv (1 : Int32), rv r2, iv (0 : Int32), iv p4, iv (q.toInt32)] [(.int (((q.toInt32) + (1 : Int32)) + p4)), (.int ((q.toInt32) + (1 : Int32))), (.ref cb)] _
    refine own_go (fun t' k' => XS.aloadN X4.here hx rfl (hD d21_35) rfl rfl k') ?_
    refine own_go (fun t' k' => XS.iloadN X4.here hx rfl (hD d21_36) rfl k') ?_
    refine own_go (fun t' k' => XS.iloadN X4.here hx rfl (hD d21_37) rfl k') ?_
    show Gm p e below T4 m 38 #[rv r0, iv (1 : Int32), rv r2, iv (0 : Int32), iv p4, iv (q.toInt32)] [(.int (0 : Int32)), (.int (0 : Int32)), (.ref r2), (.int (((q.toInt32) + (1 : Int32)) + p4)), (.int ((q.toInt32) + (1 : Int32))), (.ref cb)] _
    refine own_go (fun t' k' => XS.iload X4.here hx rfl (hD d21_38) rfl k') ?_
    refine own_go (fun t' k' => XS.iadd X4.here hx rfl (hD d21_40) rfl k') ?_
    show Gm p e below T4 m 41 #[rv r0, iv (1 : Int32), rv r2, iv (0 : Int32), iv p4, iv (q.toInt32)] [(.int ((0 : Int32) + p4)), (.int (0 : Int32)), (.ref r2), (.int (((q.toInt32) + (1 : Int32)) + p4)), (.int ((q.toInt32) + (1 : Int32))), (.ref cb)] _
    obtain ⟨_, _, ⟨T5, L5, k5, n5⟩, -, X5, ⟨Lc5, hQ5, l5, y5, z5⟩, st5⟩ := Jvm.LawKit.callS X4 hx (y := (⟨"java/util/Arrays", "equals", "([BII[BII)Z"⟩ : MethodName)) hown (mvT hZ (hw _ (List.mem_of_getElem? (i := 129) rfl))) (mvT hZ (hw _ (List.mem_of_getElem? (i := 130) rfl))) (mvT hZ (hw _ (List.mem_of_getElem? (i := 131) rfl))) (mvT hZ (hw _ (List.mem_of_getElem? (i := 132) rfl))) (by decide) (backOf (W := 0) (rmAE l Z a0 hw [] cb ((q.toInt32) + (1 : Int32)) (((q.toInt32) + (1 : Int32)) + p4) r2 ((0 : Int32) + p4) n (q + 1) fb g h0 n0 Z0 hn Ab B (by omega) (own_pl (n := 1) (by omega) (by decide)) (by rw [hp]; exact (congrArg (· + n.toInt32) (own_pl (o := q) (n := 1) (by omega) (by decide))).trans (own_pl (by omega) (by omega))) (by rw [hp]; exact (own_pl (o := 0) (by decide) (by omega)).trans (by rw [Nat.zero_add]))) hZ (hw _ (List.mem_of_getElem? (i := 132) rfl)) (hw _ (List.mem_of_getElem? (i := 131) rfl)) (by decide) (by decide)) (g := (mkF m 41 #[rv r0, iv (1 : Int32), rv r2, iv (0 : Int32), iv p4, iv (q.toInt32)] [(.int ((0 : Int32) + p4)), (.int (0 : Int32)), (.ref r2), (.int (((q.toInt32) + (1 : Int32)) + p4)), (.int ((q.toInt32) + (1 : Int32))), (.ref cb)])) rfl (by rw [hml]; rfl) (argsL := [(.ref cb), (.int ((q.toInt32) + (1 : Int32))), (.int (((q.toInt32) + (1 : Int32)) + p4)), (.ref r2), (.int (0 : Int32)), (.int ((0 : Int32) + p4))]) (rest := []) (lenOf own_pd17 rfl) rfl (by show 2 * 0 + _ ≤ _; exact Nat.le_of_eq rfl) (hD d21_41) (fun _ _ => ⟨rfl, e4, (by decide : 0 + 0 ≤ _), (by decide : 0 + 0 ≤ _)⟩)
    dsimp only [Pt.U, Pt.locs, Pt.cells, Pt.slots] at X5 l5 y5 z5 st5 hQ5
    subst l5 y5 z5
    obtain ⟨za5, rfl, Nq5, eq5⟩ := hQ5
    have N5 := Fr.app N0 Nq5
    have e5 : T5.heap = h0 := eq5
    refine own_go st5 ?_
    show Gm p e below T5 m 44 #[rv r0, iv (1 : Int32), rv r2, iv (0 : Int32), iv p4, iv (q.toInt32)] [(.int za5)] _
    by_cases c6 : za5 = (0 : Int32)
    · have hfork := trivial
      refine own_go (fun t' k' => XS.ifYes X5.here hx rfl (pc0 := 44) (pc' := 51) rfl (hD d21_44) rfl (XT.i0_eq_t c6) (by decide) (by decide) k') ?_
      refine own_go (fun t' k' => XS.iconst X5.here hx rfl (hD d21_51) k') ?_
      show Gm p e below T5 m 52 #[rv r0, iv (1 : Int32), rv r2, iv (0 : Int32), iv p4, iv (q.toInt32)] [(.int (0 : Int32))] _
      exact own_retI X5 hx hlk (t := .boolean) Bd.returns rfl (by simp) (hD d21_52) e5 ⟨_, rfl, fun u => absurd rfl u, N5, rfl⟩ (by decide) (by decide)
    · have hfork := trivial
      refine own_go (fun t' k' => XS.ifNo X5.here hx rfl (hD d21_44) rfl (XT.i0_eq_f c6) k') ?_
      refine own_go (fun t' k' => XS.iconst X5.here hx rfl (hD d21_47) k') ?_
      refine own_go (fun t' k' => XS.goto X5.here hx rfl (pc0 := 48) (pc' := 52) rfl (hD d21_48) (by decide) (by decide) k') ?_
      show Gm p e below T5 m 52 #[rv r0, iv (1 : Int32), rv r2, iv (0 : Int32), iv p4, iv (q.toInt32)] [(.int (1 : Int32))] _
      exact own_retI X5 hx hlk (t := .boolean) Bd.returns rfl (by simp) (hD d21_52) e5 ⟨_, rfl, fun _ => c3, N5, rfl⟩ (by decide) (by decide)
  · have hfork := trivial
    refine own_go (fun t' k' => XS.icmpYes X2.here hx rfl (pc0 := 17) (pc' := 51) rfl (hD d21_17) rfl (XT.ii_ne_t c3) (by decide) (by decide) k') ?_
    refine own_go (fun t' k' => XS.iconst X2.here hx rfl (hD d21_51) k') ?_
    show Gm p e below T2 m 52 #[rv r0, iv (1 : Int32), rv r2, iv (0 : Int32), iv p4, iv (q.toInt32)] [(.int (0 : Int32))] _
    exact own_retI X2 hx hlk (t := .boolean) Bd.returns rfl (by simp) (hD d21_52) e2 ⟨_, rfl, fun u => absurd rfl u, N0, rfl⟩ (by decide) (by decide)
theorem d20_0 : decode prog_65_method_16_code 0 = .ok (.iload_n 0, 1) := by decide +kernel
theorem d20_1 : decode prog_65_method_16_code 1 = .ok (.iload_n 0, 1) := by decide +kernel
theorem d20_2 : decode prog_65_method_16_code 2 = .ok (.bipush 16, 2) := by decide +kernel
theorem d20_4 : decode prog_65_method_16_code 4 = .ok (.iushr, 1) := by decide +kernel
theorem d20_5 : decode prog_65_method_16_code 5 = .ok (.ixor, 1) := by decide +kernel
theorem d20_6 : decode prog_65_method_16_code 6 = .ok (.ldc 122, 2) := by decide +kernel
theorem d20_8 : decode prog_65_method_16_code 8 = .ok (.imul, 1) := by decide +kernel
theorem d20_9 : decode prog_65_method_16_code 9 = .ok (.istore_n 1, 1) := by decide +kernel
theorem d20_10 : decode prog_65_method_16_code 10 = .ok (.iload_n 1, 1) := by decide +kernel
theorem d20_11 : decode prog_65_method_16_code 11 = .ok (.iload_n 1, 1) := by decide +kernel
theorem d20_12 : decode prog_65_method_16_code 12 = .ok (.bipush 13, 2) := by decide +kernel
theorem d20_14 : decode prog_65_method_16_code 14 = .ok (.iushr, 1) := by decide +kernel
theorem d20_15 : decode prog_65_method_16_code 15 = .ok (.ixor, 1) := by decide +kernel
theorem d20_16 : decode prog_65_method_16_code 16 = .ok (.ldc 123, 2) := by decide +kernel
theorem d20_18 : decode prog_65_method_16_code 18 = .ok (.imul, 1) := by decide +kernel
theorem d20_19 : decode prog_65_method_16_code 19 = .ok (.istore_n 1, 1) := by decide +kernel
theorem d20_20 : decode prog_65_method_16_code 20 = .ok (.iload_n 1, 1) := by decide +kernel
theorem d20_21 : decode prog_65_method_16_code 21 = .ok (.iload_n 1, 1) := by decide +kernel
theorem d20_22 : decode prog_65_method_16_code 22 = .ok (.bipush 16, 2) := by decide +kernel
theorem d20_24 : decode prog_65_method_16_code 24 = .ok (.iushr, 1) := by decide +kernel
theorem d20_25 : decode prog_65_method_16_code 25 = .ok (.ixor, 1) := by decide +kernel
theorem d20_26 : decode prog_65_method_16_code 26 = .ok (.ireturn, 1) := by decide +kernel
theorem own_pn_rmSp : plainName "com/example/design_drills/designdrills/service/listens/IdNumbers" = true := by first | (simp [plainName, overriddenIn]; done) | decide +kernel
theorem own_ef_rmSp (m : MethodId) (p0 : Int32) : entryFrame m #[(.int p0)] 2 = mkF m 0 #[.val (.int p0), .unset] [] := by first | (simp [entryFrame, mkF, argsToLocals, Value.category]; done) | rfl
def fSp (p0 : Int32) : Int32 := (((((p0 ^^^ ((p0.toUInt32 >>> ((16 : Int32) &&& 31).toUInt32).toInt32)) * (-2048144789 : Int32)) ^^^ ((((p0 ^^^ ((p0.toUInt32 >>> ((16 : Int32) &&& 31).toUInt32).toInt32)) * (-2048144789 : Int32)).toUInt32 >>> ((13 : Int32) &&& 31).toUInt32).toInt32)) * (-1028477387 : Int32)) ^^^ ((((((p0 ^^^ ((p0.toUInt32 >>> ((16 : Int32) &&& 31).toUInt32).toInt32)) * (-2048144789 : Int32)) ^^^ ((((p0 ^^^ ((p0.toUInt32 >>> ((16 : Int32) &&& 31).toUInt32).toInt32)) * (-2048144789 : Int32)).toUInt32 >>> ((13 : Int32) &&& 31).toUInt32).toInt32)) * (-1028477387 : Int32)).toUInt32 >>> ((16 : Int32) &&& 31).toUInt32).toInt32))
def QSp (Z : State) (p0 : Int32) (h0 : Heap) (n0 : Nat) (v : Option Value) (h : Heap) (L : List Loc) : Prop := v = some (.int (fSp p0)) ∧ Fr n0 L ∧ h = h0
set_option maxRecDepth 65536 in
set_option maxHeartbeats 40000000 in
theorem rmSp (l : Launch) (Z : State) (a0 : Array Value) (hw : ∀ d ∈ tables_1, d.before a0 Z = true) (ws : List Jvm.Cond) (p0 : Int32) (h0 : Heap) (n0 : Nat) (Z0 : n0 ≤ h0.size) :
    MetFree l (⟨"com/example/design_drills/designdrills/service/listens/IdNumbers", "spread", "(I)I"⟩ : MethodName) (head1 (Jvm.Cond.code (⟨"com/example/design_drills/designdrills/service/listens/IdNumbers", "spread", "(I)I"⟩ : MethodName) prog_65_method_16_code 2 (some .int) :: ws) ({ frames := 0, cells := 0, slots := 0, locals := 0 } : Room)) (fun a U => a = #[(.int p0)] ∧ Z.Warmed39 U.vm ∧ U.heap = h0) (fun _ _ _ _ _ => True) (fun _ U o U' => ∃ v L, o = .returned v ∧ QSp Z p0 h0 n0 v U'.heap L ∧ FrameEnd U o U' L ({ frames := 0, cells := 0, slots := 0, locals := 0 } : Room).cells ({ frames := 0, cells := 0, slots := 0, locals := 0 } : Room).slots) := by
  refine MetFree.of_bodySF (plainFor_of_name own_pn_rmSp) hisR ?_
  intro p e s m args below meth cO s₁ Bd hml0 hP hK
  obtain ⟨rfl, hZ, hh⟩ := hP
  have hx := Bd.exec
  have hby := Bd.bytes
  have hD := @Jvm.hb _ _ hby
  have hml : cO.maxLocals = 2 := hml0
  have hown : s.vm.findClass "com/example/design_drills/designdrills/service/listens/IdNumbers" = some m.cls := findClass_of_methodNamed Bd.named
  have hnm := (name_of_methodNamed Bd.named Bd.method).1
  have hlk : meth.locks = false := BodyLoose.notSynchronized Bd
  have X0 : Stand p l e ({ frames := 0, cells := 0, slots := 0, locals := 0 } : Room) s m #[(.int p0)] below meth cO s₁ [] 0 0 := Stand.of_body Bd
  have e0 : s₁.heap = h0 := by rw [← hh, Bd.state]; rfl
  have N0 := Fr.nil n0
  refine own_in (own_ef_rmSp m p0) ?_
  show Gm p e below s₁ m 0 #[iv p0, .unset] [] _
  refine own_go (fun t' k' => XS.iloadN X0.here hx rfl (hD d20_0) rfl k') ?_
  refine own_go (fun t' k' => XS.iloadN X0.here hx rfl (hD d20_1) rfl k') ?_
  refine own_go (fun t' k' => XS.bipush X0.here hx rfl (hD d20_2) k') ?_
  show Gm p e below s₁ m 4 #[iv p0, .unset] [(.int (16 : Int32)), (.int p0), (.int p0)] _
  refine own_go (fun t' k' => XS.iushr X0.here hx rfl (hD d20_4) rfl k') ?_
  refine own_go (fun t' k' => XS.ixor X0.here hx rfl (hD d20_5) rfl k') ?_
  show Gm p e below s₁ m 6 #[iv p0, .unset] [(.int (p0 ^^^ ((p0.toUInt32 >>> ((16 : Int32) &&& 31).toUInt32).toInt32)))] _
  refine own_go (fun t' k' => X0.ldcI hx hown (mvT hZ (hw _ (List.mem_of_getElem? (i := 115) rfl))) rfl (hD d20_6) k') ?_
  refine own_go (fun t' k' => XS.imul X0.here hx rfl (hD d20_8) rfl k') ?_
  refine own_go (fun t' k' => XS.istoreN X0.here hx rfl (hD d20_9) rfl (l' := #[iv p0, iv ((p0 ^^^ ((p0.toUInt32 >>> ((16 : Int32) &&& 31).toUInt32).toInt32)) * (-2048144789 : Int32))]) rfl k') ?_
  show Gm p e below s₁ m 10 #[iv p0, iv ((p0 ^^^ ((p0.toUInt32 >>> ((16 : Int32) &&& 31).toUInt32).toInt32)) * (-2048144789 : Int32))] [] _
  refine own_go (fun t' k' => XS.iloadN X0.here hx rfl (hD d20_10) rfl k') ?_
  refine own_go (fun t' k' => XS.iloadN X0.here hx rfl (hD d20_11) rfl k') ?_
  refine own_go (fun t' k' => XS.bipush X0.here hx rfl (hD d20_12) k') ?_
  show Gm p e below s₁ m 14 #[iv p0, iv ((p0 ^^^ ((p0.toUInt32 >>> ((16 : Int32) &&& 31).toUInt32).toInt32)) * (-2048144789 : Int32))] [(.int (13 : Int32)), (.int ((p0 ^^^ ((p0.toUInt32 >>> ((16 : Int32) &&& 31).toUInt32).toInt32)) * (-2048144789 : Int32))), (.int ((p0 ^^^ ((p0.toUInt32 >>> ((16 : Int32) &&& 31).toUInt32).toInt32)) * (-2048144789 : Int32)))] _
  refine own_go (fun t' k' => XS.iushr X0.here hx rfl (hD d20_14) rfl k') ?_
  refine own_go (fun t' k' => XS.ixor X0.here hx rfl (hD d20_15) rfl k') ?_
  show Gm p e below s₁ m 16 #[iv p0, iv ((p0 ^^^ ((p0.toUInt32 >>> ((16 : Int32) &&& 31).toUInt32).toInt32)) * (-2048144789 : Int32))] [(.int (((p0 ^^^ ((p0.toUInt32 >>> ((16 : Int32) &&& 31).toUInt32).toInt32)) * (-2048144789 : Int32)) ^^^ ((((p0 ^^^ ((p0.toUInt32 >>> ((16 : Int32) &&& 31).toUInt32).toInt32)) * (-2048144789 : Int32)).toUInt32 >>> ((13 : Int32) &&& 31).toUInt32).toInt32)))] _
  refine own_go (fun t' k' => X0.ldcI hx hown (mvT hZ (hw _ (List.mem_of_getElem? (i := 116) rfl))) rfl (hD d20_16) k') ?_
  refine own_go (fun t' k' => XS.imul X0.here hx rfl (hD d20_18) rfl k') ?_
  refine own_go (fun t' k' => XS.istoreN X0.here hx rfl (hD d20_19) rfl (l' := #[iv p0, iv ((((p0 ^^^ ((p0.toUInt32 >>> ((16 : Int32) &&& 31).toUInt32).toInt32)) * (-2048144789 : Int32)) ^^^ ((((p0 ^^^ ((p0.toUInt32 >>> ((16 : Int32) &&& 31).toUInt32).toInt32)) * (-2048144789 : Int32)).toUInt32 >>> ((13 : Int32) &&& 31).toUInt32).toInt32)) * (-1028477387 : Int32))]) rfl k') ?_
  show Gm p e below s₁ m 20 #[iv p0, iv ((((p0 ^^^ ((p0.toUInt32 >>> ((16 : Int32) &&& 31).toUInt32).toInt32)) * (-2048144789 : Int32)) ^^^ ((((p0 ^^^ ((p0.toUInt32 >>> ((16 : Int32) &&& 31).toUInt32).toInt32)) * (-2048144789 : Int32)).toUInt32 >>> ((13 : Int32) &&& 31).toUInt32).toInt32)) * (-1028477387 : Int32))] [] _
  refine own_go (fun t' k' => XS.iloadN X0.here hx rfl (hD d20_20) rfl k') ?_
  refine own_go (fun t' k' => XS.iloadN X0.here hx rfl (hD d20_21) rfl k') ?_
  refine own_go (fun t' k' => XS.bipush X0.here hx rfl (hD d20_22) k') ?_
  show Gm p e below s₁ m 24 #[iv p0, iv ((((p0 ^^^ ((p0.toUInt32 >>> ((16 : Int32) &&& 31).toUInt32).toInt32)) * (-2048144789 : Int32)) ^^^ ((((p0 ^^^ ((p0.toUInt32 >>> ((16 : Int32) &&& 31).toUInt32).toInt32)) * (-2048144789 : Int32)).toUInt32 >>> ((13 : Int32) &&& 31).toUInt32).toInt32)) * (-1028477387 : Int32))] [(.int (16 : Int32)), (.int ((((p0 ^^^ ((p0.toUInt32 >>> ((16 : Int32) &&& 31).toUInt32).toInt32)) * (-2048144789 : Int32)) ^^^ ((((p0 ^^^ ((p0.toUInt32 >>> ((16 : Int32) &&& 31).toUInt32).toInt32)) * (-2048144789 : Int32)).toUInt32 >>> ((13 : Int32) &&& 31).toUInt32).toInt32)) * (-1028477387 : Int32))), (.int ((((p0 ^^^ ((p0.toUInt32 >>> ((16 : Int32) &&& 31).toUInt32).toInt32)) * (-2048144789 : Int32)) ^^^ ((((p0 ^^^ ((p0.toUInt32 >>> ((16 : Int32) &&& 31).toUInt32).toInt32)) * (-2048144789 : Int32)).toUInt32 >>> ((13 : Int32) &&& 31).toUInt32).toInt32)) * (-1028477387 : Int32)))] _
  refine own_go (fun t' k' => XS.iushr X0.here hx rfl (hD d20_24) rfl k') ?_
  refine own_go (fun t' k' => XS.ixor X0.here hx rfl (hD d20_25) rfl k') ?_
  show Gm p e below s₁ m 26 #[iv p0, iv ((((p0 ^^^ ((p0.toUInt32 >>> ((16 : Int32) &&& 31).toUInt32).toInt32)) * (-2048144789 : Int32)) ^^^ ((((p0 ^^^ ((p0.toUInt32 >>> ((16 : Int32) &&& 31).toUInt32).toInt32)) * (-2048144789 : Int32)).toUInt32 >>> ((13 : Int32) &&& 31).toUInt32).toInt32)) * (-1028477387 : Int32))] [(.int (((((p0 ^^^ ((p0.toUInt32 >>> ((16 : Int32) &&& 31).toUInt32).toInt32)) * (-2048144789 : Int32)) ^^^ ((((p0 ^^^ ((p0.toUInt32 >>> ((16 : Int32) &&& 31).toUInt32).toInt32)) * (-2048144789 : Int32)).toUInt32 >>> ((13 : Int32) &&& 31).toUInt32).toInt32)) * (-1028477387 : Int32)) ^^^ ((((((p0 ^^^ ((p0.toUInt32 >>> ((16 : Int32) &&& 31).toUInt32).toInt32)) * (-2048144789 : Int32)) ^^^ ((((p0 ^^^ ((p0.toUInt32 >>> ((16 : Int32) &&& 31).toUInt32).toInt32)) * (-2048144789 : Int32)).toUInt32 >>> ((13 : Int32) &&& 31).toUInt32).toInt32)) * (-1028477387 : Int32)).toUInt32 >>> ((16 : Int32) &&& 31).toUInt32).toInt32)))] _
  exact own_retI X0 hx hlk (t := .int) Bd.returns rfl (by simp) (hD d20_26) e0 ⟨rfl, N0, rfl⟩ (by decide) (by decide)
theorem d19_0 : decode prog_65_method_11_code 0 = .ok (.aload_n 0, 1) := by decide +kernel
theorem d19_1 : decode prog_65_method_11_code 1 = .ok (.getfield 19, 3) := by decide +kernel
theorem d19_4 : decode prog_65_method_11_code 4 = .ok (.arraylength, 1) := by decide +kernel
theorem d19_5 : decode prog_65_method_11_code 5 = .ok (.iconst 1, 1) := by decide +kernel
theorem d19_6 : decode prog_65_method_11_code 6 = .ok (.isub, 1) := by decide +kernel
theorem d19_7 : decode prog_65_method_11_code 7 = .ok (.istore 5, 2) := by decide +kernel
theorem d19_9 : decode prog_65_method_11_code 9 = .ok (.iload 4, 2) := by decide +kernel
theorem d19_11 : decode prog_65_method_11_code 11 = .ok (.invokestatic 90, 3) := by decide +kernel
theorem d19_14 : decode prog_65_method_11_code 14 = .ok (.iload 5, 2) := by decide +kernel
theorem d19_16 : decode prog_65_method_11_code 16 = .ok (.iand, 1) := by decide +kernel
theorem d19_17 : decode prog_65_method_11_code 17 = .ok (.istore 6, 2) := by decide +kernel
theorem d19_19 : decode prog_65_method_11_code 19 = .ok (.aload_n 0, 1) := by decide +kernel
theorem d19_20 : decode prog_65_method_11_code 20 = .ok (.getfield 19, 3) := by decide +kernel
theorem d19_23 : decode prog_65_method_11_code 23 = .ok (.iload 6, 2) := by decide +kernel
theorem d19_25 : decode prog_65_method_11_code 25 = .ok (.iaload, 1) := by decide +kernel
theorem d19_26 : decode prog_65_method_11_code 26 = .ok (.istore 7, 2) := by decide +kernel
theorem d19_28 : decode prog_65_method_11_code 28 = .ok (.iload 7, 2) := by decide +kernel
theorem d19_30 : decode prog_65_method_11_code 30 = .ok (.ifCond .eq 17, 3) := by decide +kernel
theorem d19_47 : decode prog_65_method_11_code 47 = .ok (.iload 6, 2) := by decide +kernel
theorem d19_49 : decode prog_65_method_11_code 49 = .ok (.ireturn, 1) := by decide +kernel
theorem own_pd18 : parseMethodDescriptor "(I)I" = some ⟨[.int], some .int⟩ := by decide +kernel
theorem own_pn_rmSl_0 : plainName "com/example/design_drills/designdrills/service/listens/IdNumbers" = true := by first | (simp [plainName, overriddenIn]; done) | decide +kernel
theorem own_ef_rmSl_0 (m : MethodId) (r0 : Addr) (r1 : Addr) (p3 : Int32) (p4 : Int32) : entryFrame m #[(.ref r0), (.ref r1), (.int (0 : Int32)), (.int p3), (.int p4)] 8 = mkF m 0 #[.val (.ref r0), .val (.ref r1), .val (.int (0 : Int32)), .val (.int p3), .val (.int p4), .unset, .unset, .unset] [] := by first | (simp [entryFrame, mkF, argsToLocals, Value.category]; done) | rfl
def QSl_0 (Z : State) (r0 : Addr) (r1 : Addr) (p3 : Int32) (p4 : Int32) (cb : Addr) (cs : Addr) (cl : Addr) (fb : Nat → Value) (fs : Nat → Value) (fl : Nat → Value) (n : Nat) (g : Nat → Value) (h0 : Heap) (n0 : Nat) (v : Option Value) (h : Heap) (L : List Loc) : Prop := ∃ x : Int32, v = some (.int x) ∧ Fr n0 L ∧ h = h0 ∧ (¬ x < 0) ∧ x.toNatClampNeg < 32 ∧ (fl x.toNatClampNeg = .int 0)
set_option maxRecDepth 65536 in
set_option maxHeartbeats 40000000 in
theorem rmSl_0 (l : Launch) (Z : State) (a0 : Array Value) (hw : ∀ d ∈ tables_1, d.before a0 Z = true) (ws : List Jvm.Cond) (r0 : Addr) (r1 : Addr) (p3 : Int32) (p4 : Int32) (cb : Addr) (cs : Addr) (cl : Addr) (fb : Nat → Value) (fs : Nat → Value) (fl : Nat → Value) (n : Nat) (g : Nat → Value) (h0 : Heap) (n0 : Nat) (Z0 : n0 ≤ h0.size) (E_r0 : Exa Z h0 r0 "com/example/design_drills/designdrills/service/listens/IdNumbers") (F_b : Fld Z h0 r0 "com/example/design_drills/designdrills/service/listens/IdNumbers" "bytes" "[B" (.ref cb)) (F_s : Fld Z h0 r0 "com/example/design_drills/designdrills/service/listens/IdNumbers" "starts" "[I" (.ref cs)) (F_l : Fld Z h0 r0 "com/example/design_drills/designdrills/service/listens/IdNumbers" "slots" "[I" (.ref cl)) (Ab : Af Z h0 cb .byte 256 fb) (As : Af Z h0 cs .int 16 fs) (Al : Af Z h0 cl .int 32 fl) (hJz : ∀ i, i < 32 → fl i = .int 0) (hp : p3 = n.toInt32) (hn : n ≤ 4) (B : Af Z h0 r1 .byte n g) :
    MetFree l (⟨"com/example/design_drills/designdrills/service/listens/IdNumbers", "slotOf", "([BIII)I"⟩ : MethodName) (head1 (Jvm.Cond.code (⟨"com/example/design_drills/designdrills/service/listens/IdNumbers", "slotOf", "([BIII)I"⟩ : MethodName) prog_65_method_11_code 8 (some .int) :: ws) ({ frames := 3, cells := 0, slots := 0, locals := 55 } : Room)) (fun a U => a = #[(.ref r0), (.ref r1), (.int (0 : Int32)), (.int p3), (.int p4)] ∧ Z.Warmed39 U.vm ∧ U.heap = h0) (fun _ _ _ _ _ => True) (fun _ U o U' => ∃ v L, o = .returned v ∧ QSl_0 Z r0 r1 p3 p4 cb cs cl fb fs fl n g h0 n0 v U'.heap L ∧ FrameEnd U o U' L ({ frames := 3, cells := 0, slots := 0, locals := 55 } : Room).cells ({ frames := 3, cells := 0, slots := 0, locals := 55 } : Room).slots) := by
  refine MetFree.of_bodySF (plainFor_of_name own_pn_rmSl_0) hisR ?_
  intro p e s m args below meth cO s₁ Bd hml0 hP hK
  obtain ⟨rfl, hZ, hh⟩ := hP
  have hx := Bd.exec
  have hby := Bd.bytes
  have hD := @Jvm.hb _ _ hby
  have hml : cO.maxLocals = 8 := hml0
  have hown : s.vm.findClass "com/example/design_drills/designdrills/service/listens/IdNumbers" = some m.cls := findClass_of_methodNamed Bd.named
  have hnm := (name_of_methodNamed Bd.named Bd.method).1
  have hlk : meth.locks = false := BodyLoose.notSynchronized Bd
  have X0 : Stand p l e ({ frames := 3, cells := 0, slots := 0, locals := 55 } : Room) s m #[(.ref r0), (.ref r1), (.int (0 : Int32)), (.int p3), (.int p4)] below meth cO s₁ [] 0 0 := Stand.of_body Bd
  have e0 : s₁.heap = h0 := by rw [← hh, Bd.state]; rfl
  have N0 := Fr.nil n0
  refine own_in (own_ef_rmSl_0 m r0 r1 p3 p4) ?_
  show Gm p e below s₁ m 0 #[rv r0, rv r1, iv (0 : Int32), iv p3, iv p4, .unset, .unset, .unset] [] _
  refine own_go (fun t' k' => XS.aloadN X0.here hx rfl (hD d19_0) rfl rfl k') ?_
  show Gm p e below s₁ m 1 #[rv r0, rv r1, iv (0 : Int32), iv p3, iv p4, .unset, .unset, .unset] [(.ref r0)] _
  obtain ⟨T1, X1, e1, st1⟩ := getF X0 hx hZ hown (host := "") (Or.inl (hw _ (List.mem_of_getElem? (i := 53) rfl))) Via.refl e0 F_l (g := (mkF m 1 #[rv r0, rv r1, iv (0 : Int32), iv p3, iv p4, .unset, .unset, .unset] [(.ref r0)])) rfl rfl (hD d19_1)
  refine own_go st1 ?_
  show Gm p e below T1 m 4 #[rv r0, rv r1, iv (0 : Int32), iv p3, iv p4, .unset, .unset, .unset] [(.ref cl)] _
  refine own_go (fun t' k' => own_len X1 hx hZ e1 Al (z := (32 : Int32)) rfl (g := (mkF m 4 #[rv r0, rv r1, iv (0 : Int32), iv p3, iv p4, .unset, .unset, .unset] [(.ref cl)])) rfl rfl (hD d19_4) k') ?_
  refine own_go (fun t' k' => XS.iconst X1.here hx rfl (hD d19_5) k') ?_
  refine own_go (fun t' k' => XS.isub X1.here hx rfl (hD d19_6) rfl k') ?_
  show Gm p e below T1 m 7 #[rv r0, rv r1, iv (0 : Int32), iv p3, iv p4, .unset, .unset, .unset] [(.int (31 : Int32))] _
  refine own_go (fun t' k' => XS.istore X1.here hx rfl (hD d19_7) rfl (l' := #[rv r0, rv r1, iv (0 : Int32), iv p3, iv p4, iv (31 : Int32), .unset, .unset]) rfl k') ?_
  refine own_go (fun t' k' => XS.iload X1.here hx rfl (hD d19_9) rfl k') ?_
  show Gm p e below T1 m 11 #[rv r0, rv r1, iv (0 : Int32), iv p3, iv p4, iv (31 : Int32), .unset, .unset] [(.int p4)] _
  obtain ⟨_, _, ⟨T2, L2, k2, n2⟩, -, X2, ⟨Lc2, hQ2, l2, y2, z2⟩, st2⟩ := Jvm.LawKit.callS X1 hx (y := (⟨"com/example/design_drills/designdrills/service/listens/IdNumbers", "spread", "(I)I"⟩ : MethodName)) hown (mvT hZ (hw _ (List.mem_of_getElem? (i := 112) rfl))) (mvT hZ (hw _ (List.mem_of_getElem? (i := 113) rfl))) (mvT hZ (hw _ (List.mem_of_getElem? (i := 43) rfl))) (mvT hZ (hw _ (List.mem_of_getElem? (i := 114) rfl))) (by decide) (backOf (W := 0) (rmSp l Z a0 hw [] p4  h0 n0 Z0 ) hZ (hw _ (List.mem_of_getElem? (i := 114) rfl)) (hw _ (List.mem_of_getElem? (i := 43) rfl)) (by decide) (by decide)) (g := (mkF m 11 #[rv r0, rv r1, iv (0 : Int32), iv p3, iv p4, iv (31 : Int32), .unset, .unset] [(.int p4)])) rfl (by rw [hml]; rfl) (argsL := [(.int p4)]) (rest := []) (lenOf own_pd18 rfl) rfl (by show 2 * 0 + _ ≤ _; exact Nat.le_of_eq rfl) (hD d19_11) (fun _ _ => ⟨rfl, e1, (by decide : 0 + 0 ≤ _), (by decide : 0 + 0 ≤ _)⟩)
  dsimp only [Pt.U, Pt.locs, Pt.cells, Pt.slots] at X2 l2 y2 z2 st2 hQ2
  subst l2 y2 z2
  obtain ⟨rfl, Nq2, eq2⟩ := hQ2
  have N2 := Fr.app N0 Nq2
  have e2 : T2.heap = h0 := eq2
  refine own_go st2 ?_
  refine own_go (fun t' k' => XS.iload X2.here hx rfl (hD d19_14) rfl k') ?_
  refine own_go (fun t' k' => XS.iand X2.here hx rfl (hD d19_16) rfl k') ?_
  show Gm p e below T2 m 17 #[rv r0, rv r1, iv (0 : Int32), iv p3, iv p4, iv (31 : Int32), .unset, .unset] [(.int ((fSp p4) &&& (31 : Int32)))] _
  refine own_go (fun t' k' => XS.istore X2.here hx rfl (hD d19_17) rfl (l' := #[rv r0, rv r1, iv (0 : Int32), iv p3, iv p4, iv (31 : Int32), iv ((fSp p4) &&& (31 : Int32)), .unset]) rfl k') ?_
  refine own_go (fun t' k' => XS.aloadN X2.here hx rfl (hD d19_19) rfl rfl k') ?_
  show Gm p e below T2 m 20 #[rv r0, rv r1, iv (0 : Int32), iv p3, iv p4, iv (31 : Int32), iv ((fSp p4) &&& (31 : Int32)), .unset] [(.ref r0)] _
  obtain ⟨T3, X3, e3, st3⟩ := getF X2 hx hZ hown (host := "") (Or.inl (hw _ (List.mem_of_getElem? (i := 53) rfl))) Via.refl e2 F_l (g := (mkF m 20 #[rv r0, rv r1, iv (0 : Int32), iv p3, iv p4, iv (31 : Int32), iv ((fSp p4) &&& (31 : Int32)), .unset] [(.ref r0)])) rfl rfl (hD d19_20)
  refine own_go st3 ?_
  refine own_go (fun t' k' => XS.iload X3.here hx rfl (hD d19_23) rfl k') ?_
  show Gm p e below T3 m 25 #[rv r0, rv r1, iv (0 : Int32), iv p3, iv p4, iv (31 : Int32), iv ((fSp p4) &&& (31 : Int32)), .unset] [(.int ((fSp p4) &&& (31 : Int32))), (.ref cl)] _
  have nn4 := own_m31 (fSp p4)
  show Gm p e below T3 m 25 #[rv r0, rv r1, iv (0 : Int32), iv p3, iv p4, iv (31 : Int32), iv ((fSp p4) &&& (31 : Int32)), .unset] [(.int ((fSp p4) &&& (31 : Int32))), (.ref cl)] _
  refine own_go (fun t' k' => own_ldI X3 hx hZ e3 Al (j := ((fSp p4) &&& (31 : Int32))) (k := ((fSp p4) &&& (31 : Int32)).toNatClampNeg) nn4.1 rfl nn4.2 (w := .int (0 : Int32)) (hJz _ nn4.2) (g := (mkF m 25 #[rv r0, rv r1, iv (0 : Int32), iv p3, iv p4, iv (31 : Int32), iv ((fSp p4) &&& (31 : Int32)), .unset] [(.int ((fSp p4) &&& (31 : Int32))), (.ref cl)])) rfl rfl (hD d19_25) k') ?_
  refine own_go (fun t' k' => XS.istore X3.here hx rfl (hD d19_26) rfl (l' := #[rv r0, rv r1, iv (0 : Int32), iv p3, iv p4, iv (31 : Int32), iv ((fSp p4) &&& (31 : Int32)), iv (0 : Int32)]) rfl k') ?_
  refine own_go (fun t' k' => XS.iload X3.here hx rfl (hD d19_28) rfl k') ?_
  show Gm p e below T3 m 30 #[rv r0, rv r1, iv (0 : Int32), iv p3, iv p4, iv (31 : Int32), iv ((fSp p4) &&& (31 : Int32)), iv (0 : Int32)] [(.int (0 : Int32))] _
  refine own_go (fun t' k' => XS.ifYes X3.here hx rfl (pc0 := 30) (pc' := 47) rfl (hD d19_30) rfl (XT.i0_eq_t (by decide)) (by decide) (by decide) k') ?_
  refine own_go (fun t' k' => XS.iload X3.here hx rfl (hD d19_47) rfl k') ?_
  show Gm p e below T3 m 49 #[rv r0, rv r1, iv (0 : Int32), iv p3, iv p4, iv (31 : Int32), iv ((fSp p4) &&& (31 : Int32)), iv (0 : Int32)] [(.int ((fSp p4) &&& (31 : Int32)))] _
  exact own_retI X3 hx hlk (t := .int) Bd.returns rfl (by simp) (hD d19_49) e3 ⟨_, rfl, N2, rfl, nn4.1, nn4.2, (hJz _ nn4.2)⟩ (by decide) (by decide)
theorem d19_33 : decode prog_65_method_11_code 33 = .ok (.aload_n 0, 1) := by decide +kernel
theorem d19_34 : decode prog_65_method_11_code 34 = .ok (.iload 7, 2) := by decide +kernel
theorem d19_36 : decode prog_65_method_11_code 36 = .ok (.iconst 1, 1) := by decide +kernel
theorem d19_37 : decode prog_65_method_11_code 37 = .ok (.isub, 1) := by decide +kernel
theorem d19_38 : decode prog_65_method_11_code 38 = .ok (.aload_n 1, 1) := by decide +kernel
theorem d19_39 : decode prog_65_method_11_code 39 = .ok (.iload_n 2, 1) := by decide +kernel
theorem d19_40 : decode prog_65_method_11_code 40 = .ok (.iload_n 3, 1) := by decide +kernel
theorem d19_41 : decode prog_65_method_11_code 41 = .ok (.invokevirtual 93, 3) := by decide +kernel
theorem d19_44 : decode prog_65_method_11_code 44 = .ok (.ifCond .eq 6, 3) := by decide +kernel
theorem d19_50 : decode prog_65_method_11_code 50 = .ok (.iload 6, 2) := by decide +kernel
theorem d19_52 : decode prog_65_method_11_code 52 = .ok (.iconst 1, 1) := by decide +kernel
theorem d19_53 : decode prog_65_method_11_code 53 = .ok (.iadd, 1) := by decide +kernel
theorem d19_54 : decode prog_65_method_11_code 54 = .ok (.iload 5, 2) := by decide +kernel
theorem d19_56 : decode prog_65_method_11_code 56 = .ok (.iand, 1) := by decide +kernel
theorem d19_57 : decode prog_65_method_11_code 57 = .ok (.istore 6, 2) := by decide +kernel
theorem d19_59 : decode prog_65_method_11_code 59 = .ok (.goto (-40), 3) := by decide +kernel
theorem own_pd19 : parseMethodDescriptor "(I[BII)Z" = some ⟨[.int, (.array .byte), .int, .int], some .boolean⟩ := by decide +kernel
theorem own_pn_rmSl_1 : plainName "com/example/design_drills/designdrills/service/listens/IdNumbers" = true := by first | (simp [plainName, overriddenIn]; done) | decide +kernel
theorem own_ef_rmSl_1 (m : MethodId) (r0 : Addr) (r1 : Addr) (p3 : Int32) (p4 : Int32) : entryFrame m #[(.ref r0), (.ref r1), (.int (0 : Int32)), (.int p3), (.int p4)] 8 = mkF m 0 #[.val (.ref r0), .val (.ref r1), .val (.int (0 : Int32)), .val (.int p3), .val (.int p4), .unset, .unset, .unset] [] := by first | (simp [entryFrame, mkF, argsToLocals, Value.category]; done) | rfl
def QSl_1 (Z : State) (r0 : Addr) (r1 : Addr) (p3 : Int32) (p4 : Int32) (cb : Addr) (cs : Addr) (cl : Addr) (fb : Nat → Value) (fs : Nat → Value) (fl : Nat → Value) (s0 : Nat) (l0 : Nat) (j0 : Nat) (n : Nat) (g : Nat → Value) (h0 : Heap) (n0 : Nat) (v : Option Value) (h : Heap) (L : List Loc) : Prop := ∃ x : Int32, v = some (.int x) ∧ Fr n0 L ∧ h = h0 ∧ (¬ x < 0) ∧ x.toNatClampNeg < 32 ∧ (fl x.toNatClampNeg = .int 0 ∨ (fl x.toNatClampNeg = .int (1 : Int32) ∧ l0.toInt32 = p3))
set_option maxRecDepth 65536 in
set_option maxHeartbeats 40000000 in
theorem rmSl_1 (l : Launch) (Z : State) (a0 : Array Value) (hw : ∀ d ∈ tables_1, d.before a0 Z = true) (ws : List Jvm.Cond) (r0 : Addr) (r1 : Addr) (p3 : Int32) (p4 : Int32) (cb : Addr) (cs : Addr) (cl : Addr) (fb : Nat → Value) (fs : Nat → Value) (fl : Nat → Value) (s0 : Nat) (l0 : Nat) (j0 : Nat) (n : Nat) (g : Nat → Value) (h0 : Heap) (n0 : Nat) (Z0 : n0 ≤ h0.size) (E_r0 : Exa Z h0 r0 "com/example/design_drills/designdrills/service/listens/IdNumbers") (F_b : Fld Z h0 r0 "com/example/design_drills/designdrills/service/listens/IdNumbers" "bytes" "[B" (.ref cb)) (F_s : Fld Z h0 r0 "com/example/design_drills/designdrills/service/listens/IdNumbers" "starts" "[I" (.ref cs)) (F_l : Fld Z h0 r0 "com/example/design_drills/designdrills/service/listens/IdNumbers" "slots" "[I" (.ref cl)) (Ab : Af Z h0 cb .byte 256 fb) (As : Af Z h0 cs .int 16 fs) (Al : Af Z h0 cl .int 32 fl) (hs_0 : fs 0 = .int s0.toInt32) (hb_0 : fb s0 = .int l0.toInt32) (hq_0 : s0 < 23) (hJ_0 : fl j0 = .int (1 : Int32)) (hJz : ∀ i, i < 32 → i ≠ j0 → fl i = .int 0) (hp : p3 = n.toInt32) (hn : n ≤ 4) (B : Af Z h0 r1 .byte n g) :
    MetFree l (⟨"com/example/design_drills/designdrills/service/listens/IdNumbers", "slotOf", "([BIII)I"⟩ : MethodName) (head1 (Jvm.Cond.code (⟨"com/example/design_drills/designdrills/service/listens/IdNumbers", "slotOf", "([BIII)I"⟩ : MethodName) prog_65_method_11_code 8 (some .int) :: ws) ({ frames := 3, cells := 0, slots := 0, locals := 55 } : Room)) (fun a U => a = #[(.ref r0), (.ref r1), (.int (0 : Int32)), (.int p3), (.int p4)] ∧ Z.Warmed39 U.vm ∧ U.heap = h0) (fun _ _ _ _ _ => True) (fun _ U o U' => ∃ v L, o = .returned v ∧ QSl_1 Z r0 r1 p3 p4 cb cs cl fb fs fl s0 l0 j0 n g h0 n0 v U'.heap L ∧ FrameEnd U o U' L ({ frames := 3, cells := 0, slots := 0, locals := 55 } : Room).cells ({ frames := 3, cells := 0, slots := 0, locals := 55 } : Room).slots) := by
  refine MetFree.of_bodySF (plainFor_of_name own_pn_rmSl_1) hisR ?_
  intro p e s m args below meth cO s₁ Bd hml0 hP hK
  obtain ⟨rfl, hZ, hh⟩ := hP
  have hx := Bd.exec
  have hby := Bd.bytes
  have hD := @Jvm.hb _ _ hby
  have hml : cO.maxLocals = 8 := hml0
  have hown : s.vm.findClass "com/example/design_drills/designdrills/service/listens/IdNumbers" = some m.cls := findClass_of_methodNamed Bd.named
  have hnm := (name_of_methodNamed Bd.named Bd.method).1
  have hlk : meth.locks = false := BodyLoose.notSynchronized Bd
  have X0 : Stand p l e ({ frames := 3, cells := 0, slots := 0, locals := 55 } : Room) s m #[(.ref r0), (.ref r1), (.int (0 : Int32)), (.int p3), (.int p4)] below meth cO s₁ [] 0 0 := Stand.of_body Bd
  have e0 : s₁.heap = h0 := by rw [← hh, Bd.state]; rfl
  have N0 := Fr.nil n0
  refine own_in (own_ef_rmSl_1 m r0 r1 p3 p4) ?_
  show Gm p e below s₁ m 0 #[rv r0, rv r1, iv (0 : Int32), iv p3, iv p4, .unset, .unset, .unset] [] _
  refine own_go (fun t' k' => XS.aloadN X0.here hx rfl (hD d19_0) rfl rfl k') ?_
  show Gm p e below s₁ m 1 #[rv r0, rv r1, iv (0 : Int32), iv p3, iv p4, .unset, .unset, .unset] [(.ref r0)] _
  obtain ⟨T1, X1, e1, st1⟩ := getF X0 hx hZ hown (host := "") (Or.inl (hw _ (List.mem_of_getElem? (i := 53) rfl))) Via.refl e0 F_l (g := (mkF m 1 #[rv r0, rv r1, iv (0 : Int32), iv p3, iv p4, .unset, .unset, .unset] [(.ref r0)])) rfl rfl (hD d19_1)
  refine own_go st1 ?_
  show Gm p e below T1 m 4 #[rv r0, rv r1, iv (0 : Int32), iv p3, iv p4, .unset, .unset, .unset] [(.ref cl)] _
  refine own_go (fun t' k' => own_len X1 hx hZ e1 Al (z := (32 : Int32)) rfl (g := (mkF m 4 #[rv r0, rv r1, iv (0 : Int32), iv p3, iv p4, .unset, .unset, .unset] [(.ref cl)])) rfl rfl (hD d19_4) k') ?_
  refine own_go (fun t' k' => XS.iconst X1.here hx rfl (hD d19_5) k') ?_
  refine own_go (fun t' k' => XS.isub X1.here hx rfl (hD d19_6) rfl k') ?_
  show Gm p e below T1 m 7 #[rv r0, rv r1, iv (0 : Int32), iv p3, iv p4, .unset, .unset, .unset] [(.int (31 : Int32))] _
  refine own_go (fun t' k' => XS.istore X1.here hx rfl (hD d19_7) rfl (l' := #[rv r0, rv r1, iv (0 : Int32), iv p3, iv p4, iv (31 : Int32), .unset, .unset]) rfl k') ?_
  refine own_go (fun t' k' => XS.iload X1.here hx rfl (hD d19_9) rfl k') ?_
  show Gm p e below T1 m 11 #[rv r0, rv r1, iv (0 : Int32), iv p3, iv p4, iv (31 : Int32), .unset, .unset] [(.int p4)] _
  obtain ⟨_, _, ⟨T2, L2, k2, n2⟩, -, X2, ⟨Lc2, hQ2, l2, y2, z2⟩, st2⟩ := Jvm.LawKit.callS X1 hx (y := (⟨"com/example/design_drills/designdrills/service/listens/IdNumbers", "spread", "(I)I"⟩ : MethodName)) hown (mvT hZ (hw _ (List.mem_of_getElem? (i := 112) rfl))) (mvT hZ (hw _ (List.mem_of_getElem? (i := 113) rfl))) (mvT hZ (hw _ (List.mem_of_getElem? (i := 43) rfl))) (mvT hZ (hw _ (List.mem_of_getElem? (i := 114) rfl))) (by decide) (backOf (W := 0) (rmSp l Z a0 hw [] p4  h0 n0 Z0 ) hZ (hw _ (List.mem_of_getElem? (i := 114) rfl)) (hw _ (List.mem_of_getElem? (i := 43) rfl)) (by decide) (by decide)) (g := (mkF m 11 #[rv r0, rv r1, iv (0 : Int32), iv p3, iv p4, iv (31 : Int32), .unset, .unset] [(.int p4)])) rfl (by rw [hml]; rfl) (argsL := [(.int p4)]) (rest := []) (lenOf own_pd18 rfl) rfl (by show 2 * 0 + _ ≤ _; exact Nat.le_of_eq rfl) (hD d19_11) (fun _ _ => ⟨rfl, e1, (by decide : 0 + 0 ≤ _), (by decide : 0 + 0 ≤ _)⟩)
  dsimp only [Pt.U, Pt.locs, Pt.cells, Pt.slots] at X2 l2 y2 z2 st2 hQ2
  subst l2 y2 z2
  obtain ⟨rfl, Nq2, eq2⟩ := hQ2
  have N2 := Fr.app N0 Nq2
  have e2 : T2.heap = h0 := eq2
  refine own_go st2 ?_
  refine own_go (fun t' k' => XS.iload X2.here hx rfl (hD d19_14) rfl k') ?_
  refine own_go (fun t' k' => XS.iand X2.here hx rfl (hD d19_16) rfl k') ?_
  show Gm p e below T2 m 17 #[rv r0, rv r1, iv (0 : Int32), iv p3, iv p4, iv (31 : Int32), .unset, .unset] [(.int ((fSp p4) &&& (31 : Int32)))] _
  refine own_go (fun t' k' => XS.istore X2.here hx rfl (hD d19_17) rfl (l' := #[rv r0, rv r1, iv (0 : Int32), iv p3, iv p4, iv (31 : Int32), iv ((fSp p4) &&& (31 : Int32)), .unset]) rfl k') ?_
  refine own_go (fun t' k' => XS.aloadN X2.here hx rfl (hD d19_19) rfl rfl k') ?_
  show Gm p e below T2 m 20 #[rv r0, rv r1, iv (0 : Int32), iv p3, iv p4, iv (31 : Int32), iv ((fSp p4) &&& (31 : Int32)), .unset] [(.ref r0)] _
  obtain ⟨T3, X3, e3, st3⟩ := getF X2 hx hZ hown (host := "") (Or.inl (hw _ (List.mem_of_getElem? (i := 53) rfl))) Via.refl e2 F_l (g := (mkF m 20 #[rv r0, rv r1, iv (0 : Int32), iv p3, iv p4, iv (31 : Int32), iv ((fSp p4) &&& (31 : Int32)), .unset] [(.ref r0)])) rfl rfl (hD d19_20)
  refine own_go st3 ?_
  refine own_go (fun t' k' => XS.iload X3.here hx rfl (hD d19_23) rfl k') ?_
  show Gm p e below T3 m 25 #[rv r0, rv r1, iv (0 : Int32), iv p3, iv p4, iv (31 : Int32), iv ((fSp p4) &&& (31 : Int32)), .unset] [(.int ((fSp p4) &&& (31 : Int32))), (.ref cl)] _
  have nn4 := own_m31 (fSp p4)
  by_cases hq5 : ((fSp p4) &&& (31 : Int32)).toNatClampNeg = j0
  · have hfork := trivial
    show Gm p e below T3 m 25 #[rv r0, rv r1, iv (0 : Int32), iv p3, iv p4, iv (31 : Int32), iv ((fSp p4) &&& (31 : Int32)), .unset] [(.int ((fSp p4) &&& (31 : Int32))), (.ref cl)] _
    refine own_go (fun t' k' => own_ldI X3 hx hZ e3 Al (j := ((fSp p4) &&& (31 : Int32))) (k := ((fSp p4) &&& (31 : Int32)).toNatClampNeg) nn4.1 rfl nn4.2 (w := .int (1 : Int32)) (by rw [hq5]; exact hJ_0) (g := (mkF m 25 #[rv r0, rv r1, iv (0 : Int32), iv p3, iv p4, iv (31 : Int32), iv ((fSp p4) &&& (31 : Int32)), .unset] [(.int ((fSp p4) &&& (31 : Int32))), (.ref cl)])) rfl rfl (hD d19_25) k') ?_
    refine own_go (fun t' k' => XS.istore X3.here hx rfl (hD d19_26) rfl (l' := #[rv r0, rv r1, iv (0 : Int32), iv p3, iv p4, iv (31 : Int32), iv ((fSp p4) &&& (31 : Int32)), iv (1 : Int32)]) rfl k') ?_
    refine own_go (fun t' k' => XS.iload X3.here hx rfl (hD d19_28) rfl k') ?_
    show Gm p e below T3 m 30 #[rv r0, rv r1, iv (0 : Int32), iv p3, iv p4, iv (31 : Int32), iv ((fSp p4) &&& (31 : Int32)), iv (1 : Int32)] [(.int (1 : Int32))] _
    refine own_go (fun t' k' => XS.ifNo X3.here hx rfl (hD d19_30) rfl (XT.i0_eq_f (by decide)) k') ?_
    refine own_go (fun t' k' => XS.aloadN X3.here hx rfl (hD d19_33) rfl rfl k') ?_
    refine own_go (fun t' k' => XS.iload X3.here hx rfl (hD d19_34) rfl k') ?_
    show Gm p e below T3 m 36 #[rv r0, rv r1, iv (0 : Int32), iv p3, iv p4, iv (31 : Int32), iv ((fSp p4) &&& (31 : Int32)), iv (1 : Int32)] [(.int (1 : Int32)), (.ref r0)] _
    refine own_go (fun t' k' => XS.iconst X3.here hx rfl (hD d19_36) k') ?_
    refine own_go (fun t' k' => XS.isub X3.here hx rfl (hD d19_37) rfl k') ?_
    refine own_go (fun t' k' => XS.aloadN X3.here hx rfl (hD d19_38) rfl rfl k') ?_
    show Gm p e below T3 m 39 #[rv r0, rv r1, iv (0 : Int32), iv p3, iv p4, iv (31 : Int32), iv ((fSp p4) &&& (31 : Int32)), iv (1 : Int32)] [(.ref r1), (.int (0 : Int32)), (.ref r0)] _
    refine own_go (fun t' k' => XS.iloadN X3.here hx rfl (hD d19_39) rfl k') ?_
    refine own_go (fun t' k' => XS.iloadN X3.here hx rfl (hD d19_40) rfl k') ?_
    show Gm p e below T3 m 41 #[rv r0, rv r1, iv (0 : Int32), iv p3, iv p4, iv (31 : Int32), iv ((fSp p4) &&& (31 : Int32)), iv (1 : Int32)] [(.int p3), (.int (0 : Int32)), (.ref r1), (.int (0 : Int32)), (.ref r0)] _
    obtain ⟨cq6, q6, q6'⟩ := E_r0.cell
    obtain ⟨_, _, ⟨T6, L6, k6, n6⟩, -, X6, ⟨Lc6, hQ6, l6, y6, z6⟩, st6⟩ := X3.privateBack hx (y := (⟨"com/example/design_drills/designdrills/service/listens/IdNumbers", "holds", "(I[BII)Z"⟩ : MethodName)) hown (mvT hZ (hw _ (List.mem_of_getElem? (i := 125) rfl))) (mvT hZ (hw _ (List.mem_of_getElem? (i := 126) rfl))) (own_self hZ (hw _ (List.mem_of_getElem? (i := 42) rfl)) (hw _ (List.mem_of_getElem? (i := 127) rfl)) (hw _ (List.mem_of_getElem? (i := 126) rfl)) (by decide)) (Cond.privateMethod_at (mvP hZ (hw _ (List.mem_of_getElem? (i := 127) rfl)) (args := #[]))) (mvT hZ (hw _ (List.mem_of_getElem? (i := 128) rfl))) (by decide) (backOf (W := 0) (rmH_0 l Z a0 hw [] r0 r1 p3 cb cs fb fs s0 l0 n g h0 n0 Z0 F_b F_s Ab As hs_0 hb_0 hq_0 hp hn B) hZ (hw _ (List.mem_of_getElem? (i := 128) rfl)) (hw _ (List.mem_of_getElem? (i := 43) rfl)) (by decide) (by decide)) (g := (mkF m 41 #[rv r0, rv r1, iv (0 : Int32), iv p3, iv p4, iv (31 : Int32), iv ((fSp p4) &&& (31 : Int32)), iv (1 : Int32)] [(.int p3), (.int (0 : Int32)), (.ref r1), (.int (0 : Int32)), (.ref r0)])) rfl (by rw [hml]; rfl) (Steps.refl _) (a := r0) (by rw [e3]; exact q6) q6' (argsL := [(.int (0 : Int32)), (.ref r1), (.int (0 : Int32)), (.int p3)]) (rest := []) (lenOf own_pd19 rfl) rfl (by show 2 * 0 + _ ≤ _; exact Nat.le_of_eq rfl) (hD d19_41) (fun _ _ => ⟨rfl, e3, (by decide : 0 + 0 ≤ _), (by decide : 0 + 0 ≤ _)⟩)
    dsimp only [Pt.U, Pt.locs, Pt.cells, Pt.slots] at X6 l6 y6 z6 st6 hQ6
    subst l6 y6 z6
    obtain ⟨zh6, rfl, hh6, Nq6, eq6⟩ := hQ6
    have N6 := Fr.app N2 Nq6
    have e6 : T6.heap = h0 := eq6
    refine own_go (fun t k => st6.trans k) ?_
    show Gm p e below T6 m 44 #[rv r0, rv r1, iv (0 : Int32), iv p3, iv p4, iv (31 : Int32), iv ((fSp p4) &&& (31 : Int32)), iv (1 : Int32)] [(.int zh6)] _
    by_cases c7 : zh6 = (0 : Int32)
    · have hfork := trivial
      refine own_go (fun t' k' => XS.ifYes X6.here hx rfl (pc0 := 44) (pc' := 50) rfl (hD d19_44) rfl (XT.i0_eq_t c7) (by decide) (by decide) k') ?_
      refine own_go (fun t' k' => XS.iload X6.here hx rfl (hD d19_50) rfl k') ?_
      refine own_go (fun t' k' => XS.iconst X6.here hx rfl (hD d19_52) k') ?_
      show Gm p e below T6 m 53 #[rv r0, rv r1, iv (0 : Int32), iv p3, iv p4, iv (31 : Int32), iv ((fSp p4) &&& (31 : Int32)), iv (1 : Int32)] [(.int (1 : Int32)), (.int ((fSp p4) &&& (31 : Int32)))] _
      refine own_go (fun t' k' => XS.iadd X6.here hx rfl (hD d19_53) rfl k') ?_
      refine own_go (fun t' k' => XS.iload X6.here hx rfl (hD d19_54) rfl k') ?_
      refine own_go (fun t' k' => XS.iand X6.here hx rfl (hD d19_56) rfl k') ?_
      show Gm p e below T6 m 57 #[rv r0, rv r1, iv (0 : Int32), iv p3, iv p4, iv (31 : Int32), iv ((fSp p4) &&& (31 : Int32)), iv (1 : Int32)] [(.int ((((fSp p4) &&& (31 : Int32)) + (1 : Int32)) &&& (31 : Int32)))] _
      refine own_go (fun t' k' => XS.istore X6.here hx rfl (hD d19_57) rfl (l' := #[rv r0, rv r1, iv (0 : Int32), iv p3, iv p4, iv (31 : Int32), iv ((((fSp p4) &&& (31 : Int32)) + (1 : Int32)) &&& (31 : Int32)), iv (1 : Int32)]) rfl k') ?_
      refine own_go (fun t' k' => XS.goto X6.here hx rfl (pc0 := 59) (pc' := 19) rfl (hD d19_59) (by decide) (by decide) k') ?_
      refine own_go (fun t' k' => XS.aloadN X6.here hx rfl (hD d19_19) rfl rfl k') ?_
      show Gm p e below T6 m 20 #[rv r0, rv r1, iv (0 : Int32), iv p3, iv p4, iv (31 : Int32), iv ((((fSp p4) &&& (31 : Int32)) + (1 : Int32)) &&& (31 : Int32)), iv (1 : Int32)] [(.ref r0)] _
      obtain ⟨T8, X8, e8, st8⟩ := getF X6 hx hZ hown (host := "") (Or.inl (hw _ (List.mem_of_getElem? (i := 53) rfl))) Via.refl e6 F_l (g := (mkF m 20 #[rv r0, rv r1, iv (0 : Int32), iv p3, iv p4, iv (31 : Int32), iv ((((fSp p4) &&& (31 : Int32)) + (1 : Int32)) &&& (31 : Int32)), iv (1 : Int32)] [(.ref r0)])) rfl rfl (hD d19_20)
      refine own_go st8 ?_
      refine own_go (fun t' k' => XS.iload X8.here hx rfl (hD d19_23) rfl k') ?_
      show Gm p e below T8 m 25 #[rv r0, rv r1, iv (0 : Int32), iv p3, iv p4, iv (31 : Int32), iv ((((fSp p4) &&& (31 : Int32)) + (1 : Int32)) &&& (31 : Int32)), iv (1 : Int32)] [(.int ((((fSp p4) &&& (31 : Int32)) + (1 : Int32)) &&& (31 : Int32))), (.ref cl)] _
      have nn9 := own_m31 (((fSp p4) &&& (31 : Int32)) + (1 : Int32))
      have exnn9_0 : ((((fSp p4) &&& (31 : Int32)) + (1 : Int32)) &&& (31 : Int32)).toNatClampNeg ≠ j0 := fun u => own_ne1 (fSp p4) (u.trans hq5.symm)
      show Gm p e below T8 m 25 #[rv r0, rv r1, iv (0 : Int32), iv p3, iv p4, iv (31 : Int32), iv ((((fSp p4) &&& (31 : Int32)) + (1 : Int32)) &&& (31 : Int32)), iv (1 : Int32)] [(.int ((((fSp p4) &&& (31 : Int32)) + (1 : Int32)) &&& (31 : Int32))), (.ref cl)] _
      refine own_go (fun t' k' => own_ldI X8 hx hZ e8 Al (j := ((((fSp p4) &&& (31 : Int32)) + (1 : Int32)) &&& (31 : Int32))) (k := ((((fSp p4) &&& (31 : Int32)) + (1 : Int32)) &&& (31 : Int32)).toNatClampNeg) nn9.1 rfl nn9.2 (w := .int (0 : Int32)) (hJz _ nn9.2 exnn9_0) (g := (mkF m 25 #[rv r0, rv r1, iv (0 : Int32), iv p3, iv p4, iv (31 : Int32), iv ((((fSp p4) &&& (31 : Int32)) + (1 : Int32)) &&& (31 : Int32)), iv (1 : Int32)] [(.int ((((fSp p4) &&& (31 : Int32)) + (1 : Int32)) &&& (31 : Int32))), (.ref cl)])) rfl rfl (hD d19_25) k') ?_
      refine own_go (fun t' k' => XS.istore X8.here hx rfl (hD d19_26) rfl (l' := #[rv r0, rv r1, iv (0 : Int32), iv p3, iv p4, iv (31 : Int32), iv ((((fSp p4) &&& (31 : Int32)) + (1 : Int32)) &&& (31 : Int32)), iv (0 : Int32)]) rfl k') ?_
      refine own_go (fun t' k' => XS.iload X8.here hx rfl (hD d19_28) rfl k') ?_
      show Gm p e below T8 m 30 #[rv r0, rv r1, iv (0 : Int32), iv p3, iv p4, iv (31 : Int32), iv ((((fSp p4) &&& (31 : Int32)) + (1 : Int32)) &&& (31 : Int32)), iv (0 : Int32)] [(.int (0 : Int32))] _
      refine own_go (fun t' k' => XS.ifYes X8.here hx rfl (pc0 := 30) (pc' := 47) rfl (hD d19_30) rfl (XT.i0_eq_t (by decide)) (by decide) (by decide) k') ?_
      refine own_go (fun t' k' => XS.iload X8.here hx rfl (hD d19_47) rfl k') ?_
      show Gm p e below T8 m 49 #[rv r0, rv r1, iv (0 : Int32), iv p3, iv p4, iv (31 : Int32), iv ((((fSp p4) &&& (31 : Int32)) + (1 : Int32)) &&& (31 : Int32)), iv (0 : Int32)] [(.int ((((fSp p4) &&& (31 : Int32)) + (1 : Int32)) &&& (31 : Int32)))] _
      exact own_retI X8 hx hlk (t := .int) Bd.returns rfl (by simp) (hD d19_49) e8 ⟨_, rfl, N6, rfl, nn9.1, nn9.2, Or.inl (hJz _ nn9.2 exnn9_0)⟩ (by decide) (by decide)
    · have hfork := trivial
      refine own_go (fun t' k' => XS.ifNo X6.here hx rfl (hD d19_44) rfl (XT.i0_eq_f c7) k') ?_
      refine own_go (fun t' k' => XS.iload X6.here hx rfl (hD d19_47) rfl k') ?_
      show Gm p e below T6 m 49 #[rv r0, rv r1, iv (0 : Int32), iv p3, iv p4, iv (31 : Int32), iv ((fSp p4) &&& (31 : Int32)), iv (1 : Int32)] [(.int ((fSp p4) &&& (31 : Int32)))] _
      exact own_retI X6 hx hlk (t := .int) Bd.returns rfl (by simp) (hD d19_49) e6 ⟨_, rfl, N6, rfl, nn4.1, nn4.2, Or.inr (⟨(by rw [hq5]; exact hJ_0), hh6 c7⟩)⟩ (by decide) (by decide)
  · have hfork := trivial
    show Gm p e below T3 m 25 #[rv r0, rv r1, iv (0 : Int32), iv p3, iv p4, iv (31 : Int32), iv ((fSp p4) &&& (31 : Int32)), .unset] [(.int ((fSp p4) &&& (31 : Int32))), (.ref cl)] _
    refine own_go (fun t' k' => own_ldI X3 hx hZ e3 Al (j := ((fSp p4) &&& (31 : Int32))) (k := ((fSp p4) &&& (31 : Int32)).toNatClampNeg) nn4.1 rfl nn4.2 (w := .int (0 : Int32)) (hJz _ nn4.2 hq5) (g := (mkF m 25 #[rv r0, rv r1, iv (0 : Int32), iv p3, iv p4, iv (31 : Int32), iv ((fSp p4) &&& (31 : Int32)), .unset] [(.int ((fSp p4) &&& (31 : Int32))), (.ref cl)])) rfl rfl (hD d19_25) k') ?_
    refine own_go (fun t' k' => XS.istore X3.here hx rfl (hD d19_26) rfl (l' := #[rv r0, rv r1, iv (0 : Int32), iv p3, iv p4, iv (31 : Int32), iv ((fSp p4) &&& (31 : Int32)), iv (0 : Int32)]) rfl k') ?_
    refine own_go (fun t' k' => XS.iload X3.here hx rfl (hD d19_28) rfl k') ?_
    show Gm p e below T3 m 30 #[rv r0, rv r1, iv (0 : Int32), iv p3, iv p4, iv (31 : Int32), iv ((fSp p4) &&& (31 : Int32)), iv (0 : Int32)] [(.int (0 : Int32))] _
    refine own_go (fun t' k' => XS.ifYes X3.here hx rfl (pc0 := 30) (pc' := 47) rfl (hD d19_30) rfl (XT.i0_eq_t (by decide)) (by decide) (by decide) k') ?_
    refine own_go (fun t' k' => XS.iload X3.here hx rfl (hD d19_47) rfl k') ?_
    show Gm p e below T3 m 49 #[rv r0, rv r1, iv (0 : Int32), iv p3, iv p4, iv (31 : Int32), iv ((fSp p4) &&& (31 : Int32)), iv (0 : Int32)] [(.int ((fSp p4) &&& (31 : Int32)))] _
    exact own_retI X3 hx hlk (t := .int) Bd.returns rfl (by simp) (hD d19_49) e3 ⟨_, rfl, N2, rfl, nn4.1, nn4.2, Or.inl (hJz _ nn4.2 hq5)⟩ (by decide) (by decide)
theorem own_pn_rmSl_2 : plainName "com/example/design_drills/designdrills/service/listens/IdNumbers" = true := by first | (simp [plainName, overriddenIn]; done) | decide +kernel
theorem own_ef_rmSl_2 (m : MethodId) (r0 : Addr) (r1 : Addr) (p3 : Int32) (p4 : Int32) : entryFrame m #[(.ref r0), (.ref r1), (.int (0 : Int32)), (.int p3), (.int p4)] 8 = mkF m 0 #[.val (.ref r0), .val (.ref r1), .val (.int (0 : Int32)), .val (.int p3), .val (.int p4), .unset, .unset, .unset] [] := by first | (simp [entryFrame, mkF, argsToLocals, Value.category]; done) | rfl
def QSl_2 (Z : State) (r0 : Addr) (r1 : Addr) (p3 : Int32) (p4 : Int32) (cb : Addr) (cs : Addr) (cl : Addr) (fb : Nat → Value) (fs : Nat → Value) (fl : Nat → Value) (s0 : Nat) (l0 : Nat) (j0 : Nat) (s1 : Nat) (l1 : Nat) (j1 : Nat) (n : Nat) (g : Nat → Value) (h0 : Heap) (n0 : Nat) (v : Option Value) (h : Heap) (L : List Loc) : Prop := ∃ x : Int32, v = some (.int x) ∧ Fr n0 L ∧ h = h0 ∧ (¬ x < 0) ∧ x.toNatClampNeg < 32 ∧ (fl x.toNatClampNeg = .int 0 ∨ (fl x.toNatClampNeg = .int (1 : Int32) ∧ l0.toInt32 = p3) ∨ (fl x.toNatClampNeg = .int (2 : Int32) ∧ l1.toInt32 = p3))
set_option maxRecDepth 65536 in
set_option maxHeartbeats 40000000 in
theorem rmSl_2 (l : Launch) (Z : State) (a0 : Array Value) (hw : ∀ d ∈ tables_1, d.before a0 Z = true) (ws : List Jvm.Cond) (r0 : Addr) (r1 : Addr) (p3 : Int32) (p4 : Int32) (cb : Addr) (cs : Addr) (cl : Addr) (fb : Nat → Value) (fs : Nat → Value) (fl : Nat → Value) (s0 : Nat) (l0 : Nat) (j0 : Nat) (s1 : Nat) (l1 : Nat) (j1 : Nat) (n : Nat) (g : Nat → Value) (h0 : Heap) (n0 : Nat) (Z0 : n0 ≤ h0.size) (E_r0 : Exa Z h0 r0 "com/example/design_drills/designdrills/service/listens/IdNumbers") (F_b : Fld Z h0 r0 "com/example/design_drills/designdrills/service/listens/IdNumbers" "bytes" "[B" (.ref cb)) (F_s : Fld Z h0 r0 "com/example/design_drills/designdrills/service/listens/IdNumbers" "starts" "[I" (.ref cs)) (F_l : Fld Z h0 r0 "com/example/design_drills/designdrills/service/listens/IdNumbers" "slots" "[I" (.ref cl)) (Ab : Af Z h0 cb .byte 256 fb) (As : Af Z h0 cs .int 16 fs) (Al : Af Z h0 cl .int 32 fl) (hs_0 : fs 0 = .int s0.toInt32) (hb_0 : fb s0 = .int l0.toInt32) (hq_0 : s0 < 23) (hJ_0 : fl j0 = .int (1 : Int32)) (hs_1 : fs 1 = .int s1.toInt32) (hb_1 : fb s1 = .int l1.toInt32) (hq_1 : s1 < 23) (hJ_1 : fl j1 = .int (2 : Int32)) (hJz : ∀ i, i < 32 → i ≠ j0 → i ≠ j1 → fl i = .int 0) (hp : p3 = n.toInt32) (hn : n ≤ 4) (B : Af Z h0 r1 .byte n g) :
    MetFree l (⟨"com/example/design_drills/designdrills/service/listens/IdNumbers", "slotOf", "([BIII)I"⟩ : MethodName) (head1 (Jvm.Cond.code (⟨"com/example/design_drills/designdrills/service/listens/IdNumbers", "slotOf", "([BIII)I"⟩ : MethodName) prog_65_method_11_code 8 (some .int) :: ws) ({ frames := 3, cells := 0, slots := 0, locals := 55 } : Room)) (fun a U => a = #[(.ref r0), (.ref r1), (.int (0 : Int32)), (.int p3), (.int p4)] ∧ Z.Warmed39 U.vm ∧ U.heap = h0) (fun _ _ _ _ _ => True) (fun _ U o U' => ∃ v L, o = .returned v ∧ QSl_2 Z r0 r1 p3 p4 cb cs cl fb fs fl s0 l0 j0 s1 l1 j1 n g h0 n0 v U'.heap L ∧ FrameEnd U o U' L ({ frames := 3, cells := 0, slots := 0, locals := 55 } : Room).cells ({ frames := 3, cells := 0, slots := 0, locals := 55 } : Room).slots) := by
  refine MetFree.of_bodySF (plainFor_of_name own_pn_rmSl_2) hisR ?_
  intro p e s m args below meth cO s₁ Bd hml0 hP hK
  obtain ⟨rfl, hZ, hh⟩ := hP
  have hx := Bd.exec
  have hby := Bd.bytes
  have hD := @Jvm.hb _ _ hby
  have hml : cO.maxLocals = 8 := hml0
  have hown : s.vm.findClass "com/example/design_drills/designdrills/service/listens/IdNumbers" = some m.cls := findClass_of_methodNamed Bd.named
  have hnm := (name_of_methodNamed Bd.named Bd.method).1
  have hlk : meth.locks = false := BodyLoose.notSynchronized Bd
  have X0 : Stand p l e ({ frames := 3, cells := 0, slots := 0, locals := 55 } : Room) s m #[(.ref r0), (.ref r1), (.int (0 : Int32)), (.int p3), (.int p4)] below meth cO s₁ [] 0 0 := Stand.of_body Bd
  have e0 : s₁.heap = h0 := by rw [← hh, Bd.state]; rfl
  have N0 := Fr.nil n0
  refine own_in (own_ef_rmSl_2 m r0 r1 p3 p4) ?_
  show Gm p e below s₁ m 0 #[rv r0, rv r1, iv (0 : Int32), iv p3, iv p4, .unset, .unset, .unset] [] _
  refine own_go (fun t' k' => XS.aloadN X0.here hx rfl (hD d19_0) rfl rfl k') ?_
  show Gm p e below s₁ m 1 #[rv r0, rv r1, iv (0 : Int32), iv p3, iv p4, .unset, .unset, .unset] [(.ref r0)] _
  obtain ⟨T1, X1, e1, st1⟩ := getF X0 hx hZ hown (host := "") (Or.inl (hw _ (List.mem_of_getElem? (i := 53) rfl))) Via.refl e0 F_l (g := (mkF m 1 #[rv r0, rv r1, iv (0 : Int32), iv p3, iv p4, .unset, .unset, .unset] [(.ref r0)])) rfl rfl (hD d19_1)
  refine own_go st1 ?_
  show Gm p e below T1 m 4 #[rv r0, rv r1, iv (0 : Int32), iv p3, iv p4, .unset, .unset, .unset] [(.ref cl)] _
  refine own_go (fun t' k' => own_len X1 hx hZ e1 Al (z := (32 : Int32)) rfl (g := (mkF m 4 #[rv r0, rv r1, iv (0 : Int32), iv p3, iv p4, .unset, .unset, .unset] [(.ref cl)])) rfl rfl (hD d19_4) k') ?_
  refine own_go (fun t' k' => XS.iconst X1.here hx rfl (hD d19_5) k') ?_
  refine own_go (fun t' k' => XS.isub X1.here hx rfl (hD d19_6) rfl k') ?_
  show Gm p e below T1 m 7 #[rv r0, rv r1, iv (0 : Int32), iv p3, iv p4, .unset, .unset, .unset] [(.int (31 : Int32))] _
  refine own_go (fun t' k' => XS.istore X1.here hx rfl (hD d19_7) rfl (l' := #[rv r0, rv r1, iv (0 : Int32), iv p3, iv p4, iv (31 : Int32), .unset, .unset]) rfl k') ?_
  refine own_go (fun t' k' => XS.iload X1.here hx rfl (hD d19_9) rfl k') ?_
  show Gm p e below T1 m 11 #[rv r0, rv r1, iv (0 : Int32), iv p3, iv p4, iv (31 : Int32), .unset, .unset] [(.int p4)] _
  obtain ⟨_, _, ⟨T2, L2, k2, n2⟩, -, X2, ⟨Lc2, hQ2, l2, y2, z2⟩, st2⟩ := Jvm.LawKit.callS X1 hx (y := (⟨"com/example/design_drills/designdrills/service/listens/IdNumbers", "spread", "(I)I"⟩ : MethodName)) hown (mvT hZ (hw _ (List.mem_of_getElem? (i := 112) rfl))) (mvT hZ (hw _ (List.mem_of_getElem? (i := 113) rfl))) (mvT hZ (hw _ (List.mem_of_getElem? (i := 43) rfl))) (mvT hZ (hw _ (List.mem_of_getElem? (i := 114) rfl))) (by decide) (backOf (W := 0) (rmSp l Z a0 hw [] p4  h0 n0 Z0 ) hZ (hw _ (List.mem_of_getElem? (i := 114) rfl)) (hw _ (List.mem_of_getElem? (i := 43) rfl)) (by decide) (by decide)) (g := (mkF m 11 #[rv r0, rv r1, iv (0 : Int32), iv p3, iv p4, iv (31 : Int32), .unset, .unset] [(.int p4)])) rfl (by rw [hml]; rfl) (argsL := [(.int p4)]) (rest := []) (lenOf own_pd18 rfl) rfl (by show 2 * 0 + _ ≤ _; exact Nat.le_of_eq rfl) (hD d19_11) (fun _ _ => ⟨rfl, e1, (by decide : 0 + 0 ≤ _), (by decide : 0 + 0 ≤ _)⟩)
  dsimp only [Pt.U, Pt.locs, Pt.cells, Pt.slots] at X2 l2 y2 z2 st2 hQ2
  subst l2 y2 z2
  obtain ⟨rfl, Nq2, eq2⟩ := hQ2
  have N2 := Fr.app N0 Nq2
  have e2 : T2.heap = h0 := eq2
  refine own_go st2 ?_
  refine own_go (fun t' k' => XS.iload X2.here hx rfl (hD d19_14) rfl k') ?_
  refine own_go (fun t' k' => XS.iand X2.here hx rfl (hD d19_16) rfl k') ?_
  show Gm p e below T2 m 17 #[rv r0, rv r1, iv (0 : Int32), iv p3, iv p4, iv (31 : Int32), .unset, .unset] [(.int ((fSp p4) &&& (31 : Int32)))] _
  refine own_go (fun t' k' => XS.istore X2.here hx rfl (hD d19_17) rfl (l' := #[rv r0, rv r1, iv (0 : Int32), iv p3, iv p4, iv (31 : Int32), iv ((fSp p4) &&& (31 : Int32)), .unset]) rfl k') ?_
  refine own_go (fun t' k' => XS.aloadN X2.here hx rfl (hD d19_19) rfl rfl k') ?_
  show Gm p e below T2 m 20 #[rv r0, rv r1, iv (0 : Int32), iv p3, iv p4, iv (31 : Int32), iv ((fSp p4) &&& (31 : Int32)), .unset] [(.ref r0)] _
  obtain ⟨T3, X3, e3, st3⟩ := getF X2 hx hZ hown (host := "") (Or.inl (hw _ (List.mem_of_getElem? (i := 53) rfl))) Via.refl e2 F_l (g := (mkF m 20 #[rv r0, rv r1, iv (0 : Int32), iv p3, iv p4, iv (31 : Int32), iv ((fSp p4) &&& (31 : Int32)), .unset] [(.ref r0)])) rfl rfl (hD d19_20)
  refine own_go st3 ?_
  refine own_go (fun t' k' => XS.iload X3.here hx rfl (hD d19_23) rfl k') ?_
  show Gm p e below T3 m 25 #[rv r0, rv r1, iv (0 : Int32), iv p3, iv p4, iv (31 : Int32), iv ((fSp p4) &&& (31 : Int32)), .unset] [(.int ((fSp p4) &&& (31 : Int32))), (.ref cl)] _
  have nn4 := own_m31 (fSp p4)
  by_cases hq5 : ((fSp p4) &&& (31 : Int32)).toNatClampNeg = j0
  · have hfork := trivial
    show Gm p e below T3 m 25 #[rv r0, rv r1, iv (0 : Int32), iv p3, iv p4, iv (31 : Int32), iv ((fSp p4) &&& (31 : Int32)), .unset] [(.int ((fSp p4) &&& (31 : Int32))), (.ref cl)] _
    refine own_go (fun t' k' => own_ldI X3 hx hZ e3 Al (j := ((fSp p4) &&& (31 : Int32))) (k := ((fSp p4) &&& (31 : Int32)).toNatClampNeg) nn4.1 rfl nn4.2 (w := .int (1 : Int32)) (by rw [hq5]; exact hJ_0) (g := (mkF m 25 #[rv r0, rv r1, iv (0 : Int32), iv p3, iv p4, iv (31 : Int32), iv ((fSp p4) &&& (31 : Int32)), .unset] [(.int ((fSp p4) &&& (31 : Int32))), (.ref cl)])) rfl rfl (hD d19_25) k') ?_
    refine own_go (fun t' k' => XS.istore X3.here hx rfl (hD d19_26) rfl (l' := #[rv r0, rv r1, iv (0 : Int32), iv p3, iv p4, iv (31 : Int32), iv ((fSp p4) &&& (31 : Int32)), iv (1 : Int32)]) rfl k') ?_
    refine own_go (fun t' k' => XS.iload X3.here hx rfl (hD d19_28) rfl k') ?_
    show Gm p e below T3 m 30 #[rv r0, rv r1, iv (0 : Int32), iv p3, iv p4, iv (31 : Int32), iv ((fSp p4) &&& (31 : Int32)), iv (1 : Int32)] [(.int (1 : Int32))] _
    refine own_go (fun t' k' => XS.ifNo X3.here hx rfl (hD d19_30) rfl (XT.i0_eq_f (by decide)) k') ?_
    refine own_go (fun t' k' => XS.aloadN X3.here hx rfl (hD d19_33) rfl rfl k') ?_
    refine own_go (fun t' k' => XS.iload X3.here hx rfl (hD d19_34) rfl k') ?_
    show Gm p e below T3 m 36 #[rv r0, rv r1, iv (0 : Int32), iv p3, iv p4, iv (31 : Int32), iv ((fSp p4) &&& (31 : Int32)), iv (1 : Int32)] [(.int (1 : Int32)), (.ref r0)] _
    refine own_go (fun t' k' => XS.iconst X3.here hx rfl (hD d19_36) k') ?_
    refine own_go (fun t' k' => XS.isub X3.here hx rfl (hD d19_37) rfl k') ?_
    refine own_go (fun t' k' => XS.aloadN X3.here hx rfl (hD d19_38) rfl rfl k') ?_
    show Gm p e below T3 m 39 #[rv r0, rv r1, iv (0 : Int32), iv p3, iv p4, iv (31 : Int32), iv ((fSp p4) &&& (31 : Int32)), iv (1 : Int32)] [(.ref r1), (.int (0 : Int32)), (.ref r0)] _
    refine own_go (fun t' k' => XS.iloadN X3.here hx rfl (hD d19_39) rfl k') ?_
    refine own_go (fun t' k' => XS.iloadN X3.here hx rfl (hD d19_40) rfl k') ?_
    show Gm p e below T3 m 41 #[rv r0, rv r1, iv (0 : Int32), iv p3, iv p4, iv (31 : Int32), iv ((fSp p4) &&& (31 : Int32)), iv (1 : Int32)] [(.int p3), (.int (0 : Int32)), (.ref r1), (.int (0 : Int32)), (.ref r0)] _
    obtain ⟨cq6, q6, q6'⟩ := E_r0.cell
    obtain ⟨_, _, ⟨T6, L6, k6, n6⟩, -, X6, ⟨Lc6, hQ6, l6, y6, z6⟩, st6⟩ := X3.privateBack hx (y := (⟨"com/example/design_drills/designdrills/service/listens/IdNumbers", "holds", "(I[BII)Z"⟩ : MethodName)) hown (mvT hZ (hw _ (List.mem_of_getElem? (i := 125) rfl))) (mvT hZ (hw _ (List.mem_of_getElem? (i := 126) rfl))) (own_self hZ (hw _ (List.mem_of_getElem? (i := 42) rfl)) (hw _ (List.mem_of_getElem? (i := 127) rfl)) (hw _ (List.mem_of_getElem? (i := 126) rfl)) (by decide)) (Cond.privateMethod_at (mvP hZ (hw _ (List.mem_of_getElem? (i := 127) rfl)) (args := #[]))) (mvT hZ (hw _ (List.mem_of_getElem? (i := 128) rfl))) (by decide) (backOf (W := 0) (rmH_0 l Z a0 hw [] r0 r1 p3 cb cs fb fs s0 l0 n g h0 n0 Z0 F_b F_s Ab As hs_0 hb_0 hq_0 hp hn B) hZ (hw _ (List.mem_of_getElem? (i := 128) rfl)) (hw _ (List.mem_of_getElem? (i := 43) rfl)) (by decide) (by decide)) (g := (mkF m 41 #[rv r0, rv r1, iv (0 : Int32), iv p3, iv p4, iv (31 : Int32), iv ((fSp p4) &&& (31 : Int32)), iv (1 : Int32)] [(.int p3), (.int (0 : Int32)), (.ref r1), (.int (0 : Int32)), (.ref r0)])) rfl (by rw [hml]; rfl) (Steps.refl _) (a := r0) (by rw [e3]; exact q6) q6' (argsL := [(.int (0 : Int32)), (.ref r1), (.int (0 : Int32)), (.int p3)]) (rest := []) (lenOf own_pd19 rfl) rfl (by show 2 * 0 + _ ≤ _; exact Nat.le_of_eq rfl) (hD d19_41) (fun _ _ => ⟨rfl, e3, (by decide : 0 + 0 ≤ _), (by decide : 0 + 0 ≤ _)⟩)
    dsimp only [Pt.U, Pt.locs, Pt.cells, Pt.slots] at X6 l6 y6 z6 st6 hQ6
    subst l6 y6 z6
    obtain ⟨zh6, rfl, hh6, Nq6, eq6⟩ := hQ6
    have N6 := Fr.app N2 Nq6
    have e6 : T6.heap = h0 := eq6
    refine own_go (fun t k => st6.trans k) ?_
    show Gm p e below T6 m 44 #[rv r0, rv r1, iv (0 : Int32), iv p3, iv p4, iv (31 : Int32), iv ((fSp p4) &&& (31 : Int32)), iv (1 : Int32)] [(.int zh6)] _
    by_cases c7 : zh6 = (0 : Int32)
    · have hfork := trivial
      refine own_go (fun t' k' => XS.ifYes X6.here hx rfl (pc0 := 44) (pc' := 50) rfl (hD d19_44) rfl (XT.i0_eq_t c7) (by decide) (by decide) k') ?_
      refine own_go (fun t' k' => XS.iload X6.here hx rfl (hD d19_50) rfl k') ?_
      refine own_go (fun t' k' => XS.iconst X6.here hx rfl (hD d19_52) k') ?_
      show Gm p e below T6 m 53 #[rv r0, rv r1, iv (0 : Int32), iv p3, iv p4, iv (31 : Int32), iv ((fSp p4) &&& (31 : Int32)), iv (1 : Int32)] [(.int (1 : Int32)), (.int ((fSp p4) &&& (31 : Int32)))] _
      refine own_go (fun t' k' => XS.iadd X6.here hx rfl (hD d19_53) rfl k') ?_
      refine own_go (fun t' k' => XS.iload X6.here hx rfl (hD d19_54) rfl k') ?_
      refine own_go (fun t' k' => XS.iand X6.here hx rfl (hD d19_56) rfl k') ?_
      show Gm p e below T6 m 57 #[rv r0, rv r1, iv (0 : Int32), iv p3, iv p4, iv (31 : Int32), iv ((fSp p4) &&& (31 : Int32)), iv (1 : Int32)] [(.int ((((fSp p4) &&& (31 : Int32)) + (1 : Int32)) &&& (31 : Int32)))] _
      refine own_go (fun t' k' => XS.istore X6.here hx rfl (hD d19_57) rfl (l' := #[rv r0, rv r1, iv (0 : Int32), iv p3, iv p4, iv (31 : Int32), iv ((((fSp p4) &&& (31 : Int32)) + (1 : Int32)) &&& (31 : Int32)), iv (1 : Int32)]) rfl k') ?_
      refine own_go (fun t' k' => XS.goto X6.here hx rfl (pc0 := 59) (pc' := 19) rfl (hD d19_59) (by decide) (by decide) k') ?_
      refine own_go (fun t' k' => XS.aloadN X6.here hx rfl (hD d19_19) rfl rfl k') ?_
      show Gm p e below T6 m 20 #[rv r0, rv r1, iv (0 : Int32), iv p3, iv p4, iv (31 : Int32), iv ((((fSp p4) &&& (31 : Int32)) + (1 : Int32)) &&& (31 : Int32)), iv (1 : Int32)] [(.ref r0)] _
      obtain ⟨T8, X8, e8, st8⟩ := getF X6 hx hZ hown (host := "") (Or.inl (hw _ (List.mem_of_getElem? (i := 53) rfl))) Via.refl e6 F_l (g := (mkF m 20 #[rv r0, rv r1, iv (0 : Int32), iv p3, iv p4, iv (31 : Int32), iv ((((fSp p4) &&& (31 : Int32)) + (1 : Int32)) &&& (31 : Int32)), iv (1 : Int32)] [(.ref r0)])) rfl rfl (hD d19_20)
      refine own_go st8 ?_
      refine own_go (fun t' k' => XS.iload X8.here hx rfl (hD d19_23) rfl k') ?_
      show Gm p e below T8 m 25 #[rv r0, rv r1, iv (0 : Int32), iv p3, iv p4, iv (31 : Int32), iv ((((fSp p4) &&& (31 : Int32)) + (1 : Int32)) &&& (31 : Int32)), iv (1 : Int32)] [(.int ((((fSp p4) &&& (31 : Int32)) + (1 : Int32)) &&& (31 : Int32))), (.ref cl)] _
      have nn9 := own_m31 (((fSp p4) &&& (31 : Int32)) + (1 : Int32))
      have exnn9_0 : ((((fSp p4) &&& (31 : Int32)) + (1 : Int32)) &&& (31 : Int32)).toNatClampNeg ≠ j0 := fun u => own_ne1 (fSp p4) (u.trans hq5.symm)
      by_cases hq10 : ((((fSp p4) &&& (31 : Int32)) + (1 : Int32)) &&& (31 : Int32)).toNatClampNeg = j1
      · have hfork := trivial
        show Gm p e below T8 m 25 #[rv r0, rv r1, iv (0 : Int32), iv p3, iv p4, iv (31 : Int32), iv ((((fSp p4) &&& (31 : Int32)) + (1 : Int32)) &&& (31 : Int32)), iv (1 : Int32)] [(.int ((((fSp p4) &&& (31 : Int32)) + (1 : Int32)) &&& (31 : Int32))), (.ref cl)] _
        refine own_go (fun t' k' => own_ldI X8 hx hZ e8 Al (j := ((((fSp p4) &&& (31 : Int32)) + (1 : Int32)) &&& (31 : Int32))) (k := ((((fSp p4) &&& (31 : Int32)) + (1 : Int32)) &&& (31 : Int32)).toNatClampNeg) nn9.1 rfl nn9.2 (w := .int (2 : Int32)) (by rw [hq10]; exact hJ_1) (g := (mkF m 25 #[rv r0, rv r1, iv (0 : Int32), iv p3, iv p4, iv (31 : Int32), iv ((((fSp p4) &&& (31 : Int32)) + (1 : Int32)) &&& (31 : Int32)), iv (1 : Int32)] [(.int ((((fSp p4) &&& (31 : Int32)) + (1 : Int32)) &&& (31 : Int32))), (.ref cl)])) rfl rfl (hD d19_25) k') ?_
        refine own_go (fun t' k' => XS.istore X8.here hx rfl (hD d19_26) rfl (l' := #[rv r0, rv r1, iv (0 : Int32), iv p3, iv p4, iv (31 : Int32), iv ((((fSp p4) &&& (31 : Int32)) + (1 : Int32)) &&& (31 : Int32)), iv (2 : Int32)]) rfl k') ?_
        refine own_go (fun t' k' => XS.iload X8.here hx rfl (hD d19_28) rfl k') ?_
        show Gm p e below T8 m 30 #[rv r0, rv r1, iv (0 : Int32), iv p3, iv p4, iv (31 : Int32), iv ((((fSp p4) &&& (31 : Int32)) + (1 : Int32)) &&& (31 : Int32)), iv (2 : Int32)] [(.int (2 : Int32))] _
        refine own_go (fun t' k' => XS.ifNo X8.here hx rfl (hD d19_30) rfl (XT.i0_eq_f (by decide)) k') ?_
        refine own_go (fun t' k' => XS.aloadN X8.here hx rfl (hD d19_33) rfl rfl k') ?_
        refine own_go (fun t' k' => XS.iload X8.here hx rfl (hD d19_34) rfl k') ?_
        show Gm p e below T8 m 36 #[rv r0, rv r1, iv (0 : Int32), iv p3, iv p4, iv (31 : Int32), iv ((((fSp p4) &&& (31 : Int32)) + (1 : Int32)) &&& (31 : Int32)), iv (2 : Int32)] [(.int (2 : Int32)), (.ref r0)] _
        refine own_go (fun t' k' => XS.iconst X8.here hx rfl (hD d19_36) k') ?_
        refine own_go (fun t' k' => XS.isub X8.here hx rfl (hD d19_37) rfl k') ?_
        refine own_go (fun t' k' => XS.aloadN X8.here hx rfl (hD d19_38) rfl rfl k') ?_
        show Gm p e below T8 m 39 #[rv r0, rv r1, iv (0 : Int32), iv p3, iv p4, iv (31 : Int32), iv ((((fSp p4) &&& (31 : Int32)) + (1 : Int32)) &&& (31 : Int32)), iv (2 : Int32)] [(.ref r1), (.int (1 : Int32)), (.ref r0)] _
        refine own_go (fun t' k' => XS.iloadN X8.here hx rfl (hD d19_39) rfl k') ?_
        refine own_go (fun t' k' => XS.iloadN X8.here hx rfl (hD d19_40) rfl k') ?_
        show Gm p e below T8 m 41 #[rv r0, rv r1, iv (0 : Int32), iv p3, iv p4, iv (31 : Int32), iv ((((fSp p4) &&& (31 : Int32)) + (1 : Int32)) &&& (31 : Int32)), iv (2 : Int32)] [(.int p3), (.int (0 : Int32)), (.ref r1), (.int (1 : Int32)), (.ref r0)] _
        obtain ⟨cq11, q11, q11'⟩ := E_r0.cell
        obtain ⟨_, _, ⟨T11, L11, k11, n11⟩, -, X11, ⟨Lc11, hQ11, l11, y11, z11⟩, st11⟩ := X8.privateBack hx (y := (⟨"com/example/design_drills/designdrills/service/listens/IdNumbers", "holds", "(I[BII)Z"⟩ : MethodName)) hown (mvT hZ (hw _ (List.mem_of_getElem? (i := 125) rfl))) (mvT hZ (hw _ (List.mem_of_getElem? (i := 126) rfl))) (own_self hZ (hw _ (List.mem_of_getElem? (i := 42) rfl)) (hw _ (List.mem_of_getElem? (i := 127) rfl)) (hw _ (List.mem_of_getElem? (i := 126) rfl)) (by decide)) (Cond.privateMethod_at (mvP hZ (hw _ (List.mem_of_getElem? (i := 127) rfl)) (args := #[]))) (mvT hZ (hw _ (List.mem_of_getElem? (i := 128) rfl))) (by decide) (backOf (W := 0) (rmH_1 l Z a0 hw [] r0 r1 p3 cb cs fb fs s1 l1 n g h0 n0 Z0 F_b F_s Ab As hs_1 hb_1 hq_1 hp hn B) hZ (hw _ (List.mem_of_getElem? (i := 128) rfl)) (hw _ (List.mem_of_getElem? (i := 43) rfl)) (by decide) (by decide)) (g := (mkF m 41 #[rv r0, rv r1, iv (0 : Int32), iv p3, iv p4, iv (31 : Int32), iv ((((fSp p4) &&& (31 : Int32)) + (1 : Int32)) &&& (31 : Int32)), iv (2 : Int32)] [(.int p3), (.int (0 : Int32)), (.ref r1), (.int (1 : Int32)), (.ref r0)])) rfl (by rw [hml]; rfl) (Steps.refl _) (a := r0) (by rw [e8]; exact q11) q11' (argsL := [(.int (1 : Int32)), (.ref r1), (.int (0 : Int32)), (.int p3)]) (rest := []) (lenOf own_pd19 rfl) rfl (by show 2 * 0 + _ ≤ _; exact Nat.le_of_eq rfl) (hD d19_41) (fun _ _ => ⟨rfl, e8, (by decide : 0 + 0 ≤ _), (by decide : 0 + 0 ≤ _)⟩)
        dsimp only [Pt.U, Pt.locs, Pt.cells, Pt.slots] at X11 l11 y11 z11 st11 hQ11
        subst l11 y11 z11
        obtain ⟨zh11, rfl, hh11, Nq11, eq11⟩ := hQ11
        have N11 := Fr.app N6 Nq11
        have e11 : T11.heap = h0 := eq11
        refine own_go (fun t k => st11.trans k) ?_
        show Gm p e below T11 m 44 #[rv r0, rv r1, iv (0 : Int32), iv p3, iv p4, iv (31 : Int32), iv ((((fSp p4) &&& (31 : Int32)) + (1 : Int32)) &&& (31 : Int32)), iv (2 : Int32)] [(.int zh11)] _
        by_cases c12 : zh11 = (0 : Int32)
        · have hfork := trivial
          refine own_go (fun t' k' => XS.ifYes X11.here hx rfl (pc0 := 44) (pc' := 50) rfl (hD d19_44) rfl (XT.i0_eq_t c12) (by decide) (by decide) k') ?_
          refine own_go (fun t' k' => XS.iload X11.here hx rfl (hD d19_50) rfl k') ?_
          refine own_go (fun t' k' => XS.iconst X11.here hx rfl (hD d19_52) k') ?_
          show Gm p e below T11 m 53 #[rv r0, rv r1, iv (0 : Int32), iv p3, iv p4, iv (31 : Int32), iv ((((fSp p4) &&& (31 : Int32)) + (1 : Int32)) &&& (31 : Int32)), iv (2 : Int32)] [(.int (1 : Int32)), (.int ((((fSp p4) &&& (31 : Int32)) + (1 : Int32)) &&& (31 : Int32)))] _
          refine own_go (fun t' k' => XS.iadd X11.here hx rfl (hD d19_53) rfl k') ?_
          refine own_go (fun t' k' => XS.iload X11.here hx rfl (hD d19_54) rfl k') ?_
          refine own_go (fun t' k' => XS.iand X11.here hx rfl (hD d19_56) rfl k') ?_
          show Gm p e below T11 m 57 #[rv r0, rv r1, iv (0 : Int32), iv p3, iv p4, iv (31 : Int32), iv ((((fSp p4) &&& (31 : Int32)) + (1 : Int32)) &&& (31 : Int32)), iv (2 : Int32)] [(.int ((((((fSp p4) &&& (31 : Int32)) + (1 : Int32)) &&& (31 : Int32)) + (1 : Int32)) &&& (31 : Int32)))] _
          refine own_go (fun t' k' => XS.istore X11.here hx rfl (hD d19_57) rfl (l' := #[rv r0, rv r1, iv (0 : Int32), iv p3, iv p4, iv (31 : Int32), iv ((((((fSp p4) &&& (31 : Int32)) + (1 : Int32)) &&& (31 : Int32)) + (1 : Int32)) &&& (31 : Int32)), iv (2 : Int32)]) rfl k') ?_
          refine own_go (fun t' k' => XS.goto X11.here hx rfl (pc0 := 59) (pc' := 19) rfl (hD d19_59) (by decide) (by decide) k') ?_
          refine own_go (fun t' k' => XS.aloadN X11.here hx rfl (hD d19_19) rfl rfl k') ?_
          show Gm p e below T11 m 20 #[rv r0, rv r1, iv (0 : Int32), iv p3, iv p4, iv (31 : Int32), iv ((((((fSp p4) &&& (31 : Int32)) + (1 : Int32)) &&& (31 : Int32)) + (1 : Int32)) &&& (31 : Int32)), iv (2 : Int32)] [(.ref r0)] _
          obtain ⟨T13, X13, e13, st13⟩ := getF X11 hx hZ hown (host := "") (Or.inl (hw _ (List.mem_of_getElem? (i := 53) rfl))) Via.refl e11 F_l (g := (mkF m 20 #[rv r0, rv r1, iv (0 : Int32), iv p3, iv p4, iv (31 : Int32), iv ((((((fSp p4) &&& (31 : Int32)) + (1 : Int32)) &&& (31 : Int32)) + (1 : Int32)) &&& (31 : Int32)), iv (2 : Int32)] [(.ref r0)])) rfl rfl (hD d19_20)
          refine own_go st13 ?_
          refine own_go (fun t' k' => XS.iload X13.here hx rfl (hD d19_23) rfl k') ?_
          show Gm p e below T13 m 25 #[rv r0, rv r1, iv (0 : Int32), iv p3, iv p4, iv (31 : Int32), iv ((((((fSp p4) &&& (31 : Int32)) + (1 : Int32)) &&& (31 : Int32)) + (1 : Int32)) &&& (31 : Int32)), iv (2 : Int32)] [(.int ((((((fSp p4) &&& (31 : Int32)) + (1 : Int32)) &&& (31 : Int32)) + (1 : Int32)) &&& (31 : Int32))), (.ref cl)] _
          have nn14 := own_m31 (((((fSp p4) &&& (31 : Int32)) + (1 : Int32)) &&& (31 : Int32)) + (1 : Int32))
          have exnn14_1 : ((((((fSp p4) &&& (31 : Int32)) + (1 : Int32)) &&& (31 : Int32)) + (1 : Int32)) &&& (31 : Int32)).toNatClampNeg ≠ j1 := fun u => own_ne1 (((fSp p4) &&& (31 : Int32)) + (1 : Int32)) (u.trans hq10.symm)
          have exnn14_0 : ((((((fSp p4) &&& (31 : Int32)) + (1 : Int32)) &&& (31 : Int32)) + (1 : Int32)) &&& (31 : Int32)).toNatClampNeg ≠ j0 := fun u => own_ne2 (fSp p4) (u.trans hq5.symm)
          show Gm p e below T13 m 25 #[rv r0, rv r1, iv (0 : Int32), iv p3, iv p4, iv (31 : Int32), iv ((((((fSp p4) &&& (31 : Int32)) + (1 : Int32)) &&& (31 : Int32)) + (1 : Int32)) &&& (31 : Int32)), iv (2 : Int32)] [(.int ((((((fSp p4) &&& (31 : Int32)) + (1 : Int32)) &&& (31 : Int32)) + (1 : Int32)) &&& (31 : Int32))), (.ref cl)] _
          refine own_go (fun t' k' => own_ldI X13 hx hZ e13 Al (j := ((((((fSp p4) &&& (31 : Int32)) + (1 : Int32)) &&& (31 : Int32)) + (1 : Int32)) &&& (31 : Int32))) (k := ((((((fSp p4) &&& (31 : Int32)) + (1 : Int32)) &&& (31 : Int32)) + (1 : Int32)) &&& (31 : Int32)).toNatClampNeg) nn14.1 rfl nn14.2 (w := .int (0 : Int32)) (hJz _ nn14.2 exnn14_0 exnn14_1) (g := (mkF m 25 #[rv r0, rv r1, iv (0 : Int32), iv p3, iv p4, iv (31 : Int32), iv ((((((fSp p4) &&& (31 : Int32)) + (1 : Int32)) &&& (31 : Int32)) + (1 : Int32)) &&& (31 : Int32)), iv (2 : Int32)] [(.int ((((((fSp p4) &&& (31 : Int32)) + (1 : Int32)) &&& (31 : Int32)) + (1 : Int32)) &&& (31 : Int32))), (.ref cl)])) rfl rfl (hD d19_25) k') ?_
          refine own_go (fun t' k' => XS.istore X13.here hx rfl (hD d19_26) rfl (l' := #[rv r0, rv r1, iv (0 : Int32), iv p3, iv p4, iv (31 : Int32), iv ((((((fSp p4) &&& (31 : Int32)) + (1 : Int32)) &&& (31 : Int32)) + (1 : Int32)) &&& (31 : Int32)), iv (0 : Int32)]) rfl k') ?_
          refine own_go (fun t' k' => XS.iload X13.here hx rfl (hD d19_28) rfl k') ?_
          show Gm p e below T13 m 30 #[rv r0, rv r1, iv (0 : Int32), iv p3, iv p4, iv (31 : Int32), iv ((((((fSp p4) &&& (31 : Int32)) + (1 : Int32)) &&& (31 : Int32)) + (1 : Int32)) &&& (31 : Int32)), iv (0 : Int32)] [(.int (0 : Int32))] _
          refine own_go (fun t' k' => XS.ifYes X13.here hx rfl (pc0 := 30) (pc' := 47) rfl (hD d19_30) rfl (XT.i0_eq_t (by decide)) (by decide) (by decide) k') ?_
          refine own_go (fun t' k' => XS.iload X13.here hx rfl (hD d19_47) rfl k') ?_
          show Gm p e below T13 m 49 #[rv r0, rv r1, iv (0 : Int32), iv p3, iv p4, iv (31 : Int32), iv ((((((fSp p4) &&& (31 : Int32)) + (1 : Int32)) &&& (31 : Int32)) + (1 : Int32)) &&& (31 : Int32)), iv (0 : Int32)] [(.int ((((((fSp p4) &&& (31 : Int32)) + (1 : Int32)) &&& (31 : Int32)) + (1 : Int32)) &&& (31 : Int32)))] _
          exact own_retI X13 hx hlk (t := .int) Bd.returns rfl (by simp) (hD d19_49) e13 ⟨_, rfl, N11, rfl, nn14.1, nn14.2, Or.inl (hJz _ nn14.2 exnn14_0 exnn14_1)⟩ (by decide) (by decide)
        · have hfork := trivial
          refine own_go (fun t' k' => XS.ifNo X11.here hx rfl (hD d19_44) rfl (XT.i0_eq_f c12) k') ?_
          refine own_go (fun t' k' => XS.iload X11.here hx rfl (hD d19_47) rfl k') ?_
          show Gm p e below T11 m 49 #[rv r0, rv r1, iv (0 : Int32), iv p3, iv p4, iv (31 : Int32), iv ((((fSp p4) &&& (31 : Int32)) + (1 : Int32)) &&& (31 : Int32)), iv (2 : Int32)] [(.int ((((fSp p4) &&& (31 : Int32)) + (1 : Int32)) &&& (31 : Int32)))] _
          exact own_retI X11 hx hlk (t := .int) Bd.returns rfl (by simp) (hD d19_49) e11 ⟨_, rfl, N11, rfl, nn9.1, nn9.2, Or.inr (Or.inr (⟨(by rw [hq10]; exact hJ_1), hh11 c12⟩))⟩ (by decide) (by decide)
      · have hfork := trivial
        show Gm p e below T8 m 25 #[rv r0, rv r1, iv (0 : Int32), iv p3, iv p4, iv (31 : Int32), iv ((((fSp p4) &&& (31 : Int32)) + (1 : Int32)) &&& (31 : Int32)), iv (1 : Int32)] [(.int ((((fSp p4) &&& (31 : Int32)) + (1 : Int32)) &&& (31 : Int32))), (.ref cl)] _
        refine own_go (fun t' k' => own_ldI X8 hx hZ e8 Al (j := ((((fSp p4) &&& (31 : Int32)) + (1 : Int32)) &&& (31 : Int32))) (k := ((((fSp p4) &&& (31 : Int32)) + (1 : Int32)) &&& (31 : Int32)).toNatClampNeg) nn9.1 rfl nn9.2 (w := .int (0 : Int32)) (hJz _ nn9.2 exnn9_0 hq10) (g := (mkF m 25 #[rv r0, rv r1, iv (0 : Int32), iv p3, iv p4, iv (31 : Int32), iv ((((fSp p4) &&& (31 : Int32)) + (1 : Int32)) &&& (31 : Int32)), iv (1 : Int32)] [(.int ((((fSp p4) &&& (31 : Int32)) + (1 : Int32)) &&& (31 : Int32))), (.ref cl)])) rfl rfl (hD d19_25) k') ?_
        refine own_go (fun t' k' => XS.istore X8.here hx rfl (hD d19_26) rfl (l' := #[rv r0, rv r1, iv (0 : Int32), iv p3, iv p4, iv (31 : Int32), iv ((((fSp p4) &&& (31 : Int32)) + (1 : Int32)) &&& (31 : Int32)), iv (0 : Int32)]) rfl k') ?_
        refine own_go (fun t' k' => XS.iload X8.here hx rfl (hD d19_28) rfl k') ?_
        show Gm p e below T8 m 30 #[rv r0, rv r1, iv (0 : Int32), iv p3, iv p4, iv (31 : Int32), iv ((((fSp p4) &&& (31 : Int32)) + (1 : Int32)) &&& (31 : Int32)), iv (0 : Int32)] [(.int (0 : Int32))] _
        refine own_go (fun t' k' => XS.ifYes X8.here hx rfl (pc0 := 30) (pc' := 47) rfl (hD d19_30) rfl (XT.i0_eq_t (by decide)) (by decide) (by decide) k') ?_
        refine own_go (fun t' k' => XS.iload X8.here hx rfl (hD d19_47) rfl k') ?_
        show Gm p e below T8 m 49 #[rv r0, rv r1, iv (0 : Int32), iv p3, iv p4, iv (31 : Int32), iv ((((fSp p4) &&& (31 : Int32)) + (1 : Int32)) &&& (31 : Int32)), iv (0 : Int32)] [(.int ((((fSp p4) &&& (31 : Int32)) + (1 : Int32)) &&& (31 : Int32)))] _
        exact own_retI X8 hx hlk (t := .int) Bd.returns rfl (by simp) (hD d19_49) e8 ⟨_, rfl, N6, rfl, nn9.1, nn9.2, Or.inl (hJz _ nn9.2 exnn9_0 hq10)⟩ (by decide) (by decide)
    · have hfork := trivial
      refine own_go (fun t' k' => XS.ifNo X6.here hx rfl (hD d19_44) rfl (XT.i0_eq_f c7) k') ?_
      refine own_go (fun t' k' => XS.iload X6.here hx rfl (hD d19_47) rfl k') ?_
      show Gm p e below T6 m 49 #[rv r0, rv r1, iv (0 : Int32), iv p3, iv p4, iv (31 : Int32), iv ((fSp p4) &&& (31 : Int32)), iv (1 : Int32)] [(.int ((fSp p4) &&& (31 : Int32)))] _
      exact own_retI X6 hx hlk (t := .int) Bd.returns rfl (by simp) (hD d19_49) e6 ⟨_, rfl, N6, rfl, nn4.1, nn4.2, Or.inr (Or.inl ⟨(by rw [hq5]; exact hJ_0), hh6 c7⟩)⟩ (by decide) (by decide)
  · have hfork := trivial
    by_cases hq15 : ((fSp p4) &&& (31 : Int32)).toNatClampNeg = j1
    · have hfork := trivial
      show Gm p e below T3 m 25 #[rv r0, rv r1, iv (0 : Int32), iv p3, iv p4, iv (31 : Int32), iv ((fSp p4) &&& (31 : Int32)), .unset] [(.int ((fSp p4) &&& (31 : Int32))), (.ref cl)] _
      refine own_go (fun t' k' => own_ldI X3 hx hZ e3 Al (j := ((fSp p4) &&& (31 : Int32))) (k := ((fSp p4) &&& (31 : Int32)).toNatClampNeg) nn4.1 rfl nn4.2 (w := .int (2 : Int32)) (by rw [hq15]; exact hJ_1) (g := (mkF m 25 #[rv r0, rv r1, iv (0 : Int32), iv p3, iv p4, iv (31 : Int32), iv ((fSp p4) &&& (31 : Int32)), .unset] [(.int ((fSp p4) &&& (31 : Int32))), (.ref cl)])) rfl rfl (hD d19_25) k') ?_
      refine own_go (fun t' k' => XS.istore X3.here hx rfl (hD d19_26) rfl (l' := #[rv r0, rv r1, iv (0 : Int32), iv p3, iv p4, iv (31 : Int32), iv ((fSp p4) &&& (31 : Int32)), iv (2 : Int32)]) rfl k') ?_
      refine own_go (fun t' k' => XS.iload X3.here hx rfl (hD d19_28) rfl k') ?_
      show Gm p e below T3 m 30 #[rv r0, rv r1, iv (0 : Int32), iv p3, iv p4, iv (31 : Int32), iv ((fSp p4) &&& (31 : Int32)), iv (2 : Int32)] [(.int (2 : Int32))] _
      refine own_go (fun t' k' => XS.ifNo X3.here hx rfl (hD d19_30) rfl (XT.i0_eq_f (by decide)) k') ?_
      refine own_go (fun t' k' => XS.aloadN X3.here hx rfl (hD d19_33) rfl rfl k') ?_
      refine own_go (fun t' k' => XS.iload X3.here hx rfl (hD d19_34) rfl k') ?_
      show Gm p e below T3 m 36 #[rv r0, rv r1, iv (0 : Int32), iv p3, iv p4, iv (31 : Int32), iv ((fSp p4) &&& (31 : Int32)), iv (2 : Int32)] [(.int (2 : Int32)), (.ref r0)] _
      refine own_go (fun t' k' => XS.iconst X3.here hx rfl (hD d19_36) k') ?_
      refine own_go (fun t' k' => XS.isub X3.here hx rfl (hD d19_37) rfl k') ?_
      refine own_go (fun t' k' => XS.aloadN X3.here hx rfl (hD d19_38) rfl rfl k') ?_
      show Gm p e below T3 m 39 #[rv r0, rv r1, iv (0 : Int32), iv p3, iv p4, iv (31 : Int32), iv ((fSp p4) &&& (31 : Int32)), iv (2 : Int32)] [(.ref r1), (.int (1 : Int32)), (.ref r0)] _
      refine own_go (fun t' k' => XS.iloadN X3.here hx rfl (hD d19_39) rfl k') ?_
      refine own_go (fun t' k' => XS.iloadN X3.here hx rfl (hD d19_40) rfl k') ?_
      show Gm p e below T3 m 41 #[rv r0, rv r1, iv (0 : Int32), iv p3, iv p4, iv (31 : Int32), iv ((fSp p4) &&& (31 : Int32)), iv (2 : Int32)] [(.int p3), (.int (0 : Int32)), (.ref r1), (.int (1 : Int32)), (.ref r0)] _
      obtain ⟨cq16, q16, q16'⟩ := E_r0.cell
      obtain ⟨_, _, ⟨T16, L16, k16, n16⟩, -, X16, ⟨Lc16, hQ16, l16, y16, z16⟩, st16⟩ := X3.privateBack hx (y := (⟨"com/example/design_drills/designdrills/service/listens/IdNumbers", "holds", "(I[BII)Z"⟩ : MethodName)) hown (mvT hZ (hw _ (List.mem_of_getElem? (i := 125) rfl))) (mvT hZ (hw _ (List.mem_of_getElem? (i := 126) rfl))) (own_self hZ (hw _ (List.mem_of_getElem? (i := 42) rfl)) (hw _ (List.mem_of_getElem? (i := 127) rfl)) (hw _ (List.mem_of_getElem? (i := 126) rfl)) (by decide)) (Cond.privateMethod_at (mvP hZ (hw _ (List.mem_of_getElem? (i := 127) rfl)) (args := #[]))) (mvT hZ (hw _ (List.mem_of_getElem? (i := 128) rfl))) (by decide) (backOf (W := 0) (rmH_1 l Z a0 hw [] r0 r1 p3 cb cs fb fs s1 l1 n g h0 n0 Z0 F_b F_s Ab As hs_1 hb_1 hq_1 hp hn B) hZ (hw _ (List.mem_of_getElem? (i := 128) rfl)) (hw _ (List.mem_of_getElem? (i := 43) rfl)) (by decide) (by decide)) (g := (mkF m 41 #[rv r0, rv r1, iv (0 : Int32), iv p3, iv p4, iv (31 : Int32), iv ((fSp p4) &&& (31 : Int32)), iv (2 : Int32)] [(.int p3), (.int (0 : Int32)), (.ref r1), (.int (1 : Int32)), (.ref r0)])) rfl (by rw [hml]; rfl) (Steps.refl _) (a := r0) (by rw [e3]; exact q16) q16' (argsL := [(.int (1 : Int32)), (.ref r1), (.int (0 : Int32)), (.int p3)]) (rest := []) (lenOf own_pd19 rfl) rfl (by show 2 * 0 + _ ≤ _; exact Nat.le_of_eq rfl) (hD d19_41) (fun _ _ => ⟨rfl, e3, (by decide : 0 + 0 ≤ _), (by decide : 0 + 0 ≤ _)⟩)
      dsimp only [Pt.U, Pt.locs, Pt.cells, Pt.slots] at X16 l16 y16 z16 st16 hQ16
      subst l16 y16 z16
      obtain ⟨zh16, rfl, hh16, Nq16, eq16⟩ := hQ16
      have N16 := Fr.app N2 Nq16
      have e16 : T16.heap = h0 := eq16
      refine own_go (fun t k => st16.trans k) ?_
      show Gm p e below T16 m 44 #[rv r0, rv r1, iv (0 : Int32), iv p3, iv p4, iv (31 : Int32), iv ((fSp p4) &&& (31 : Int32)), iv (2 : Int32)] [(.int zh16)] _
      by_cases c17 : zh16 = (0 : Int32)
      · have hfork := trivial
        refine own_go (fun t' k' => XS.ifYes X16.here hx rfl (pc0 := 44) (pc' := 50) rfl (hD d19_44) rfl (XT.i0_eq_t c17) (by decide) (by decide) k') ?_
        refine own_go (fun t' k' => XS.iload X16.here hx rfl (hD d19_50) rfl k') ?_
        refine own_go (fun t' k' => XS.iconst X16.here hx rfl (hD d19_52) k') ?_
        show Gm p e below T16 m 53 #[rv r0, rv r1, iv (0 : Int32), iv p3, iv p4, iv (31 : Int32), iv ((fSp p4) &&& (31 : Int32)), iv (2 : Int32)] [(.int (1 : Int32)), (.int ((fSp p4) &&& (31 : Int32)))] _
        refine own_go (fun t' k' => XS.iadd X16.here hx rfl (hD d19_53) rfl k') ?_
        refine own_go (fun t' k' => XS.iload X16.here hx rfl (hD d19_54) rfl k') ?_
        refine own_go (fun t' k' => XS.iand X16.here hx rfl (hD d19_56) rfl k') ?_
        show Gm p e below T16 m 57 #[rv r0, rv r1, iv (0 : Int32), iv p3, iv p4, iv (31 : Int32), iv ((fSp p4) &&& (31 : Int32)), iv (2 : Int32)] [(.int ((((fSp p4) &&& (31 : Int32)) + (1 : Int32)) &&& (31 : Int32)))] _
        refine own_go (fun t' k' => XS.istore X16.here hx rfl (hD d19_57) rfl (l' := #[rv r0, rv r1, iv (0 : Int32), iv p3, iv p4, iv (31 : Int32), iv ((((fSp p4) &&& (31 : Int32)) + (1 : Int32)) &&& (31 : Int32)), iv (2 : Int32)]) rfl k') ?_
        refine own_go (fun t' k' => XS.goto X16.here hx rfl (pc0 := 59) (pc' := 19) rfl (hD d19_59) (by decide) (by decide) k') ?_
        refine own_go (fun t' k' => XS.aloadN X16.here hx rfl (hD d19_19) rfl rfl k') ?_
        show Gm p e below T16 m 20 #[rv r0, rv r1, iv (0 : Int32), iv p3, iv p4, iv (31 : Int32), iv ((((fSp p4) &&& (31 : Int32)) + (1 : Int32)) &&& (31 : Int32)), iv (2 : Int32)] [(.ref r0)] _
        obtain ⟨T18, X18, e18, st18⟩ := getF X16 hx hZ hown (host := "") (Or.inl (hw _ (List.mem_of_getElem? (i := 53) rfl))) Via.refl e16 F_l (g := (mkF m 20 #[rv r0, rv r1, iv (0 : Int32), iv p3, iv p4, iv (31 : Int32), iv ((((fSp p4) &&& (31 : Int32)) + (1 : Int32)) &&& (31 : Int32)), iv (2 : Int32)] [(.ref r0)])) rfl rfl (hD d19_20)
        refine own_go st18 ?_
        refine own_go (fun t' k' => XS.iload X18.here hx rfl (hD d19_23) rfl k') ?_
        show Gm p e below T18 m 25 #[rv r0, rv r1, iv (0 : Int32), iv p3, iv p4, iv (31 : Int32), iv ((((fSp p4) &&& (31 : Int32)) + (1 : Int32)) &&& (31 : Int32)), iv (2 : Int32)] [(.int ((((fSp p4) &&& (31 : Int32)) + (1 : Int32)) &&& (31 : Int32))), (.ref cl)] _
        have nn19 := own_m31 (((fSp p4) &&& (31 : Int32)) + (1 : Int32))
        have exnn19_1 : ((((fSp p4) &&& (31 : Int32)) + (1 : Int32)) &&& (31 : Int32)).toNatClampNeg ≠ j1 := fun u => own_ne1 (fSp p4) (u.trans hq15.symm)
        by_cases hq20 : ((((fSp p4) &&& (31 : Int32)) + (1 : Int32)) &&& (31 : Int32)).toNatClampNeg = j0
        · have hfork := trivial
          show Gm p e below T18 m 25 #[rv r0, rv r1, iv (0 : Int32), iv p3, iv p4, iv (31 : Int32), iv ((((fSp p4) &&& (31 : Int32)) + (1 : Int32)) &&& (31 : Int32)), iv (2 : Int32)] [(.int ((((fSp p4) &&& (31 : Int32)) + (1 : Int32)) &&& (31 : Int32))), (.ref cl)] _
          refine own_go (fun t' k' => own_ldI X18 hx hZ e18 Al (j := ((((fSp p4) &&& (31 : Int32)) + (1 : Int32)) &&& (31 : Int32))) (k := ((((fSp p4) &&& (31 : Int32)) + (1 : Int32)) &&& (31 : Int32)).toNatClampNeg) nn19.1 rfl nn19.2 (w := .int (1 : Int32)) (by rw [hq20]; exact hJ_0) (g := (mkF m 25 #[rv r0, rv r1, iv (0 : Int32), iv p3, iv p4, iv (31 : Int32), iv ((((fSp p4) &&& (31 : Int32)) + (1 : Int32)) &&& (31 : Int32)), iv (2 : Int32)] [(.int ((((fSp p4) &&& (31 : Int32)) + (1 : Int32)) &&& (31 : Int32))), (.ref cl)])) rfl rfl (hD d19_25) k') ?_
          refine own_go (fun t' k' => XS.istore X18.here hx rfl (hD d19_26) rfl (l' := #[rv r0, rv r1, iv (0 : Int32), iv p3, iv p4, iv (31 : Int32), iv ((((fSp p4) &&& (31 : Int32)) + (1 : Int32)) &&& (31 : Int32)), iv (1 : Int32)]) rfl k') ?_
          refine own_go (fun t' k' => XS.iload X18.here hx rfl (hD d19_28) rfl k') ?_
          show Gm p e below T18 m 30 #[rv r0, rv r1, iv (0 : Int32), iv p3, iv p4, iv (31 : Int32), iv ((((fSp p4) &&& (31 : Int32)) + (1 : Int32)) &&& (31 : Int32)), iv (1 : Int32)] [(.int (1 : Int32))] _
          refine own_go (fun t' k' => XS.ifNo X18.here hx rfl (hD d19_30) rfl (XT.i0_eq_f (by decide)) k') ?_
          refine own_go (fun t' k' => XS.aloadN X18.here hx rfl (hD d19_33) rfl rfl k') ?_
          refine own_go (fun t' k' => XS.iload X18.here hx rfl (hD d19_34) rfl k') ?_
          show Gm p e below T18 m 36 #[rv r0, rv r1, iv (0 : Int32), iv p3, iv p4, iv (31 : Int32), iv ((((fSp p4) &&& (31 : Int32)) + (1 : Int32)) &&& (31 : Int32)), iv (1 : Int32)] [(.int (1 : Int32)), (.ref r0)] _
          refine own_go (fun t' k' => XS.iconst X18.here hx rfl (hD d19_36) k') ?_
          refine own_go (fun t' k' => XS.isub X18.here hx rfl (hD d19_37) rfl k') ?_
          refine own_go (fun t' k' => XS.aloadN X18.here hx rfl (hD d19_38) rfl rfl k') ?_
          show Gm p e below T18 m 39 #[rv r0, rv r1, iv (0 : Int32), iv p3, iv p4, iv (31 : Int32), iv ((((fSp p4) &&& (31 : Int32)) + (1 : Int32)) &&& (31 : Int32)), iv (1 : Int32)] [(.ref r1), (.int (0 : Int32)), (.ref r0)] _
          refine own_go (fun t' k' => XS.iloadN X18.here hx rfl (hD d19_39) rfl k') ?_
          refine own_go (fun t' k' => XS.iloadN X18.here hx rfl (hD d19_40) rfl k') ?_
          show Gm p e below T18 m 41 #[rv r0, rv r1, iv (0 : Int32), iv p3, iv p4, iv (31 : Int32), iv ((((fSp p4) &&& (31 : Int32)) + (1 : Int32)) &&& (31 : Int32)), iv (1 : Int32)] [(.int p3), (.int (0 : Int32)), (.ref r1), (.int (0 : Int32)), (.ref r0)] _
          obtain ⟨cq21, q21, q21'⟩ := E_r0.cell
          obtain ⟨_, _, ⟨T21, L21, k21, n21⟩, -, X21, ⟨Lc21, hQ21, l21, y21, z21⟩, st21⟩ := X18.privateBack hx (y := (⟨"com/example/design_drills/designdrills/service/listens/IdNumbers", "holds", "(I[BII)Z"⟩ : MethodName)) hown (mvT hZ (hw _ (List.mem_of_getElem? (i := 125) rfl))) (mvT hZ (hw _ (List.mem_of_getElem? (i := 126) rfl))) (own_self hZ (hw _ (List.mem_of_getElem? (i := 42) rfl)) (hw _ (List.mem_of_getElem? (i := 127) rfl)) (hw _ (List.mem_of_getElem? (i := 126) rfl)) (by decide)) (Cond.privateMethod_at (mvP hZ (hw _ (List.mem_of_getElem? (i := 127) rfl)) (args := #[]))) (mvT hZ (hw _ (List.mem_of_getElem? (i := 128) rfl))) (by decide) (backOf (W := 0) (rmH_0 l Z a0 hw [] r0 r1 p3 cb cs fb fs s0 l0 n g h0 n0 Z0 F_b F_s Ab As hs_0 hb_0 hq_0 hp hn B) hZ (hw _ (List.mem_of_getElem? (i := 128) rfl)) (hw _ (List.mem_of_getElem? (i := 43) rfl)) (by decide) (by decide)) (g := (mkF m 41 #[rv r0, rv r1, iv (0 : Int32), iv p3, iv p4, iv (31 : Int32), iv ((((fSp p4) &&& (31 : Int32)) + (1 : Int32)) &&& (31 : Int32)), iv (1 : Int32)] [(.int p3), (.int (0 : Int32)), (.ref r1), (.int (0 : Int32)), (.ref r0)])) rfl (by rw [hml]; rfl) (Steps.refl _) (a := r0) (by rw [e18]; exact q21) q21' (argsL := [(.int (0 : Int32)), (.ref r1), (.int (0 : Int32)), (.int p3)]) (rest := []) (lenOf own_pd19 rfl) rfl (by show 2 * 0 + _ ≤ _; exact Nat.le_of_eq rfl) (hD d19_41) (fun _ _ => ⟨rfl, e18, (by decide : 0 + 0 ≤ _), (by decide : 0 + 0 ≤ _)⟩)
          dsimp only [Pt.U, Pt.locs, Pt.cells, Pt.slots] at X21 l21 y21 z21 st21 hQ21
          subst l21 y21 z21
          obtain ⟨zh21, rfl, hh21, Nq21, eq21⟩ := hQ21
          have N21 := Fr.app N16 Nq21
          have e21 : T21.heap = h0 := eq21
          refine own_go (fun t k => st21.trans k) ?_
          show Gm p e below T21 m 44 #[rv r0, rv r1, iv (0 : Int32), iv p3, iv p4, iv (31 : Int32), iv ((((fSp p4) &&& (31 : Int32)) + (1 : Int32)) &&& (31 : Int32)), iv (1 : Int32)] [(.int zh21)] _
          by_cases c22 : zh21 = (0 : Int32)
          · have hfork := trivial
            refine own_go (fun t' k' => XS.ifYes X21.here hx rfl (pc0 := 44) (pc' := 50) rfl (hD d19_44) rfl (XT.i0_eq_t c22) (by decide) (by decide) k') ?_
            refine own_go (fun t' k' => XS.iload X21.here hx rfl (hD d19_50) rfl k') ?_
            refine own_go (fun t' k' => XS.iconst X21.here hx rfl (hD d19_52) k') ?_
            show Gm p e below T21 m 53 #[rv r0, rv r1, iv (0 : Int32), iv p3, iv p4, iv (31 : Int32), iv ((((fSp p4) &&& (31 : Int32)) + (1 : Int32)) &&& (31 : Int32)), iv (1 : Int32)] [(.int (1 : Int32)), (.int ((((fSp p4) &&& (31 : Int32)) + (1 : Int32)) &&& (31 : Int32)))] _
            refine own_go (fun t' k' => XS.iadd X21.here hx rfl (hD d19_53) rfl k') ?_
            refine own_go (fun t' k' => XS.iload X21.here hx rfl (hD d19_54) rfl k') ?_
            refine own_go (fun t' k' => XS.iand X21.here hx rfl (hD d19_56) rfl k') ?_
            show Gm p e below T21 m 57 #[rv r0, rv r1, iv (0 : Int32), iv p3, iv p4, iv (31 : Int32), iv ((((fSp p4) &&& (31 : Int32)) + (1 : Int32)) &&& (31 : Int32)), iv (1 : Int32)] [(.int ((((((fSp p4) &&& (31 : Int32)) + (1 : Int32)) &&& (31 : Int32)) + (1 : Int32)) &&& (31 : Int32)))] _
            refine own_go (fun t' k' => XS.istore X21.here hx rfl (hD d19_57) rfl (l' := #[rv r0, rv r1, iv (0 : Int32), iv p3, iv p4, iv (31 : Int32), iv ((((((fSp p4) &&& (31 : Int32)) + (1 : Int32)) &&& (31 : Int32)) + (1 : Int32)) &&& (31 : Int32)), iv (1 : Int32)]) rfl k') ?_
            refine own_go (fun t' k' => XS.goto X21.here hx rfl (pc0 := 59) (pc' := 19) rfl (hD d19_59) (by decide) (by decide) k') ?_
            refine own_go (fun t' k' => XS.aloadN X21.here hx rfl (hD d19_19) rfl rfl k') ?_
            show Gm p e below T21 m 20 #[rv r0, rv r1, iv (0 : Int32), iv p3, iv p4, iv (31 : Int32), iv ((((((fSp p4) &&& (31 : Int32)) + (1 : Int32)) &&& (31 : Int32)) + (1 : Int32)) &&& (31 : Int32)), iv (1 : Int32)] [(.ref r0)] _
            obtain ⟨T23, X23, e23, st23⟩ := getF X21 hx hZ hown (host := "") (Or.inl (hw _ (List.mem_of_getElem? (i := 53) rfl))) Via.refl e21 F_l (g := (mkF m 20 #[rv r0, rv r1, iv (0 : Int32), iv p3, iv p4, iv (31 : Int32), iv ((((((fSp p4) &&& (31 : Int32)) + (1 : Int32)) &&& (31 : Int32)) + (1 : Int32)) &&& (31 : Int32)), iv (1 : Int32)] [(.ref r0)])) rfl rfl (hD d19_20)
            refine own_go st23 ?_
            refine own_go (fun t' k' => XS.iload X23.here hx rfl (hD d19_23) rfl k') ?_
            show Gm p e below T23 m 25 #[rv r0, rv r1, iv (0 : Int32), iv p3, iv p4, iv (31 : Int32), iv ((((((fSp p4) &&& (31 : Int32)) + (1 : Int32)) &&& (31 : Int32)) + (1 : Int32)) &&& (31 : Int32)), iv (1 : Int32)] [(.int ((((((fSp p4) &&& (31 : Int32)) + (1 : Int32)) &&& (31 : Int32)) + (1 : Int32)) &&& (31 : Int32))), (.ref cl)] _
            have nn24 := own_m31 (((((fSp p4) &&& (31 : Int32)) + (1 : Int32)) &&& (31 : Int32)) + (1 : Int32))
            have exnn24_0 : ((((((fSp p4) &&& (31 : Int32)) + (1 : Int32)) &&& (31 : Int32)) + (1 : Int32)) &&& (31 : Int32)).toNatClampNeg ≠ j0 := fun u => own_ne1 (((fSp p4) &&& (31 : Int32)) + (1 : Int32)) (u.trans hq20.symm)
            have exnn24_1 : ((((((fSp p4) &&& (31 : Int32)) + (1 : Int32)) &&& (31 : Int32)) + (1 : Int32)) &&& (31 : Int32)).toNatClampNeg ≠ j1 := fun u => own_ne2 (fSp p4) (u.trans hq15.symm)
            show Gm p e below T23 m 25 #[rv r0, rv r1, iv (0 : Int32), iv p3, iv p4, iv (31 : Int32), iv ((((((fSp p4) &&& (31 : Int32)) + (1 : Int32)) &&& (31 : Int32)) + (1 : Int32)) &&& (31 : Int32)), iv (1 : Int32)] [(.int ((((((fSp p4) &&& (31 : Int32)) + (1 : Int32)) &&& (31 : Int32)) + (1 : Int32)) &&& (31 : Int32))), (.ref cl)] _
            refine own_go (fun t' k' => own_ldI X23 hx hZ e23 Al (j := ((((((fSp p4) &&& (31 : Int32)) + (1 : Int32)) &&& (31 : Int32)) + (1 : Int32)) &&& (31 : Int32))) (k := ((((((fSp p4) &&& (31 : Int32)) + (1 : Int32)) &&& (31 : Int32)) + (1 : Int32)) &&& (31 : Int32)).toNatClampNeg) nn24.1 rfl nn24.2 (w := .int (0 : Int32)) (hJz _ nn24.2 exnn24_0 exnn24_1) (g := (mkF m 25 #[rv r0, rv r1, iv (0 : Int32), iv p3, iv p4, iv (31 : Int32), iv ((((((fSp p4) &&& (31 : Int32)) + (1 : Int32)) &&& (31 : Int32)) + (1 : Int32)) &&& (31 : Int32)), iv (1 : Int32)] [(.int ((((((fSp p4) &&& (31 : Int32)) + (1 : Int32)) &&& (31 : Int32)) + (1 : Int32)) &&& (31 : Int32))), (.ref cl)])) rfl rfl (hD d19_25) k') ?_
            refine own_go (fun t' k' => XS.istore X23.here hx rfl (hD d19_26) rfl (l' := #[rv r0, rv r1, iv (0 : Int32), iv p3, iv p4, iv (31 : Int32), iv ((((((fSp p4) &&& (31 : Int32)) + (1 : Int32)) &&& (31 : Int32)) + (1 : Int32)) &&& (31 : Int32)), iv (0 : Int32)]) rfl k') ?_
            refine own_go (fun t' k' => XS.iload X23.here hx rfl (hD d19_28) rfl k') ?_
            show Gm p e below T23 m 30 #[rv r0, rv r1, iv (0 : Int32), iv p3, iv p4, iv (31 : Int32), iv ((((((fSp p4) &&& (31 : Int32)) + (1 : Int32)) &&& (31 : Int32)) + (1 : Int32)) &&& (31 : Int32)), iv (0 : Int32)] [(.int (0 : Int32))] _
            refine own_go (fun t' k' => XS.ifYes X23.here hx rfl (pc0 := 30) (pc' := 47) rfl (hD d19_30) rfl (XT.i0_eq_t (by decide)) (by decide) (by decide) k') ?_
            refine own_go (fun t' k' => XS.iload X23.here hx rfl (hD d19_47) rfl k') ?_
            show Gm p e below T23 m 49 #[rv r0, rv r1, iv (0 : Int32), iv p3, iv p4, iv (31 : Int32), iv ((((((fSp p4) &&& (31 : Int32)) + (1 : Int32)) &&& (31 : Int32)) + (1 : Int32)) &&& (31 : Int32)), iv (0 : Int32)] [(.int ((((((fSp p4) &&& (31 : Int32)) + (1 : Int32)) &&& (31 : Int32)) + (1 : Int32)) &&& (31 : Int32)))] _
            exact own_retI X23 hx hlk (t := .int) Bd.returns rfl (by simp) (hD d19_49) e23 ⟨_, rfl, N21, rfl, nn24.1, nn24.2, Or.inl (hJz _ nn24.2 exnn24_0 exnn24_1)⟩ (by decide) (by decide)
          · have hfork := trivial
            refine own_go (fun t' k' => XS.ifNo X21.here hx rfl (hD d19_44) rfl (XT.i0_eq_f c22) k') ?_
            refine own_go (fun t' k' => XS.iload X21.here hx rfl (hD d19_47) rfl k') ?_
            show Gm p e below T21 m 49 #[rv r0, rv r1, iv (0 : Int32), iv p3, iv p4, iv (31 : Int32), iv ((((fSp p4) &&& (31 : Int32)) + (1 : Int32)) &&& (31 : Int32)), iv (1 : Int32)] [(.int ((((fSp p4) &&& (31 : Int32)) + (1 : Int32)) &&& (31 : Int32)))] _
            exact own_retI X21 hx hlk (t := .int) Bd.returns rfl (by simp) (hD d19_49) e21 ⟨_, rfl, N21, rfl, nn19.1, nn19.2, Or.inr (Or.inl ⟨(by rw [hq20]; exact hJ_0), hh21 c22⟩)⟩ (by decide) (by decide)
        · have hfork := trivial
          show Gm p e below T18 m 25 #[rv r0, rv r1, iv (0 : Int32), iv p3, iv p4, iv (31 : Int32), iv ((((fSp p4) &&& (31 : Int32)) + (1 : Int32)) &&& (31 : Int32)), iv (2 : Int32)] [(.int ((((fSp p4) &&& (31 : Int32)) + (1 : Int32)) &&& (31 : Int32))), (.ref cl)] _
          refine own_go (fun t' k' => own_ldI X18 hx hZ e18 Al (j := ((((fSp p4) &&& (31 : Int32)) + (1 : Int32)) &&& (31 : Int32))) (k := ((((fSp p4) &&& (31 : Int32)) + (1 : Int32)) &&& (31 : Int32)).toNatClampNeg) nn19.1 rfl nn19.2 (w := .int (0 : Int32)) (hJz _ nn19.2 hq20 exnn19_1) (g := (mkF m 25 #[rv r0, rv r1, iv (0 : Int32), iv p3, iv p4, iv (31 : Int32), iv ((((fSp p4) &&& (31 : Int32)) + (1 : Int32)) &&& (31 : Int32)), iv (2 : Int32)] [(.int ((((fSp p4) &&& (31 : Int32)) + (1 : Int32)) &&& (31 : Int32))), (.ref cl)])) rfl rfl (hD d19_25) k') ?_
          refine own_go (fun t' k' => XS.istore X18.here hx rfl (hD d19_26) rfl (l' := #[rv r0, rv r1, iv (0 : Int32), iv p3, iv p4, iv (31 : Int32), iv ((((fSp p4) &&& (31 : Int32)) + (1 : Int32)) &&& (31 : Int32)), iv (0 : Int32)]) rfl k') ?_
          refine own_go (fun t' k' => XS.iload X18.here hx rfl (hD d19_28) rfl k') ?_
          show Gm p e below T18 m 30 #[rv r0, rv r1, iv (0 : Int32), iv p3, iv p4, iv (31 : Int32), iv ((((fSp p4) &&& (31 : Int32)) + (1 : Int32)) &&& (31 : Int32)), iv (0 : Int32)] [(.int (0 : Int32))] _
          refine own_go (fun t' k' => XS.ifYes X18.here hx rfl (pc0 := 30) (pc' := 47) rfl (hD d19_30) rfl (XT.i0_eq_t (by decide)) (by decide) (by decide) k') ?_
          refine own_go (fun t' k' => XS.iload X18.here hx rfl (hD d19_47) rfl k') ?_
          show Gm p e below T18 m 49 #[rv r0, rv r1, iv (0 : Int32), iv p3, iv p4, iv (31 : Int32), iv ((((fSp p4) &&& (31 : Int32)) + (1 : Int32)) &&& (31 : Int32)), iv (0 : Int32)] [(.int ((((fSp p4) &&& (31 : Int32)) + (1 : Int32)) &&& (31 : Int32)))] _
          exact own_retI X18 hx hlk (t := .int) Bd.returns rfl (by simp) (hD d19_49) e18 ⟨_, rfl, N16, rfl, nn19.1, nn19.2, Or.inl (hJz _ nn19.2 hq20 exnn19_1)⟩ (by decide) (by decide)
      · have hfork := trivial
        refine own_go (fun t' k' => XS.ifNo X16.here hx rfl (hD d19_44) rfl (XT.i0_eq_f c17) k') ?_
        refine own_go (fun t' k' => XS.iload X16.here hx rfl (hD d19_47) rfl k') ?_
        show Gm p e below T16 m 49 #[rv r0, rv r1, iv (0 : Int32), iv p3, iv p4, iv (31 : Int32), iv ((fSp p4) &&& (31 : Int32)), iv (2 : Int32)] [(.int ((fSp p4) &&& (31 : Int32)))] _
        exact own_retI X16 hx hlk (t := .int) Bd.returns rfl (by simp) (hD d19_49) e16 ⟨_, rfl, N16, rfl, nn4.1, nn4.2, Or.inr (Or.inr (⟨(by rw [hq15]; exact hJ_1), hh16 c17⟩))⟩ (by decide) (by decide)
    · have hfork := trivial
      show Gm p e below T3 m 25 #[rv r0, rv r1, iv (0 : Int32), iv p3, iv p4, iv (31 : Int32), iv ((fSp p4) &&& (31 : Int32)), .unset] [(.int ((fSp p4) &&& (31 : Int32))), (.ref cl)] _
      refine own_go (fun t' k' => own_ldI X3 hx hZ e3 Al (j := ((fSp p4) &&& (31 : Int32))) (k := ((fSp p4) &&& (31 : Int32)).toNatClampNeg) nn4.1 rfl nn4.2 (w := .int (0 : Int32)) (hJz _ nn4.2 hq5 hq15) (g := (mkF m 25 #[rv r0, rv r1, iv (0 : Int32), iv p3, iv p4, iv (31 : Int32), iv ((fSp p4) &&& (31 : Int32)), .unset] [(.int ((fSp p4) &&& (31 : Int32))), (.ref cl)])) rfl rfl (hD d19_25) k') ?_
      refine own_go (fun t' k' => XS.istore X3.here hx rfl (hD d19_26) rfl (l' := #[rv r0, rv r1, iv (0 : Int32), iv p3, iv p4, iv (31 : Int32), iv ((fSp p4) &&& (31 : Int32)), iv (0 : Int32)]) rfl k') ?_
      refine own_go (fun t' k' => XS.iload X3.here hx rfl (hD d19_28) rfl k') ?_
      show Gm p e below T3 m 30 #[rv r0, rv r1, iv (0 : Int32), iv p3, iv p4, iv (31 : Int32), iv ((fSp p4) &&& (31 : Int32)), iv (0 : Int32)] [(.int (0 : Int32))] _
      refine own_go (fun t' k' => XS.ifYes X3.here hx rfl (pc0 := 30) (pc' := 47) rfl (hD d19_30) rfl (XT.i0_eq_t (by decide)) (by decide) (by decide) k') ?_
      refine own_go (fun t' k' => XS.iload X3.here hx rfl (hD d19_47) rfl k') ?_
      show Gm p e below T3 m 49 #[rv r0, rv r1, iv (0 : Int32), iv p3, iv p4, iv (31 : Int32), iv ((fSp p4) &&& (31 : Int32)), iv (0 : Int32)] [(.int ((fSp p4) &&& (31 : Int32)))] _
      exact own_retI X3 hx hlk (t := .int) Bd.returns rfl (by simp) (hD d19_49) e3 ⟨_, rfl, N2, rfl, nn4.1, nn4.2, Or.inl (hJz _ nn4.2 hq5 hq15)⟩ (by decide) (by decide)
def QAdd (Z : State) (hb : Heap) (K : Nat) (r : Addr) (E : List Nat) (n n0 : Nat) (v : Option Value) (h : Heap) (L : List Loc) : Prop := ∃ (num : Nat) (E' : List Nat), v = some (.int num.toInt32) ∧ Fr n0 L ∧ Ext hb h ∧ IN Z h n0 K r E' ∧ E'[num]? = some n ∧ (∀ (k l : Nat), E[k]? = some l → E'[k]? = some l) ∧ E'.length ≤ E.length + 1 ∧ K ≤ h.size
theorem d17_0 : decode prog_65_method_6_code 0 = .ok (.aload_n 1, 1) := by decide +kernel
theorem d17_1 : decode prog_65_method_6_code 1 = .ok (.iload_n 2, 1) := by decide +kernel
theorem d17_2 : decode prog_65_method_6_code 2 = .ok (.iload_n 3, 1) := by decide +kernel
theorem d17_3 : decode prog_65_method_6_code 3 = .ok (.invokestatic 30, 3) := by decide +kernel
theorem d17_6 : decode prog_65_method_6_code 6 = .ok (.istore 4, 2) := by decide +kernel
theorem d17_8 : decode prog_65_method_6_code 8 = .ok (.aload_n 0, 1) := by decide +kernel
theorem d17_9 : decode prog_65_method_6_code 9 = .ok (.aload_n 1, 1) := by decide +kernel
theorem d17_10 : decode prog_65_method_6_code 10 = .ok (.iload_n 2, 1) := by decide +kernel
theorem d17_11 : decode prog_65_method_6_code 11 = .ok (.iload_n 3, 1) := by decide +kernel
theorem d17_12 : decode prog_65_method_6_code 12 = .ok (.iload 4, 2) := by decide +kernel
theorem d17_14 : decode prog_65_method_6_code 14 = .ok (.invokevirtual 34, 3) := by decide +kernel
theorem d17_17 : decode prog_65_method_6_code 17 = .ok (.istore 5, 2) := by decide +kernel
theorem d17_19 : decode prog_65_method_6_code 19 = .ok (.aload_n 0, 1) := by decide +kernel
theorem d17_20 : decode prog_65_method_6_code 20 = .ok (.getfield 19, 3) := by decide +kernel
theorem d17_23 : decode prog_65_method_6_code 23 = .ok (.iload 5, 2) := by decide +kernel
theorem d17_25 : decode prog_65_method_6_code 25 = .ok (.iaload, 1) := by decide +kernel
theorem d17_26 : decode prog_65_method_6_code 26 = .ok (.ifCond .eq 13, 3) := by decide +kernel
theorem d17_39 : decode prog_65_method_6_code 39 = .ok (.aload_n 0, 1) := by decide +kernel
theorem d17_40 : decode prog_65_method_6_code 40 = .ok (.getfield 41, 3) := by decide +kernel
theorem d17_43 : decode prog_65_method_6_code 43 = .ok (.iconst 1, 1) := by decide +kernel
theorem d17_44 : decode prog_65_method_6_code 44 = .ok (.iadd, 1) := by decide +kernel
theorem d17_45 : decode prog_65_method_6_code 45 = .ok (.iload_n 3, 1) := by decide +kernel
theorem d17_46 : decode prog_65_method_6_code 46 = .ok (.iadd, 1) := by decide +kernel
theorem d17_47 : decode prog_65_method_6_code 47 = .ok (.aload_n 0, 1) := by decide +kernel
theorem d17_48 : decode prog_65_method_6_code 48 = .ok (.getfield 9, 3) := by decide +kernel
theorem d17_51 : decode prog_65_method_6_code 51 = .ok (.arraylength, 1) := by decide +kernel
theorem d17_52 : decode prog_65_method_6_code 52 = .ok (.if_icmp .le 26, 3) := by decide +kernel
theorem d17_78 : decode prog_65_method_6_code 78 = .ok (.aload_n 0, 1) := by decide +kernel
theorem d17_79 : decode prog_65_method_6_code 79 = .ok (.getfield 22, 3) := by decide +kernel
theorem d17_82 : decode prog_65_method_6_code 82 = .ok (.aload_n 0, 1) := by decide +kernel
theorem d17_83 : decode prog_65_method_6_code 83 = .ok (.getfield 15, 3) := by decide +kernel
theorem d17_86 : decode prog_65_method_6_code 86 = .ok (.arraylength, 1) := by decide +kernel
theorem d17_87 : decode prog_65_method_6_code 87 = .ok (.if_icmp .ne 20, 3) := by decide +kernel
theorem d17_107 : decode prog_65_method_6_code 107 = .ok (.aload_n 0, 1) := by decide +kernel
theorem d17_108 : decode prog_65_method_6_code 108 = .ok (.dup, 1) := by decide +kernel
theorem d17_109 : decode prog_65_method_6_code 109 = .ok (.getfield 22, 3) := by decide +kernel
theorem d17_112 : decode prog_65_method_6_code 112 = .ok (.dup_x1, 1) := by decide +kernel
theorem d17_113 : decode prog_65_method_6_code 113 = .ok (.iconst 1, 1) := by decide +kernel
theorem d17_114 : decode prog_65_method_6_code 114 = .ok (.iadd, 1) := by decide +kernel
theorem d17_115 : decode prog_65_method_6_code 115 = .ok (.putfield 22, 3) := by decide +kernel
theorem d17_118 : decode prog_65_method_6_code 118 = .ok (.istore 6, 2) := by decide +kernel
theorem d17_120 : decode prog_65_method_6_code 120 = .ok (.aload_n 0, 1) := by decide +kernel
theorem d17_121 : decode prog_65_method_6_code 121 = .ok (.getfield 15, 3) := by decide +kernel
theorem d17_124 : decode prog_65_method_6_code 124 = .ok (.iload 6, 2) := by decide +kernel
theorem d17_126 : decode prog_65_method_6_code 126 = .ok (.aload_n 0, 1) := by decide +kernel
theorem d17_127 : decode prog_65_method_6_code 127 = .ok (.getfield 41, 3) := by decide +kernel
theorem d17_130 : decode prog_65_method_6_code 130 = .ok (.iastore, 1) := by decide +kernel
theorem d17_131 : decode prog_65_method_6_code 131 = .ok (.aload_n 0, 1) := by decide +kernel
theorem d17_132 : decode prog_65_method_6_code 132 = .ok (.getfield 9, 3) := by decide +kernel
theorem d17_135 : decode prog_65_method_6_code 135 = .ok (.aload_n 0, 1) := by decide +kernel
theorem d17_136 : decode prog_65_method_6_code 136 = .ok (.getfield 41, 3) := by decide +kernel
theorem d17_139 : decode prog_65_method_6_code 139 = .ok (.iload_n 3, 1) := by decide +kernel
theorem d17_140 : decode prog_65_method_6_code 140 = .ok (.i2b, 1) := by decide +kernel
theorem d17_141 : decode prog_65_method_6_code 141 = .ok (.bastore, 1) := by decide +kernel
theorem d17_142 : decode prog_65_method_6_code 142 = .ok (.aload_n 1, 1) := by decide +kernel
theorem d17_143 : decode prog_65_method_6_code 143 = .ok (.iload_n 2, 1) := by decide +kernel
theorem d17_144 : decode prog_65_method_6_code 144 = .ok (.aload_n 0, 1) := by decide +kernel
theorem d17_145 : decode prog_65_method_6_code 145 = .ok (.getfield 9, 3) := by decide +kernel
theorem d17_148 : decode prog_65_method_6_code 148 = .ok (.aload_n 0, 1) := by decide +kernel
theorem d17_149 : decode prog_65_method_6_code 149 = .ok (.getfield 41, 3) := by decide +kernel
theorem d17_152 : decode prog_65_method_6_code 152 = .ok (.iconst 1, 1) := by decide +kernel
theorem d17_153 : decode prog_65_method_6_code 153 = .ok (.iadd, 1) := by decide +kernel
theorem d17_154 : decode prog_65_method_6_code 154 = .ok (.iload_n 3, 1) := by decide +kernel
theorem d17_155 : decode prog_65_method_6_code 155 = .ok (.invokestatic 57, 3) := by decide +kernel
theorem d17_158 : decode prog_65_method_6_code 158 = .ok (.aload_n 0, 1) := by decide +kernel
theorem d17_159 : decode prog_65_method_6_code 159 = .ok (.dup, 1) := by decide +kernel
theorem d17_160 : decode prog_65_method_6_code 160 = .ok (.getfield 41, 3) := by decide +kernel
theorem d17_163 : decode prog_65_method_6_code 163 = .ok (.iconst 1, 1) := by decide +kernel
theorem d17_164 : decode prog_65_method_6_code 164 = .ok (.iload_n 3, 1) := by decide +kernel
theorem d17_165 : decode prog_65_method_6_code 165 = .ok (.iadd, 1) := by decide +kernel
theorem d17_166 : decode prog_65_method_6_code 166 = .ok (.iadd, 1) := by decide +kernel
theorem d17_167 : decode prog_65_method_6_code 167 = .ok (.putfield 41, 3) := by decide +kernel
theorem d17_170 : decode prog_65_method_6_code 170 = .ok (.aload_n 0, 1) := by decide +kernel
theorem d17_171 : decode prog_65_method_6_code 171 = .ok (.getfield 19, 3) := by decide +kernel
theorem d17_174 : decode prog_65_method_6_code 174 = .ok (.iload 5, 2) := by decide +kernel
theorem d17_176 : decode prog_65_method_6_code 176 = .ok (.iload 6, 2) := by decide +kernel
theorem d17_178 : decode prog_65_method_6_code 178 = .ok (.iconst 1, 1) := by decide +kernel
theorem d17_179 : decode prog_65_method_6_code 179 = .ok (.iadd, 1) := by decide +kernel
theorem d17_180 : decode prog_65_method_6_code 180 = .ok (.iastore, 1) := by decide +kernel
theorem d17_181 : decode prog_65_method_6_code 181 = .ok (.iconst 2, 1) := by decide +kernel
theorem d17_182 : decode prog_65_method_6_code 182 = .ok (.aload_n 0, 1) := by decide +kernel
theorem d17_183 : decode prog_65_method_6_code 183 = .ok (.getfield 22, 3) := by decide +kernel
theorem d17_186 : decode prog_65_method_6_code 186 = .ok (.imul, 1) := by decide +kernel
theorem d17_187 : decode prog_65_method_6_code 187 = .ok (.aload_n 0, 1) := by decide +kernel
theorem d17_188 : decode prog_65_method_6_code 188 = .ok (.getfield 19, 3) := by decide +kernel
theorem d17_191 : decode prog_65_method_6_code 191 = .ok (.arraylength, 1) := by decide +kernel
theorem d17_192 : decode prog_65_method_6_code 192 = .ok (.if_icmp .le 7, 3) := by decide +kernel
theorem d17_199 : decode prog_65_method_6_code 199 = .ok (.iload 6, 2) := by decide +kernel
theorem d17_201 : decode prog_65_method_6_code 201 = .ok (.ireturn, 1) := by decide +kernel
theorem own_pd20 : parseMethodDescriptor "([BIII)I" = some ⟨[(.array .byte), .int, .int, .int], some .int⟩ := by decide +kernel
theorem own_pn_rmAdd_0 : plainName "com/example/design_drills/designdrills/service/listens/IdNumbers" = true := by first | (simp [plainName, overriddenIn]; done) | decide +kernel
theorem own_ef_rmAdd_0 (m : MethodId) (r0 : Addr) (r1 : Addr) (p3 : Int32) : entryFrame m #[(.ref r0), (.ref r1), (.int (0 : Int32)), (.int p3)] 7 = mkF m 0 #[.val (.ref r0), .val (.ref r1), .val (.int (0 : Int32)), .val (.int p3), .unset, .unset, .unset] [] := by first | (simp [entryFrame, mkF, argsToLocals, Value.category]; done) | rfl
set_option maxRecDepth 65536 in
set_option maxHeartbeats 40000000 in
theorem rmAdd_0 (l : Launch) (Z : State) (a0 : Array Value) (hw : ∀ d ∈ tables_1, d.before a0 Z = true) (ws : List Jvm.Cond) (r0 : Addr) (r1 : Addr) (p3 : Int32) (n : Nat) (g : Nat → Value) (hb : Heap) (K : Nat) (h0 : Heap) (n0 : Nat) (Z0 : n0 ≤ h0.size) (H : IN Z h0 n0 K r0 ([] : List Nat)) (hp : p3 = n.toInt32) (hn : n ≤ 4) (B : Af Z h0 r1 .byte n g) (hKr : K ≤ r1) (hKs : K ≤ h0.size) (g_r0 : n0 ≤ r0) (Ob : Ext hb h0) (hbs : hb.size ≤ n0) :
    MetFree l (⟨"com/example/design_drills/designdrills/service/listens/IdNumbers", "add", "([BII)I"⟩ : MethodName) (head1 (Jvm.Cond.code (⟨"com/example/design_drills/designdrills/service/listens/IdNumbers", "add", "([BII)I"⟩ : MethodName) prog_65_method_6_code 7 (some .int) :: ws) ({ frames := 4, cells := 0, slots := 0, locals := 74 } : Room)) (fun a U => a = #[(.ref r0), (.ref r1), (.int (0 : Int32)), (.int p3)] ∧ Z.Warmed39 U.vm ∧ U.heap = h0) (fun _ _ _ _ _ => True) (fun _ U o U' => ∃ v L, o = .returned v ∧ QAdd Z hb K r0 ([] : List Nat) n n0 v U'.heap L ∧ FrameEnd U o U' L ({ frames := 4, cells := 0, slots := 0, locals := 74 } : Room).cells ({ frames := 4, cells := 0, slots := 0, locals := 74 } : Room).slots) := by
  refine MetFree.of_bodySF (plainFor_of_name own_pn_rmAdd_0) hisR ?_
  intro p e s m args below meth cO s₁ Bd hml0 hP hK
  obtain ⟨rfl, hZ, hh⟩ := hP
  have hx := Bd.exec
  have hby := Bd.bytes
  have hD := @Jvm.hb _ _ hby
  have hml : cO.maxLocals = 7 := hml0
  have hown : s.vm.findClass "com/example/design_drills/designdrills/service/listens/IdNumbers" = some m.cls := findClass_of_methodNamed Bd.named
  have hnm := (name_of_methodNamed Bd.named Bd.method).1
  have hlk : meth.locks = false := BodyLoose.notSynchronized Bd
  have X0 : Stand p l e ({ frames := 4, cells := 0, slots := 0, locals := 74 } : Room) s m #[(.ref r0), (.ref r1), (.int (0 : Int32)), (.int p3)] below meth cO s₁ [] 0 0 := Stand.of_body Bd
  have e0 : s₁.heap = h0 := by rw [← hh, Bd.state]; rfl
  have N0 := Fr.nil n0
  obtain ⟨cb, cs, cl, fb, fs, fl, S, J, U, E_r0, F_b, F_s, F_l, F_u, F_z, Ab, As, Al, ⟨n1, n2, n3, n4, n5, n6⟩, ⟨g_cb, g_cs, g_cl⟩, ⟨k1, k2, k3, k4⟩, hS, hJ, hU, hE, hk, hj, hz⟩ := id H
  have hU5 : U ≤ 0 := hU
  obtain rfl : S = [] := List.eq_nil_of_length_eq_zero hS
  obtain rfl : J = [] := List.eq_nil_of_length_eq_zero hJ
  have hJz : ∀ i, i < 32 → fl i = .int 0 := fun i hi => hz i hi (by simp)
  have ne1 : r1 ≠ r0 := fun u => by rw [u] at hKr; exact absurd hKr (Nat.not_le_of_lt k1)
  have ne2 : r1 ≠ cb := fun u => by rw [u] at hKr; exact absurd hKr (Nat.not_le_of_lt k2)
  have ne3 : r1 ≠ cs := fun u => by rw [u] at hKr; exact absurd hKr (Nat.not_le_of_lt k3)
  have ne4 : r1 ≠ cl := fun u => by rw [u] at hKr; exact absurd hKr (Nat.not_le_of_lt k4)
  have hnar : nar .byte (p3.toInt8.toInt32) = p3 := by rw [hp]; exact own_f2 ⟨n, by omega⟩
  have hp0 : ¬ p3 < 0 := by rw [hp]; exact (own_tn (by omega)).1
  have hpn : p3.toNatClampNeg = n := by rw [hp]; exact (own_tn (by omega)).2
  have hU1 : U.toInt32 + (1 : Int32) = (U + 1).toInt32 := own_pl (n := 1) (by omega) (by decide)
  have hcap : ¬ (256 : Int32) < (U.toInt32 + (1 : Int32)) + p3 := by rw [hU1, hp, own_pl (by omega) (by omega)]; exact (own_ff (U + 1) n (by omega) (by omega)).2.2.1
  have hused : U.toInt32 + ((1 : Int32) + p3) = (U + 1 + n).toInt32 := by rw [hp, show (1 : Int32) + n.toInt32 = (1 + n).toInt32 from own_pl (o := 1) (by decide) (by omega), own_pl (by omega) (by omega), Nat.add_assoc]
  refine own_in (own_ef_rmAdd_0 m r0 r1 p3) ?_
  show Gm p e below s₁ m 0 #[rv r0, rv r1, iv (0 : Int32), iv p3, .unset, .unset, .unset] [] _
  refine own_go (fun t' k' => XS.aloadN X0.here hx rfl (hD d17_0) rfl rfl k') ?_
  refine own_go (fun t' k' => XS.iloadN X0.here hx rfl (hD d17_1) rfl k') ?_
  refine own_go (fun t' k' => XS.iloadN X0.here hx rfl (hD d17_2) rfl k') ?_
  show Gm p e below s₁ m 3 #[rv r0, rv r1, iv (0 : Int32), iv p3, .unset, .unset, .unset] [(.int p3), (.int (0 : Int32)), (.ref r1)] _
  obtain ⟨_, _, ⟨T1, L1, k1, n1⟩, -, X1, ⟨Lc1, hQ1, l1, y1, z1⟩, st1⟩ := Jvm.LawKit.callS X0 hx (y := (⟨"com/example/design_drills/designdrills/service/listens/IdNumbers", "hash", "([BII)I"⟩ : MethodName)) hown (mvT hZ (hw _ (List.mem_of_getElem? (i := 105) rfl))) (mvT hZ (hw _ (List.mem_of_getElem? (i := 106) rfl))) (mvT hZ (hw _ (List.mem_of_getElem? (i := 43) rfl))) (mvT hZ (hw _ (List.mem_of_getElem? (i := 107) rfl))) (by decide) (backOf (W := 0) (rmHa l Z a0 hw [] r1 p3 n g h0 n0 Z0 hn hp B) hZ (hw _ (List.mem_of_getElem? (i := 107) rfl)) (hw _ (List.mem_of_getElem? (i := 43) rfl)) (by decide) (by decide)) (g := (mkF m 3 #[rv r0, rv r1, iv (0 : Int32), iv p3, .unset, .unset, .unset] [(.int p3), (.int (0 : Int32)), (.ref r1)])) rfl (by rw [hml]; rfl) (argsL := [(.ref r1), (.int (0 : Int32)), (.int p3)]) (rest := []) (lenOf own_pd9 rfl) rfl (by show 2 * 0 + _ ≤ _; exact Nat.le_of_eq rfl) (hD d17_3) (fun _ _ => ⟨rfl, e0, (by decide : 0 + 0 ≤ _), (by decide : 0 + 0 ≤ _)⟩)
  dsimp only [Pt.U, Pt.locs, Pt.cells, Pt.slots] at X1 l1 y1 z1 st1 hQ1
  subst l1 y1 z1
  obtain ⟨zk1, rfl, Nq1, eq1⟩ := hQ1
  have N1 := Fr.app N0 Nq1
  have e1 : T1.heap = h0 := eq1
  refine own_go st1 ?_
  refine own_go (fun t' k' => XS.istore X1.here hx rfl (hD d17_6) rfl (l' := #[rv r0, rv r1, iv (0 : Int32), iv p3, iv zk1, .unset, .unset]) rfl k') ?_
  refine own_go (fun t' k' => XS.aloadN X1.here hx rfl (hD d17_8) rfl rfl k') ?_
  show Gm p e below T1 m 9 #[rv r0, rv r1, iv (0 : Int32), iv p3, iv zk1, .unset, .unset] [(.ref r0)] _
  refine own_go (fun t' k' => XS.aloadN X1.here hx rfl (hD d17_9) rfl rfl k') ?_
  refine own_go (fun t' k' => XS.iloadN X1.here hx rfl (hD d17_10) rfl k') ?_
  refine own_go (fun t' k' => XS.iloadN X1.here hx rfl (hD d17_11) rfl k') ?_
  show Gm p e below T1 m 12 #[rv r0, rv r1, iv (0 : Int32), iv p3, iv zk1, .unset, .unset] [(.int p3), (.int (0 : Int32)), (.ref r1), (.ref r0)] _
  refine own_go (fun t' k' => XS.iload X1.here hx rfl (hD d17_12) rfl k') ?_
  show Gm p e below T1 m 14 #[rv r0, rv r1, iv (0 : Int32), iv p3, iv zk1, .unset, .unset] [(.int zk1), (.int p3), (.int (0 : Int32)), (.ref r1), (.ref r0)] _
  obtain ⟨cq2, q2, q2'⟩ := E_r0.cell
  obtain ⟨_, _, ⟨T2, L2, k2, n2⟩, -, X2, ⟨Lc2, hQ2, l2, y2, z2⟩, st2⟩ := X1.privateBack hx (y := (⟨"com/example/design_drills/designdrills/service/listens/IdNumbers", "slotOf", "([BIII)I"⟩ : MethodName)) hown (mvT hZ (hw _ (List.mem_of_getElem? (i := 108) rfl))) (mvT hZ (hw _ (List.mem_of_getElem? (i := 109) rfl))) (own_self hZ (hw _ (List.mem_of_getElem? (i := 42) rfl)) (hw _ (List.mem_of_getElem? (i := 110) rfl)) (hw _ (List.mem_of_getElem? (i := 109) rfl)) (by decide)) (Cond.privateMethod_at (mvP hZ (hw _ (List.mem_of_getElem? (i := 110) rfl)) (args := #[]))) (mvT hZ (hw _ (List.mem_of_getElem? (i := 111) rfl))) (by decide) (backOf (W := 0) (rmSl_0 l Z a0 hw [] r0 r1 p3 zk1 cb cs cl fb fs fl  n g h0 n0 Z0 E_r0 F_b F_s F_l Ab As Al  hJz hp hn B) hZ (hw _ (List.mem_of_getElem? (i := 111) rfl)) (hw _ (List.mem_of_getElem? (i := 43) rfl)) (by decide) (by decide)) (g := (mkF m 14 #[rv r0, rv r1, iv (0 : Int32), iv p3, iv zk1, .unset, .unset] [(.int zk1), (.int p3), (.int (0 : Int32)), (.ref r1), (.ref r0)])) rfl (by rw [hml]; rfl) (Steps.refl _) (a := r0) (by rw [e1]; exact q2) q2' (argsL := [(.ref r1), (.int (0 : Int32)), (.int p3), (.int zk1)]) (rest := []) (lenOf own_pd20 rfl) rfl (by show 2 * 0 + _ ≤ _; exact Nat.le_of_eq rfl) (hD d17_14) (fun _ _ => ⟨rfl, e1, (by decide : 0 + 0 ≤ _), (by decide : 0 + 0 ≤ _)⟩)
  dsimp only [Pt.U, Pt.locs, Pt.cells, Pt.slots] at X2 l2 y2 z2 st2 hQ2
  subst l2 y2 z2
  obtain ⟨sx2, rfl, Nq2, eq2, hx02, hx12, hor2⟩ := hQ2
  have N2 := Fr.app N1 Nq2
  have e2 : T2.heap = h0 := eq2
  refine own_go (fun t k => st2.trans k) ?_
  refine own_go (fun t' k' => XS.istore X2.here hx rfl (hD d17_17) rfl (l' := #[rv r0, rv r1, iv (0 : Int32), iv p3, iv zk1, iv sx2, .unset]) rfl k') ?_
  refine own_go (fun t' k' => XS.aloadN X2.here hx rfl (hD d17_19) rfl rfl k') ?_
  show Gm p e below T2 m 20 #[rv r0, rv r1, iv (0 : Int32), iv p3, iv zk1, iv sx2, .unset] [(.ref r0)] _
  obtain ⟨T3, X3, e3, st3⟩ := getF X2 hx hZ hown (host := "") (Or.inl (hw _ (List.mem_of_getElem? (i := 53) rfl))) Via.refl e2 F_l (g := (mkF m 20 #[rv r0, rv r1, iv (0 : Int32), iv p3, iv zk1, iv sx2, .unset] [(.ref r0)])) rfl rfl (hD d17_20)
  refine own_go st3 ?_
  refine own_go (fun t' k' => XS.iload X3.here hx rfl (hD d17_23) rfl k') ?_
  show Gm p e below T3 m 25 #[rv r0, rv r1, iv (0 : Int32), iv p3, iv zk1, iv sx2, .unset] [(.int sx2), (.ref cl)] _
  refine own_go (fun t' k' => own_ldI X3 hx hZ e3 Al (j := sx2) (k := sx2.toNatClampNeg) hx02 rfl hx12 (w := .int (0 : Int32)) hor2 (g := (mkF m 25 #[rv r0, rv r1, iv (0 : Int32), iv p3, iv zk1, iv sx2, .unset] [(.int sx2), (.ref cl)])) rfl rfl (hD d17_25) k') ?_
  show Gm p e below T3 m 26 #[rv r0, rv r1, iv (0 : Int32), iv p3, iv zk1, iv sx2, .unset] [(.int (0 : Int32))] _
  refine own_go (fun t' k' => XS.ifYes X3.here hx rfl (pc0 := 26) (pc' := 39) rfl (hD d17_26) rfl (XT.i0_eq_t (by decide)) (by decide) (by decide) k') ?_
  refine own_go (fun t' k' => XS.aloadN X3.here hx rfl (hD d17_39) rfl rfl k') ?_
  show Gm p e below T3 m 40 #[rv r0, rv r1, iv (0 : Int32), iv p3, iv zk1, iv sx2, .unset] [(.ref r0)] _
  obtain ⟨T4, X4, e4, st4⟩ := getF X3 hx hZ hown (host := "") (Or.inl (hw _ (List.mem_of_getElem? (i := 117) rfl))) Via.refl e3 F_u (g := (mkF m 40 #[rv r0, rv r1, iv (0 : Int32), iv p3, iv zk1, iv sx2, .unset] [(.ref r0)])) rfl rfl (hD d17_40)
  refine own_go st4 ?_
  refine own_go (fun t' k' => XS.iconst X4.here hx rfl (hD d17_43) k') ?_
  refine own_go (fun t' k' => XS.iadd X4.here hx rfl (hD d17_44) rfl k') ?_
  show Gm p e below T4 m 45 #[rv r0, rv r1, iv (0 : Int32), iv p3, iv zk1, iv sx2, .unset] [(.int ((U.toInt32) + (1 : Int32)))] _
  refine own_go (fun t' k' => XS.iloadN X4.here hx rfl (hD d17_45) rfl k') ?_
  refine own_go (fun t' k' => XS.iadd X4.here hx rfl (hD d17_46) rfl k') ?_
  refine own_go (fun t' k' => XS.aloadN X4.here hx rfl (hD d17_47) rfl rfl k') ?_
  show Gm p e below T4 m 48 #[rv r0, rv r1, iv (0 : Int32), iv p3, iv zk1, iv sx2, .unset] [(.ref r0), (.int (((U.toInt32) + (1 : Int32)) + p3))] _
  obtain ⟨T5, X5, e5, st5⟩ := getF X4 hx hZ hown (host := "") (Or.inl (hw _ (List.mem_of_getElem? (i := 48) rfl))) Via.refl e4 F_b (g := (mkF m 48 #[rv r0, rv r1, iv (0 : Int32), iv p3, iv zk1, iv sx2, .unset] [(.ref r0), (.int (((U.toInt32) + (1 : Int32)) + p3))])) rfl rfl (hD d17_48)
  refine own_go st5 ?_
  show Gm p e below T5 m 51 #[rv r0, rv r1, iv (0 : Int32), iv p3, iv zk1, iv sx2, .unset] [(.ref cb), (.int (((U.toInt32) + (1 : Int32)) + p3))] _
  refine own_go (fun t' k' => own_len X5 hx hZ e5 Ab (z := (256 : Int32)) rfl (g := (mkF m 51 #[rv r0, rv r1, iv (0 : Int32), iv p3, iv zk1, iv sx2, .unset] [(.ref cb), (.int (((U.toInt32) + (1 : Int32)) + p3))])) rfl rfl (hD d17_51) k') ?_
  show Gm p e below T5 m 52 #[rv r0, rv r1, iv (0 : Int32), iv p3, iv zk1, iv sx2, .unset] [(.int (256 : Int32)), (.int (((U.toInt32) + (1 : Int32)) + p3))] _
  refine own_go (fun t' k' => XS.icmpYes X5.here hx rfl (pc0 := 52) (pc' := 78) rfl (hD d17_52) rfl (XT.ii_le_t hcap) (by decide) (by decide) k') ?_
  refine own_go (fun t' k' => XS.aloadN X5.here hx rfl (hD d17_78) rfl rfl k') ?_
  show Gm p e below T5 m 79 #[rv r0, rv r1, iv (0 : Int32), iv p3, iv zk1, iv sx2, .unset] [(.ref r0)] _
  obtain ⟨T6, X6, e6, st6⟩ := getF X5 hx hZ hown (host := "") (Or.inl (hw _ (List.mem_of_getElem? (i := 119) rfl))) Via.refl e5 F_z (g := (mkF m 79 #[rv r0, rv r1, iv (0 : Int32), iv p3, iv zk1, iv sx2, .unset] [(.ref r0)])) rfl rfl (hD d17_79)
  refine own_go st6 ?_
  refine own_go (fun t' k' => XS.aloadN X6.here hx rfl (hD d17_82) rfl rfl k') ?_
  show Gm p e below T6 m 83 #[rv r0, rv r1, iv (0 : Int32), iv p3, iv zk1, iv sx2, .unset] [(.ref r0), (.int (0 : Int32))] _
  obtain ⟨T7, X7, e7, st7⟩ := getF X6 hx hZ hown (host := "") (Or.inl (hw _ (List.mem_of_getElem? (i := 51) rfl))) Via.refl e6 F_s (g := (mkF m 83 #[rv r0, rv r1, iv (0 : Int32), iv p3, iv zk1, iv sx2, .unset] [(.ref r0), (.int (0 : Int32))])) rfl rfl (hD d17_83)
  refine own_go st7 ?_
  show Gm p e below T7 m 86 #[rv r0, rv r1, iv (0 : Int32), iv p3, iv zk1, iv sx2, .unset] [(.ref cs), (.int (0 : Int32))] _
  refine own_go (fun t' k' => own_len X7 hx hZ e7 As (z := (16 : Int32)) rfl (g := (mkF m 86 #[rv r0, rv r1, iv (0 : Int32), iv p3, iv zk1, iv sx2, .unset] [(.ref cs), (.int (0 : Int32))])) rfl rfl (hD d17_86) k') ?_
  show Gm p e below T7 m 87 #[rv r0, rv r1, iv (0 : Int32), iv p3, iv zk1, iv sx2, .unset] [(.int (16 : Int32)), (.int (0 : Int32))] _
  refine own_go (fun t' k' => XS.icmpYes X7.here hx rfl (pc0 := 87) (pc' := 107) rfl (hD d17_87) rfl (XT.ii_ne_t (by decide)) (by decide) (by decide) k') ?_
  refine own_go (fun t' k' => XS.aloadN X7.here hx rfl (hD d17_107) rfl rfl k') ?_
  refine own_go (fun t' k' => XS.dup X7.here hx rfl (hD d17_108) rfl rfl k') ?_
  show Gm p e below T7 m 109 #[rv r0, rv r1, iv (0 : Int32), iv p3, iv zk1, iv sx2, .unset] [(.ref r0), (.ref r0)] _
  obtain ⟨T8, X8, e8, st8⟩ := getF X7 hx hZ hown (host := "") (Or.inl (hw _ (List.mem_of_getElem? (i := 119) rfl))) Via.refl e7 F_z (g := (mkF m 109 #[rv r0, rv r1, iv (0 : Int32), iv p3, iv zk1, iv sx2, .unset] [(.ref r0), (.ref r0)])) rfl rfl (hD d17_109)
  refine own_go st8 ?_
  show Gm p e below T8 m 112 #[rv r0, rv r1, iv (0 : Int32), iv p3, iv zk1, iv sx2, .unset] [(.int (0 : Int32)), (.ref r0)] _
  refine own_go (fun t' k' => XS.dupX1 X8.here hx rfl (hD d17_112) rfl rfl rfl k') ?_
  refine own_go (fun t' k' => XS.iconst X8.here hx rfl (hD d17_113) k') ?_
  refine own_go (fun t' k' => XS.iadd X8.here hx rfl (hD d17_114) rfl k') ?_
  show Gm p e below T8 m 115 #[rv r0, rv r1, iv (0 : Int32), iv p3, iv zk1, iv sx2, .unset] [(.int (1 : Int32)), (.ref r0), (.int (0 : Int32))] _
  obtain ⟨T9, h9, X9, e9, W9, st9⟩ := putF X8 hx hZ hown (host := "") (Or.inl (hw _ (List.mem_of_getElem? (i := 119) rfl))) Via.refl e8 F_z E_r0 (Or.inl (hw _ (List.mem_of_getElem? (i := 120) rfl))) (hw _ (List.mem_of_getElem? (i := 42) rfl)) (ty := .int) (by decide) rfl rfl (g := (mkF m 115 #[rv r0, rv r1, iv (0 : Int32), iv p3, iv zk1, iv sx2, .unset] [(.int (1 : Int32)), (.ref r0), (.int (0 : Int32))])) rfl rfl (hD d17_115)
  have Fw9 := Fld.same W9 F_z
  have N9 := Fr.snoc X9 N2 g_r0
  have Z9 : n0 ≤ h9.size := W9.size ▸ Z0
  have K9 : Keep h0 h9 [r0, cb, cs, cl] := Keep.wr (Keep.refl h0 [r0, cb, cs, cl]) W9 (Or.inl (List.mem_of_getElem? (i := 0) rfl))
  refine own_go st9 ?_
  refine own_go (fun t' k' => XS.istore X9.here hx rfl (hD d17_118) rfl (l' := #[rv r0, rv r1, iv (0 : Int32), iv p3, iv zk1, iv sx2, iv (0 : Int32)]) rfl k') ?_
  refine own_go (fun t' k' => XS.aloadN X9.here hx rfl (hD d17_120) rfl rfl k') ?_
  show Gm p e below T9 m 121 #[rv r0, rv r1, iv (0 : Int32), iv p3, iv zk1, iv sx2, iv (0 : Int32)] [(.ref r0)] _
  have f10 := (Fld.other W9 F_s (Or.inr (slot_ne (Or.inl (hw _ (List.mem_of_getElem? (i := 52) rfl))) (Or.inl (hw _ (List.mem_of_getElem? (i := 120) rfl))) (by decide) (t := (.array .int)) (t' := .int) (by decide) (by decide))))
  obtain ⟨T11, X11, e11, st11⟩ := getF X9 hx hZ hown (host := "") (Or.inl (hw _ (List.mem_of_getElem? (i := 51) rfl))) Via.refl e9 f10 (g := (mkF m 121 #[rv r0, rv r1, iv (0 : Int32), iv p3, iv zk1, iv sx2, iv (0 : Int32)] [(.ref r0)])) rfl rfl (hD d17_121)
  refine own_go st11 ?_
  refine own_go (fun t' k' => XS.iload X11.here hx rfl (hD d17_124) rfl k') ?_
  refine own_go (fun t' k' => XS.aloadN X11.here hx rfl (hD d17_126) rfl rfl k') ?_
  show Gm p e below T11 m 127 #[rv r0, rv r1, iv (0 : Int32), iv p3, iv zk1, iv sx2, iv (0 : Int32)] [(.ref r0), (.int (0 : Int32)), (.ref cs)] _
  have f12 := (Fld.other W9 F_u (Or.inr (slot_ne (Or.inl (hw _ (List.mem_of_getElem? (i := 118) rfl))) (Or.inl (hw _ (List.mem_of_getElem? (i := 120) rfl))) (by decide) (t := .int) (t' := .int) (by decide) (by decide))))
  obtain ⟨T13, X13, e13, st13⟩ := getF X11 hx hZ hown (host := "") (Or.inl (hw _ (List.mem_of_getElem? (i := 117) rfl))) Via.refl e11 f12 (g := (mkF m 127 #[rv r0, rv r1, iv (0 : Int32), iv p3, iv zk1, iv sx2, iv (0 : Int32)] [(.ref r0), (.int (0 : Int32)), (.ref cs)])) rfl rfl (hD d17_127)
  refine own_go st13 ?_
  show Gm p e below T13 m 130 #[rv r0, rv r1, iv (0 : Int32), iv p3, iv zk1, iv sx2, iv (0 : Int32)] [(.int (U.toInt32)), (.int (0 : Int32)), (.ref cs)] _
  have f14 := (As.other W9 (Ne.symm n2))
  obtain ⟨T15, h15, X15, e15, W15, A15, st15⟩ := own_stI X13 hx hZ e13 f14 (j := (0 : Int32)) (k := 0) (by decide) rfl (by decide) (g := (mkF m 130 #[rv r0, rv r1, iv (0 : Int32), iv p3, iv zk1, iv sx2, iv (0 : Int32)] [(.int (U.toInt32)), (.int (0 : Int32)), (.ref cs)])) rfl rfl (hD d17_130)
  have N15 := Fr.snoc X15 N9 g_cs
  have Z15 : n0 ≤ h15.size := W15.size ▸ Z9
  have K15 : Keep h0 h15 [r0, cb, cs, cl] := Keep.wr K9 W15 (Or.inl (List.mem_of_getElem? (i := 2) rfl))
  refine own_go st15 ?_
  refine own_go (fun t' k' => XS.aloadN X15.here hx rfl (hD d17_131) rfl rfl k') ?_
  show Gm p e below T15 m 132 #[rv r0, rv r1, iv (0 : Int32), iv p3, iv zk1, iv sx2, iv (0 : Int32)] [(.ref r0)] _
  have f16 := (Fld.other W15 (Fld.other W9 F_b (Or.inr (slot_ne (Or.inl (hw _ (List.mem_of_getElem? (i := 49) rfl))) (Or.inl (hw _ (List.mem_of_getElem? (i := 120) rfl))) (by decide) (t := (.array .byte)) (t' := .int) (by decide) (by decide)))) (Or.inl n2))
  obtain ⟨T17, X17, e17, st17⟩ := getF X15 hx hZ hown (host := "") (Or.inl (hw _ (List.mem_of_getElem? (i := 48) rfl))) Via.refl e15 f16 (g := (mkF m 132 #[rv r0, rv r1, iv (0 : Int32), iv p3, iv zk1, iv sx2, iv (0 : Int32)] [(.ref r0)])) rfl rfl (hD d17_132)
  refine own_go st17 ?_
  refine own_go (fun t' k' => XS.aloadN X17.here hx rfl (hD d17_135) rfl rfl k') ?_
  show Gm p e below T17 m 136 #[rv r0, rv r1, iv (0 : Int32), iv p3, iv zk1, iv sx2, iv (0 : Int32)] [(.ref r0), (.ref cb)] _
  have f18 := (Fld.other W15 f12 (Or.inl n2))
  obtain ⟨T19, X19, e19, st19⟩ := getF X17 hx hZ hown (host := "") (Or.inl (hw _ (List.mem_of_getElem? (i := 117) rfl))) Via.refl e17 f18 (g := (mkF m 136 #[rv r0, rv r1, iv (0 : Int32), iv p3, iv zk1, iv sx2, iv (0 : Int32)] [(.ref r0), (.ref cb)])) rfl rfl (hD d17_136)
  refine own_go st19 ?_
  refine own_go (fun t' k' => XS.iloadN X19.here hx rfl (hD d17_139) rfl k') ?_
  refine own_go (fun t' k' => XS.i2b X19.here hx rfl (hD d17_140) rfl k') ?_
  show Gm p e below T19 m 141 #[rv r0, rv r1, iv (0 : Int32), iv p3, iv zk1, iv sx2, iv (0 : Int32)] [(.int (p3.toInt8.toInt32)), (.int (U.toInt32)), (.ref cb)] _
  have f20 := ((Ab.other W9 (Ne.symm n1)).other W15 n4)
  obtain ⟨T21, h21, X21, e21, W21, A21, st21⟩ := own_stB X19 hx hZ e19 f20 (j := (U.toInt32)) (k := U) (own_tn (by omega : U < 24)).1 (own_tn (by omega : U < 24)).2 (by omega) (y := p3) hnar (g := (mkF m 141 #[rv r0, rv r1, iv (0 : Int32), iv p3, iv zk1, iv sx2, iv (0 : Int32)] [(.int (p3.toInt8.toInt32)), (.int (U.toInt32)), (.ref cb)])) rfl rfl (hD d17_141)
  have N21 := Fr.snoc X21 N15 g_cb
  have Z21 : n0 ≤ h21.size := W21.size ▸ Z15
  have K21 : Keep h0 h21 [r0, cb, cs, cl] := Keep.wr K15 W21 (Or.inl (List.mem_of_getElem? (i := 1) rfl))
  refine own_go st21 ?_
  refine own_go (fun t' k' => XS.aloadN X21.here hx rfl (hD d17_142) rfl rfl k') ?_
  refine own_go (fun t' k' => XS.iloadN X21.here hx rfl (hD d17_143) rfl k') ?_
  show Gm p e below T21 m 144 #[rv r0, rv r1, iv (0 : Int32), iv p3, iv zk1, iv sx2, iv (0 : Int32)] [(.int (0 : Int32)), (.ref r1)] _
  refine own_go (fun t' k' => XS.aloadN X21.here hx rfl (hD d17_144) rfl rfl k') ?_
  show Gm p e below T21 m 145 #[rv r0, rv r1, iv (0 : Int32), iv p3, iv zk1, iv sx2, iv (0 : Int32)] [(.ref r0), (.int (0 : Int32)), (.ref r1)] _
  have f22 := (Fld.other W21 f16 (Or.inl n1))
  obtain ⟨T23, X23, e23, st23⟩ := getF X21 hx hZ hown (host := "") (Or.inl (hw _ (List.mem_of_getElem? (i := 48) rfl))) Via.refl e21 f22 (g := (mkF m 145 #[rv r0, rv r1, iv (0 : Int32), iv p3, iv zk1, iv sx2, iv (0 : Int32)] [(.ref r0), (.int (0 : Int32)), (.ref r1)])) rfl rfl (hD d17_145)
  refine own_go st23 ?_
  refine own_go (fun t' k' => XS.aloadN X23.here hx rfl (hD d17_148) rfl rfl k') ?_
  show Gm p e below T23 m 149 #[rv r0, rv r1, iv (0 : Int32), iv p3, iv zk1, iv sx2, iv (0 : Int32)] [(.ref r0), (.ref cb), (.int (0 : Int32)), (.ref r1)] _
  have f24 := (Fld.other W21 f18 (Or.inl n1))
  obtain ⟨T25, X25, e25, st25⟩ := getF X23 hx hZ hown (host := "") (Or.inl (hw _ (List.mem_of_getElem? (i := 117) rfl))) Via.refl e23 f24 (g := (mkF m 149 #[rv r0, rv r1, iv (0 : Int32), iv p3, iv zk1, iv sx2, iv (0 : Int32)] [(.ref r0), (.ref cb), (.int (0 : Int32)), (.ref r1)])) rfl rfl (hD d17_149)
  refine own_go st25 ?_
  refine own_go (fun t' k' => XS.iconst X25.here hx rfl (hD d17_152) k') ?_
  refine own_go (fun t' k' => XS.iadd X25.here hx rfl (hD d17_153) rfl k') ?_
  show Gm p e below T25 m 154 #[rv r0, rv r1, iv (0 : Int32), iv p3, iv zk1, iv sx2, iv (0 : Int32)] [(.int ((U.toInt32) + (1 : Int32))), (.ref cb), (.int (0 : Int32)), (.ref r1)] _
  refine own_go (fun t' k' => XS.iloadN X25.here hx rfl (hD d17_154) rfl k') ?_
  show Gm p e below T25 m 155 #[rv r0, rv r1, iv (0 : Int32), iv p3, iv zk1, iv sx2, iv (0 : Int32)] [(.int p3), (.int ((U.toInt32) + (1 : Int32))), (.ref cb), (.int (0 : Int32)), (.ref r1)] _
  have f26 := (((B.other W9 ne1).other W15 ne3).other W21 ne2)
  obtain ⟨T27, h27, L27, X27, e27, N27, Kc27, Ac27, st27⟩ := own_cp X25 hx hZ hown (hw _ (List.mem_of_getElem? (i := 121) rfl)) (hw _ (List.mem_of_getElem? (i := 124) rfl)) (hw _ (List.mem_of_getElem? (i := 122) rfl)) (hw _ (List.mem_of_getElem? (i := 123) rfl)) e25 (ks := 0) (kd := U + 1) (kn := n) f26 A21 rfl (by decide) (by rw [hU1]; exact (own_tn (by omega)).1) hp0 rfl (by rw [hU1]; exact (own_tn (by omega)).2) hpn (by omega) (by omega) N21 g_cb (g := (mkF m 155 #[rv r0, rv r1, iv (0 : Int32), iv p3, iv zk1, iv sx2, iv (0 : Int32)] [(.int p3), (.int ((U.toInt32) + (1 : Int32))), (.ref cb), (.int (0 : Int32)), (.ref r1)])) rfl (by rw [hml]; rfl) rfl (hD d17_155) (by decide) (W := 0) (by show 2 * 0 + _ ≤ _; exact Nat.le_of_eq rfl) (by decide)
  have Z27 : n0 ≤ h27.size := Nat.le_trans Z21 Kc27.1
  have K27 : Keep h0 h27 [r0, cb, cs, cl] := Keep.trans K21 Kc27 (allS (Or.inl (List.mem_of_getElem? (i := 1) rfl)) all0)
  refine own_go st27 ?_
  refine own_go (fun t' k' => XS.aloadN X27.here hx rfl (hD d17_158) rfl rfl k') ?_
  refine own_go (fun t' k' => XS.dup X27.here hx rfl (hD d17_159) rfl rfl k') ?_
  show Gm p e below T27 m 160 #[rv r0, rv r1, iv (0 : Int32), iv p3, iv zk1, iv sx2, iv (0 : Int32)] [(.ref r0), (.ref r0)] _
  have f28 := (f24.keep Kc27 (ninS n1 nin0))
  obtain ⟨T29, X29, e29, st29⟩ := getF X27 hx hZ hown (host := "") (Or.inl (hw _ (List.mem_of_getElem? (i := 117) rfl))) Via.refl e27 f28 (g := (mkF m 160 #[rv r0, rv r1, iv (0 : Int32), iv p3, iv zk1, iv sx2, iv (0 : Int32)] [(.ref r0), (.ref r0)])) rfl rfl (hD d17_160)
  refine own_go st29 ?_
  refine own_go (fun t' k' => XS.iconst X29.here hx rfl (hD d17_163) k') ?_
  refine own_go (fun t' k' => XS.iloadN X29.here hx rfl (hD d17_164) rfl k') ?_
  show Gm p e below T29 m 165 #[rv r0, rv r1, iv (0 : Int32), iv p3, iv zk1, iv sx2, iv (0 : Int32)] [(.int p3), (.int (1 : Int32)), (.int (U.toInt32)), (.ref r0)] _
  refine own_go (fun t' k' => XS.iadd X29.here hx rfl (hD d17_165) rfl k') ?_
  refine own_go (fun t' k' => XS.iadd X29.here hx rfl (hD d17_166) rfl k') ?_
  show Gm p e below T29 m 167 #[rv r0, rv r1, iv (0 : Int32), iv p3, iv zk1, iv sx2, iv (0 : Int32)] [(.int ((U.toInt32) + ((1 : Int32) + p3))), (.ref r0)] _
  have f30 := ((((E_r0.wr W9).wr W15).wr W21).keep Kc27)
  obtain ⟨T31, h31, X31, e31, W31, st31⟩ := putF X29 hx hZ hown (host := "") (Or.inl (hw _ (List.mem_of_getElem? (i := 117) rfl))) Via.refl e29 f28 f30 (Or.inl (hw _ (List.mem_of_getElem? (i := 118) rfl))) (hw _ (List.mem_of_getElem? (i := 42) rfl)) (ty := .int) (by decide) rfl rfl (g := (mkF m 167 #[rv r0, rv r1, iv (0 : Int32), iv p3, iv zk1, iv sx2, iv (0 : Int32)] [(.int ((U.toInt32) + ((1 : Int32) + p3))), (.ref r0)])) rfl rfl (hD d17_167)
  have Fw31 := Fld.same W31 f28
  have N31 := Fr.snoc X31 N27 g_r0
  have Z31 : n0 ≤ h31.size := W31.size ▸ Z27
  have K31 : Keep h0 h31 [r0, cb, cs, cl] := Keep.wr K27 W31 (Or.inl (List.mem_of_getElem? (i := 0) rfl))
  refine own_go st31 ?_
  refine own_go (fun t' k' => XS.aloadN X31.here hx rfl (hD d17_170) rfl rfl k') ?_
  show Gm p e below T31 m 171 #[rv r0, rv r1, iv (0 : Int32), iv p3, iv zk1, iv sx2, iv (0 : Int32)] [(.ref r0)] _
  have f32 := (Fld.other W31 ((Fld.other W21 (Fld.other W15 (Fld.other W9 F_l (Or.inr (slot_ne (Or.inl (hw _ (List.mem_of_getElem? (i := 54) rfl))) (Or.inl (hw _ (List.mem_of_getElem? (i := 120) rfl))) (by decide) (t := (.array .int)) (t' := .int) (by decide) (by decide)))) (Or.inl n2)) (Or.inl n1)).keep Kc27 (ninS n1 nin0)) (Or.inr (slot_ne (Or.inl (hw _ (List.mem_of_getElem? (i := 54) rfl))) (Or.inl (hw _ (List.mem_of_getElem? (i := 118) rfl))) (by decide) (t := (.array .int)) (t' := .int) (by decide) (by decide))))
  obtain ⟨T33, X33, e33, st33⟩ := getF X31 hx hZ hown (host := "") (Or.inl (hw _ (List.mem_of_getElem? (i := 53) rfl))) Via.refl e31 f32 (g := (mkF m 171 #[rv r0, rv r1, iv (0 : Int32), iv p3, iv zk1, iv sx2, iv (0 : Int32)] [(.ref r0)])) rfl rfl (hD d17_171)
  refine own_go st33 ?_
  refine own_go (fun t' k' => XS.iload X33.here hx rfl (hD d17_174) rfl k') ?_
  refine own_go (fun t' k' => XS.iload X33.here hx rfl (hD d17_176) rfl k') ?_
  show Gm p e below T33 m 178 #[rv r0, rv r1, iv (0 : Int32), iv p3, iv zk1, iv sx2, iv (0 : Int32)] [(.int (0 : Int32)), (.int sx2), (.ref cl)] _
  refine own_go (fun t' k' => XS.iconst X33.here hx rfl (hD d17_178) k') ?_
  refine own_go (fun t' k' => XS.iadd X33.here hx rfl (hD d17_179) rfl k') ?_
  show Gm p e below T33 m 180 #[rv r0, rv r1, iv (0 : Int32), iv p3, iv zk1, iv sx2, iv (0 : Int32)] [(.int (1 : Int32)), (.int sx2), (.ref cl)] _
  have f34 := (((((Al.other W9 (Ne.symm n3)).other W15 (Ne.symm n6)).other W21 (Ne.symm n5)).keep Kc27 (ninS (Ne.symm n5) nin0)).other W31 (Ne.symm n3))
  obtain ⟨T35, h35, X35, e35, W35, A35, st35⟩ := own_stI X33 hx hZ e33 f34 (j := sx2) (k := sx2.toNatClampNeg) hx02 rfl hx12 (g := (mkF m 180 #[rv r0, rv r1, iv (0 : Int32), iv p3, iv zk1, iv sx2, iv (0 : Int32)] [(.int (1 : Int32)), (.int sx2), (.ref cl)])) rfl rfl (hD d17_180)
  have N35 := Fr.snoc X35 N31 g_cl
  have Z35 : n0 ≤ h35.size := W35.size ▸ Z31
  have K35 : Keep h0 h35 [r0, cb, cs, cl] := Keep.wr K31 W35 (Or.inl (List.mem_of_getElem? (i := 3) rfl))
  refine own_go st35 ?_
  refine own_go (fun t' k' => XS.iconst X35.here hx rfl (hD d17_181) k') ?_
  refine own_go (fun t' k' => XS.aloadN X35.here hx rfl (hD d17_182) rfl rfl k') ?_
  show Gm p e below T35 m 183 #[rv r0, rv r1, iv (0 : Int32), iv p3, iv zk1, iv sx2, iv (0 : Int32)] [(.ref r0), (.int (2 : Int32))] _
  have f36 := (Fld.other W35 (Fld.other W31 ((Fld.other W21 (Fld.other W15 Fw9 (Or.inl n2)) (Or.inl n1)).keep Kc27 (ninS n1 nin0)) (Or.inr (slot_ne (Or.inl (hw _ (List.mem_of_getElem? (i := 120) rfl))) (Or.inl (hw _ (List.mem_of_getElem? (i := 118) rfl))) (by decide) (t := .int) (t' := .int) (by decide) (by decide)))) (Or.inl n3))
  obtain ⟨T37, X37, e37, st37⟩ := getF X35 hx hZ hown (host := "") (Or.inl (hw _ (List.mem_of_getElem? (i := 119) rfl))) Via.refl e35 f36 (g := (mkF m 183 #[rv r0, rv r1, iv (0 : Int32), iv p3, iv zk1, iv sx2, iv (0 : Int32)] [(.ref r0), (.int (2 : Int32))])) rfl rfl (hD d17_183)
  refine own_go st37 ?_
  refine own_go (fun t' k' => XS.imul X37.here hx rfl (hD d17_186) rfl k') ?_
  refine own_go (fun t' k' => XS.aloadN X37.here hx rfl (hD d17_187) rfl rfl k') ?_
  show Gm p e below T37 m 188 #[rv r0, rv r1, iv (0 : Int32), iv p3, iv zk1, iv sx2, iv (0 : Int32)] [(.ref r0), (.int (2 : Int32))] _
  have f38 := (Fld.other W35 f32 (Or.inl n3))
  obtain ⟨T39, X39, e39, st39⟩ := getF X37 hx hZ hown (host := "") (Or.inl (hw _ (List.mem_of_getElem? (i := 53) rfl))) Via.refl e37 f38 (g := (mkF m 188 #[rv r0, rv r1, iv (0 : Int32), iv p3, iv zk1, iv sx2, iv (0 : Int32)] [(.ref r0), (.int (2 : Int32))])) rfl rfl (hD d17_188)
  refine own_go st39 ?_
  show Gm p e below T39 m 191 #[rv r0, rv r1, iv (0 : Int32), iv p3, iv zk1, iv sx2, iv (0 : Int32)] [(.ref cl), (.int (2 : Int32))] _
  refine own_go (fun t' k' => own_len X39 hx hZ e39 A35 (z := (32 : Int32)) rfl (g := (mkF m 191 #[rv r0, rv r1, iv (0 : Int32), iv p3, iv zk1, iv sx2, iv (0 : Int32)] [(.ref cl), (.int (2 : Int32))])) rfl rfl (hD d17_191) k') ?_
  show Gm p e below T39 m 192 #[rv r0, rv r1, iv (0 : Int32), iv p3, iv zk1, iv sx2, iv (0 : Int32)] [(.int (32 : Int32)), (.int (2 : Int32))] _
  refine own_go (fun t' k' => XS.icmpYes X39.here hx rfl (pc0 := 192) (pc' := 199) rfl (hD d17_192) rfl (XT.ii_le_t (by decide)) (by decide) (by decide) k') ?_
  refine own_go (fun t' k' => XS.iload X39.here hx rfl (hD d17_199) rfl k') ?_
  show Gm p e below T39 m 201 #[rv r0, rv r1, iv (0 : Int32), iv p3, iv zk1, iv sx2, iv (0 : Int32)] [(.int (0 : Int32))] _
  have f40 := ((Ac27.other W31 (Ne.symm n1)).other W35 n5)
  have f41 := ((((A15.other W21 (Ne.symm n4)).keep Kc27 (ninS (Ne.symm n4) nin0)).other W31 (Ne.symm n2)).other W35 n6)
  have f42 := (Fld.other W35 Fw31 (Or.inl n3))
  have Fu : Fld Z h35 r0 "com/example/design_drills/designdrills/service/listens/IdNumbers" "used" "I" (.int (U + 1 + n).toInt32) := by rw [← hused]; exact f42
  have hk' := own_hk (n := n) (fb' := (fun i => if (U + 1) ≤ i ∧ i < (U + 1) + n then g (0 + (i - (U + 1))) else (fun i => if i = U then (.int p3) else fb i) i)) (fs' := (fun i => if i = 0 then (.int (U.toInt32)) else fs i)) hS hk (fun k hk => by show (if k = 0 then _ else fs k) = fs k; rw [if_neg (by have : k < 0 := hk; omega)]) rfl (fun i hi => by show (if (U + 1) ≤ i ∧ i < (U + 1) + n then _ else (if i = U then _ else fb i)) = fb i; rw [if_neg (by omega), if_neg (by omega)]) (by show (if (U + 1) ≤ U ∧ U < (U + 1) + n then _ else (if U = U then Value.int p3 else fb U)) = _; rw [if_neg (by omega), if_pos rfl, hp])
  have hj' := own_hj (m := 0) (x := sx2.toNatClampNeg) (fl' := (fun i => if i = sx2.toNatClampNeg then (.int (1 : Int32)) else fl i)) hJ (by decide) hj hx12 hor2 (fun i hi => by show (if i = _ then _ else fl i) = fl i; rw [if_neg hi]) (by show (if sx2.toNatClampNeg = sx2.toNatClampNeg then _ else fl _) = _; rw [if_pos rfl]; rfl)
  have hz' := own_hz (x := sx2.toNatClampNeg) (fl' := (fun i => if i = sx2.toNatClampNeg then (.int (1 : Int32)) else fl i)) hz (fun i hi => by show (if i = _ then _ else fl i) = fl i; rw [if_neg hi])
  have f43 := ((f30.wr W31).wr W35)
  have f44 := (Fld.other W35 (Fld.other W31 (f22.keep Kc27 (ninS n1 nin0)) (Or.inr (slot_ne (Or.inl (hw _ (List.mem_of_getElem? (i := 49) rfl))) (Or.inl (hw _ (List.mem_of_getElem? (i := 118) rfl))) (by decide) (t := (.array .byte)) (t' := .int) (by decide) (by decide)))) (Or.inl n3))
  have f45 := (Fld.other W35 (Fld.other W31 ((Fld.other W21 (Fld.other W15 f10 (Or.inl n2)) (Or.inl n1)).keep Kc27 (ninS n1 nin0)) (Or.inr (slot_ne (Or.inl (hw _ (List.mem_of_getElem? (i := 52) rfl))) (Or.inl (hw _ (List.mem_of_getElem? (i := 118) rfl))) (by decide) (t := (.array .int)) (t' := .int) (by decide) (by decide)))) (Or.inl n3))
  exact own_retI X39 hx hlk (t := .int) Bd.returns rfl (by simp) (hD d17_201) e39 ⟨0, ([] : List Nat) ++ [n], rfl, N35, own_extk Ob K35 (allS (Nat.le_trans hbs g_r0) (allS (Nat.le_trans hbs g_cb) (allS (Nat.le_trans hbs g_cs) (allS (Nat.le_trans hbs g_cl) all0)))), ⟨cb, cs, cl, _, _, _, _, _, U + 1 + n, f43, f44, f45, f38, Fu, f36, f40, f41, A35, ⟨n1, n2, n3, n4, n5, n6⟩, ⟨g_cb, g_cs, g_cl⟩, ⟨k1, k2, k3, k4⟩, by rw [List.length_append, List.length_append, hS]; rfl, by rw [List.length_append, List.length_append, hJ]; rfl, by rw [List.length_append]; show U + 1 + n ≤ 5 * (0 + 1); omega, own_le4 hE hn, hk', hj', hz'⟩, own_at, own_mn, by simp, Nat.le_trans hKs K35.1⟩ (by decide) (by decide)
theorem d17_29 : decode prog_65_method_6_code 29 = .ok (.aload_n 0, 1) := by decide +kernel
theorem d17_30 : decode prog_65_method_6_code 30 = .ok (.getfield 19, 3) := by decide +kernel
theorem d17_33 : decode prog_65_method_6_code 33 = .ok (.iload 5, 2) := by decide +kernel
theorem d17_35 : decode prog_65_method_6_code 35 = .ok (.iaload, 1) := by decide +kernel
theorem d17_36 : decode prog_65_method_6_code 36 = .ok (.iconst 1, 1) := by decide +kernel
theorem d17_37 : decode prog_65_method_6_code 37 = .ok (.isub, 1) := by decide +kernel
theorem d17_38 : decode prog_65_method_6_code 38 = .ok (.ireturn, 1) := by decide +kernel
theorem own_pn_rmAdd_1 : plainName "com/example/design_drills/designdrills/service/listens/IdNumbers" = true := by first | (simp [plainName, overriddenIn]; done) | decide +kernel
theorem own_ef_rmAdd_1 (m : MethodId) (r0 : Addr) (r1 : Addr) (p3 : Int32) : entryFrame m #[(.ref r0), (.ref r1), (.int (0 : Int32)), (.int p3)] 7 = mkF m 0 #[.val (.ref r0), .val (.ref r1), .val (.int (0 : Int32)), .val (.int p3), .unset, .unset, .unset] [] := by first | (simp [entryFrame, mkF, argsToLocals, Value.category]; done) | rfl
set_option maxRecDepth 65536 in
set_option maxHeartbeats 40000000 in
theorem rmAdd_1 (l : Launch) (Z : State) (a0 : Array Value) (hw : ∀ d ∈ tables_1, d.before a0 Z = true) (ws : List Jvm.Cond) (r0 : Addr) (r1 : Addr) (p3 : Int32) (l0 : Nat) (n : Nat) (g : Nat → Value) (hb : Heap) (K : Nat) (h0 : Heap) (n0 : Nat) (Z0 : n0 ≤ h0.size) (H : IN Z h0 n0 K r0 [l0]) (hp : p3 = n.toInt32) (hn : n ≤ 4) (B : Af Z h0 r1 .byte n g) (hKr : K ≤ r1) (hKs : K ≤ h0.size) (g_r0 : n0 ≤ r0) (Ob : Ext hb h0) (hbs : hb.size ≤ n0) :
    MetFree l (⟨"com/example/design_drills/designdrills/service/listens/IdNumbers", "add", "([BII)I"⟩ : MethodName) (head1 (Jvm.Cond.code (⟨"com/example/design_drills/designdrills/service/listens/IdNumbers", "add", "([BII)I"⟩ : MethodName) prog_65_method_6_code 7 (some .int) :: ws) ({ frames := 4, cells := 0, slots := 0, locals := 74 } : Room)) (fun a U => a = #[(.ref r0), (.ref r1), (.int (0 : Int32)), (.int p3)] ∧ Z.Warmed39 U.vm ∧ U.heap = h0) (fun _ _ _ _ _ => True) (fun _ U o U' => ∃ v L, o = .returned v ∧ QAdd Z hb K r0 [l0] n n0 v U'.heap L ∧ FrameEnd U o U' L ({ frames := 4, cells := 0, slots := 0, locals := 74 } : Room).cells ({ frames := 4, cells := 0, slots := 0, locals := 74 } : Room).slots) := by
  refine MetFree.of_bodySF (plainFor_of_name own_pn_rmAdd_1) hisR ?_
  intro p e s m args below meth cO s₁ Bd hml0 hP hK
  obtain ⟨rfl, hZ, hh⟩ := hP
  have hx := Bd.exec
  have hby := Bd.bytes
  have hD := @Jvm.hb _ _ hby
  have hml : cO.maxLocals = 7 := hml0
  have hown : s.vm.findClass "com/example/design_drills/designdrills/service/listens/IdNumbers" = some m.cls := findClass_of_methodNamed Bd.named
  have hnm := (name_of_methodNamed Bd.named Bd.method).1
  have hlk : meth.locks = false := BodyLoose.notSynchronized Bd
  have X0 : Stand p l e ({ frames := 4, cells := 0, slots := 0, locals := 74 } : Room) s m #[(.ref r0), (.ref r1), (.int (0 : Int32)), (.int p3)] below meth cO s₁ [] 0 0 := Stand.of_body Bd
  have e0 : s₁.heap = h0 := by rw [← hh, Bd.state]; rfl
  have N0 := Fr.nil n0
  obtain ⟨cb, cs, cl, fb, fs, fl, S, J, U, E_r0, F_b, F_s, F_l, F_u, F_z, Ab, As, Al, ⟨n1, n2, n3, n4, n5, n6⟩, ⟨g_cb, g_cs, g_cl⟩, ⟨k1, k2, k3, k4⟩, hS, hJ, hU, hE, hk, hj, hz⟩ := id H
  have hU5 : U ≤ 5 := hU
  obtain ⟨s0, rfl⟩ := own_len1 hS
  obtain ⟨j0, rfl⟩ := own_len1 hJ
  have hs_0 := (hk 0 _ _ rfl rfl).1
  have hb_0 := (hk 0 _ _ rfl rfl).2.1
  have hq_0 : s0 < 23 := Nat.lt_of_lt_of_le (hk 0 _ _ rfl rfl).2.2 (by omega)
  have hJ_0 : fl j0 = .int (1 : Int32) := (hj 0 _ rfl).1
  have hJz : ∀ i, i < 32 → i ≠ j0 → fl i = .int 0 := fun i hi u0 => hz i hi (by simp [u0])
  have ne1 : r1 ≠ r0 := fun u => by rw [u] at hKr; exact absurd hKr (Nat.not_le_of_lt k1)
  have ne2 : r1 ≠ cb := fun u => by rw [u] at hKr; exact absurd hKr (Nat.not_le_of_lt k2)
  have ne3 : r1 ≠ cs := fun u => by rw [u] at hKr; exact absurd hKr (Nat.not_le_of_lt k3)
  have ne4 : r1 ≠ cl := fun u => by rw [u] at hKr; exact absurd hKr (Nat.not_le_of_lt k4)
  have hnar : nar .byte (p3.toInt8.toInt32) = p3 := by rw [hp]; exact own_f2 ⟨n, by omega⟩
  have hp0 : ¬ p3 < 0 := by rw [hp]; exact (own_tn (by omega)).1
  have hpn : p3.toNatClampNeg = n := by rw [hp]; exact (own_tn (by omega)).2
  have hU1 : U.toInt32 + (1 : Int32) = (U + 1).toInt32 := own_pl (n := 1) (by omega) (by decide)
  have hcap : ¬ (256 : Int32) < (U.toInt32 + (1 : Int32)) + p3 := by rw [hU1, hp, own_pl (by omega) (by omega)]; exact (own_ff (U + 1) n (by omega) (by omega)).2.2.1
  have hused : U.toInt32 + ((1 : Int32) + p3) = (U + 1 + n).toInt32 := by rw [hp, show (1 : Int32) + n.toInt32 = (1 + n).toInt32 from own_pl (o := 1) (by decide) (by omega), own_pl (by omega) (by omega), Nat.add_assoc]
  refine own_in (own_ef_rmAdd_1 m r0 r1 p3) ?_
  show Gm p e below s₁ m 0 #[rv r0, rv r1, iv (0 : Int32), iv p3, .unset, .unset, .unset] [] _
  refine own_go (fun t' k' => XS.aloadN X0.here hx rfl (hD d17_0) rfl rfl k') ?_
  refine own_go (fun t' k' => XS.iloadN X0.here hx rfl (hD d17_1) rfl k') ?_
  refine own_go (fun t' k' => XS.iloadN X0.here hx rfl (hD d17_2) rfl k') ?_
  show Gm p e below s₁ m 3 #[rv r0, rv r1, iv (0 : Int32), iv p3, .unset, .unset, .unset] [(.int p3), (.int (0 : Int32)), (.ref r1)] _
  obtain ⟨_, _, ⟨T1, L1, k1, n1⟩, -, X1, ⟨Lc1, hQ1, l1, y1, z1⟩, st1⟩ := Jvm.LawKit.callS X0 hx (y := (⟨"com/example/design_drills/designdrills/service/listens/IdNumbers", "hash", "([BII)I"⟩ : MethodName)) hown (mvT hZ (hw _ (List.mem_of_getElem? (i := 105) rfl))) (mvT hZ (hw _ (List.mem_of_getElem? (i := 106) rfl))) (mvT hZ (hw _ (List.mem_of_getElem? (i := 43) rfl))) (mvT hZ (hw _ (List.mem_of_getElem? (i := 107) rfl))) (by decide) (backOf (W := 0) (rmHa l Z a0 hw [] r1 p3 n g h0 n0 Z0 hn hp B) hZ (hw _ (List.mem_of_getElem? (i := 107) rfl)) (hw _ (List.mem_of_getElem? (i := 43) rfl)) (by decide) (by decide)) (g := (mkF m 3 #[rv r0, rv r1, iv (0 : Int32), iv p3, .unset, .unset, .unset] [(.int p3), (.int (0 : Int32)), (.ref r1)])) rfl (by rw [hml]; rfl) (argsL := [(.ref r1), (.int (0 : Int32)), (.int p3)]) (rest := []) (lenOf own_pd9 rfl) rfl (by show 2 * 0 + _ ≤ _; exact Nat.le_of_eq rfl) (hD d17_3) (fun _ _ => ⟨rfl, e0, (by decide : 0 + 0 ≤ _), (by decide : 0 + 0 ≤ _)⟩)
  dsimp only [Pt.U, Pt.locs, Pt.cells, Pt.slots] at X1 l1 y1 z1 st1 hQ1
  subst l1 y1 z1
  obtain ⟨zk1, rfl, Nq1, eq1⟩ := hQ1
  have N1 := Fr.app N0 Nq1
  have e1 : T1.heap = h0 := eq1
  refine own_go st1 ?_
  refine own_go (fun t' k' => XS.istore X1.here hx rfl (hD d17_6) rfl (l' := #[rv r0, rv r1, iv (0 : Int32), iv p3, iv zk1, .unset, .unset]) rfl k') ?_
  refine own_go (fun t' k' => XS.aloadN X1.here hx rfl (hD d17_8) rfl rfl k') ?_
  show Gm p e below T1 m 9 #[rv r0, rv r1, iv (0 : Int32), iv p3, iv zk1, .unset, .unset] [(.ref r0)] _
  refine own_go (fun t' k' => XS.aloadN X1.here hx rfl (hD d17_9) rfl rfl k') ?_
  refine own_go (fun t' k' => XS.iloadN X1.here hx rfl (hD d17_10) rfl k') ?_
  refine own_go (fun t' k' => XS.iloadN X1.here hx rfl (hD d17_11) rfl k') ?_
  show Gm p e below T1 m 12 #[rv r0, rv r1, iv (0 : Int32), iv p3, iv zk1, .unset, .unset] [(.int p3), (.int (0 : Int32)), (.ref r1), (.ref r0)] _
  refine own_go (fun t' k' => XS.iload X1.here hx rfl (hD d17_12) rfl k') ?_
  show Gm p e below T1 m 14 #[rv r0, rv r1, iv (0 : Int32), iv p3, iv zk1, .unset, .unset] [(.int zk1), (.int p3), (.int (0 : Int32)), (.ref r1), (.ref r0)] _
  obtain ⟨cq2, q2, q2'⟩ := E_r0.cell
  obtain ⟨_, _, ⟨T2, L2, k2, n2⟩, -, X2, ⟨Lc2, hQ2, l2, y2, z2⟩, st2⟩ := X1.privateBack hx (y := (⟨"com/example/design_drills/designdrills/service/listens/IdNumbers", "slotOf", "([BIII)I"⟩ : MethodName)) hown (mvT hZ (hw _ (List.mem_of_getElem? (i := 108) rfl))) (mvT hZ (hw _ (List.mem_of_getElem? (i := 109) rfl))) (own_self hZ (hw _ (List.mem_of_getElem? (i := 42) rfl)) (hw _ (List.mem_of_getElem? (i := 110) rfl)) (hw _ (List.mem_of_getElem? (i := 109) rfl)) (by decide)) (Cond.privateMethod_at (mvP hZ (hw _ (List.mem_of_getElem? (i := 110) rfl)) (args := #[]))) (mvT hZ (hw _ (List.mem_of_getElem? (i := 111) rfl))) (by decide) (backOf (W := 0) (rmSl_1 l Z a0 hw [] r0 r1 p3 zk1 cb cs cl fb fs fl s0 l0 j0 n g h0 n0 Z0 E_r0 F_b F_s F_l Ab As Al hs_0 hb_0 hq_0 hJ_0 hJz hp hn B) hZ (hw _ (List.mem_of_getElem? (i := 111) rfl)) (hw _ (List.mem_of_getElem? (i := 43) rfl)) (by decide) (by decide)) (g := (mkF m 14 #[rv r0, rv r1, iv (0 : Int32), iv p3, iv zk1, .unset, .unset] [(.int zk1), (.int p3), (.int (0 : Int32)), (.ref r1), (.ref r0)])) rfl (by rw [hml]; rfl) (Steps.refl _) (a := r0) (by rw [e1]; exact q2) q2' (argsL := [(.ref r1), (.int (0 : Int32)), (.int p3), (.int zk1)]) (rest := []) (lenOf own_pd20 rfl) rfl (by show 2 * 0 + _ ≤ _; exact Nat.le_of_eq rfl) (hD d17_14) (fun _ _ => ⟨rfl, e1, (by decide : 0 + 0 ≤ _), (by decide : 0 + 0 ≤ _)⟩)
  dsimp only [Pt.U, Pt.locs, Pt.cells, Pt.slots] at X2 l2 y2 z2 st2 hQ2
  subst l2 y2 z2
  obtain ⟨sx2, rfl, Nq2, eq2, hx02, hx12, hor2⟩ := hQ2
  have N2 := Fr.app N1 Nq2
  have e2 : T2.heap = h0 := eq2
  refine own_go (fun t k => st2.trans k) ?_
  refine own_go (fun t' k' => XS.istore X2.here hx rfl (hD d17_17) rfl (l' := #[rv r0, rv r1, iv (0 : Int32), iv p3, iv zk1, iv sx2, .unset]) rfl k') ?_
  refine own_go (fun t' k' => XS.aloadN X2.here hx rfl (hD d17_19) rfl rfl k') ?_
  show Gm p e below T2 m 20 #[rv r0, rv r1, iv (0 : Int32), iv p3, iv zk1, iv sx2, .unset] [(.ref r0)] _
  obtain ⟨T3, X3, e3, st3⟩ := getF X2 hx hZ hown (host := "") (Or.inl (hw _ (List.mem_of_getElem? (i := 53) rfl))) Via.refl e2 F_l (g := (mkF m 20 #[rv r0, rv r1, iv (0 : Int32), iv p3, iv zk1, iv sx2, .unset] [(.ref r0)])) rfl rfl (hD d17_20)
  refine own_go st3 ?_
  refine own_go (fun t' k' => XS.iload X3.here hx rfl (hD d17_23) rfl k') ?_
  show Gm p e below T3 m 25 #[rv r0, rv r1, iv (0 : Int32), iv p3, iv zk1, iv sx2, .unset] [(.int sx2), (.ref cl)] _
  rcases hor2 with hv0 | ⟨hv1, hw1⟩
  · have hfork := trivial
    show Gm p e below T3 m 25 #[rv r0, rv r1, iv (0 : Int32), iv p3, iv zk1, iv sx2, .unset] [(.int sx2), (.ref cl)] _
    refine own_go (fun t' k' => own_ldI X3 hx hZ e3 Al (j := sx2) (k := sx2.toNatClampNeg) hx02 rfl hx12 (w := .int (0 : Int32)) hv0 (g := (mkF m 25 #[rv r0, rv r1, iv (0 : Int32), iv p3, iv zk1, iv sx2, .unset] [(.int sx2), (.ref cl)])) rfl rfl (hD d17_25) k') ?_
    show Gm p e below T3 m 26 #[rv r0, rv r1, iv (0 : Int32), iv p3, iv zk1, iv sx2, .unset] [(.int (0 : Int32))] _
    refine own_go (fun t' k' => XS.ifYes X3.here hx rfl (pc0 := 26) (pc' := 39) rfl (hD d17_26) rfl (XT.i0_eq_t (by decide)) (by decide) (by decide) k') ?_
    refine own_go (fun t' k' => XS.aloadN X3.here hx rfl (hD d17_39) rfl rfl k') ?_
    show Gm p e below T3 m 40 #[rv r0, rv r1, iv (0 : Int32), iv p3, iv zk1, iv sx2, .unset] [(.ref r0)] _
    obtain ⟨T4, X4, e4, st4⟩ := getF X3 hx hZ hown (host := "") (Or.inl (hw _ (List.mem_of_getElem? (i := 117) rfl))) Via.refl e3 F_u (g := (mkF m 40 #[rv r0, rv r1, iv (0 : Int32), iv p3, iv zk1, iv sx2, .unset] [(.ref r0)])) rfl rfl (hD d17_40)
    refine own_go st4 ?_
    refine own_go (fun t' k' => XS.iconst X4.here hx rfl (hD d17_43) k') ?_
    refine own_go (fun t' k' => XS.iadd X4.here hx rfl (hD d17_44) rfl k') ?_
    show Gm p e below T4 m 45 #[rv r0, rv r1, iv (0 : Int32), iv p3, iv zk1, iv sx2, .unset] [(.int ((U.toInt32) + (1 : Int32)))] _
    refine own_go (fun t' k' => XS.iloadN X4.here hx rfl (hD d17_45) rfl k') ?_
    refine own_go (fun t' k' => XS.iadd X4.here hx rfl (hD d17_46) rfl k') ?_
    refine own_go (fun t' k' => XS.aloadN X4.here hx rfl (hD d17_47) rfl rfl k') ?_
    show Gm p e below T4 m 48 #[rv r0, rv r1, iv (0 : Int32), iv p3, iv zk1, iv sx2, .unset] [(.ref r0), (.int (((U.toInt32) + (1 : Int32)) + p3))] _
    obtain ⟨T5, X5, e5, st5⟩ := getF X4 hx hZ hown (host := "") (Or.inl (hw _ (List.mem_of_getElem? (i := 48) rfl))) Via.refl e4 F_b (g := (mkF m 48 #[rv r0, rv r1, iv (0 : Int32), iv p3, iv zk1, iv sx2, .unset] [(.ref r0), (.int (((U.toInt32) + (1 : Int32)) + p3))])) rfl rfl (hD d17_48)
    refine own_go st5 ?_
    show Gm p e below T5 m 51 #[rv r0, rv r1, iv (0 : Int32), iv p3, iv zk1, iv sx2, .unset] [(.ref cb), (.int (((U.toInt32) + (1 : Int32)) + p3))] _
    refine own_go (fun t' k' => own_len X5 hx hZ e5 Ab (z := (256 : Int32)) rfl (g := (mkF m 51 #[rv r0, rv r1, iv (0 : Int32), iv p3, iv zk1, iv sx2, .unset] [(.ref cb), (.int (((U.toInt32) + (1 : Int32)) + p3))])) rfl rfl (hD d17_51) k') ?_
    show Gm p e below T5 m 52 #[rv r0, rv r1, iv (0 : Int32), iv p3, iv zk1, iv sx2, .unset] [(.int (256 : Int32)), (.int (((U.toInt32) + (1 : Int32)) + p3))] _
    refine own_go (fun t' k' => XS.icmpYes X5.here hx rfl (pc0 := 52) (pc' := 78) rfl (hD d17_52) rfl (XT.ii_le_t hcap) (by decide) (by decide) k') ?_
    refine own_go (fun t' k' => XS.aloadN X5.here hx rfl (hD d17_78) rfl rfl k') ?_
    show Gm p e below T5 m 79 #[rv r0, rv r1, iv (0 : Int32), iv p3, iv zk1, iv sx2, .unset] [(.ref r0)] _
    obtain ⟨T6, X6, e6, st6⟩ := getF X5 hx hZ hown (host := "") (Or.inl (hw _ (List.mem_of_getElem? (i := 119) rfl))) Via.refl e5 F_z (g := (mkF m 79 #[rv r0, rv r1, iv (0 : Int32), iv p3, iv zk1, iv sx2, .unset] [(.ref r0)])) rfl rfl (hD d17_79)
    refine own_go st6 ?_
    refine own_go (fun t' k' => XS.aloadN X6.here hx rfl (hD d17_82) rfl rfl k') ?_
    show Gm p e below T6 m 83 #[rv r0, rv r1, iv (0 : Int32), iv p3, iv zk1, iv sx2, .unset] [(.ref r0), (.int (1 : Int32))] _
    obtain ⟨T7, X7, e7, st7⟩ := getF X6 hx hZ hown (host := "") (Or.inl (hw _ (List.mem_of_getElem? (i := 51) rfl))) Via.refl e6 F_s (g := (mkF m 83 #[rv r0, rv r1, iv (0 : Int32), iv p3, iv zk1, iv sx2, .unset] [(.ref r0), (.int (1 : Int32))])) rfl rfl (hD d17_83)
    refine own_go st7 ?_
    show Gm p e below T7 m 86 #[rv r0, rv r1, iv (0 : Int32), iv p3, iv zk1, iv sx2, .unset] [(.ref cs), (.int (1 : Int32))] _
    refine own_go (fun t' k' => own_len X7 hx hZ e7 As (z := (16 : Int32)) rfl (g := (mkF m 86 #[rv r0, rv r1, iv (0 : Int32), iv p3, iv zk1, iv sx2, .unset] [(.ref cs), (.int (1 : Int32))])) rfl rfl (hD d17_86) k') ?_
    show Gm p e below T7 m 87 #[rv r0, rv r1, iv (0 : Int32), iv p3, iv zk1, iv sx2, .unset] [(.int (16 : Int32)), (.int (1 : Int32))] _
    refine own_go (fun t' k' => XS.icmpYes X7.here hx rfl (pc0 := 87) (pc' := 107) rfl (hD d17_87) rfl (XT.ii_ne_t (by decide)) (by decide) (by decide) k') ?_
    refine own_go (fun t' k' => XS.aloadN X7.here hx rfl (hD d17_107) rfl rfl k') ?_
    refine own_go (fun t' k' => XS.dup X7.here hx rfl (hD d17_108) rfl rfl k') ?_
    show Gm p e below T7 m 109 #[rv r0, rv r1, iv (0 : Int32), iv p3, iv zk1, iv sx2, .unset] [(.ref r0), (.ref r0)] _
    obtain ⟨T8, X8, e8, st8⟩ := getF X7 hx hZ hown (host := "") (Or.inl (hw _ (List.mem_of_getElem? (i := 119) rfl))) Via.refl e7 F_z (g := (mkF m 109 #[rv r0, rv r1, iv (0 : Int32), iv p3, iv zk1, iv sx2, .unset] [(.ref r0), (.ref r0)])) rfl rfl (hD d17_109)
    refine own_go st8 ?_
    show Gm p e below T8 m 112 #[rv r0, rv r1, iv (0 : Int32), iv p3, iv zk1, iv sx2, .unset] [(.int (1 : Int32)), (.ref r0)] _
    refine own_go (fun t' k' => XS.dupX1 X8.here hx rfl (hD d17_112) rfl rfl rfl k') ?_
    refine own_go (fun t' k' => XS.iconst X8.here hx rfl (hD d17_113) k') ?_
    refine own_go (fun t' k' => XS.iadd X8.here hx rfl (hD d17_114) rfl k') ?_
    show Gm p e below T8 m 115 #[rv r0, rv r1, iv (0 : Int32), iv p3, iv zk1, iv sx2, .unset] [(.int (2 : Int32)), (.ref r0), (.int (1 : Int32))] _
    obtain ⟨T9, h9, X9, e9, W9, st9⟩ := putF X8 hx hZ hown (host := "") (Or.inl (hw _ (List.mem_of_getElem? (i := 119) rfl))) Via.refl e8 F_z E_r0 (Or.inl (hw _ (List.mem_of_getElem? (i := 120) rfl))) (hw _ (List.mem_of_getElem? (i := 42) rfl)) (ty := .int) (by decide) rfl rfl (g := (mkF m 115 #[rv r0, rv r1, iv (0 : Int32), iv p3, iv zk1, iv sx2, .unset] [(.int (2 : Int32)), (.ref r0), (.int (1 : Int32))])) rfl rfl (hD d17_115)
    have Fw9 := Fld.same W9 F_z
    have N9 := Fr.snoc X9 N2 g_r0
    have Z9 : n0 ≤ h9.size := W9.size ▸ Z0
    have K9 : Keep h0 h9 [r0, cb, cs, cl] := Keep.wr (Keep.refl h0 [r0, cb, cs, cl]) W9 (Or.inl (List.mem_of_getElem? (i := 0) rfl))
    refine own_go st9 ?_
    refine own_go (fun t' k' => XS.istore X9.here hx rfl (hD d17_118) rfl (l' := #[rv r0, rv r1, iv (0 : Int32), iv p3, iv zk1, iv sx2, iv (1 : Int32)]) rfl k') ?_
    refine own_go (fun t' k' => XS.aloadN X9.here hx rfl (hD d17_120) rfl rfl k') ?_
    show Gm p e below T9 m 121 #[rv r0, rv r1, iv (0 : Int32), iv p3, iv zk1, iv sx2, iv (1 : Int32)] [(.ref r0)] _
    have f10 := (Fld.other W9 F_s (Or.inr (slot_ne (Or.inl (hw _ (List.mem_of_getElem? (i := 52) rfl))) (Or.inl (hw _ (List.mem_of_getElem? (i := 120) rfl))) (by decide) (t := (.array .int)) (t' := .int) (by decide) (by decide))))
    obtain ⟨T11, X11, e11, st11⟩ := getF X9 hx hZ hown (host := "") (Or.inl (hw _ (List.mem_of_getElem? (i := 51) rfl))) Via.refl e9 f10 (g := (mkF m 121 #[rv r0, rv r1, iv (0 : Int32), iv p3, iv zk1, iv sx2, iv (1 : Int32)] [(.ref r0)])) rfl rfl (hD d17_121)
    refine own_go st11 ?_
    refine own_go (fun t' k' => XS.iload X11.here hx rfl (hD d17_124) rfl k') ?_
    refine own_go (fun t' k' => XS.aloadN X11.here hx rfl (hD d17_126) rfl rfl k') ?_
    show Gm p e below T11 m 127 #[rv r0, rv r1, iv (0 : Int32), iv p3, iv zk1, iv sx2, iv (1 : Int32)] [(.ref r0), (.int (1 : Int32)), (.ref cs)] _
    have f12 := (Fld.other W9 F_u (Or.inr (slot_ne (Or.inl (hw _ (List.mem_of_getElem? (i := 118) rfl))) (Or.inl (hw _ (List.mem_of_getElem? (i := 120) rfl))) (by decide) (t := .int) (t' := .int) (by decide) (by decide))))
    obtain ⟨T13, X13, e13, st13⟩ := getF X11 hx hZ hown (host := "") (Or.inl (hw _ (List.mem_of_getElem? (i := 117) rfl))) Via.refl e11 f12 (g := (mkF m 127 #[rv r0, rv r1, iv (0 : Int32), iv p3, iv zk1, iv sx2, iv (1 : Int32)] [(.ref r0), (.int (1 : Int32)), (.ref cs)])) rfl rfl (hD d17_127)
    refine own_go st13 ?_
    show Gm p e below T13 m 130 #[rv r0, rv r1, iv (0 : Int32), iv p3, iv zk1, iv sx2, iv (1 : Int32)] [(.int (U.toInt32)), (.int (1 : Int32)), (.ref cs)] _
    have f14 := (As.other W9 (Ne.symm n2))
    obtain ⟨T15, h15, X15, e15, W15, A15, st15⟩ := own_stI X13 hx hZ e13 f14 (j := (1 : Int32)) (k := 1) (by decide) rfl (by decide) (g := (mkF m 130 #[rv r0, rv r1, iv (0 : Int32), iv p3, iv zk1, iv sx2, iv (1 : Int32)] [(.int (U.toInt32)), (.int (1 : Int32)), (.ref cs)])) rfl rfl (hD d17_130)
    have N15 := Fr.snoc X15 N9 g_cs
    have Z15 : n0 ≤ h15.size := W15.size ▸ Z9
    have K15 : Keep h0 h15 [r0, cb, cs, cl] := Keep.wr K9 W15 (Or.inl (List.mem_of_getElem? (i := 2) rfl))
    refine own_go st15 ?_
    refine own_go (fun t' k' => XS.aloadN X15.here hx rfl (hD d17_131) rfl rfl k') ?_
    show Gm p e below T15 m 132 #[rv r0, rv r1, iv (0 : Int32), iv p3, iv zk1, iv sx2, iv (1 : Int32)] [(.ref r0)] _
    have f16 := (Fld.other W15 (Fld.other W9 F_b (Or.inr (slot_ne (Or.inl (hw _ (List.mem_of_getElem? (i := 49) rfl))) (Or.inl (hw _ (List.mem_of_getElem? (i := 120) rfl))) (by decide) (t := (.array .byte)) (t' := .int) (by decide) (by decide)))) (Or.inl n2))
    obtain ⟨T17, X17, e17, st17⟩ := getF X15 hx hZ hown (host := "") (Or.inl (hw _ (List.mem_of_getElem? (i := 48) rfl))) Via.refl e15 f16 (g := (mkF m 132 #[rv r0, rv r1, iv (0 : Int32), iv p3, iv zk1, iv sx2, iv (1 : Int32)] [(.ref r0)])) rfl rfl (hD d17_132)
    refine own_go st17 ?_
    refine own_go (fun t' k' => XS.aloadN X17.here hx rfl (hD d17_135) rfl rfl k') ?_
    show Gm p e below T17 m 136 #[rv r0, rv r1, iv (0 : Int32), iv p3, iv zk1, iv sx2, iv (1 : Int32)] [(.ref r0), (.ref cb)] _
    have f18 := (Fld.other W15 f12 (Or.inl n2))
    obtain ⟨T19, X19, e19, st19⟩ := getF X17 hx hZ hown (host := "") (Or.inl (hw _ (List.mem_of_getElem? (i := 117) rfl))) Via.refl e17 f18 (g := (mkF m 136 #[rv r0, rv r1, iv (0 : Int32), iv p3, iv zk1, iv sx2, iv (1 : Int32)] [(.ref r0), (.ref cb)])) rfl rfl (hD d17_136)
    refine own_go st19 ?_
    refine own_go (fun t' k' => XS.iloadN X19.here hx rfl (hD d17_139) rfl k') ?_
    refine own_go (fun t' k' => XS.i2b X19.here hx rfl (hD d17_140) rfl k') ?_
    show Gm p e below T19 m 141 #[rv r0, rv r1, iv (0 : Int32), iv p3, iv zk1, iv sx2, iv (1 : Int32)] [(.int (p3.toInt8.toInt32)), (.int (U.toInt32)), (.ref cb)] _
    have f20 := ((Ab.other W9 (Ne.symm n1)).other W15 n4)
    obtain ⟨T21, h21, X21, e21, W21, A21, st21⟩ := own_stB X19 hx hZ e19 f20 (j := (U.toInt32)) (k := U) (own_tn (by omega : U < 24)).1 (own_tn (by omega : U < 24)).2 (by omega) (y := p3) hnar (g := (mkF m 141 #[rv r0, rv r1, iv (0 : Int32), iv p3, iv zk1, iv sx2, iv (1 : Int32)] [(.int (p3.toInt8.toInt32)), (.int (U.toInt32)), (.ref cb)])) rfl rfl (hD d17_141)
    have N21 := Fr.snoc X21 N15 g_cb
    have Z21 : n0 ≤ h21.size := W21.size ▸ Z15
    have K21 : Keep h0 h21 [r0, cb, cs, cl] := Keep.wr K15 W21 (Or.inl (List.mem_of_getElem? (i := 1) rfl))
    refine own_go st21 ?_
    refine own_go (fun t' k' => XS.aloadN X21.here hx rfl (hD d17_142) rfl rfl k') ?_
    refine own_go (fun t' k' => XS.iloadN X21.here hx rfl (hD d17_143) rfl k') ?_
    show Gm p e below T21 m 144 #[rv r0, rv r1, iv (0 : Int32), iv p3, iv zk1, iv sx2, iv (1 : Int32)] [(.int (0 : Int32)), (.ref r1)] _
    refine own_go (fun t' k' => XS.aloadN X21.here hx rfl (hD d17_144) rfl rfl k') ?_
    show Gm p e below T21 m 145 #[rv r0, rv r1, iv (0 : Int32), iv p3, iv zk1, iv sx2, iv (1 : Int32)] [(.ref r0), (.int (0 : Int32)), (.ref r1)] _
    have f22 := (Fld.other W21 f16 (Or.inl n1))
    obtain ⟨T23, X23, e23, st23⟩ := getF X21 hx hZ hown (host := "") (Or.inl (hw _ (List.mem_of_getElem? (i := 48) rfl))) Via.refl e21 f22 (g := (mkF m 145 #[rv r0, rv r1, iv (0 : Int32), iv p3, iv zk1, iv sx2, iv (1 : Int32)] [(.ref r0), (.int (0 : Int32)), (.ref r1)])) rfl rfl (hD d17_145)
    refine own_go st23 ?_
    refine own_go (fun t' k' => XS.aloadN X23.here hx rfl (hD d17_148) rfl rfl k') ?_
    show Gm p e below T23 m 149 #[rv r0, rv r1, iv (0 : Int32), iv p3, iv zk1, iv sx2, iv (1 : Int32)] [(.ref r0), (.ref cb), (.int (0 : Int32)), (.ref r1)] _
    have f24 := (Fld.other W21 f18 (Or.inl n1))
    obtain ⟨T25, X25, e25, st25⟩ := getF X23 hx hZ hown (host := "") (Or.inl (hw _ (List.mem_of_getElem? (i := 117) rfl))) Via.refl e23 f24 (g := (mkF m 149 #[rv r0, rv r1, iv (0 : Int32), iv p3, iv zk1, iv sx2, iv (1 : Int32)] [(.ref r0), (.ref cb), (.int (0 : Int32)), (.ref r1)])) rfl rfl (hD d17_149)
    refine own_go st25 ?_
    refine own_go (fun t' k' => XS.iconst X25.here hx rfl (hD d17_152) k') ?_
    refine own_go (fun t' k' => XS.iadd X25.here hx rfl (hD d17_153) rfl k') ?_
    show Gm p e below T25 m 154 #[rv r0, rv r1, iv (0 : Int32), iv p3, iv zk1, iv sx2, iv (1 : Int32)] [(.int ((U.toInt32) + (1 : Int32))), (.ref cb), (.int (0 : Int32)), (.ref r1)] _
    refine own_go (fun t' k' => XS.iloadN X25.here hx rfl (hD d17_154) rfl k') ?_
    show Gm p e below T25 m 155 #[rv r0, rv r1, iv (0 : Int32), iv p3, iv zk1, iv sx2, iv (1 : Int32)] [(.int p3), (.int ((U.toInt32) + (1 : Int32))), (.ref cb), (.int (0 : Int32)), (.ref r1)] _
    have f26 := (((B.other W9 ne1).other W15 ne3).other W21 ne2)
    obtain ⟨T27, h27, L27, X27, e27, N27, Kc27, Ac27, st27⟩ := own_cp X25 hx hZ hown (hw _ (List.mem_of_getElem? (i := 121) rfl)) (hw _ (List.mem_of_getElem? (i := 124) rfl)) (hw _ (List.mem_of_getElem? (i := 122) rfl)) (hw _ (List.mem_of_getElem? (i := 123) rfl)) e25 (ks := 0) (kd := U + 1) (kn := n) f26 A21 rfl (by decide) (by rw [hU1]; exact (own_tn (by omega)).1) hp0 rfl (by rw [hU1]; exact (own_tn (by omega)).2) hpn (by omega) (by omega) N21 g_cb (g := (mkF m 155 #[rv r0, rv r1, iv (0 : Int32), iv p3, iv zk1, iv sx2, iv (1 : Int32)] [(.int p3), (.int ((U.toInt32) + (1 : Int32))), (.ref cb), (.int (0 : Int32)), (.ref r1)])) rfl (by rw [hml]; rfl) rfl (hD d17_155) (by decide) (W := 0) (by show 2 * 0 + _ ≤ _; exact Nat.le_of_eq rfl) (by decide)
    have Z27 : n0 ≤ h27.size := Nat.le_trans Z21 Kc27.1
    have K27 : Keep h0 h27 [r0, cb, cs, cl] := Keep.trans K21 Kc27 (allS (Or.inl (List.mem_of_getElem? (i := 1) rfl)) all0)
    refine own_go st27 ?_
    refine own_go (fun t' k' => XS.aloadN X27.here hx rfl (hD d17_158) rfl rfl k') ?_
    refine own_go (fun t' k' => XS.dup X27.here hx rfl (hD d17_159) rfl rfl k') ?_
    show Gm p e below T27 m 160 #[rv r0, rv r1, iv (0 : Int32), iv p3, iv zk1, iv sx2, iv (1 : Int32)] [(.ref r0), (.ref r0)] _
    have f28 := (f24.keep Kc27 (ninS n1 nin0))
    obtain ⟨T29, X29, e29, st29⟩ := getF X27 hx hZ hown (host := "") (Or.inl (hw _ (List.mem_of_getElem? (i := 117) rfl))) Via.refl e27 f28 (g := (mkF m 160 #[rv r0, rv r1, iv (0 : Int32), iv p3, iv zk1, iv sx2, iv (1 : Int32)] [(.ref r0), (.ref r0)])) rfl rfl (hD d17_160)
    refine own_go st29 ?_
    refine own_go (fun t' k' => XS.iconst X29.here hx rfl (hD d17_163) k') ?_
    refine own_go (fun t' k' => XS.iloadN X29.here hx rfl (hD d17_164) rfl k') ?_
    show Gm p e below T29 m 165 #[rv r0, rv r1, iv (0 : Int32), iv p3, iv zk1, iv sx2, iv (1 : Int32)] [(.int p3), (.int (1 : Int32)), (.int (U.toInt32)), (.ref r0)] _
    refine own_go (fun t' k' => XS.iadd X29.here hx rfl (hD d17_165) rfl k') ?_
    refine own_go (fun t' k' => XS.iadd X29.here hx rfl (hD d17_166) rfl k') ?_
    show Gm p e below T29 m 167 #[rv r0, rv r1, iv (0 : Int32), iv p3, iv zk1, iv sx2, iv (1 : Int32)] [(.int ((U.toInt32) + ((1 : Int32) + p3))), (.ref r0)] _
    have f30 := ((((E_r0.wr W9).wr W15).wr W21).keep Kc27)
    obtain ⟨T31, h31, X31, e31, W31, st31⟩ := putF X29 hx hZ hown (host := "") (Or.inl (hw _ (List.mem_of_getElem? (i := 117) rfl))) Via.refl e29 f28 f30 (Or.inl (hw _ (List.mem_of_getElem? (i := 118) rfl))) (hw _ (List.mem_of_getElem? (i := 42) rfl)) (ty := .int) (by decide) rfl rfl (g := (mkF m 167 #[rv r0, rv r1, iv (0 : Int32), iv p3, iv zk1, iv sx2, iv (1 : Int32)] [(.int ((U.toInt32) + ((1 : Int32) + p3))), (.ref r0)])) rfl rfl (hD d17_167)
    have Fw31 := Fld.same W31 f28
    have N31 := Fr.snoc X31 N27 g_r0
    have Z31 : n0 ≤ h31.size := W31.size ▸ Z27
    have K31 : Keep h0 h31 [r0, cb, cs, cl] := Keep.wr K27 W31 (Or.inl (List.mem_of_getElem? (i := 0) rfl))
    refine own_go st31 ?_
    refine own_go (fun t' k' => XS.aloadN X31.here hx rfl (hD d17_170) rfl rfl k') ?_
    show Gm p e below T31 m 171 #[rv r0, rv r1, iv (0 : Int32), iv p3, iv zk1, iv sx2, iv (1 : Int32)] [(.ref r0)] _
    have f32 := (Fld.other W31 ((Fld.other W21 (Fld.other W15 (Fld.other W9 F_l (Or.inr (slot_ne (Or.inl (hw _ (List.mem_of_getElem? (i := 54) rfl))) (Or.inl (hw _ (List.mem_of_getElem? (i := 120) rfl))) (by decide) (t := (.array .int)) (t' := .int) (by decide) (by decide)))) (Or.inl n2)) (Or.inl n1)).keep Kc27 (ninS n1 nin0)) (Or.inr (slot_ne (Or.inl (hw _ (List.mem_of_getElem? (i := 54) rfl))) (Or.inl (hw _ (List.mem_of_getElem? (i := 118) rfl))) (by decide) (t := (.array .int)) (t' := .int) (by decide) (by decide))))
    obtain ⟨T33, X33, e33, st33⟩ := getF X31 hx hZ hown (host := "") (Or.inl (hw _ (List.mem_of_getElem? (i := 53) rfl))) Via.refl e31 f32 (g := (mkF m 171 #[rv r0, rv r1, iv (0 : Int32), iv p3, iv zk1, iv sx2, iv (1 : Int32)] [(.ref r0)])) rfl rfl (hD d17_171)
    refine own_go st33 ?_
    refine own_go (fun t' k' => XS.iload X33.here hx rfl (hD d17_174) rfl k') ?_
    refine own_go (fun t' k' => XS.iload X33.here hx rfl (hD d17_176) rfl k') ?_
    show Gm p e below T33 m 178 #[rv r0, rv r1, iv (0 : Int32), iv p3, iv zk1, iv sx2, iv (1 : Int32)] [(.int (1 : Int32)), (.int sx2), (.ref cl)] _
    refine own_go (fun t' k' => XS.iconst X33.here hx rfl (hD d17_178) k') ?_
    refine own_go (fun t' k' => XS.iadd X33.here hx rfl (hD d17_179) rfl k') ?_
    show Gm p e below T33 m 180 #[rv r0, rv r1, iv (0 : Int32), iv p3, iv zk1, iv sx2, iv (1 : Int32)] [(.int (2 : Int32)), (.int sx2), (.ref cl)] _
    have f34 := (((((Al.other W9 (Ne.symm n3)).other W15 (Ne.symm n6)).other W21 (Ne.symm n5)).keep Kc27 (ninS (Ne.symm n5) nin0)).other W31 (Ne.symm n3))
    obtain ⟨T35, h35, X35, e35, W35, A35, st35⟩ := own_stI X33 hx hZ e33 f34 (j := sx2) (k := sx2.toNatClampNeg) hx02 rfl hx12 (g := (mkF m 180 #[rv r0, rv r1, iv (0 : Int32), iv p3, iv zk1, iv sx2, iv (1 : Int32)] [(.int (2 : Int32)), (.int sx2), (.ref cl)])) rfl rfl (hD d17_180)
    have N35 := Fr.snoc X35 N31 g_cl
    have Z35 : n0 ≤ h35.size := W35.size ▸ Z31
    have K35 : Keep h0 h35 [r0, cb, cs, cl] := Keep.wr K31 W35 (Or.inl (List.mem_of_getElem? (i := 3) rfl))
    refine own_go st35 ?_
    refine own_go (fun t' k' => XS.iconst X35.here hx rfl (hD d17_181) k') ?_
    refine own_go (fun t' k' => XS.aloadN X35.here hx rfl (hD d17_182) rfl rfl k') ?_
    show Gm p e below T35 m 183 #[rv r0, rv r1, iv (0 : Int32), iv p3, iv zk1, iv sx2, iv (1 : Int32)] [(.ref r0), (.int (2 : Int32))] _
    have f36 := (Fld.other W35 (Fld.other W31 ((Fld.other W21 (Fld.other W15 Fw9 (Or.inl n2)) (Or.inl n1)).keep Kc27 (ninS n1 nin0)) (Or.inr (slot_ne (Or.inl (hw _ (List.mem_of_getElem? (i := 120) rfl))) (Or.inl (hw _ (List.mem_of_getElem? (i := 118) rfl))) (by decide) (t := .int) (t' := .int) (by decide) (by decide)))) (Or.inl n3))
    obtain ⟨T37, X37, e37, st37⟩ := getF X35 hx hZ hown (host := "") (Or.inl (hw _ (List.mem_of_getElem? (i := 119) rfl))) Via.refl e35 f36 (g := (mkF m 183 #[rv r0, rv r1, iv (0 : Int32), iv p3, iv zk1, iv sx2, iv (1 : Int32)] [(.ref r0), (.int (2 : Int32))])) rfl rfl (hD d17_183)
    refine own_go st37 ?_
    refine own_go (fun t' k' => XS.imul X37.here hx rfl (hD d17_186) rfl k') ?_
    refine own_go (fun t' k' => XS.aloadN X37.here hx rfl (hD d17_187) rfl rfl k') ?_
    show Gm p e below T37 m 188 #[rv r0, rv r1, iv (0 : Int32), iv p3, iv zk1, iv sx2, iv (1 : Int32)] [(.ref r0), (.int (4 : Int32))] _
    have f38 := (Fld.other W35 f32 (Or.inl n3))
    obtain ⟨T39, X39, e39, st39⟩ := getF X37 hx hZ hown (host := "") (Or.inl (hw _ (List.mem_of_getElem? (i := 53) rfl))) Via.refl e37 f38 (g := (mkF m 188 #[rv r0, rv r1, iv (0 : Int32), iv p3, iv zk1, iv sx2, iv (1 : Int32)] [(.ref r0), (.int (4 : Int32))])) rfl rfl (hD d17_188)
    refine own_go st39 ?_
    show Gm p e below T39 m 191 #[rv r0, rv r1, iv (0 : Int32), iv p3, iv zk1, iv sx2, iv (1 : Int32)] [(.ref cl), (.int (4 : Int32))] _
    refine own_go (fun t' k' => own_len X39 hx hZ e39 A35 (z := (32 : Int32)) rfl (g := (mkF m 191 #[rv r0, rv r1, iv (0 : Int32), iv p3, iv zk1, iv sx2, iv (1 : Int32)] [(.ref cl), (.int (4 : Int32))])) rfl rfl (hD d17_191) k') ?_
    show Gm p e below T39 m 192 #[rv r0, rv r1, iv (0 : Int32), iv p3, iv zk1, iv sx2, iv (1 : Int32)] [(.int (32 : Int32)), (.int (4 : Int32))] _
    refine own_go (fun t' k' => XS.icmpYes X39.here hx rfl (pc0 := 192) (pc' := 199) rfl (hD d17_192) rfl (XT.ii_le_t (by decide)) (by decide) (by decide) k') ?_
    refine own_go (fun t' k' => XS.iload X39.here hx rfl (hD d17_199) rfl k') ?_
    show Gm p e below T39 m 201 #[rv r0, rv r1, iv (0 : Int32), iv p3, iv zk1, iv sx2, iv (1 : Int32)] [(.int (1 : Int32))] _
    have f40 := ((Ac27.other W31 (Ne.symm n1)).other W35 n5)
    have f41 := ((((A15.other W21 (Ne.symm n4)).keep Kc27 (ninS (Ne.symm n4) nin0)).other W31 (Ne.symm n2)).other W35 n6)
    have f42 := (Fld.other W35 Fw31 (Or.inl n3))
    have Fu : Fld Z h35 r0 "com/example/design_drills/designdrills/service/listens/IdNumbers" "used" "I" (.int (U + 1 + n).toInt32) := by rw [← hused]; exact f42
    have hk' := own_hk (n := n) (fb' := (fun i => if (U + 1) ≤ i ∧ i < (U + 1) + n then g (0 + (i - (U + 1))) else (fun i => if i = U then (.int p3) else fb i) i)) (fs' := (fun i => if i = 1 then (.int (U.toInt32)) else fs i)) hS hk (fun k hk => by show (if k = 1 then _ else fs k) = fs k; rw [if_neg (by have : k < 1 := hk; omega)]) rfl (fun i hi => by show (if (U + 1) ≤ i ∧ i < (U + 1) + n then _ else (if i = U then _ else fb i)) = fb i; rw [if_neg (by omega), if_neg (by omega)]) (by show (if (U + 1) ≤ U ∧ U < (U + 1) + n then _ else (if U = U then Value.int p3 else fb U)) = _; rw [if_neg (by omega), if_pos rfl, hp])
    have hj' := own_hj (m := 1) (x := sx2.toNatClampNeg) (fl' := (fun i => if i = sx2.toNatClampNeg then (.int (2 : Int32)) else fl i)) hJ (by decide) hj hx12 hv0 (fun i hi => by show (if i = _ then _ else fl i) = fl i; rw [if_neg hi]) (by show (if sx2.toNatClampNeg = sx2.toNatClampNeg then _ else fl _) = _; rw [if_pos rfl]; rfl)
    have hz' := own_hz (x := sx2.toNatClampNeg) (fl' := (fun i => if i = sx2.toNatClampNeg then (.int (2 : Int32)) else fl i)) hz (fun i hi => by show (if i = _ then _ else fl i) = fl i; rw [if_neg hi])
    have f43 := ((f30.wr W31).wr W35)
    have f44 := (Fld.other W35 (Fld.other W31 (f22.keep Kc27 (ninS n1 nin0)) (Or.inr (slot_ne (Or.inl (hw _ (List.mem_of_getElem? (i := 49) rfl))) (Or.inl (hw _ (List.mem_of_getElem? (i := 118) rfl))) (by decide) (t := (.array .byte)) (t' := .int) (by decide) (by decide)))) (Or.inl n3))
    have f45 := (Fld.other W35 (Fld.other W31 ((Fld.other W21 (Fld.other W15 f10 (Or.inl n2)) (Or.inl n1)).keep Kc27 (ninS n1 nin0)) (Or.inr (slot_ne (Or.inl (hw _ (List.mem_of_getElem? (i := 52) rfl))) (Or.inl (hw _ (List.mem_of_getElem? (i := 118) rfl))) (by decide) (t := (.array .int)) (t' := .int) (by decide) (by decide)))) (Or.inl n3))
    exact own_retI X39 hx hlk (t := .int) Bd.returns rfl (by simp) (hD d17_201) e39 ⟨1, [l0] ++ [n], rfl, N35, own_extk Ob K35 (allS (Nat.le_trans hbs g_r0) (allS (Nat.le_trans hbs g_cb) (allS (Nat.le_trans hbs g_cs) (allS (Nat.le_trans hbs g_cl) all0)))), ⟨cb, cs, cl, _, _, _, _, _, U + 1 + n, f43, f44, f45, f38, Fu, f36, f40, f41, A35, ⟨n1, n2, n3, n4, n5, n6⟩, ⟨g_cb, g_cs, g_cl⟩, ⟨k1, k2, k3, k4⟩, by rw [List.length_append, List.length_append, hS]; rfl, by rw [List.length_append, List.length_append, hJ]; rfl, by rw [List.length_append]; show U + 1 + n ≤ 5 * (1 + 1); omega, own_le4 hE hn, hk', hj', hz'⟩, own_at, own_mn, by simp, Nat.le_trans hKs K35.1⟩ (by decide) (by decide)
  · have hfork := trivial
    show Gm p e below T3 m 25 #[rv r0, rv r1, iv (0 : Int32), iv p3, iv zk1, iv sx2, .unset] [(.int sx2), (.ref cl)] _
    refine own_go (fun t' k' => own_ldI X3 hx hZ e3 Al (j := sx2) (k := sx2.toNatClampNeg) hx02 rfl hx12 (w := .int (1 : Int32)) hv1 (g := (mkF m 25 #[rv r0, rv r1, iv (0 : Int32), iv p3, iv zk1, iv sx2, .unset] [(.int sx2), (.ref cl)])) rfl rfl (hD d17_25) k') ?_
    show Gm p e below T3 m 26 #[rv r0, rv r1, iv (0 : Int32), iv p3, iv zk1, iv sx2, .unset] [(.int (1 : Int32))] _
    refine own_go (fun t' k' => XS.ifNo X3.here hx rfl (hD d17_26) rfl (XT.i0_eq_f (by decide)) k') ?_
    refine own_go (fun t' k' => XS.aloadN X3.here hx rfl (hD d17_29) rfl rfl k') ?_
    show Gm p e below T3 m 30 #[rv r0, rv r1, iv (0 : Int32), iv p3, iv zk1, iv sx2, .unset] [(.ref r0)] _
    obtain ⟨T46, X46, e46, st46⟩ := getF X3 hx hZ hown (host := "") (Or.inl (hw _ (List.mem_of_getElem? (i := 53) rfl))) Via.refl e3 F_l (g := (mkF m 30 #[rv r0, rv r1, iv (0 : Int32), iv p3, iv zk1, iv sx2, .unset] [(.ref r0)])) rfl rfl (hD d17_30)
    refine own_go st46 ?_
    refine own_go (fun t' k' => XS.iload X46.here hx rfl (hD d17_33) rfl k') ?_
    show Gm p e below T46 m 35 #[rv r0, rv r1, iv (0 : Int32), iv p3, iv zk1, iv sx2, .unset] [(.int sx2), (.ref cl)] _
    refine own_go (fun t' k' => own_ldI X46 hx hZ e46 Al (j := sx2) (k := sx2.toNatClampNeg) hx02 rfl hx12 (w := .int (1 : Int32)) hv1 (g := (mkF m 35 #[rv r0, rv r1, iv (0 : Int32), iv p3, iv zk1, iv sx2, .unset] [(.int sx2), (.ref cl)])) rfl rfl (hD d17_35) k') ?_
    refine own_go (fun t' k' => XS.iconst X46.here hx rfl (hD d17_36) k') ?_
    refine own_go (fun t' k' => XS.isub X46.here hx rfl (hD d17_37) rfl k') ?_
    show Gm p e below T46 m 38 #[rv r0, rv r1, iv (0 : Int32), iv p3, iv zk1, iv sx2, .unset] [(.int (0 : Int32))] _
    exact own_retI X46 hx hlk (t := .int) Bd.returns rfl (by simp) (hD d17_38) e46 ⟨0, [l0], rfl, N2, Ob, H, congrArg some (own_inj (hE _ (by simp)) hn (hw1.trans hp)), fun _ _ u => u, Nat.le_succ _, hKs⟩ (by decide) (by decide)
theorem own_pn_rmAdd_2 : plainName "com/example/design_drills/designdrills/service/listens/IdNumbers" = true := by first | (simp [plainName, overriddenIn]; done) | decide +kernel
theorem own_ef_rmAdd_2 (m : MethodId) (r0 : Addr) (r1 : Addr) (p3 : Int32) : entryFrame m #[(.ref r0), (.ref r1), (.int (0 : Int32)), (.int p3)] 7 = mkF m 0 #[.val (.ref r0), .val (.ref r1), .val (.int (0 : Int32)), .val (.int p3), .unset, .unset, .unset] [] := by first | (simp [entryFrame, mkF, argsToLocals, Value.category]; done) | rfl
set_option maxRecDepth 65536 in
set_option maxHeartbeats 40000000 in
theorem rmAdd_2 (l : Launch) (Z : State) (a0 : Array Value) (hw : ∀ d ∈ tables_1, d.before a0 Z = true) (ws : List Jvm.Cond) (r0 : Addr) (r1 : Addr) (p3 : Int32) (l0 : Nat) (l1 : Nat) (n : Nat) (g : Nat → Value) (hb : Heap) (K : Nat) (h0 : Heap) (n0 : Nat) (Z0 : n0 ≤ h0.size) (H : IN Z h0 n0 K r0 [l0, l1]) (hp : p3 = n.toInt32) (hn : n ≤ 4) (B : Af Z h0 r1 .byte n g) (hKr : K ≤ r1) (hKs : K ≤ h0.size) (g_r0 : n0 ≤ r0) (Ob : Ext hb h0) (hbs : hb.size ≤ n0) :
    MetFree l (⟨"com/example/design_drills/designdrills/service/listens/IdNumbers", "add", "([BII)I"⟩ : MethodName) (head1 (Jvm.Cond.code (⟨"com/example/design_drills/designdrills/service/listens/IdNumbers", "add", "([BII)I"⟩ : MethodName) prog_65_method_6_code 7 (some .int) :: ws) ({ frames := 4, cells := 0, slots := 0, locals := 74 } : Room)) (fun a U => a = #[(.ref r0), (.ref r1), (.int (0 : Int32)), (.int p3)] ∧ Z.Warmed39 U.vm ∧ U.heap = h0) (fun _ _ _ _ _ => True) (fun _ U o U' => ∃ v L, o = .returned v ∧ QAdd Z hb K r0 [l0, l1] n n0 v U'.heap L ∧ FrameEnd U o U' L ({ frames := 4, cells := 0, slots := 0, locals := 74 } : Room).cells ({ frames := 4, cells := 0, slots := 0, locals := 74 } : Room).slots) := by
  refine MetFree.of_bodySF (plainFor_of_name own_pn_rmAdd_2) hisR ?_
  intro p e s m args below meth cO s₁ Bd hml0 hP hK
  obtain ⟨rfl, hZ, hh⟩ := hP
  have hx := Bd.exec
  have hby := Bd.bytes
  have hD := @Jvm.hb _ _ hby
  have hml : cO.maxLocals = 7 := hml0
  have hown : s.vm.findClass "com/example/design_drills/designdrills/service/listens/IdNumbers" = some m.cls := findClass_of_methodNamed Bd.named
  have hnm := (name_of_methodNamed Bd.named Bd.method).1
  have hlk : meth.locks = false := BodyLoose.notSynchronized Bd
  have X0 : Stand p l e ({ frames := 4, cells := 0, slots := 0, locals := 74 } : Room) s m #[(.ref r0), (.ref r1), (.int (0 : Int32)), (.int p3)] below meth cO s₁ [] 0 0 := Stand.of_body Bd
  have e0 : s₁.heap = h0 := by rw [← hh, Bd.state]; rfl
  have N0 := Fr.nil n0
  obtain ⟨cb, cs, cl, fb, fs, fl, S, J, U, E_r0, F_b, F_s, F_l, F_u, F_z, Ab, As, Al, ⟨n1, n2, n3, n4, n5, n6⟩, ⟨g_cb, g_cs, g_cl⟩, ⟨k1, k2, k3, k4⟩, hS, hJ, hU, hE, hk, hj, hz⟩ := id H
  have hU5 : U ≤ 10 := hU
  obtain ⟨s0, s1, rfl⟩ := own_len2 hS
  obtain ⟨j0, j1, rfl⟩ := own_len2 hJ
  have hs_0 := (hk 0 _ _ rfl rfl).1
  have hb_0 := (hk 0 _ _ rfl rfl).2.1
  have hq_0 : s0 < 23 := Nat.lt_of_lt_of_le (hk 0 _ _ rfl rfl).2.2 (by omega)
  have hJ_0 : fl j0 = .int (1 : Int32) := (hj 0 _ rfl).1
  have hs_1 := (hk 1 _ _ rfl rfl).1
  have hb_1 := (hk 1 _ _ rfl rfl).2.1
  have hq_1 : s1 < 23 := Nat.lt_of_lt_of_le (hk 1 _ _ rfl rfl).2.2 (by omega)
  have hJ_1 : fl j1 = .int (2 : Int32) := (hj 1 _ rfl).1
  have hJz : ∀ i, i < 32 → i ≠ j0 → i ≠ j1 → fl i = .int 0 := fun i hi u0 u1 => hz i hi (by simp [u0, u1])
  have ne1 : r1 ≠ r0 := fun u => by rw [u] at hKr; exact absurd hKr (Nat.not_le_of_lt k1)
  have ne2 : r1 ≠ cb := fun u => by rw [u] at hKr; exact absurd hKr (Nat.not_le_of_lt k2)
  have ne3 : r1 ≠ cs := fun u => by rw [u] at hKr; exact absurd hKr (Nat.not_le_of_lt k3)
  have ne4 : r1 ≠ cl := fun u => by rw [u] at hKr; exact absurd hKr (Nat.not_le_of_lt k4)
  have hnar : nar .byte (p3.toInt8.toInt32) = p3 := by rw [hp]; exact own_f2 ⟨n, by omega⟩
  have hp0 : ¬ p3 < 0 := by rw [hp]; exact (own_tn (by omega)).1
  have hpn : p3.toNatClampNeg = n := by rw [hp]; exact (own_tn (by omega)).2
  have hU1 : U.toInt32 + (1 : Int32) = (U + 1).toInt32 := own_pl (n := 1) (by omega) (by decide)
  have hcap : ¬ (256 : Int32) < (U.toInt32 + (1 : Int32)) + p3 := by rw [hU1, hp, own_pl (by omega) (by omega)]; exact (own_ff (U + 1) n (by omega) (by omega)).2.2.1
  have hused : U.toInt32 + ((1 : Int32) + p3) = (U + 1 + n).toInt32 := by rw [hp, show (1 : Int32) + n.toInt32 = (1 + n).toInt32 from own_pl (o := 1) (by decide) (by omega), own_pl (by omega) (by omega), Nat.add_assoc]
  refine own_in (own_ef_rmAdd_2 m r0 r1 p3) ?_
  show Gm p e below s₁ m 0 #[rv r0, rv r1, iv (0 : Int32), iv p3, .unset, .unset, .unset] [] _
  refine own_go (fun t' k' => XS.aloadN X0.here hx rfl (hD d17_0) rfl rfl k') ?_
  refine own_go (fun t' k' => XS.iloadN X0.here hx rfl (hD d17_1) rfl k') ?_
  refine own_go (fun t' k' => XS.iloadN X0.here hx rfl (hD d17_2) rfl k') ?_
  show Gm p e below s₁ m 3 #[rv r0, rv r1, iv (0 : Int32), iv p3, .unset, .unset, .unset] [(.int p3), (.int (0 : Int32)), (.ref r1)] _
  obtain ⟨_, _, ⟨T1, L1, k1, n1⟩, -, X1, ⟨Lc1, hQ1, l1, y1, z1⟩, st1⟩ := Jvm.LawKit.callS X0 hx (y := (⟨"com/example/design_drills/designdrills/service/listens/IdNumbers", "hash", "([BII)I"⟩ : MethodName)) hown (mvT hZ (hw _ (List.mem_of_getElem? (i := 105) rfl))) (mvT hZ (hw _ (List.mem_of_getElem? (i := 106) rfl))) (mvT hZ (hw _ (List.mem_of_getElem? (i := 43) rfl))) (mvT hZ (hw _ (List.mem_of_getElem? (i := 107) rfl))) (by decide) (backOf (W := 0) (rmHa l Z a0 hw [] r1 p3 n g h0 n0 Z0 hn hp B) hZ (hw _ (List.mem_of_getElem? (i := 107) rfl)) (hw _ (List.mem_of_getElem? (i := 43) rfl)) (by decide) (by decide)) (g := (mkF m 3 #[rv r0, rv r1, iv (0 : Int32), iv p3, .unset, .unset, .unset] [(.int p3), (.int (0 : Int32)), (.ref r1)])) rfl (by rw [hml]; rfl) (argsL := [(.ref r1), (.int (0 : Int32)), (.int p3)]) (rest := []) (lenOf own_pd9 rfl) rfl (by show 2 * 0 + _ ≤ _; exact Nat.le_of_eq rfl) (hD d17_3) (fun _ _ => ⟨rfl, e0, (by decide : 0 + 0 ≤ _), (by decide : 0 + 0 ≤ _)⟩)
  dsimp only [Pt.U, Pt.locs, Pt.cells, Pt.slots] at X1 l1 y1 z1 st1 hQ1
  subst l1 y1 z1
  obtain ⟨zk1, rfl, Nq1, eq1⟩ := hQ1
  have N1 := Fr.app N0 Nq1
  have e1 : T1.heap = h0 := eq1
  refine own_go st1 ?_
  refine own_go (fun t' k' => XS.istore X1.here hx rfl (hD d17_6) rfl (l' := #[rv r0, rv r1, iv (0 : Int32), iv p3, iv zk1, .unset, .unset]) rfl k') ?_
  refine own_go (fun t' k' => XS.aloadN X1.here hx rfl (hD d17_8) rfl rfl k') ?_
  show Gm p e below T1 m 9 #[rv r0, rv r1, iv (0 : Int32), iv p3, iv zk1, .unset, .unset] [(.ref r0)] _
  refine own_go (fun t' k' => XS.aloadN X1.here hx rfl (hD d17_9) rfl rfl k') ?_
  refine own_go (fun t' k' => XS.iloadN X1.here hx rfl (hD d17_10) rfl k') ?_
  refine own_go (fun t' k' => XS.iloadN X1.here hx rfl (hD d17_11) rfl k') ?_
  show Gm p e below T1 m 12 #[rv r0, rv r1, iv (0 : Int32), iv p3, iv zk1, .unset, .unset] [(.int p3), (.int (0 : Int32)), (.ref r1), (.ref r0)] _
  refine own_go (fun t' k' => XS.iload X1.here hx rfl (hD d17_12) rfl k') ?_
  show Gm p e below T1 m 14 #[rv r0, rv r1, iv (0 : Int32), iv p3, iv zk1, .unset, .unset] [(.int zk1), (.int p3), (.int (0 : Int32)), (.ref r1), (.ref r0)] _
  obtain ⟨cq2, q2, q2'⟩ := E_r0.cell
  obtain ⟨_, _, ⟨T2, L2, k2, n2⟩, -, X2, ⟨Lc2, hQ2, l2, y2, z2⟩, st2⟩ := X1.privateBack hx (y := (⟨"com/example/design_drills/designdrills/service/listens/IdNumbers", "slotOf", "([BIII)I"⟩ : MethodName)) hown (mvT hZ (hw _ (List.mem_of_getElem? (i := 108) rfl))) (mvT hZ (hw _ (List.mem_of_getElem? (i := 109) rfl))) (own_self hZ (hw _ (List.mem_of_getElem? (i := 42) rfl)) (hw _ (List.mem_of_getElem? (i := 110) rfl)) (hw _ (List.mem_of_getElem? (i := 109) rfl)) (by decide)) (Cond.privateMethod_at (mvP hZ (hw _ (List.mem_of_getElem? (i := 110) rfl)) (args := #[]))) (mvT hZ (hw _ (List.mem_of_getElem? (i := 111) rfl))) (by decide) (backOf (W := 0) (rmSl_2 l Z a0 hw [] r0 r1 p3 zk1 cb cs cl fb fs fl s0 l0 j0 s1 l1 j1 n g h0 n0 Z0 E_r0 F_b F_s F_l Ab As Al hs_0 hb_0 hq_0 hJ_0 hs_1 hb_1 hq_1 hJ_1 hJz hp hn B) hZ (hw _ (List.mem_of_getElem? (i := 111) rfl)) (hw _ (List.mem_of_getElem? (i := 43) rfl)) (by decide) (by decide)) (g := (mkF m 14 #[rv r0, rv r1, iv (0 : Int32), iv p3, iv zk1, .unset, .unset] [(.int zk1), (.int p3), (.int (0 : Int32)), (.ref r1), (.ref r0)])) rfl (by rw [hml]; rfl) (Steps.refl _) (a := r0) (by rw [e1]; exact q2) q2' (argsL := [(.ref r1), (.int (0 : Int32)), (.int p3), (.int zk1)]) (rest := []) (lenOf own_pd20 rfl) rfl (by show 2 * 0 + _ ≤ _; exact Nat.le_of_eq rfl) (hD d17_14) (fun _ _ => ⟨rfl, e1, (by decide : 0 + 0 ≤ _), (by decide : 0 + 0 ≤ _)⟩)
  dsimp only [Pt.U, Pt.locs, Pt.cells, Pt.slots] at X2 l2 y2 z2 st2 hQ2
  subst l2 y2 z2
  obtain ⟨sx2, rfl, Nq2, eq2, hx02, hx12, hor2⟩ := hQ2
  have N2 := Fr.app N1 Nq2
  have e2 : T2.heap = h0 := eq2
  refine own_go (fun t k => st2.trans k) ?_
  refine own_go (fun t' k' => XS.istore X2.here hx rfl (hD d17_17) rfl (l' := #[rv r0, rv r1, iv (0 : Int32), iv p3, iv zk1, iv sx2, .unset]) rfl k') ?_
  refine own_go (fun t' k' => XS.aloadN X2.here hx rfl (hD d17_19) rfl rfl k') ?_
  show Gm p e below T2 m 20 #[rv r0, rv r1, iv (0 : Int32), iv p3, iv zk1, iv sx2, .unset] [(.ref r0)] _
  obtain ⟨T3, X3, e3, st3⟩ := getF X2 hx hZ hown (host := "") (Or.inl (hw _ (List.mem_of_getElem? (i := 53) rfl))) Via.refl e2 F_l (g := (mkF m 20 #[rv r0, rv r1, iv (0 : Int32), iv p3, iv zk1, iv sx2, .unset] [(.ref r0)])) rfl rfl (hD d17_20)
  refine own_go st3 ?_
  refine own_go (fun t' k' => XS.iload X3.here hx rfl (hD d17_23) rfl k') ?_
  show Gm p e below T3 m 25 #[rv r0, rv r1, iv (0 : Int32), iv p3, iv zk1, iv sx2, .unset] [(.int sx2), (.ref cl)] _
  rcases hor2 with hv0 | ⟨hv1, hw1⟩ | ⟨hv2, hw2⟩
  · have hfork := trivial
    show Gm p e below T3 m 25 #[rv r0, rv r1, iv (0 : Int32), iv p3, iv zk1, iv sx2, .unset] [(.int sx2), (.ref cl)] _
    refine own_go (fun t' k' => own_ldI X3 hx hZ e3 Al (j := sx2) (k := sx2.toNatClampNeg) hx02 rfl hx12 (w := .int (0 : Int32)) hv0 (g := (mkF m 25 #[rv r0, rv r1, iv (0 : Int32), iv p3, iv zk1, iv sx2, .unset] [(.int sx2), (.ref cl)])) rfl rfl (hD d17_25) k') ?_
    show Gm p e below T3 m 26 #[rv r0, rv r1, iv (0 : Int32), iv p3, iv zk1, iv sx2, .unset] [(.int (0 : Int32))] _
    refine own_go (fun t' k' => XS.ifYes X3.here hx rfl (pc0 := 26) (pc' := 39) rfl (hD d17_26) rfl (XT.i0_eq_t (by decide)) (by decide) (by decide) k') ?_
    refine own_go (fun t' k' => XS.aloadN X3.here hx rfl (hD d17_39) rfl rfl k') ?_
    show Gm p e below T3 m 40 #[rv r0, rv r1, iv (0 : Int32), iv p3, iv zk1, iv sx2, .unset] [(.ref r0)] _
    obtain ⟨T4, X4, e4, st4⟩ := getF X3 hx hZ hown (host := "") (Or.inl (hw _ (List.mem_of_getElem? (i := 117) rfl))) Via.refl e3 F_u (g := (mkF m 40 #[rv r0, rv r1, iv (0 : Int32), iv p3, iv zk1, iv sx2, .unset] [(.ref r0)])) rfl rfl (hD d17_40)
    refine own_go st4 ?_
    refine own_go (fun t' k' => XS.iconst X4.here hx rfl (hD d17_43) k') ?_
    refine own_go (fun t' k' => XS.iadd X4.here hx rfl (hD d17_44) rfl k') ?_
    show Gm p e below T4 m 45 #[rv r0, rv r1, iv (0 : Int32), iv p3, iv zk1, iv sx2, .unset] [(.int ((U.toInt32) + (1 : Int32)))] _
    refine own_go (fun t' k' => XS.iloadN X4.here hx rfl (hD d17_45) rfl k') ?_
    refine own_go (fun t' k' => XS.iadd X4.here hx rfl (hD d17_46) rfl k') ?_
    refine own_go (fun t' k' => XS.aloadN X4.here hx rfl (hD d17_47) rfl rfl k') ?_
    show Gm p e below T4 m 48 #[rv r0, rv r1, iv (0 : Int32), iv p3, iv zk1, iv sx2, .unset] [(.ref r0), (.int (((U.toInt32) + (1 : Int32)) + p3))] _
    obtain ⟨T5, X5, e5, st5⟩ := getF X4 hx hZ hown (host := "") (Or.inl (hw _ (List.mem_of_getElem? (i := 48) rfl))) Via.refl e4 F_b (g := (mkF m 48 #[rv r0, rv r1, iv (0 : Int32), iv p3, iv zk1, iv sx2, .unset] [(.ref r0), (.int (((U.toInt32) + (1 : Int32)) + p3))])) rfl rfl (hD d17_48)
    refine own_go st5 ?_
    show Gm p e below T5 m 51 #[rv r0, rv r1, iv (0 : Int32), iv p3, iv zk1, iv sx2, .unset] [(.ref cb), (.int (((U.toInt32) + (1 : Int32)) + p3))] _
    refine own_go (fun t' k' => own_len X5 hx hZ e5 Ab (z := (256 : Int32)) rfl (g := (mkF m 51 #[rv r0, rv r1, iv (0 : Int32), iv p3, iv zk1, iv sx2, .unset] [(.ref cb), (.int (((U.toInt32) + (1 : Int32)) + p3))])) rfl rfl (hD d17_51) k') ?_
    show Gm p e below T5 m 52 #[rv r0, rv r1, iv (0 : Int32), iv p3, iv zk1, iv sx2, .unset] [(.int (256 : Int32)), (.int (((U.toInt32) + (1 : Int32)) + p3))] _
    refine own_go (fun t' k' => XS.icmpYes X5.here hx rfl (pc0 := 52) (pc' := 78) rfl (hD d17_52) rfl (XT.ii_le_t hcap) (by decide) (by decide) k') ?_
    refine own_go (fun t' k' => XS.aloadN X5.here hx rfl (hD d17_78) rfl rfl k') ?_
    show Gm p e below T5 m 79 #[rv r0, rv r1, iv (0 : Int32), iv p3, iv zk1, iv sx2, .unset] [(.ref r0)] _
    obtain ⟨T6, X6, e6, st6⟩ := getF X5 hx hZ hown (host := "") (Or.inl (hw _ (List.mem_of_getElem? (i := 119) rfl))) Via.refl e5 F_z (g := (mkF m 79 #[rv r0, rv r1, iv (0 : Int32), iv p3, iv zk1, iv sx2, .unset] [(.ref r0)])) rfl rfl (hD d17_79)
    refine own_go st6 ?_
    refine own_go (fun t' k' => XS.aloadN X6.here hx rfl (hD d17_82) rfl rfl k') ?_
    show Gm p e below T6 m 83 #[rv r0, rv r1, iv (0 : Int32), iv p3, iv zk1, iv sx2, .unset] [(.ref r0), (.int (2 : Int32))] _
    obtain ⟨T7, X7, e7, st7⟩ := getF X6 hx hZ hown (host := "") (Or.inl (hw _ (List.mem_of_getElem? (i := 51) rfl))) Via.refl e6 F_s (g := (mkF m 83 #[rv r0, rv r1, iv (0 : Int32), iv p3, iv zk1, iv sx2, .unset] [(.ref r0), (.int (2 : Int32))])) rfl rfl (hD d17_83)
    refine own_go st7 ?_
    show Gm p e below T7 m 86 #[rv r0, rv r1, iv (0 : Int32), iv p3, iv zk1, iv sx2, .unset] [(.ref cs), (.int (2 : Int32))] _
    refine own_go (fun t' k' => own_len X7 hx hZ e7 As (z := (16 : Int32)) rfl (g := (mkF m 86 #[rv r0, rv r1, iv (0 : Int32), iv p3, iv zk1, iv sx2, .unset] [(.ref cs), (.int (2 : Int32))])) rfl rfl (hD d17_86) k') ?_
    show Gm p e below T7 m 87 #[rv r0, rv r1, iv (0 : Int32), iv p3, iv zk1, iv sx2, .unset] [(.int (16 : Int32)), (.int (2 : Int32))] _
    refine own_go (fun t' k' => XS.icmpYes X7.here hx rfl (pc0 := 87) (pc' := 107) rfl (hD d17_87) rfl (XT.ii_ne_t (by decide)) (by decide) (by decide) k') ?_
    refine own_go (fun t' k' => XS.aloadN X7.here hx rfl (hD d17_107) rfl rfl k') ?_
    refine own_go (fun t' k' => XS.dup X7.here hx rfl (hD d17_108) rfl rfl k') ?_
    show Gm p e below T7 m 109 #[rv r0, rv r1, iv (0 : Int32), iv p3, iv zk1, iv sx2, .unset] [(.ref r0), (.ref r0)] _
    obtain ⟨T8, X8, e8, st8⟩ := getF X7 hx hZ hown (host := "") (Or.inl (hw _ (List.mem_of_getElem? (i := 119) rfl))) Via.refl e7 F_z (g := (mkF m 109 #[rv r0, rv r1, iv (0 : Int32), iv p3, iv zk1, iv sx2, .unset] [(.ref r0), (.ref r0)])) rfl rfl (hD d17_109)
    refine own_go st8 ?_
    show Gm p e below T8 m 112 #[rv r0, rv r1, iv (0 : Int32), iv p3, iv zk1, iv sx2, .unset] [(.int (2 : Int32)), (.ref r0)] _
    refine own_go (fun t' k' => XS.dupX1 X8.here hx rfl (hD d17_112) rfl rfl rfl k') ?_
    refine own_go (fun t' k' => XS.iconst X8.here hx rfl (hD d17_113) k') ?_
    refine own_go (fun t' k' => XS.iadd X8.here hx rfl (hD d17_114) rfl k') ?_
    show Gm p e below T8 m 115 #[rv r0, rv r1, iv (0 : Int32), iv p3, iv zk1, iv sx2, .unset] [(.int (3 : Int32)), (.ref r0), (.int (2 : Int32))] _
    obtain ⟨T9, h9, X9, e9, W9, st9⟩ := putF X8 hx hZ hown (host := "") (Or.inl (hw _ (List.mem_of_getElem? (i := 119) rfl))) Via.refl e8 F_z E_r0 (Or.inl (hw _ (List.mem_of_getElem? (i := 120) rfl))) (hw _ (List.mem_of_getElem? (i := 42) rfl)) (ty := .int) (by decide) rfl rfl (g := (mkF m 115 #[rv r0, rv r1, iv (0 : Int32), iv p3, iv zk1, iv sx2, .unset] [(.int (3 : Int32)), (.ref r0), (.int (2 : Int32))])) rfl rfl (hD d17_115)
    have Fw9 := Fld.same W9 F_z
    have N9 := Fr.snoc X9 N2 g_r0
    have Z9 : n0 ≤ h9.size := W9.size ▸ Z0
    have K9 : Keep h0 h9 [r0, cb, cs, cl] := Keep.wr (Keep.refl h0 [r0, cb, cs, cl]) W9 (Or.inl (List.mem_of_getElem? (i := 0) rfl))
    refine own_go st9 ?_
    refine own_go (fun t' k' => XS.istore X9.here hx rfl (hD d17_118) rfl (l' := #[rv r0, rv r1, iv (0 : Int32), iv p3, iv zk1, iv sx2, iv (2 : Int32)]) rfl k') ?_
    refine own_go (fun t' k' => XS.aloadN X9.here hx rfl (hD d17_120) rfl rfl k') ?_
    show Gm p e below T9 m 121 #[rv r0, rv r1, iv (0 : Int32), iv p3, iv zk1, iv sx2, iv (2 : Int32)] [(.ref r0)] _
    have f10 := (Fld.other W9 F_s (Or.inr (slot_ne (Or.inl (hw _ (List.mem_of_getElem? (i := 52) rfl))) (Or.inl (hw _ (List.mem_of_getElem? (i := 120) rfl))) (by decide) (t := (.array .int)) (t' := .int) (by decide) (by decide))))
    obtain ⟨T11, X11, e11, st11⟩ := getF X9 hx hZ hown (host := "") (Or.inl (hw _ (List.mem_of_getElem? (i := 51) rfl))) Via.refl e9 f10 (g := (mkF m 121 #[rv r0, rv r1, iv (0 : Int32), iv p3, iv zk1, iv sx2, iv (2 : Int32)] [(.ref r0)])) rfl rfl (hD d17_121)
    refine own_go st11 ?_
    refine own_go (fun t' k' => XS.iload X11.here hx rfl (hD d17_124) rfl k') ?_
    refine own_go (fun t' k' => XS.aloadN X11.here hx rfl (hD d17_126) rfl rfl k') ?_
    show Gm p e below T11 m 127 #[rv r0, rv r1, iv (0 : Int32), iv p3, iv zk1, iv sx2, iv (2 : Int32)] [(.ref r0), (.int (2 : Int32)), (.ref cs)] _
    have f12 := (Fld.other W9 F_u (Or.inr (slot_ne (Or.inl (hw _ (List.mem_of_getElem? (i := 118) rfl))) (Or.inl (hw _ (List.mem_of_getElem? (i := 120) rfl))) (by decide) (t := .int) (t' := .int) (by decide) (by decide))))
    obtain ⟨T13, X13, e13, st13⟩ := getF X11 hx hZ hown (host := "") (Or.inl (hw _ (List.mem_of_getElem? (i := 117) rfl))) Via.refl e11 f12 (g := (mkF m 127 #[rv r0, rv r1, iv (0 : Int32), iv p3, iv zk1, iv sx2, iv (2 : Int32)] [(.ref r0), (.int (2 : Int32)), (.ref cs)])) rfl rfl (hD d17_127)
    refine own_go st13 ?_
    show Gm p e below T13 m 130 #[rv r0, rv r1, iv (0 : Int32), iv p3, iv zk1, iv sx2, iv (2 : Int32)] [(.int (U.toInt32)), (.int (2 : Int32)), (.ref cs)] _
    have f14 := (As.other W9 (Ne.symm n2))
    obtain ⟨T15, h15, X15, e15, W15, A15, st15⟩ := own_stI X13 hx hZ e13 f14 (j := (2 : Int32)) (k := 2) (by decide) rfl (by decide) (g := (mkF m 130 #[rv r0, rv r1, iv (0 : Int32), iv p3, iv zk1, iv sx2, iv (2 : Int32)] [(.int (U.toInt32)), (.int (2 : Int32)), (.ref cs)])) rfl rfl (hD d17_130)
    have N15 := Fr.snoc X15 N9 g_cs
    have Z15 : n0 ≤ h15.size := W15.size ▸ Z9
    have K15 : Keep h0 h15 [r0, cb, cs, cl] := Keep.wr K9 W15 (Or.inl (List.mem_of_getElem? (i := 2) rfl))
    refine own_go st15 ?_
    refine own_go (fun t' k' => XS.aloadN X15.here hx rfl (hD d17_131) rfl rfl k') ?_
    show Gm p e below T15 m 132 #[rv r0, rv r1, iv (0 : Int32), iv p3, iv zk1, iv sx2, iv (2 : Int32)] [(.ref r0)] _
    have f16 := (Fld.other W15 (Fld.other W9 F_b (Or.inr (slot_ne (Or.inl (hw _ (List.mem_of_getElem? (i := 49) rfl))) (Or.inl (hw _ (List.mem_of_getElem? (i := 120) rfl))) (by decide) (t := (.array .byte)) (t' := .int) (by decide) (by decide)))) (Or.inl n2))
    obtain ⟨T17, X17, e17, st17⟩ := getF X15 hx hZ hown (host := "") (Or.inl (hw _ (List.mem_of_getElem? (i := 48) rfl))) Via.refl e15 f16 (g := (mkF m 132 #[rv r0, rv r1, iv (0 : Int32), iv p3, iv zk1, iv sx2, iv (2 : Int32)] [(.ref r0)])) rfl rfl (hD d17_132)
    refine own_go st17 ?_
    refine own_go (fun t' k' => XS.aloadN X17.here hx rfl (hD d17_135) rfl rfl k') ?_
    show Gm p e below T17 m 136 #[rv r0, rv r1, iv (0 : Int32), iv p3, iv zk1, iv sx2, iv (2 : Int32)] [(.ref r0), (.ref cb)] _
    have f18 := (Fld.other W15 f12 (Or.inl n2))
    obtain ⟨T19, X19, e19, st19⟩ := getF X17 hx hZ hown (host := "") (Or.inl (hw _ (List.mem_of_getElem? (i := 117) rfl))) Via.refl e17 f18 (g := (mkF m 136 #[rv r0, rv r1, iv (0 : Int32), iv p3, iv zk1, iv sx2, iv (2 : Int32)] [(.ref r0), (.ref cb)])) rfl rfl (hD d17_136)
    refine own_go st19 ?_
    refine own_go (fun t' k' => XS.iloadN X19.here hx rfl (hD d17_139) rfl k') ?_
    refine own_go (fun t' k' => XS.i2b X19.here hx rfl (hD d17_140) rfl k') ?_
    show Gm p e below T19 m 141 #[rv r0, rv r1, iv (0 : Int32), iv p3, iv zk1, iv sx2, iv (2 : Int32)] [(.int (p3.toInt8.toInt32)), (.int (U.toInt32)), (.ref cb)] _
    have f20 := ((Ab.other W9 (Ne.symm n1)).other W15 n4)
    obtain ⟨T21, h21, X21, e21, W21, A21, st21⟩ := own_stB X19 hx hZ e19 f20 (j := (U.toInt32)) (k := U) (own_tn (by omega : U < 24)).1 (own_tn (by omega : U < 24)).2 (by omega) (y := p3) hnar (g := (mkF m 141 #[rv r0, rv r1, iv (0 : Int32), iv p3, iv zk1, iv sx2, iv (2 : Int32)] [(.int (p3.toInt8.toInt32)), (.int (U.toInt32)), (.ref cb)])) rfl rfl (hD d17_141)
    have N21 := Fr.snoc X21 N15 g_cb
    have Z21 : n0 ≤ h21.size := W21.size ▸ Z15
    have K21 : Keep h0 h21 [r0, cb, cs, cl] := Keep.wr K15 W21 (Or.inl (List.mem_of_getElem? (i := 1) rfl))
    refine own_go st21 ?_
    refine own_go (fun t' k' => XS.aloadN X21.here hx rfl (hD d17_142) rfl rfl k') ?_
    refine own_go (fun t' k' => XS.iloadN X21.here hx rfl (hD d17_143) rfl k') ?_
    show Gm p e below T21 m 144 #[rv r0, rv r1, iv (0 : Int32), iv p3, iv zk1, iv sx2, iv (2 : Int32)] [(.int (0 : Int32)), (.ref r1)] _
    refine own_go (fun t' k' => XS.aloadN X21.here hx rfl (hD d17_144) rfl rfl k') ?_
    show Gm p e below T21 m 145 #[rv r0, rv r1, iv (0 : Int32), iv p3, iv zk1, iv sx2, iv (2 : Int32)] [(.ref r0), (.int (0 : Int32)), (.ref r1)] _
    have f22 := (Fld.other W21 f16 (Or.inl n1))
    obtain ⟨T23, X23, e23, st23⟩ := getF X21 hx hZ hown (host := "") (Or.inl (hw _ (List.mem_of_getElem? (i := 48) rfl))) Via.refl e21 f22 (g := (mkF m 145 #[rv r0, rv r1, iv (0 : Int32), iv p3, iv zk1, iv sx2, iv (2 : Int32)] [(.ref r0), (.int (0 : Int32)), (.ref r1)])) rfl rfl (hD d17_145)
    refine own_go st23 ?_
    refine own_go (fun t' k' => XS.aloadN X23.here hx rfl (hD d17_148) rfl rfl k') ?_
    show Gm p e below T23 m 149 #[rv r0, rv r1, iv (0 : Int32), iv p3, iv zk1, iv sx2, iv (2 : Int32)] [(.ref r0), (.ref cb), (.int (0 : Int32)), (.ref r1)] _
    have f24 := (Fld.other W21 f18 (Or.inl n1))
    obtain ⟨T25, X25, e25, st25⟩ := getF X23 hx hZ hown (host := "") (Or.inl (hw _ (List.mem_of_getElem? (i := 117) rfl))) Via.refl e23 f24 (g := (mkF m 149 #[rv r0, rv r1, iv (0 : Int32), iv p3, iv zk1, iv sx2, iv (2 : Int32)] [(.ref r0), (.ref cb), (.int (0 : Int32)), (.ref r1)])) rfl rfl (hD d17_149)
    refine own_go st25 ?_
    refine own_go (fun t' k' => XS.iconst X25.here hx rfl (hD d17_152) k') ?_
    refine own_go (fun t' k' => XS.iadd X25.here hx rfl (hD d17_153) rfl k') ?_
    show Gm p e below T25 m 154 #[rv r0, rv r1, iv (0 : Int32), iv p3, iv zk1, iv sx2, iv (2 : Int32)] [(.int ((U.toInt32) + (1 : Int32))), (.ref cb), (.int (0 : Int32)), (.ref r1)] _
    refine own_go (fun t' k' => XS.iloadN X25.here hx rfl (hD d17_154) rfl k') ?_
    show Gm p e below T25 m 155 #[rv r0, rv r1, iv (0 : Int32), iv p3, iv zk1, iv sx2, iv (2 : Int32)] [(.int p3), (.int ((U.toInt32) + (1 : Int32))), (.ref cb), (.int (0 : Int32)), (.ref r1)] _
    have f26 := (((B.other W9 ne1).other W15 ne3).other W21 ne2)
    obtain ⟨T27, h27, L27, X27, e27, N27, Kc27, Ac27, st27⟩ := own_cp X25 hx hZ hown (hw _ (List.mem_of_getElem? (i := 121) rfl)) (hw _ (List.mem_of_getElem? (i := 124) rfl)) (hw _ (List.mem_of_getElem? (i := 122) rfl)) (hw _ (List.mem_of_getElem? (i := 123) rfl)) e25 (ks := 0) (kd := U + 1) (kn := n) f26 A21 rfl (by decide) (by rw [hU1]; exact (own_tn (by omega)).1) hp0 rfl (by rw [hU1]; exact (own_tn (by omega)).2) hpn (by omega) (by omega) N21 g_cb (g := (mkF m 155 #[rv r0, rv r1, iv (0 : Int32), iv p3, iv zk1, iv sx2, iv (2 : Int32)] [(.int p3), (.int ((U.toInt32) + (1 : Int32))), (.ref cb), (.int (0 : Int32)), (.ref r1)])) rfl (by rw [hml]; rfl) rfl (hD d17_155) (by decide) (W := 0) (by show 2 * 0 + _ ≤ _; exact Nat.le_of_eq rfl) (by decide)
    have Z27 : n0 ≤ h27.size := Nat.le_trans Z21 Kc27.1
    have K27 : Keep h0 h27 [r0, cb, cs, cl] := Keep.trans K21 Kc27 (allS (Or.inl (List.mem_of_getElem? (i := 1) rfl)) all0)
    refine own_go st27 ?_
    refine own_go (fun t' k' => XS.aloadN X27.here hx rfl (hD d17_158) rfl rfl k') ?_
    refine own_go (fun t' k' => XS.dup X27.here hx rfl (hD d17_159) rfl rfl k') ?_
    show Gm p e below T27 m 160 #[rv r0, rv r1, iv (0 : Int32), iv p3, iv zk1, iv sx2, iv (2 : Int32)] [(.ref r0), (.ref r0)] _
    have f28 := (f24.keep Kc27 (ninS n1 nin0))
    obtain ⟨T29, X29, e29, st29⟩ := getF X27 hx hZ hown (host := "") (Or.inl (hw _ (List.mem_of_getElem? (i := 117) rfl))) Via.refl e27 f28 (g := (mkF m 160 #[rv r0, rv r1, iv (0 : Int32), iv p3, iv zk1, iv sx2, iv (2 : Int32)] [(.ref r0), (.ref r0)])) rfl rfl (hD d17_160)
    refine own_go st29 ?_
    refine own_go (fun t' k' => XS.iconst X29.here hx rfl (hD d17_163) k') ?_
    refine own_go (fun t' k' => XS.iloadN X29.here hx rfl (hD d17_164) rfl k') ?_
    show Gm p e below T29 m 165 #[rv r0, rv r1, iv (0 : Int32), iv p3, iv zk1, iv sx2, iv (2 : Int32)] [(.int p3), (.int (1 : Int32)), (.int (U.toInt32)), (.ref r0)] _
    refine own_go (fun t' k' => XS.iadd X29.here hx rfl (hD d17_165) rfl k') ?_
    refine own_go (fun t' k' => XS.iadd X29.here hx rfl (hD d17_166) rfl k') ?_
    show Gm p e below T29 m 167 #[rv r0, rv r1, iv (0 : Int32), iv p3, iv zk1, iv sx2, iv (2 : Int32)] [(.int ((U.toInt32) + ((1 : Int32) + p3))), (.ref r0)] _
    have f30 := ((((E_r0.wr W9).wr W15).wr W21).keep Kc27)
    obtain ⟨T31, h31, X31, e31, W31, st31⟩ := putF X29 hx hZ hown (host := "") (Or.inl (hw _ (List.mem_of_getElem? (i := 117) rfl))) Via.refl e29 f28 f30 (Or.inl (hw _ (List.mem_of_getElem? (i := 118) rfl))) (hw _ (List.mem_of_getElem? (i := 42) rfl)) (ty := .int) (by decide) rfl rfl (g := (mkF m 167 #[rv r0, rv r1, iv (0 : Int32), iv p3, iv zk1, iv sx2, iv (2 : Int32)] [(.int ((U.toInt32) + ((1 : Int32) + p3))), (.ref r0)])) rfl rfl (hD d17_167)
    have Fw31 := Fld.same W31 f28
    have N31 := Fr.snoc X31 N27 g_r0
    have Z31 : n0 ≤ h31.size := W31.size ▸ Z27
    have K31 : Keep h0 h31 [r0, cb, cs, cl] := Keep.wr K27 W31 (Or.inl (List.mem_of_getElem? (i := 0) rfl))
    refine own_go st31 ?_
    refine own_go (fun t' k' => XS.aloadN X31.here hx rfl (hD d17_170) rfl rfl k') ?_
    show Gm p e below T31 m 171 #[rv r0, rv r1, iv (0 : Int32), iv p3, iv zk1, iv sx2, iv (2 : Int32)] [(.ref r0)] _
    have f32 := (Fld.other W31 ((Fld.other W21 (Fld.other W15 (Fld.other W9 F_l (Or.inr (slot_ne (Or.inl (hw _ (List.mem_of_getElem? (i := 54) rfl))) (Or.inl (hw _ (List.mem_of_getElem? (i := 120) rfl))) (by decide) (t := (.array .int)) (t' := .int) (by decide) (by decide)))) (Or.inl n2)) (Or.inl n1)).keep Kc27 (ninS n1 nin0)) (Or.inr (slot_ne (Or.inl (hw _ (List.mem_of_getElem? (i := 54) rfl))) (Or.inl (hw _ (List.mem_of_getElem? (i := 118) rfl))) (by decide) (t := (.array .int)) (t' := .int) (by decide) (by decide))))
    obtain ⟨T33, X33, e33, st33⟩ := getF X31 hx hZ hown (host := "") (Or.inl (hw _ (List.mem_of_getElem? (i := 53) rfl))) Via.refl e31 f32 (g := (mkF m 171 #[rv r0, rv r1, iv (0 : Int32), iv p3, iv zk1, iv sx2, iv (2 : Int32)] [(.ref r0)])) rfl rfl (hD d17_171)
    refine own_go st33 ?_
    refine own_go (fun t' k' => XS.iload X33.here hx rfl (hD d17_174) rfl k') ?_
    refine own_go (fun t' k' => XS.iload X33.here hx rfl (hD d17_176) rfl k') ?_
    show Gm p e below T33 m 178 #[rv r0, rv r1, iv (0 : Int32), iv p3, iv zk1, iv sx2, iv (2 : Int32)] [(.int (2 : Int32)), (.int sx2), (.ref cl)] _
    refine own_go (fun t' k' => XS.iconst X33.here hx rfl (hD d17_178) k') ?_
    refine own_go (fun t' k' => XS.iadd X33.here hx rfl (hD d17_179) rfl k') ?_
    show Gm p e below T33 m 180 #[rv r0, rv r1, iv (0 : Int32), iv p3, iv zk1, iv sx2, iv (2 : Int32)] [(.int (3 : Int32)), (.int sx2), (.ref cl)] _
    have f34 := (((((Al.other W9 (Ne.symm n3)).other W15 (Ne.symm n6)).other W21 (Ne.symm n5)).keep Kc27 (ninS (Ne.symm n5) nin0)).other W31 (Ne.symm n3))
    obtain ⟨T35, h35, X35, e35, W35, A35, st35⟩ := own_stI X33 hx hZ e33 f34 (j := sx2) (k := sx2.toNatClampNeg) hx02 rfl hx12 (g := (mkF m 180 #[rv r0, rv r1, iv (0 : Int32), iv p3, iv zk1, iv sx2, iv (2 : Int32)] [(.int (3 : Int32)), (.int sx2), (.ref cl)])) rfl rfl (hD d17_180)
    have N35 := Fr.snoc X35 N31 g_cl
    have Z35 : n0 ≤ h35.size := W35.size ▸ Z31
    have K35 : Keep h0 h35 [r0, cb, cs, cl] := Keep.wr K31 W35 (Or.inl (List.mem_of_getElem? (i := 3) rfl))
    refine own_go st35 ?_
    refine own_go (fun t' k' => XS.iconst X35.here hx rfl (hD d17_181) k') ?_
    refine own_go (fun t' k' => XS.aloadN X35.here hx rfl (hD d17_182) rfl rfl k') ?_
    show Gm p e below T35 m 183 #[rv r0, rv r1, iv (0 : Int32), iv p3, iv zk1, iv sx2, iv (2 : Int32)] [(.ref r0), (.int (2 : Int32))] _
    have f36 := (Fld.other W35 (Fld.other W31 ((Fld.other W21 (Fld.other W15 Fw9 (Or.inl n2)) (Or.inl n1)).keep Kc27 (ninS n1 nin0)) (Or.inr (slot_ne (Or.inl (hw _ (List.mem_of_getElem? (i := 120) rfl))) (Or.inl (hw _ (List.mem_of_getElem? (i := 118) rfl))) (by decide) (t := .int) (t' := .int) (by decide) (by decide)))) (Or.inl n3))
    obtain ⟨T37, X37, e37, st37⟩ := getF X35 hx hZ hown (host := "") (Or.inl (hw _ (List.mem_of_getElem? (i := 119) rfl))) Via.refl e35 f36 (g := (mkF m 183 #[rv r0, rv r1, iv (0 : Int32), iv p3, iv zk1, iv sx2, iv (2 : Int32)] [(.ref r0), (.int (2 : Int32))])) rfl rfl (hD d17_183)
    refine own_go st37 ?_
    refine own_go (fun t' k' => XS.imul X37.here hx rfl (hD d17_186) rfl k') ?_
    refine own_go (fun t' k' => XS.aloadN X37.here hx rfl (hD d17_187) rfl rfl k') ?_
    show Gm p e below T37 m 188 #[rv r0, rv r1, iv (0 : Int32), iv p3, iv zk1, iv sx2, iv (2 : Int32)] [(.ref r0), (.int (6 : Int32))] _
    have f38 := (Fld.other W35 f32 (Or.inl n3))
    obtain ⟨T39, X39, e39, st39⟩ := getF X37 hx hZ hown (host := "") (Or.inl (hw _ (List.mem_of_getElem? (i := 53) rfl))) Via.refl e37 f38 (g := (mkF m 188 #[rv r0, rv r1, iv (0 : Int32), iv p3, iv zk1, iv sx2, iv (2 : Int32)] [(.ref r0), (.int (6 : Int32))])) rfl rfl (hD d17_188)
    refine own_go st39 ?_
    show Gm p e below T39 m 191 #[rv r0, rv r1, iv (0 : Int32), iv p3, iv zk1, iv sx2, iv (2 : Int32)] [(.ref cl), (.int (6 : Int32))] _
    refine own_go (fun t' k' => own_len X39 hx hZ e39 A35 (z := (32 : Int32)) rfl (g := (mkF m 191 #[rv r0, rv r1, iv (0 : Int32), iv p3, iv zk1, iv sx2, iv (2 : Int32)] [(.ref cl), (.int (6 : Int32))])) rfl rfl (hD d17_191) k') ?_
    show Gm p e below T39 m 192 #[rv r0, rv r1, iv (0 : Int32), iv p3, iv zk1, iv sx2, iv (2 : Int32)] [(.int (32 : Int32)), (.int (6 : Int32))] _
    refine own_go (fun t' k' => XS.icmpYes X39.here hx rfl (pc0 := 192) (pc' := 199) rfl (hD d17_192) rfl (XT.ii_le_t (by decide)) (by decide) (by decide) k') ?_
    refine own_go (fun t' k' => XS.iload X39.here hx rfl (hD d17_199) rfl k') ?_
    show Gm p e below T39 m 201 #[rv r0, rv r1, iv (0 : Int32), iv p3, iv zk1, iv sx2, iv (2 : Int32)] [(.int (2 : Int32))] _
    have f40 := ((Ac27.other W31 (Ne.symm n1)).other W35 n5)
    have f41 := ((((A15.other W21 (Ne.symm n4)).keep Kc27 (ninS (Ne.symm n4) nin0)).other W31 (Ne.symm n2)).other W35 n6)
    have f42 := (Fld.other W35 Fw31 (Or.inl n3))
    have Fu : Fld Z h35 r0 "com/example/design_drills/designdrills/service/listens/IdNumbers" "used" "I" (.int (U + 1 + n).toInt32) := by rw [← hused]; exact f42
    have hk' := own_hk (n := n) (fb' := (fun i => if (U + 1) ≤ i ∧ i < (U + 1) + n then g (0 + (i - (U + 1))) else (fun i => if i = U then (.int p3) else fb i) i)) (fs' := (fun i => if i = 2 then (.int (U.toInt32)) else fs i)) hS hk (fun k hk => by show (if k = 2 then _ else fs k) = fs k; rw [if_neg (by have : k < 2 := hk; omega)]) rfl (fun i hi => by show (if (U + 1) ≤ i ∧ i < (U + 1) + n then _ else (if i = U then _ else fb i)) = fb i; rw [if_neg (by omega), if_neg (by omega)]) (by show (if (U + 1) ≤ U ∧ U < (U + 1) + n then _ else (if U = U then Value.int p3 else fb U)) = _; rw [if_neg (by omega), if_pos rfl, hp])
    have hj' := own_hj (m := 2) (x := sx2.toNatClampNeg) (fl' := (fun i => if i = sx2.toNatClampNeg then (.int (3 : Int32)) else fl i)) hJ (by decide) hj hx12 hv0 (fun i hi => by show (if i = _ then _ else fl i) = fl i; rw [if_neg hi]) (by show (if sx2.toNatClampNeg = sx2.toNatClampNeg then _ else fl _) = _; rw [if_pos rfl]; rfl)
    have hz' := own_hz (x := sx2.toNatClampNeg) (fl' := (fun i => if i = sx2.toNatClampNeg then (.int (3 : Int32)) else fl i)) hz (fun i hi => by show (if i = _ then _ else fl i) = fl i; rw [if_neg hi])
    have f43 := ((f30.wr W31).wr W35)
    have f44 := (Fld.other W35 (Fld.other W31 (f22.keep Kc27 (ninS n1 nin0)) (Or.inr (slot_ne (Or.inl (hw _ (List.mem_of_getElem? (i := 49) rfl))) (Or.inl (hw _ (List.mem_of_getElem? (i := 118) rfl))) (by decide) (t := (.array .byte)) (t' := .int) (by decide) (by decide)))) (Or.inl n3))
    have f45 := (Fld.other W35 (Fld.other W31 ((Fld.other W21 (Fld.other W15 f10 (Or.inl n2)) (Or.inl n1)).keep Kc27 (ninS n1 nin0)) (Or.inr (slot_ne (Or.inl (hw _ (List.mem_of_getElem? (i := 52) rfl))) (Or.inl (hw _ (List.mem_of_getElem? (i := 118) rfl))) (by decide) (t := (.array .int)) (t' := .int) (by decide) (by decide)))) (Or.inl n3))
    exact own_retI X39 hx hlk (t := .int) Bd.returns rfl (by simp) (hD d17_201) e39 ⟨2, [l0, l1] ++ [n], rfl, N35, own_extk Ob K35 (allS (Nat.le_trans hbs g_r0) (allS (Nat.le_trans hbs g_cb) (allS (Nat.le_trans hbs g_cs) (allS (Nat.le_trans hbs g_cl) all0)))), ⟨cb, cs, cl, _, _, _, _, _, U + 1 + n, f43, f44, f45, f38, Fu, f36, f40, f41, A35, ⟨n1, n2, n3, n4, n5, n6⟩, ⟨g_cb, g_cs, g_cl⟩, ⟨k1, k2, k3, k4⟩, by rw [List.length_append, List.length_append, hS]; rfl, by rw [List.length_append, List.length_append, hJ]; rfl, by rw [List.length_append]; show U + 1 + n ≤ 5 * (2 + 1); omega, own_le4 hE hn, hk', hj', hz'⟩, own_at, own_mn, by simp, Nat.le_trans hKs K35.1⟩ (by decide) (by decide)
  · have hfork := trivial
    show Gm p e below T3 m 25 #[rv r0, rv r1, iv (0 : Int32), iv p3, iv zk1, iv sx2, .unset] [(.int sx2), (.ref cl)] _
    refine own_go (fun t' k' => own_ldI X3 hx hZ e3 Al (j := sx2) (k := sx2.toNatClampNeg) hx02 rfl hx12 (w := .int (1 : Int32)) hv1 (g := (mkF m 25 #[rv r0, rv r1, iv (0 : Int32), iv p3, iv zk1, iv sx2, .unset] [(.int sx2), (.ref cl)])) rfl rfl (hD d17_25) k') ?_
    show Gm p e below T3 m 26 #[rv r0, rv r1, iv (0 : Int32), iv p3, iv zk1, iv sx2, .unset] [(.int (1 : Int32))] _
    refine own_go (fun t' k' => XS.ifNo X3.here hx rfl (hD d17_26) rfl (XT.i0_eq_f (by decide)) k') ?_
    refine own_go (fun t' k' => XS.aloadN X3.here hx rfl (hD d17_29) rfl rfl k') ?_
    show Gm p e below T3 m 30 #[rv r0, rv r1, iv (0 : Int32), iv p3, iv zk1, iv sx2, .unset] [(.ref r0)] _
    obtain ⟨T46, X46, e46, st46⟩ := getF X3 hx hZ hown (host := "") (Or.inl (hw _ (List.mem_of_getElem? (i := 53) rfl))) Via.refl e3 F_l (g := (mkF m 30 #[rv r0, rv r1, iv (0 : Int32), iv p3, iv zk1, iv sx2, .unset] [(.ref r0)])) rfl rfl (hD d17_30)
    refine own_go st46 ?_
    refine own_go (fun t' k' => XS.iload X46.here hx rfl (hD d17_33) rfl k') ?_
    show Gm p e below T46 m 35 #[rv r0, rv r1, iv (0 : Int32), iv p3, iv zk1, iv sx2, .unset] [(.int sx2), (.ref cl)] _
    refine own_go (fun t' k' => own_ldI X46 hx hZ e46 Al (j := sx2) (k := sx2.toNatClampNeg) hx02 rfl hx12 (w := .int (1 : Int32)) hv1 (g := (mkF m 35 #[rv r0, rv r1, iv (0 : Int32), iv p3, iv zk1, iv sx2, .unset] [(.int sx2), (.ref cl)])) rfl rfl (hD d17_35) k') ?_
    refine own_go (fun t' k' => XS.iconst X46.here hx rfl (hD d17_36) k') ?_
    refine own_go (fun t' k' => XS.isub X46.here hx rfl (hD d17_37) rfl k') ?_
    show Gm p e below T46 m 38 #[rv r0, rv r1, iv (0 : Int32), iv p3, iv zk1, iv sx2, .unset] [(.int (0 : Int32))] _
    exact own_retI X46 hx hlk (t := .int) Bd.returns rfl (by simp) (hD d17_38) e46 ⟨0, [l0, l1], rfl, N2, Ob, H, congrArg some (own_inj (hE _ (by simp)) hn (hw1.trans hp)), fun _ _ u => u, Nat.le_succ _, hKs⟩ (by decide) (by decide)
  · have hfork := trivial
    show Gm p e below T3 m 25 #[rv r0, rv r1, iv (0 : Int32), iv p3, iv zk1, iv sx2, .unset] [(.int sx2), (.ref cl)] _
    refine own_go (fun t' k' => own_ldI X3 hx hZ e3 Al (j := sx2) (k := sx2.toNatClampNeg) hx02 rfl hx12 (w := .int (2 : Int32)) hv2 (g := (mkF m 25 #[rv r0, rv r1, iv (0 : Int32), iv p3, iv zk1, iv sx2, .unset] [(.int sx2), (.ref cl)])) rfl rfl (hD d17_25) k') ?_
    show Gm p e below T3 m 26 #[rv r0, rv r1, iv (0 : Int32), iv p3, iv zk1, iv sx2, .unset] [(.int (2 : Int32))] _
    refine own_go (fun t' k' => XS.ifNo X3.here hx rfl (hD d17_26) rfl (XT.i0_eq_f (by decide)) k') ?_
    refine own_go (fun t' k' => XS.aloadN X3.here hx rfl (hD d17_29) rfl rfl k') ?_
    show Gm p e below T3 m 30 #[rv r0, rv r1, iv (0 : Int32), iv p3, iv zk1, iv sx2, .unset] [(.ref r0)] _
    obtain ⟨T47, X47, e47, st47⟩ := getF X3 hx hZ hown (host := "") (Or.inl (hw _ (List.mem_of_getElem? (i := 53) rfl))) Via.refl e3 F_l (g := (mkF m 30 #[rv r0, rv r1, iv (0 : Int32), iv p3, iv zk1, iv sx2, .unset] [(.ref r0)])) rfl rfl (hD d17_30)
    refine own_go st47 ?_
    refine own_go (fun t' k' => XS.iload X47.here hx rfl (hD d17_33) rfl k') ?_
    show Gm p e below T47 m 35 #[rv r0, rv r1, iv (0 : Int32), iv p3, iv zk1, iv sx2, .unset] [(.int sx2), (.ref cl)] _
    refine own_go (fun t' k' => own_ldI X47 hx hZ e47 Al (j := sx2) (k := sx2.toNatClampNeg) hx02 rfl hx12 (w := .int (2 : Int32)) hv2 (g := (mkF m 35 #[rv r0, rv r1, iv (0 : Int32), iv p3, iv zk1, iv sx2, .unset] [(.int sx2), (.ref cl)])) rfl rfl (hD d17_35) k') ?_
    refine own_go (fun t' k' => XS.iconst X47.here hx rfl (hD d17_36) k') ?_
    refine own_go (fun t' k' => XS.isub X47.here hx rfl (hD d17_37) rfl k') ?_
    show Gm p e below T47 m 38 #[rv r0, rv r1, iv (0 : Int32), iv p3, iv zk1, iv sx2, .unset] [(.int (1 : Int32))] _
    exact own_retI X47 hx hlk (t := .int) Bd.returns rfl (by simp) (hD d17_38) e47 ⟨1, [l0, l1], rfl, N2, Ob, H, congrArg some (own_inj (hE _ (by simp)) hn (hw2.trans hp)), fun _ _ u => u, Nat.le_succ _, hKs⟩ (by decide) (by decide)
set_option maxRecDepth 65536 in
set_option maxHeartbeats 40000000 in
theorem rmAdd (l : Launch) (Z : State) (a0 : Array Value) (hw : ∀ d ∈ tables_1, d.before a0 Z = true) (ws : List Jvm.Cond) (r0 r1 : Addr) (p3 : Int32) (E : List Nat) (n : Nat) (g : Nat → Value) (hb : Heap) (K : Nat) (h0 : Heap) (n0 : Nat) (Z0 : n0 ≤ h0.size) (H : IN Z h0 n0 K r0 E) (hl : E.length ≤ 2) (hp : p3 = n.toInt32) (hn : n ≤ 4) (B : Af Z h0 r1 .byte n g) (hKr : K ≤ r1) (hKs : K ≤ h0.size) (g_r0 : n0 ≤ r0) (Ob : Ext hb h0) (hbs : hb.size ≤ n0) :
    MetFree l (⟨"com/example/design_drills/designdrills/service/listens/IdNumbers", "add", "([BII)I"⟩ : MethodName) (head1 (Jvm.Cond.code (⟨"com/example/design_drills/designdrills/service/listens/IdNumbers", "add", "([BII)I"⟩ : MethodName) prog_65_method_6_code 7 (some .int) :: ws) ({ frames := 4, cells := 0, slots := 0, locals := 74 } : Room)) (fun a U => a = #[.ref r0, .ref r1, .int (0 : Int32), .int p3] ∧ Z.Warmed39 U.vm ∧ U.heap = h0) (fun _ _ _ _ _ => True) (fun _ U o U' => ∃ v L, o = .returned v ∧ QAdd Z hb K r0 E n n0 v U'.heap L ∧ FrameEnd U o U' L ({ frames := 4, cells := 0, slots := 0, locals := 74 } : Room).cells ({ frames := 4, cells := 0, slots := 0, locals := 74 } : Room).slots) := by
  cases E with
  | nil => exact rmAdd_0 l Z a0 hw ws r0 r1 p3 n g hb K h0 n0 Z0 H hp hn B hKr hKs g_r0 Ob hbs
  | cons l0 E => cases E with
    | nil => exact rmAdd_1 l Z a0 hw ws r0 r1 p3 l0 n g hb K h0 n0 Z0 H hp hn B hKr hKs g_r0 Ob hbs
    | cons l1 E => cases E with
      | nil => exact rmAdd_2 l Z a0 hw ws r0 r1 p3 l0 l1 n g hb K h0 n0 Z0 H hp hn B hKr hKs g_r0 Ob hbs
      | cons l2 E => exact absurd hl (by simp)
theorem d10_0 : decode prog_65_method_4_code 0 = .ok (.aload_n 1, 1) := by decide +kernel
theorem d10_1 : decode prog_65_method_4_code 1 = .ok (.invokestatic 26, 3) := by decide +kernel
theorem d10_4 : decode prog_65_method_4_code 4 = .ok (.astore_n 2, 1) := by decide +kernel
theorem d10_5 : decode prog_65_method_4_code 5 = .ok (.aload_n 0, 1) := by decide +kernel
theorem d10_6 : decode prog_65_method_4_code 6 = .ok (.aload_n 2, 1) := by decide +kernel
theorem d10_7 : decode prog_65_method_4_code 7 = .ok (.iconst 0, 1) := by decide +kernel
theorem d10_8 : decode prog_65_method_4_code 8 = .ok (.aload_n 2, 1) := by decide +kernel
theorem d10_9 : decode prog_65_method_4_code 9 = .ok (.arraylength, 1) := by decide +kernel
theorem d10_10 : decode prog_65_method_4_code 10 = .ok (.invokevirtual 38, 3) := by decide +kernel
theorem d10_13 : decode prog_65_method_4_code 13 = .ok (.ireturn, 1) := by decide +kernel
theorem own_pd21 : parseMethodDescriptor "(Ljava/lang/String;)[B" = some ⟨[(.object "java/lang/String")], some (.array .byte)⟩ := by decide +kernel
theorem own_pn_rmAS : plainName "com/example/design_drills/designdrills/service/listens/IdNumbers" = true := by first | (simp [plainName, overriddenIn]; done) | decide +kernel
theorem own_ef_rmAS (m : MethodId) (r0 : Addr) (r1 : Addr) : entryFrame m #[(.ref r0), (.ref r1)] 3 = mkF m 0 #[.val (.ref r0), .val (.ref r1), .unset] [] := by first | (simp [entryFrame, mkF, argsToLocals, Value.category]; done) | rfl
set_option maxRecDepth 65536 in
set_option maxHeartbeats 40000000 in
theorem rmAS (l : Launch) (Z : State) (a0 : Array Value) (hw : ∀ d ∈ tables_1, d.before a0 Z = true) (ws : List Jvm.Cond) (r0 : Addr) (r1 : Addr) (E : List Nat) (n : Nat) (b : Addr) (f : Nat → Value) (cs : Int32) (a8 : Addr) (aI : Addr) (aU : Addr) (hb : Heap) (K : Nat) (h0 : Heap) (n0 : Nat) (Z0 : n0 ≤ h0.size) (H : IN Z h0 n0 K r0 E) (hl : E.length ≤ 2) (hKs : K ≤ h0.size) (g_r0 : n0 ≤ r0) (Ob : Ext hb h0) (hbs : hb.size ≤ n0) (hn : n ≤ 4) (E_r1 : Exa Z hb r1 "java/lang/String") (F_c : Fld Z hb r1 "java/lang/String" "coder" "B" (.int (0 : Int32))) (F_v : Fld Z hb r1 "java/lang/String" "value" "[B" (.ref b)) (E_b : Exa Z hb b "[B") (A : Af Z hb b .byte n f) (S_c : Sta Z hb "java/lang/String" "COMPACT_STRINGS" "Z" (.int cs)) (hcs : ¬ cs = 0) (S_8 : Sta Z hb "sun/nio/cs/UTF_8" "INSTANCE" "Lsun/nio/cs/UTF_8;" (.ref a8)) (S_i : Sta Z hb "sun/nio/cs/ISO_8859_1" "INSTANCE" "Lsun/nio/cs/ISO_8859_1;" (.ref aI)) (S_a : Sta Z hb "sun/nio/cs/US_ASCII" "INSTANCE" "Lsun/nio/cs/US_ASCII;" (.ref aU)) (S_u : Sta Z hb "java/nio/charset/StandardCharsets" "US_ASCII" "Ljava/nio/charset/Charset;" (.ref aU)) (n8 : aU ≠ a8) (nI : aU ≠ aI) :
    MetFree l (⟨"com/example/design_drills/designdrills/service/listens/IdNumbers", "add", "(Ljava/lang/String;)I"⟩ : MethodName) (head1 (Jvm.Cond.code (⟨"com/example/design_drills/designdrills/service/listens/IdNumbers", "add", "(Ljava/lang/String;)I"⟩ : MethodName) prog_65_method_4_code 3 (some .int) :: ws) ({ frames := 5, cells := 1, slots := 4, locals := 92 } : Room)) (fun a U => a = #[(.ref r0), (.ref r1)] ∧ Z.Warmed39 U.vm ∧ U.heap = h0) (fun _ _ _ _ _ => True) (fun _ U o U' => ∃ v L, o = .returned v ∧ QAdd Z hb K r0 E n n0 v U'.heap L ∧ FrameEnd U o U' L ({ frames := 5, cells := 1, slots := 4, locals := 92 } : Room).cells ({ frames := 5, cells := 1, slots := 4, locals := 92 } : Room).slots) := by
  refine MetFree.of_bodySF (plainFor_of_name own_pn_rmAS) hisR ?_
  intro p e s m args below meth cO s₁ Bd hml0 hP hK
  obtain ⟨rfl, hZ, hh⟩ := hP
  have hx := Bd.exec
  have hby := Bd.bytes
  have hD := @Jvm.hb _ _ hby
  have hml : cO.maxLocals = 3 := hml0
  have hown : s.vm.findClass "com/example/design_drills/designdrills/service/listens/IdNumbers" = some m.cls := findClass_of_methodNamed Bd.named
  have hnm := (name_of_methodNamed Bd.named Bd.method).1
  have hlk : meth.locks = false := BodyLoose.notSynchronized Bd
  have X0 : Stand p l e ({ frames := 5, cells := 1, slots := 4, locals := 92 } : Room) s m #[(.ref r0), (.ref r1)] below meth cO s₁ [] 0 0 := Stand.of_body Bd
  have e0 : s₁.heap = h0 := by rw [← hh, Bd.state]; rfl
  have N0 := Fr.nil n0
  refine own_in (own_ef_rmAS m r0 r1) ?_
  show Gm p e below s₁ m 0 #[rv r0, rv r1, .unset] [] _
  refine own_go (fun t' k' => XS.aloadN X0.here hx rfl (hD d10_0) rfl rfl k') ?_
  show Gm p e below s₁ m 1 #[rv r0, rv r1, .unset] [(.ref r1)] _
  obtain ⟨_, _, ⟨T1, L1, k1, n1⟩, -, X1, ⟨Lc1, hQ1, l1, y1, z1⟩, st1⟩ := Jvm.LawKit.callS X0 hx (y := (⟨"com/example/design_drills/designdrills/service/listens/IdNumbers", "ascii", "(Ljava/lang/String;)[B"⟩ : MethodName)) hown (mvT hZ (hw _ (List.mem_of_getElem? (i := 60) rfl))) (mvT hZ (hw _ (List.mem_of_getElem? (i := 61) rfl))) (mvT hZ (hw _ (List.mem_of_getElem? (i := 43) rfl))) (mvT hZ (hw _ (List.mem_of_getElem? (i := 62) rfl))) (by decide) (backOf (W := 0) (rmAs l Z a0 hw [] r1 n b f cs a8 aI aU h0 n0 Z0 hn (E_r1.ext Ob) (F_c.ext Ob) (F_v.ext Ob) (E_b.ext Ob) (A.ext Ob) (S_c.ext Ob) hcs (S_8.ext Ob) (S_i.ext Ob) (S_a.ext Ob) (S_u.ext Ob) n8 nI) hZ (hw _ (List.mem_of_getElem? (i := 62) rfl)) (hw _ (List.mem_of_getElem? (i := 43) rfl)) (by decide) (by decide)) (g := (mkF m 1 #[rv r0, rv r1, .unset] [(.ref r1)])) rfl (by rw [hml]; rfl) (argsL := [(.ref r1)]) (rest := []) (lenOf own_pd21 rfl) rfl (by show 2 * 0 + _ ≤ _; exact Nat.le_of_eq rfl) (hD d10_1) (fun _ _ => ⟨rfl, e0, (by decide : 0 + 1 ≤ _), (by decide : 0 + 4 ≤ _)⟩)
  dsimp only [Pt.U, Pt.locs, Pt.cells, Pt.slots] at X1 l1 y1 z1 st1 hQ1
  subst l1 y1 z1
  obtain ⟨ca1, fa1, rfl, Nq1, Ex1, sz1, Aa1⟩ := hQ1
  have N1 := Fr.app N0 Nq1
  refine own_go st1 ?_
  have Z1 : n0 ≤ T1.heap.size := Nat.le_trans Z0 Ex1.1
  refine own_go (fun t' k' => XS.astoreN X1.here hx rfl (hD d10_4) rfl rfl (l' := #[rv r0, rv r1, rv ca1]) rfl k') ?_
  refine own_go (fun t' k' => XS.aloadN X1.here hx rfl (hD d10_5) rfl rfl k') ?_
  show Gm p e below T1 m 6 #[rv r0, rv r1, rv ca1] [(.ref r0)] _
  refine own_go (fun t' k' => XS.aloadN X1.here hx rfl (hD d10_6) rfl rfl k') ?_
  refine own_go (fun t' k' => XS.iconst X1.here hx rfl (hD d10_7) k') ?_
  refine own_go (fun t' k' => XS.aloadN X1.here hx rfl (hD d10_8) rfl rfl k') ?_
  show Gm p e below T1 m 9 #[rv r0, rv r1, rv ca1] [(.ref ca1), (.int (0 : Int32)), (.ref ca1), (.ref r0)] _
  refine own_go (fun t' k' => own_len X1 hx hZ rfl Aa1 (z := (n.toInt32)) rfl (g := (mkF m 9 #[rv r0, rv r1, rv ca1] [(.ref ca1), (.int (0 : Int32)), (.ref ca1), (.ref r0)])) rfl rfl (hD d10_9) k') ?_
  show Gm p e below T1 m 10 #[rv r0, rv r1, rv ca1] [(.int (n.toInt32)), (.int (0 : Int32)), (.ref ca1), (.ref r0)] _
  obtain ⟨cq2, kq2, q2a, q2b, q2c⟩ := isOf hZ rfl (H.ext Ex1).exa
  obtain ⟨_, _, ⟨T2, L2, k2, n2⟩, -, X2, ⟨Lc2, hQ2, l2, y2, z2⟩, st2⟩ := X1.virtualBack hx (y := (⟨"com/example/design_drills/designdrills/service/listens/IdNumbers", "add", "([BII)I"⟩ : MethodName)) (z := (⟨"com/example/design_drills/designdrills/service/listens/IdNumbers", "add", "([BII)I"⟩ : MethodName)) hown (mvT hZ (hw _ (List.mem_of_getElem? (i := 100) rfl))) (mvT hZ (hw _ (List.mem_of_getElem? (i := 101) rfl))) (notFace_of_selects (args := #[]) (mvT hZ (hw _ (List.mem_of_getElem? (i := 103) rfl)))) (mvT hZ (hw _ (List.mem_of_getElem? (i := 103) rfl))) (mvT hZ (hw _ (List.mem_of_getElem? (i := 102) rfl))) (by decide) (backOf (W := 0) (rmAdd l Z a0 hw [] r0 ca1 (n.toInt32) E n fa1 hb K T1.heap n0 Z1 (H.ext Ex1) hl rfl hn Aa1 (Nat.le_trans hKs sz1) (Nat.le_trans hKs Ex1.1) g_r0 (own_xt Ob Ex1) hbs) hZ (hw _ (List.mem_of_getElem? (i := 104) rfl)) (hw _ (List.mem_of_getElem? (i := 43) rfl)) (by decide) (by decide)) q2a q2c (g := (mkF m 10 #[rv r0, rv r1, rv ca1] [(.int (n.toInt32)), (.int (0 : Int32)), (.ref ca1), (.ref r0)])) rfl (by rw [hml]; rfl) (Steps.refl _) (argsL := [(.ref ca1), (.int (0 : Int32)), (.int (n.toInt32))]) (rest := []) (lenOf own_pd9 rfl) rfl (by show 2 * 0 + _ ≤ _; exact Nat.le_of_eq rfl) (hD d10_10) (fun _ _ => ⟨rfl, rfl, (by decide : 1 + 0 ≤ _), (by decide : 4 + 0 ≤ _)⟩)
  dsimp only [Pt.U, Pt.locs, Pt.cells, Pt.slots] at X2 l2 y2 z2 st2 hQ2
  subst l2 y2 z2
  obtain ⟨nu2, En2, rfl, Nq2, Oc2, Hn2, hg2, hm2, hl2, hKn2⟩ := hQ2
  have N2 := Fr.app N1 Nq2
  refine own_go (fun t k => st2.trans k) ?_
  show Gm p e below T2 m 13 #[rv r0, rv r1, rv ca1] [(.int (nu2.toInt32))] _
  exact own_retI X2 hx hlk (t := .int) Bd.returns rfl (by simp) (hD d10_13) rfl ⟨nu2, En2, rfl, N2, Oc2, Hn2, hg2, hm2, hl2, hKn2⟩ (by decide) (by decide)
theorem d9_0 : decode prog_65_method_1_code 0 = .ok (.aload_n 0, 1) := by decide +kernel
theorem d9_1 : decode prog_65_method_1_code 1 = .ok (.invokespecial 3, 3) := by decide +kernel
theorem d9_4 : decode prog_65_method_1_code 4 = .ok (.aload_n 0, 1) := by decide +kernel
theorem d9_5 : decode prog_65_method_1_code 5 = .ok (.sipush 256, 3) := by decide +kernel
theorem d9_8 : decode prog_65_method_1_code 8 = .ok (.newarray .byte, 2) := by decide +kernel
theorem d9_10 : decode prog_65_method_1_code 10 = .ok (.putfield 9, 3) := by decide +kernel
theorem d9_13 : decode prog_65_method_1_code 13 = .ok (.aload_n 0, 1) := by decide +kernel
theorem d9_14 : decode prog_65_method_1_code 14 = .ok (.bipush 16, 2) := by decide +kernel
theorem d9_16 : decode prog_65_method_1_code 16 = .ok (.newarray .int, 2) := by decide +kernel
theorem d9_18 : decode prog_65_method_1_code 18 = .ok (.putfield 15, 3) := by decide +kernel
theorem d9_21 : decode prog_65_method_1_code 21 = .ok (.aload_n 0, 1) := by decide +kernel
theorem d9_22 : decode prog_65_method_1_code 22 = .ok (.bipush 32, 2) := by decide +kernel
theorem d9_24 : decode prog_65_method_1_code 24 = .ok (.newarray .int, 2) := by decide +kernel
theorem d9_26 : decode prog_65_method_1_code 26 = .ok (.putfield 19, 3) := by decide +kernel
theorem d9_29 : decode prog_65_method_1_code 29 = .ok (.return_, 1) := by decide +kernel
theorem own_pn_rmIni : plainName "com/example/design_drills/designdrills/service/listens/IdNumbers" = true := by first | (simp [plainName, overriddenIn]; done) | decide +kernel
theorem own_ef_rmIni (m : MethodId) (r0 : Addr) : entryFrame m #[(.ref r0)] 1 = mkF m 0 #[.val (.ref r0)] [] := by first | (simp [entryFrame, mkF, argsToLocals, Value.category]; done) | rfl
def QIni (Z : State) (r0 : Addr) (h0 : Heap) (n0 : Nat) (v : Option Value) (h : Heap) (L : List Loc) : Prop := v = none ∧ Fr n0 L ∧ Keep h0 h [r0] ∧ IN Z h n0 h.size r0 []
set_option maxRecDepth 65536 in
set_option maxHeartbeats 40000000 in
theorem rmIni (l : Launch) (Z : State) (a0 : Array Value) (hw : ∀ d ∈ tables_1, d.before a0 Z = true) (ws : List Jvm.Cond) (r0 : Addr) (h0 : Heap) (n0 : Nat) (Z0 : n0 ≤ h0.size) (E_r0 : Exa Z h0 r0 "com/example/design_drills/designdrills/service/listens/IdNumbers") (F_bytes : Fld Z h0 r0 "com/example/design_drills/designdrills/service/listens/IdNumbers" "bytes" "[B" .null) (F_starts : Fld Z h0 r0 "com/example/design_drills/designdrills/service/listens/IdNumbers" "starts" "[I" .null) (F_slots : Fld Z h0 r0 "com/example/design_drills/designdrills/service/listens/IdNumbers" "slots" "[I" .null) (F_used : Fld Z h0 r0 "com/example/design_drills/designdrills/service/listens/IdNumbers" "used" "I" (.int (0 : Int32))) (F_size : Fld Z h0 r0 "com/example/design_drills/designdrills/service/listens/IdNumbers" "size" "I" (.int (0 : Int32))) (g_r0 : n0 ≤ r0) :
    MetFree l (⟨"com/example/design_drills/designdrills/service/listens/IdNumbers", "<init>", "()V"⟩ : MethodName) (head1 (Jvm.Cond.code (⟨"com/example/design_drills/designdrills/service/listens/IdNumbers", "<init>", "()V"⟩ : MethodName) prog_65_method_1_code 1 none :: ws) ({ frames := 1, cells := 3, slots := 304, locals := 12 } : Room)) (fun a U => a = #[(.ref r0)] ∧ Z.Warmed39 U.vm ∧ U.heap = h0) (fun _ _ _ _ _ => True) (fun _ U o U' => ∃ v L, o = .returned v ∧ QIni Z r0 h0 n0 v U'.heap L ∧ FrameEnd U o U' L ({ frames := 1, cells := 3, slots := 304, locals := 12 } : Room).cells ({ frames := 1, cells := 3, slots := 304, locals := 12 } : Room).slots) := by
  refine MetFree.of_bodySF (plainFor_of_name own_pn_rmIni) hisR ?_
  intro p e s m args below meth cO s₁ Bd hml0 hP hK
  obtain ⟨rfl, hZ, hh⟩ := hP
  have hx := Bd.exec
  have hby := Bd.bytes
  have hD := @Jvm.hb _ _ hby
  have hml : cO.maxLocals = 1 := hml0
  have hown : s.vm.findClass "com/example/design_drills/designdrills/service/listens/IdNumbers" = some m.cls := findClass_of_methodNamed Bd.named
  have hnm := (name_of_methodNamed Bd.named Bd.method).1
  have hlk : meth.locks = false := BodyLoose.notSynchronized Bd
  have X0 : Stand p l e ({ frames := 1, cells := 3, slots := 304, locals := 12 } : Room) s m #[(.ref r0)] below meth cO s₁ [] 0 0 := Stand.of_body Bd
  have e0 : s₁.heap = h0 := by rw [← hh, Bd.state]; rfl
  have N0 := Fr.nil n0
  refine own_in (own_ef_rmIni m r0) ?_
  show Gm p e below s₁ m 0 #[rv r0] [] _
  refine own_go (fun t' k' => XS.aloadN X0.here hx rfl (hD d9_0) rfl rfl k') ?_
  show Gm p e below s₁ m 1 #[rv r0] [(.ref r0)] _
  obtain ⟨T1, X1, e1, st1⟩ := initO X0 hx hZ hown (hw _ (List.mem_of_getElem? (i := 47) rfl)) (hw _ (List.mem_of_getElem? (i := 24) rfl)) (hw _ (List.mem_of_getElem? (i := 25) rfl)) e0 (g := (mkF m 1 #[rv r0] [(.ref r0)])) rfl (by rw [hml]; rfl) rfl (hD d9_1) (by decide) (W := 0) (by show 2 * 0 + _ ≤ _; exact Nat.le_of_eq rfl) (by decide)
  refine own_go st1 ?_
  refine own_go (fun t' k' => XS.aloadN X1.here hx rfl (hD d9_4) rfl rfl k') ?_
  refine own_go (fun t' k' => XS.sipush X1.here hx rfl (hD d9_5) k') ?_
  show Gm p e below T1 m 8 #[rv r0] [(.int (256 : Int32)), (.ref r0)] _
  obtain ⟨T2, h2, k2, X2, e2, E2, A2, st2⟩ := newP X1 hx hZ (hw _ (List.mem_of_getElem? (i := 18) rfl)) e1 (g := (mkF m 8 #[rv r0] [(.int (256 : Int32)), (.ref r0)])) rfl (hD d9_8) rfl (by decide) (cap := 256) (by decide) (by decide) (by decide) (by decide)
  obtain ⟨b2, g2⟩ : ∃ z, z = h0.size := ⟨_, rfl⟩
  rw [← g2] at A2 st2
  have g_b2 : n0 ≤ b2 := Nat.le_trans Z0 (Nat.le_of_eq g2.symm)
  have ne_r0_b2 : r0 ≠ b2 := Nat.ne_of_lt (Nat.lt_of_lt_of_le E_r0.lt (Nat.le_of_eq g2.symm))
  have sz_b2 : h0.size ≤ b2 := Nat.le_trans (Keep.refl h0 [r0]).1 (Nat.le_of_eq g2.symm)
  have K2 : Keep h0 h2 [r0] := Keep.ext (Keep.refl h0 [r0]) E2
  have Z2 : n0 ≤ h2.size := Nat.le_trans Z0 E2.1
  have V2 : Af Z h2 b2 .byte 256 (fun _ => defaultValue .byte) := Af.new A2 (by decide) rfl rfl
  refine own_go st2 ?_
  show Gm p e below T2 m 10 #[rv r0] [(.ref b2), (.ref r0)] _
  have f3 := (E_r0.ext E2)
  have f4 := (F_bytes.ext E2)
  obtain ⟨T5, h5, X5, e5, W5, st5⟩ := putF X2 hx hZ hown (host := "") (Or.inl (hw _ (List.mem_of_getElem? (i := 48) rfl))) Via.refl e2 f4 f3 (Or.inl (hw _ (List.mem_of_getElem? (i := 49) rfl))) (hw _ (List.mem_of_getElem? (i := 42) rfl)) (ty := (.array .byte)) (by decide) rfl rfl (g := (mkF m 10 #[rv r0] [(.ref b2), (.ref r0)])) rfl rfl (hD d9_10)
  have Fw5 := Fld.same W5 f4
  have N5 := Fr.snoc X5 N0 g_r0
  have Z5 : n0 ≤ h5.size := W5.size ▸ Z2
  have K5 : Keep h0 h5 [r0] := Keep.wr K2 W5 (Or.inl (List.mem_of_getElem? (i := 0) rfl))
  refine own_go st5 ?_
  refine own_go (fun t' k' => XS.aloadN X5.here hx rfl (hD d9_13) rfl rfl k') ?_
  refine own_go (fun t' k' => XS.bipush X5.here hx rfl (hD d9_14) k') ?_
  show Gm p e below T5 m 16 #[rv r0] [(.int (16 : Int32)), (.ref r0)] _
  obtain ⟨T6, h6, k6, X6, e6, E6, A6, st6⟩ := newP X5 hx hZ (hw _ (List.mem_of_getElem? (i := 50) rfl)) e5 (g := (mkF m 16 #[rv r0] [(.int (16 : Int32)), (.ref r0)])) rfl (hD d9_16) rfl (by decide) (cap := 16) (by decide) (by decide) (by decide) (by decide)
  obtain ⟨b6, g6⟩ : ∃ z, z = h5.size := ⟨_, rfl⟩
  rw [← g6] at A6 st6
  have g_b6 : n0 ≤ b6 := Nat.le_trans Z5 (Nat.le_of_eq g6.symm)
  have f7 := (f3.wr W5)
  have ne_r0_b6 : r0 ≠ b6 := Nat.ne_of_lt (Nat.lt_of_lt_of_le f7.lt (Nat.le_of_eq g6.symm))
  have f8 := (V2.other W5 (Ne.symm ne_r0_b2))
  have ne_b2_b6 : b2 ≠ b6 := Nat.ne_of_lt (Nat.lt_of_lt_of_le f8.lt (Nat.le_of_eq g6.symm))
  have sz_b6 : h0.size ≤ b6 := Nat.le_trans K5.1 (Nat.le_of_eq g6.symm)
  have K6 : Keep h0 h6 [r0] := Keep.ext K5 E6
  have Z6 : n0 ≤ h6.size := Nat.le_trans Z5 E6.1
  have V6 : Af Z h6 b6 .int 16 (fun _ => defaultValue .int) := Af.new A6 (by decide) rfl rfl
  refine own_go st6 ?_
  show Gm p e below T6 m 18 #[rv r0] [(.ref b6), (.ref r0)] _
  have f9 := (f7.ext E6)
  have f10 := ((Fld.other W5 (F_starts.ext E2) (Or.inr (slot_ne (Or.inl (hw _ (List.mem_of_getElem? (i := 52) rfl))) (Or.inl (hw _ (List.mem_of_getElem? (i := 49) rfl))) (by decide) (t := (.array .int)) (t' := (.array .byte)) (by decide) (by decide)))).ext E6)
  obtain ⟨T11, h11, X11, e11, W11, st11⟩ := putF X6 hx hZ hown (host := "") (Or.inl (hw _ (List.mem_of_getElem? (i := 51) rfl))) Via.refl e6 f10 f9 (Or.inl (hw _ (List.mem_of_getElem? (i := 52) rfl))) (hw _ (List.mem_of_getElem? (i := 42) rfl)) (ty := (.array .int)) (by decide) rfl rfl (g := (mkF m 18 #[rv r0] [(.ref b6), (.ref r0)])) rfl rfl (hD d9_18)
  have Fw11 := Fld.same W11 f10
  have N11 := Fr.snoc X11 N5 g_r0
  have Z11 : n0 ≤ h11.size := W11.size ▸ Z6
  have K11 : Keep h0 h11 [r0] := Keep.wr K6 W11 (Or.inl (List.mem_of_getElem? (i := 0) rfl))
  refine own_go st11 ?_
  refine own_go (fun t' k' => XS.aloadN X11.here hx rfl (hD d9_21) rfl rfl k') ?_
  refine own_go (fun t' k' => XS.bipush X11.here hx rfl (hD d9_22) k') ?_
  show Gm p e below T11 m 24 #[rv r0] [(.int (32 : Int32)), (.ref r0)] _
  obtain ⟨T12, h12, k12, X12, e12, E12, A12, st12⟩ := newP X11 hx hZ (hw _ (List.mem_of_getElem? (i := 50) rfl)) e11 (g := (mkF m 24 #[rv r0] [(.int (32 : Int32)), (.ref r0)])) rfl (hD d9_24) rfl (by decide) (cap := 32) (by decide) (by decide) (by decide) (by decide)
  obtain ⟨b12, g12⟩ : ∃ z, z = h11.size := ⟨_, rfl⟩
  rw [← g12] at A12 st12
  have g_b12 : n0 ≤ b12 := Nat.le_trans Z11 (Nat.le_of_eq g12.symm)
  have f13 := (f9.wr W11)
  have ne_r0_b12 : r0 ≠ b12 := Nat.ne_of_lt (Nat.lt_of_lt_of_le f13.lt (Nat.le_of_eq g12.symm))
  have f14 := ((f8.ext E6).other W11 (Ne.symm ne_r0_b2))
  have ne_b2_b12 : b2 ≠ b12 := Nat.ne_of_lt (Nat.lt_of_lt_of_le f14.lt (Nat.le_of_eq g12.symm))
  have f15 := (V6.other W11 (Ne.symm ne_r0_b6))
  have ne_b6_b12 : b6 ≠ b12 := Nat.ne_of_lt (Nat.lt_of_lt_of_le f15.lt (Nat.le_of_eq g12.symm))
  have sz_b12 : h0.size ≤ b12 := Nat.le_trans K11.1 (Nat.le_of_eq g12.symm)
  have K12 : Keep h0 h12 [r0] := Keep.ext K11 E12
  have Z12 : n0 ≤ h12.size := Nat.le_trans Z11 E12.1
  have V12 : Af Z h12 b12 .int 32 (fun _ => defaultValue .int) := Af.new A12 (by decide) rfl rfl
  refine own_go st12 ?_
  show Gm p e below T12 m 26 #[rv r0] [(.ref b12), (.ref r0)] _
  have f16 := (f13.ext E12)
  have f17 := ((Fld.other W11 ((Fld.other W5 (F_slots.ext E2) (Or.inr (slot_ne (Or.inl (hw _ (List.mem_of_getElem? (i := 54) rfl))) (Or.inl (hw _ (List.mem_of_getElem? (i := 49) rfl))) (by decide) (t := (.array .int)) (t' := (.array .byte)) (by decide) (by decide)))).ext E6) (Or.inr (slot_ne (Or.inl (hw _ (List.mem_of_getElem? (i := 54) rfl))) (Or.inl (hw _ (List.mem_of_getElem? (i := 52) rfl))) (by decide) (t := (.array .int)) (t' := (.array .int)) (by decide) (by decide)))).ext E12)
  obtain ⟨T18, h18, X18, e18, W18, st18⟩ := putF X12 hx hZ hown (host := "") (Or.inl (hw _ (List.mem_of_getElem? (i := 53) rfl))) Via.refl e12 f17 f16 (Or.inl (hw _ (List.mem_of_getElem? (i := 54) rfl))) (hw _ (List.mem_of_getElem? (i := 42) rfl)) (ty := (.array .int)) (by decide) rfl rfl (g := (mkF m 26 #[rv r0] [(.ref b12), (.ref r0)])) rfl rfl (hD d9_26)
  have Fw18 := Fld.same W18 f17
  have N18 := Fr.snoc X18 N11 g_r0
  have Z18 : n0 ≤ h18.size := W18.size ▸ Z12
  have K18 : Keep h0 h18 [r0] := Keep.wr K12 W18 (Or.inl (List.mem_of_getElem? (i := 0) rfl))
  refine own_go st18 ?_
  show Gm p e below T18 m 29 #[rv r0] [] _
  have f19 := (f16.wr W18)
  have f20 := (Fld.other W18 ((Fld.other W11 (Fw5.ext E6) (Or.inr (slot_ne (Or.inl (hw _ (List.mem_of_getElem? (i := 49) rfl))) (Or.inl (hw _ (List.mem_of_getElem? (i := 52) rfl))) (by decide) (t := (.array .byte)) (t' := (.array .int)) (by decide) (by decide)))).ext E12) (Or.inr (slot_ne (Or.inl (hw _ (List.mem_of_getElem? (i := 49) rfl))) (Or.inl (hw _ (List.mem_of_getElem? (i := 54) rfl))) (by decide) (t := (.array .byte)) (t' := (.array .int)) (by decide) (by decide))))
  have f21 := (Fld.other W18 (Fw11.ext E12) (Or.inr (slot_ne (Or.inl (hw _ (List.mem_of_getElem? (i := 52) rfl))) (Or.inl (hw _ (List.mem_of_getElem? (i := 54) rfl))) (by decide) (t := (.array .int)) (t' := (.array .int)) (by decide) (by decide))))
  have f22 := (Fld.other W18 ((Fld.other W11 ((Fld.other W5 (F_used.ext E2) (Or.inr (slot_ne (Or.inl (hw _ (List.mem_of_getElem? (i := 118) rfl))) (Or.inl (hw _ (List.mem_of_getElem? (i := 49) rfl))) (by decide) (t := .int) (t' := (.array .byte)) (by decide) (by decide)))).ext E6) (Or.inr (slot_ne (Or.inl (hw _ (List.mem_of_getElem? (i := 118) rfl))) (Or.inl (hw _ (List.mem_of_getElem? (i := 52) rfl))) (by decide) (t := .int) (t' := (.array .int)) (by decide) (by decide)))).ext E12) (Or.inr (slot_ne (Or.inl (hw _ (List.mem_of_getElem? (i := 118) rfl))) (Or.inl (hw _ (List.mem_of_getElem? (i := 54) rfl))) (by decide) (t := .int) (t' := (.array .int)) (by decide) (by decide))))
  have f23 := (Fld.other W18 ((Fld.other W11 ((Fld.other W5 (F_size.ext E2) (Or.inr (slot_ne (Or.inl (hw _ (List.mem_of_getElem? (i := 120) rfl))) (Or.inl (hw _ (List.mem_of_getElem? (i := 49) rfl))) (by decide) (t := .int) (t' := (.array .byte)) (by decide) (by decide)))).ext E6) (Or.inr (slot_ne (Or.inl (hw _ (List.mem_of_getElem? (i := 120) rfl))) (Or.inl (hw _ (List.mem_of_getElem? (i := 52) rfl))) (by decide) (t := .int) (t' := (.array .int)) (by decide) (by decide)))).ext E12) (Or.inr (slot_ne (Or.inl (hw _ (List.mem_of_getElem? (i := 120) rfl))) (Or.inl (hw _ (List.mem_of_getElem? (i := 54) rfl))) (by decide) (t := .int) (t' := (.array .int)) (by decide) (by decide))))
  have f24 := ((f14.ext E12).other W18 (Ne.symm ne_r0_b2))
  have f25 := ((f15.ext E12).other W18 (Ne.symm ne_r0_b6))
  have f26 := (V12.other W18 (Ne.symm ne_r0_b12))
  exact own_retV X18 hx hlk Bd.returns (hD d9_29) e18 ⟨rfl, N18, K18, ⟨b2, b6, b12, _, _, _, [], [], 0, f19, f20, f21, Fw18, f22, f23, f24, f25, f26, ⟨ne_r0_b2, ne_r0_b6, ne_r0_b12, ne_b2_b6, ne_b2_b12, ne_b6_b12⟩, ⟨g_b2, g_b6, g_b12⟩, ⟨f19.lt, f24.lt, f25.lt, f26.lt⟩, rfl, rfl, Nat.zero_le _, (fun l hl => nomatch hl), (fun k s l q => nomatch q), (fun k j q => nomatch q), fun i _ _ => rfl⟩⟩ (by decide) (by decide)
theorem d25_0 : decode prog_65_method_7_code 0 = .ok (.iconst 1, 1) := by decide +kernel
theorem d25_1 : decode prog_65_method_7_code 1 = .ok (.aload_n 0, 1) := by decide +kernel
theorem d25_2 : decode prog_65_method_7_code 2 = .ok (.getfield 9, 3) := by decide +kernel
theorem d25_5 : decode prog_65_method_7_code 5 = .ok (.aload_n 0, 1) := by decide +kernel
theorem d25_6 : decode prog_65_method_7_code 6 = .ok (.getfield 15, 3) := by decide +kernel
theorem d25_9 : decode prog_65_method_7_code 9 = .ok (.iload_n 1, 1) := by decide +kernel
theorem d25_10 : decode prog_65_method_7_code 10 = .ok (.iaload, 1) := by decide +kernel
theorem d25_11 : decode prog_65_method_7_code 11 = .ok (.baload, 1) := by decide +kernel
theorem d25_12 : decode prog_65_method_7_code 12 = .ok (.iadd, 1) := by decide +kernel
theorem d25_13 : decode prog_65_method_7_code 13 = .ok (.ireturn, 1) := by decide +kernel
theorem own_pn_rmWB : plainName "com/example/design_drills/designdrills/service/listens/IdNumbers" = true := by first | (simp [plainName, overriddenIn]; done) | decide +kernel
theorem own_ef_rmWB (m : MethodId) (r0 : Addr) (p1 : Int32) : entryFrame m #[(.ref r0), (.int p1)] 2 = mkF m 0 #[.val (.ref r0), .val (.int p1)] [] := by first | (simp [entryFrame, mkF, argsToLocals, Value.category]; done) | rfl
def QWB (Z : State) (r0 : Addr) (p1 : Int32) (E : List Nat) (num : Nat) (q1 : Nat) (nB : Nat) (K : Nat) (h0 : Heap) (n0 : Nat) (v : Option Value) (h : Heap) (L : List Loc) : Prop := v = some (.int ((1 : Int32) + (q1.toInt32))) ∧ Fr n0 L ∧ h = h0
set_option maxRecDepth 65536 in
set_option maxHeartbeats 40000000 in
theorem rmWB (l : Launch) (Z : State) (a0 : Array Value) (hw : ∀ d ∈ tables_1, d.before a0 Z = true) (ws : List Jvm.Cond) (r0 : Addr) (p1 : Int32) (E : List Nat) (num : Nat) (q1 : Nat) (nB : Nat) (K : Nat) (h0 : Heap) (n0 : Nat) (Z0 : n0 ≤ h0.size) (H : IN Z h0 nB K r0 E) (hl : E.length ≤ 3) (hg : E[num]? = some q1) (hp : p1 = num.toInt32) :
    MetFree l (⟨"com/example/design_drills/designdrills/service/listens/IdNumbers", "writtenBytes", "(I)I"⟩ : MethodName) (head1 (Jvm.Cond.code (⟨"com/example/design_drills/designdrills/service/listens/IdNumbers", "writtenBytes", "(I)I"⟩ : MethodName) prog_65_method_7_code 2 (some .int) :: ws) ({ frames := 0, cells := 0, slots := 0, locals := 0 } : Room)) (fun a U => a = #[(.ref r0), (.int p1)] ∧ Z.Warmed39 U.vm ∧ U.heap = h0) (fun _ _ _ _ _ => True) (fun _ U o U' => ∃ v L, o = .returned v ∧ QWB Z r0 p1 E num q1 nB K h0 n0 v U'.heap L ∧ FrameEnd U o U' L ({ frames := 0, cells := 0, slots := 0, locals := 0 } : Room).cells ({ frames := 0, cells := 0, slots := 0, locals := 0 } : Room).slots) := by
  refine MetFree.of_bodySF (plainFor_of_name own_pn_rmWB) hisR ?_
  intro p e s m args below meth cO s₁ Bd hml0 hP hK
  obtain ⟨rfl, hZ, hh⟩ := hP
  have hx := Bd.exec
  have hby := Bd.bytes
  have hD := @Jvm.hb _ _ hby
  have hml : cO.maxLocals = 2 := hml0
  have hown : s.vm.findClass "com/example/design_drills/designdrills/service/listens/IdNumbers" = some m.cls := findClass_of_methodNamed Bd.named
  have hnm := (name_of_methodNamed Bd.named Bd.method).1
  have hlk : meth.locks = false := BodyLoose.notSynchronized Bd
  have X0 : Stand p l e ({ frames := 0, cells := 0, slots := 0, locals := 0 } : Room) s m #[(.ref r0), (.int p1)] below meth cO s₁ [] 0 0 := Stand.of_body Bd
  have e0 : s₁.heap = h0 := by rw [← hh, Bd.state]; rfl
  have N0 := Fr.nil n0
  obtain ⟨cb, cs, cl, fb, fs, fl, S, J, U, E_r0, F_b, F_s, F_l, F_u, F_z, Ab, As, Al, -, -, -, hS, hJ, hU, hE, hk, hj, hz⟩ := id H
  obtain ⟨q, hq⟩ := own_get hS hg
  obtain ⟨v1, v2, v3⟩ := hk _ _ _ hq hg
  have hn3 : num < E.length := (List.getElem?_eq_some_iff.mp hg).1
  have hq24 : q < 24 := by omega
  have hn24 : num < 24 := by omega
  refine own_in (own_ef_rmWB m r0 p1) ?_
  show Gm p e below s₁ m 0 #[rv r0, iv p1] [] _
  refine own_go (fun t' k' => XS.iconst X0.here hx rfl (hD d25_0) k') ?_
  refine own_go (fun t' k' => XS.aloadN X0.here hx rfl (hD d25_1) rfl rfl k') ?_
  show Gm p e below s₁ m 2 #[rv r0, iv p1] [(.ref r0), (.int (1 : Int32))] _
  obtain ⟨T1, X1, e1, st1⟩ := getF X0 hx hZ hown (host := "") (Or.inl (hw _ (List.mem_of_getElem? (i := 48) rfl))) Via.refl e0 F_b (g := (mkF m 2 #[rv r0, iv p1] [(.ref r0), (.int (1 : Int32))])) rfl rfl (hD d25_2)
  refine own_go st1 ?_
  refine own_go (fun t' k' => XS.aloadN X1.here hx rfl (hD d25_5) rfl rfl k') ?_
  show Gm p e below T1 m 6 #[rv r0, iv p1] [(.ref r0), (.ref cb), (.int (1 : Int32))] _
  obtain ⟨T2, X2, e2, st2⟩ := getF X1 hx hZ hown (host := "") (Or.inl (hw _ (List.mem_of_getElem? (i := 51) rfl))) Via.refl e1 F_s (g := (mkF m 6 #[rv r0, iv p1] [(.ref r0), (.ref cb), (.int (1 : Int32))])) rfl rfl (hD d25_6)
  refine own_go st2 ?_
  refine own_go (fun t' k' => XS.iloadN X2.here hx rfl (hD d25_9) rfl k') ?_
  show Gm p e below T2 m 10 #[rv r0, iv p1] [(.int p1), (.ref cs), (.ref cb), (.int (1 : Int32))] _
  refine own_go (fun t' k' => own_ldI X2 hx hZ e2 As (j := p1) (k := num) (by rw [hp]; exact (own_tn hn24).1) (by rw [hp]; exact (own_tn hn24).2) (by omega) (w := (.int (q.toInt32))) v1 (g := (mkF m 10 #[rv r0, iv p1] [(.int p1), (.ref cs), (.ref cb), (.int (1 : Int32))])) rfl rfl (hD d25_10) k') ?_
  show Gm p e below T2 m 11 #[rv r0, iv p1] [(.int (q.toInt32)), (.ref cb), (.int (1 : Int32))] _
  refine own_go (fun t' k' => own_ldB X2 hx hZ e2 Ab (j := (q.toInt32)) (k := q) (own_tn hq24).1 (own_tn hq24).2 (by omega) (w := (.int (q1.toInt32))) v2 (g := (mkF m 11 #[rv r0, iv p1] [(.int (q.toInt32)), (.ref cb), (.int (1 : Int32))])) rfl rfl (hD d25_11) k') ?_
  refine own_go (fun t' k' => XS.iadd X2.here hx rfl (hD d25_12) rfl k') ?_
  show Gm p e below T2 m 13 #[rv r0, iv p1] [(.int ((1 : Int32) + (q1.toInt32)))] _
  exact own_retI X2 hx hlk (t := .int) Bd.returns rfl (by simp) (hD d25_13) e2 ⟨rfl, N0, rfl⟩ (by decide) (by decide)
theorem own_pd22 : parseMethodDescriptor "(II)Ljava/lang/String;" = some ⟨[.int, .int], some (.object "java/lang/String")⟩ := by decide +kernel
theorem own_pd23 : parseMethodDescriptor "()V" = some ⟨[], none⟩ := by decide +kernel
theorem own_pd24 : parseMethodDescriptor "(Ljava/lang/String;)I" = some ⟨[(.object "java/lang/String")], some .int⟩ := by decide +kernel
theorem own_pd25 : parseMethodDescriptor "()I" = some ⟨[], some .int⟩ := by decide +kernel
theorem own_pn_rm0 : plainName "com/example/design_drills/designdrills/service/listens/IdNumbersWrittenBytesPinLaw" = true := by first | (simp [plainName, overriddenIn]; done) | decide +kernel
theorem own_ef_rm0 (m : MethodId) (p0 : Int32) (p1 : Int32) (p2 : Int32) (p3 : Int32) : entryFrame m #[(.int p0), (.int p1), (.int p2), (.int p3)] maxLocals = mkF m 0 #[.val (.int p0), .val (.int p1), .val (.int p2), .val (.int p3), .unset, .unset, .unset, .unset, .unset, .unset, .unset, .unset, .unset, .unset] [] := by first | (simp [entryFrame, mkF, argsToLocals, Value.category, maxLocals]; done) | rfl
def Q0 (Z : State) (p0 : Int32) (p1 : Int32) (p2 : Int32) (p3 : Int32) (cs : Int32) (a8 : Addr) (aI : Addr) (aU : Addr) (h0 : Heap) (n0 : Nat) (v : Option Value) (h : Heap) (L : List Loc) : Prop := v = some (.int 1) ∧ Fr n0 L
set_option maxRecDepth 65536 in
set_option maxHeartbeats 40000000 in
theorem rm0 (l : Launch) (Z : State) (a0 : Array Value) (hw : ∀ d ∈ tables_1, d.before a0 Z = true) (ws : List Jvm.Cond) (p0 : Int32) (p1 : Int32) (p2 : Int32) (p3 : Int32) (cs : Int32) (a8 : Addr) (aI : Addr) (aU : Addr) (h0 : Heap) (n0 : Nat) (Z0 : n0 ≤ h0.size) (S_c : Sta Z h0 "java/lang/String" "COMPACT_STRINGS" "Z" (.int cs)) (hcs : ¬ cs = 0) (S_8 : Sta Z h0 "sun/nio/cs/UTF_8" "INSTANCE" "Lsun/nio/cs/UTF_8;" (.ref a8)) (S_i : Sta Z h0 "sun/nio/cs/ISO_8859_1" "INSTANCE" "Lsun/nio/cs/ISO_8859_1;" (.ref aI)) (S_a : Sta Z h0 "sun/nio/cs/US_ASCII" "INSTANCE" "Lsun/nio/cs/US_ASCII;" (.ref aU)) (S_u : Sta Z h0 "java/nio/charset/StandardCharsets" "US_ASCII" "Ljava/nio/charset/Charset;" (.ref aU)) (n8 : aU ≠ a8) (nI : aU ≠ aI) :
    MetFree l x (head1 (Jvm.Cond.code x code maxLocals ret :: ws) room_1) (fun a U => a = #[(.int p0), (.int p1), (.int p2), (.int p3)] ∧ Z.Warmed39 U.vm ∧ U.heap = h0 ∧ CHv Z own_EL U.vm h0 ∧ ∀ x ∈ ([] : List Addr), Safe Z own_EL U.vm h0 x) (fun _ _ _ _ _ => True) (fun _ U o U' => ∃ v L, o = .returned v ∧ Q0 Z p0 p1 p2 p3 cs a8 aI aU h0 n0 v U'.heap L ∧ CHr Z own_EL U.vm U.heap U'.vm U'.heap ∧ ReturnedEndW U o U' L room_1.cells room_1.slots) := by
  refine MetFree.of_bodySF (plainFor_of_name own_pn_rm0) hisR ?_
  intro p e s m args below meth cO s₁ Bd hml0 hP hK
  obtain ⟨rfl, hZ, hh, hH, hsf⟩ := hP
  have hZ : Z.Warmed39 (s.setVm s.vm).vm := hZ
  have hx := Bd.exec
  have hby := Bd.bytes
  have hD := @Jvm.hb _ _ hby
  have hml : cO.maxLocals = 14 := hml0
  have hown : (s.setVm s.vm).vm.findClass "com/example/design_drills/designdrills/service/listens/IdNumbersWrittenBytesPinLaw" = some m.cls := findClass_of_methodNamed Bd.named
  have hnm := (name_of_methodNamed Bd.named Bd.method).1
  have hlk : meth.locks = false := BodyLoose.notSynchronized Bd
  have X0 : Stand p l e room_1 (s.setVm s.vm) m #[(.int p0), (.int p1), (.int p2), (.int p3)] below meth cO s₁ [] 0 0 := Stand.of_body Bd
  have hS0 : s.Since s.vm h0.size := (State.WarmedH.refl s).since _
  have hk0 : h0.size ≤ h0.size := Nat.le_refl _
  have C0 : CHr Z own_EL s.vm s.heap s.vm h0 := by rw [hh]; exact CHr.refl hH
  have e0 : s₁.heap = h0 := by rw [← hh, Bd.state]; rfl
  have N0 := Fr.nil n0
  refine own_in (own_ef_rm0 m p0 p1 p2 p3) ?_
  show Gm p e below s₁ m 0 #[iv p0, iv p1, iv p2, iv p3, .unset, .unset, .unset, .unset, .unset, .unset, .unset, .unset, .unset, .unset] [] _
  refine own_go (fun t' k' => XS.iloadN X0.here hx rfl (hD at_0) rfl k') ?_
  refine own_go (fun t' k' => XS.sipush X0.here hx rfl (hD at_1) k') ?_
  refine own_go (fun t' k' => XS.iand X0.here hx rfl (hD at_4) rfl k') ?_
  show Gm p e below s₁ m 5 #[iv p0, iv p1, iv p2, iv p3, .unset, .unset, .unset, .unset, .unset, .unset, .unset, .unset, .unset, .unset] [(.int (p3 &&& (255 : Int32)))] _
  refine own_go (fun t' k' => XS.iconst X0.here hx rfl (hD at_5) k') ?_
  show Gm p e below s₁ m 6 #[iv p0, iv p1, iv p2, iv p3, .unset, .unset, .unset, .unset, .unset, .unset, .unset, .unset, .unset, .unset] [(.int (5 : Int32)), (.int (p3 &&& (255 : Int32)))] _
  refine own_go (fun t' k' => iremM X0 hx rfl (hD at_6) rfl (by decide) k') ?_
  refine own_go (fun t' k' => XS.istore X0.here hx rfl (hD at_7) rfl (l' := #[iv p0, iv p1, iv p2, iv p3, iv ((p3 &&& (255 : Int32)) % (5 : Int32)), .unset, .unset, .unset, .unset, .unset, .unset, .unset, .unset, .unset]) rfl k') ?_
  refine own_go (fun t' k' => XS.iloadN X0.here hx rfl (hD at_9) rfl k') ?_
  show Gm p e below s₁ m 10 #[iv p0, iv p1, iv p2, iv p3, iv ((p3 &&& (255 : Int32)) % (5 : Int32)), .unset, .unset, .unset, .unset, .unset, .unset, .unset, .unset, .unset] [(.int p3)] _
  refine own_go (fun t' k' => XS.bipush X0.here hx rfl (hD at_10) k') ?_
  refine own_go (fun t' k' => XS.iushr X0.here hx rfl (hD at_12) rfl k') ?_
  refine own_go (fun t' k' => XS.sipush X0.here hx rfl (hD at_13) k') ?_
  show Gm p e below s₁ m 16 #[iv p0, iv p1, iv p2, iv p3, iv ((p3 &&& (255 : Int32)) % (5 : Int32)), .unset, .unset, .unset, .unset, .unset, .unset, .unset, .unset, .unset] [(.int (255 : Int32)), (.int ((p3.toUInt32 >>> ((8 : Int32) &&& 31).toUInt32).toInt32))] _
  refine own_go (fun t' k' => XS.iand X0.here hx rfl (hD at_16) rfl k') ?_
  refine own_go (fun t' k' => XS.iconst X0.here hx rfl (hD at_17) k') ?_
  show Gm p e below s₁ m 18 #[iv p0, iv p1, iv p2, iv p3, iv ((p3 &&& (255 : Int32)) % (5 : Int32)), .unset, .unset, .unset, .unset, .unset, .unset, .unset, .unset, .unset] [(.int (5 : Int32)), (.int (((p3.toUInt32 >>> ((8 : Int32) &&& 31).toUInt32).toInt32) &&& (255 : Int32)))] _
  refine own_go (fun t' k' => iremM X0 hx rfl (hD at_18) rfl (by decide) k') ?_
  refine own_go (fun t' k' => XS.istore X0.here hx rfl (hD at_19) rfl (l' := #[iv p0, iv p1, iv p2, iv p3, iv ((p3 &&& (255 : Int32)) % (5 : Int32)), iv ((((p3.toUInt32 >>> ((8 : Int32) &&& 31).toUInt32).toInt32) &&& (255 : Int32)) % (5 : Int32)), .unset, .unset, .unset, .unset, .unset, .unset, .unset, .unset]) rfl k') ?_
  refine own_go (fun t' k' => XS.iloadN X0.here hx rfl (hD at_21) rfl k') ?_
  show Gm p e below s₁ m 22 #[iv p0, iv p1, iv p2, iv p3, iv ((p3 &&& (255 : Int32)) % (5 : Int32)), iv ((((p3.toUInt32 >>> ((8 : Int32) &&& 31).toUInt32).toInt32) &&& (255 : Int32)) % (5 : Int32)), .unset, .unset, .unset, .unset, .unset, .unset, .unset, .unset] [(.int p3)] _
  refine own_go (fun t' k' => XS.bipush X0.here hx rfl (hD at_22) k') ?_
  refine own_go (fun t' k' => XS.iushr X0.here hx rfl (hD at_24) rfl k') ?_
  refine own_go (fun t' k' => XS.sipush X0.here hx rfl (hD at_25) k') ?_
  show Gm p e below s₁ m 28 #[iv p0, iv p1, iv p2, iv p3, iv ((p3 &&& (255 : Int32)) % (5 : Int32)), iv ((((p3.toUInt32 >>> ((8 : Int32) &&& 31).toUInt32).toInt32) &&& (255 : Int32)) % (5 : Int32)), .unset, .unset, .unset, .unset, .unset, .unset, .unset, .unset] [(.int (255 : Int32)), (.int ((p3.toUInt32 >>> ((16 : Int32) &&& 31).toUInt32).toInt32))] _
  refine own_go (fun t' k' => XS.iand X0.here hx rfl (hD at_28) rfl k') ?_
  refine own_go (fun t' k' => XS.iconst X0.here hx rfl (hD at_29) k') ?_
  show Gm p e below s₁ m 30 #[iv p0, iv p1, iv p2, iv p3, iv ((p3 &&& (255 : Int32)) % (5 : Int32)), iv ((((p3.toUInt32 >>> ((8 : Int32) &&& 31).toUInt32).toInt32) &&& (255 : Int32)) % (5 : Int32)), .unset, .unset, .unset, .unset, .unset, .unset, .unset, .unset] [(.int (5 : Int32)), (.int (((p3.toUInt32 >>> ((16 : Int32) &&& 31).toUInt32).toInt32) &&& (255 : Int32)))] _
  refine own_go (fun t' k' => iremM X0 hx rfl (hD at_30) rfl (by decide) k') ?_
  refine own_go (fun t' k' => XS.istore X0.here hx rfl (hD at_31) rfl (l' := #[iv p0, iv p1, iv p2, iv p3, iv ((p3 &&& (255 : Int32)) % (5 : Int32)), iv ((((p3.toUInt32 >>> ((8 : Int32) &&& 31).toUInt32).toInt32) &&& (255 : Int32)) % (5 : Int32)), iv ((((p3.toUInt32 >>> ((16 : Int32) &&& 31).toUInt32).toInt32) &&& (255 : Int32)) % (5 : Int32)), .unset, .unset, .unset, .unset, .unset, .unset, .unset]) rfl k') ?_
  refine own_go (fun t' k' => XS.iloadN X0.here hx rfl (hD at_33) rfl k') ?_
  show Gm p e below s₁ m 34 #[iv p0, iv p1, iv p2, iv p3, iv ((p3 &&& (255 : Int32)) % (5 : Int32)), iv ((((p3.toUInt32 >>> ((8 : Int32) &&& 31).toUInt32).toInt32) &&& (255 : Int32)) % (5 : Int32)), iv ((((p3.toUInt32 >>> ((16 : Int32) &&& 31).toUInt32).toInt32) &&& (255 : Int32)) % (5 : Int32)), .unset, .unset, .unset, .unset, .unset, .unset, .unset] [(.int p0)] _
  refine own_go (fun t' k' => XS.iload X0.here hx rfl (hD at_34) rfl k') ?_
  show Gm p e below s₁ m 36 #[iv p0, iv p1, iv p2, iv p3, iv ((p3 &&& (255 : Int32)) % (5 : Int32)), iv ((((p3.toUInt32 >>> ((8 : Int32) &&& 31).toUInt32).toInt32) &&& (255 : Int32)) % (5 : Int32)), iv ((((p3.toUInt32 >>> ((16 : Int32) &&& 31).toUInt32).toInt32) &&& (255 : Int32)) % (5 : Int32)), .unset, .unset, .unset, .unset, .unset, .unset, .unset] [(.int ((p3 &&& (255 : Int32)) % (5 : Int32))), (.int p0)] _
  obtain ⟨_, _, ⟨T1, L1, q1, n1⟩, -, X1, hs1, hg1, ⟨Lc1, hQ1, l1, y1, z1, Cs1⟩, st1⟩ := callSS X0 hx (y := (⟨"com/example/design_drills/designdrills/service/listens/IdNumbersWrittenBytesPinLaw", "id", "(II)Ljava/lang/String;"⟩ : MethodName)) hown (mvT hZ (hw _ (List.mem_of_getElem? (i := 0) rfl))) (mvT hZ (hw _ (List.mem_of_getElem? (i := 1) rfl))) (mvT hZ (hw _ (List.mem_of_getElem? (i := 2) rfl))) (mvT hZ (hw _ (List.mem_of_getElem? (i := 3) rfl))) (by decide) (own_backW (W := 0) (rmS l Z a0 hw [] p0 ((p3 &&& (255 : Int32)) % (5 : Int32)) cs h0 n0 Z0 S_c hcs) hZ (hw _ (List.mem_of_getElem? (i := 3) rfl)) (hw _ (List.mem_of_getElem? (i := 2) rfl)) (by decide) (by decide) (own_ew hw) C0.1 own_hs0) (g := (mkF m 36 #[iv p0, iv p1, iv p2, iv p3, iv ((p3 &&& (255 : Int32)) % (5 : Int32)), iv ((((p3.toUInt32 >>> ((8 : Int32) &&& 31).toUInt32).toInt32) &&& (255 : Int32)) % (5 : Int32)), iv ((((p3.toUInt32 >>> ((16 : Int32) &&& 31).toUInt32).toInt32) &&& (255 : Int32)) % (5 : Int32)), .unset, .unset, .unset, .unset, .unset, .unset, .unset] [(.int ((p3 &&& (255 : Int32)) % (5 : Int32))), (.int p0)])) rfl (by rw [hml]; rfl) (argsL := [(.int p0), (.int ((p3 &&& (255 : Int32)) % (5 : Int32)))]) (rest := []) (lenOf own_pd22 rfl) rfl (by show 2 * 0 + _ ≤ _; exact Nat.le_of_eq rfl) (hD at_36) (fun _ _ => ⟨rfl, e0, (by decide : 0 + 6 ≤ _), (by decide : 0 + 12 ≤ _)⟩)
  dsimp only [Pt.U, Pt.locs, Pt.cells, Pt.slots] at X1 hs1 hg1 l1 y1 z1 st1 hQ1 Cs1
  subst l1 y1 z1
  have hS1 : s.Since T1.vm T1.heap.size := foldS hS0 (by rw [e0]; exact hk0) hs1 hg1
  have hZ : Z.Warmed39 (s.setVm T1.vm).vm := State.Warmed39.trans (t := s.setVm s.vm) hZ hs1.1
  have hown : (s.setVm T1.vm).vm.findClass "com/example/design_drills/designdrills/service/listens/IdNumbersWrittenBytesPinLaw" = some m.cls := by rw [show (s.setVm T1.vm).vm = T1.vm from rfl, hs1.1.alike.findClass]; exact hown
  have X1 : Stand p l e _ (s.setVm T1.vm) m _ below meth cO T1 _ _ _ := X1
  have hk1 : T1.heap.size ≤ T1.heap.size := Nat.le_refl _
  obtain ⟨xs1, bs1, _, fs1, rfl, Nq1, Ex1, Ec1, Fc1, Fv1, Eb1, As1, rfl⟩ := hQ1
  have N1 := Fr.app N0 Nq1
  have C1 := CHr.trans C0 Cs1
  refine own_go (fun t k => st1.trans k) ?_
  have Z1 : n0 ≤ T1.heap.size := Nat.le_trans Z0 Ex1.1
  refine own_go (fun t' k' => XS.astore X1.here hx rfl (hD at_39) rfl rfl (l' := #[iv p0, iv p1, iv p2, iv p3, iv ((p3 &&& (255 : Int32)) % (5 : Int32)), iv ((((p3.toUInt32 >>> ((8 : Int32) &&& 31).toUInt32).toInt32) &&& (255 : Int32)) % (5 : Int32)), iv ((((p3.toUInt32 >>> ((16 : Int32) &&& 31).toUInt32).toInt32) &&& (255 : Int32)) % (5 : Int32)), rv xs1, .unset, .unset, .unset, .unset, .unset, .unset]) rfl k') ?_
  refine own_go (fun t' k' => XS.iloadN X1.here hx rfl (hD at_41) rfl k') ?_
  show Gm p e below T1 m 42 #[iv p0, iv p1, iv p2, iv p3, iv ((p3 &&& (255 : Int32)) % (5 : Int32)), iv ((((p3.toUInt32 >>> ((8 : Int32) &&& 31).toUInt32).toInt32) &&& (255 : Int32)) % (5 : Int32)), iv ((((p3.toUInt32 >>> ((16 : Int32) &&& 31).toUInt32).toInt32) &&& (255 : Int32)) % (5 : Int32)), rv xs1, .unset, .unset, .unset, .unset, .unset, .unset] [(.int p1)] _
  refine own_go (fun t' k' => XS.iload X1.here hx rfl (hD at_42) rfl k') ?_
  show Gm p e below T1 m 44 #[iv p0, iv p1, iv p2, iv p3, iv ((p3 &&& (255 : Int32)) % (5 : Int32)), iv ((((p3.toUInt32 >>> ((8 : Int32) &&& 31).toUInt32).toInt32) &&& (255 : Int32)) % (5 : Int32)), iv ((((p3.toUInt32 >>> ((16 : Int32) &&& 31).toUInt32).toInt32) &&& (255 : Int32)) % (5 : Int32)), rv xs1, .unset, .unset, .unset, .unset, .unset, .unset] [(.int ((((p3.toUInt32 >>> ((8 : Int32) &&& 31).toUInt32).toInt32) &&& (255 : Int32)) % (5 : Int32))), (.int p1)] _
  have f2 := (S_c.ext Ex1)
  obtain ⟨_, _, ⟨T3, L3, q3, n3⟩, -, X3, hs3, hg3, ⟨Lc3, hQ3, l3, y3, z3, Cs3⟩, st3⟩ := callSS X1 hx (y := (⟨"com/example/design_drills/designdrills/service/listens/IdNumbersWrittenBytesPinLaw", "id", "(II)Ljava/lang/String;"⟩ : MethodName)) hown (mvT hZ (hw _ (List.mem_of_getElem? (i := 0) rfl))) (mvT hZ (hw _ (List.mem_of_getElem? (i := 1) rfl))) (mvT hZ (hw _ (List.mem_of_getElem? (i := 2) rfl))) (mvT hZ (hw _ (List.mem_of_getElem? (i := 3) rfl))) (by decide) (own_backW (W := 0) (rmS l Z a0 hw [] p1 ((((p3.toUInt32 >>> ((8 : Int32) &&& 31).toUInt32).toInt32) &&& (255 : Int32)) % (5 : Int32)) cs T1.heap n0 Z1 f2 hcs) hZ (hw _ (List.mem_of_getElem? (i := 3) rfl)) (hw _ (List.mem_of_getElem? (i := 2) rfl)) (by decide) (by decide) (own_ew hw) C1.1 own_hs0) (g := (mkF m 44 #[iv p0, iv p1, iv p2, iv p3, iv ((p3 &&& (255 : Int32)) % (5 : Int32)), iv ((((p3.toUInt32 >>> ((8 : Int32) &&& 31).toUInt32).toInt32) &&& (255 : Int32)) % (5 : Int32)), iv ((((p3.toUInt32 >>> ((16 : Int32) &&& 31).toUInt32).toInt32) &&& (255 : Int32)) % (5 : Int32)), rv xs1, .unset, .unset, .unset, .unset, .unset, .unset] [(.int ((((p3.toUInt32 >>> ((8 : Int32) &&& 31).toUInt32).toInt32) &&& (255 : Int32)) % (5 : Int32))), (.int p1)])) rfl (by rw [hml]; rfl) (argsL := [(.int p1), (.int ((((p3.toUInt32 >>> ((8 : Int32) &&& 31).toUInt32).toInt32) &&& (255 : Int32)) % (5 : Int32)))]) (rest := []) (lenOf own_pd22 rfl) rfl (by show 2 * 0 + _ ≤ _; exact Nat.le_of_eq rfl) (hD at_44) (fun _ _ => ⟨rfl, rfl, (by decide : 6 + 6 ≤ _), (by decide : 12 + 12 ≤ _)⟩)
  dsimp only [Pt.U, Pt.locs, Pt.cells, Pt.slots] at X3 hs3 hg3 l3 y3 z3 st3 hQ3 Cs3
  subst l3 y3 z3
  have hS3 : s.Since T3.vm T3.heap.size := foldS hS1 hk1 hs3 hg3
  have hZ : Z.Warmed39 (s.setVm T3.vm).vm := State.Warmed39.trans (t := s.setVm T1.vm) hZ hs3.1
  have hown : (s.setVm T3.vm).vm.findClass "com/example/design_drills/designdrills/service/listens/IdNumbersWrittenBytesPinLaw" = some m.cls := by rw [show (s.setVm T3.vm).vm = T3.vm from rfl, hs3.1.alike.findClass]; exact hown
  have X3 : Stand p l e _ (s.setVm T3.vm) m _ below meth cO T3 _ _ _ := X3
  have hk3 : T3.heap.size ≤ T3.heap.size := Nat.le_refl _
  obtain ⟨xs3, bs3, _, fs3, rfl, Nq3, Ex3, Ec3, Fc3, Fv3, Eb3, As3, rfl⟩ := hQ3
  have N3 := Fr.app N1 Nq3
  have C3 := CHr.trans C1 Cs3
  refine own_go (fun t k => st3.trans k) ?_
  have Z3 : n0 ≤ T3.heap.size := Nat.le_trans Z1 Ex3.1
  refine own_go (fun t' k' => XS.astore X3.here hx rfl (hD at_47) rfl rfl (l' := #[iv p0, iv p1, iv p2, iv p3, iv ((p3 &&& (255 : Int32)) % (5 : Int32)), iv ((((p3.toUInt32 >>> ((8 : Int32) &&& 31).toUInt32).toInt32) &&& (255 : Int32)) % (5 : Int32)), iv ((((p3.toUInt32 >>> ((16 : Int32) &&& 31).toUInt32).toInt32) &&& (255 : Int32)) % (5 : Int32)), rv xs1, rv xs3, .unset, .unset, .unset, .unset, .unset]) rfl k') ?_
  refine own_go (fun t' k' => XS.iloadN X3.here hx rfl (hD at_49) rfl k') ?_
  show Gm p e below T3 m 50 #[iv p0, iv p1, iv p2, iv p3, iv ((p3 &&& (255 : Int32)) % (5 : Int32)), iv ((((p3.toUInt32 >>> ((8 : Int32) &&& 31).toUInt32).toInt32) &&& (255 : Int32)) % (5 : Int32)), iv ((((p3.toUInt32 >>> ((16 : Int32) &&& 31).toUInt32).toInt32) &&& (255 : Int32)) % (5 : Int32)), rv xs1, rv xs3, .unset, .unset, .unset, .unset, .unset] [(.int p2)] _
  refine own_go (fun t' k' => XS.iload X3.here hx rfl (hD at_50) rfl k') ?_
  show Gm p e below T3 m 52 #[iv p0, iv p1, iv p2, iv p3, iv ((p3 &&& (255 : Int32)) % (5 : Int32)), iv ((((p3.toUInt32 >>> ((8 : Int32) &&& 31).toUInt32).toInt32) &&& (255 : Int32)) % (5 : Int32)), iv ((((p3.toUInt32 >>> ((16 : Int32) &&& 31).toUInt32).toInt32) &&& (255 : Int32)) % (5 : Int32)), rv xs1, rv xs3, .unset, .unset, .unset, .unset, .unset] [(.int ((((p3.toUInt32 >>> ((16 : Int32) &&& 31).toUInt32).toInt32) &&& (255 : Int32)) % (5 : Int32))), (.int p2)] _
  have f4 := (f2.ext Ex3)
  obtain ⟨_, _, ⟨T5, L5, q5, n5⟩, -, X5, hs5, hg5, ⟨Lc5, hQ5, l5, y5, z5, Cs5⟩, st5⟩ := callSS X3 hx (y := (⟨"com/example/design_drills/designdrills/service/listens/IdNumbersWrittenBytesPinLaw", "id", "(II)Ljava/lang/String;"⟩ : MethodName)) hown (mvT hZ (hw _ (List.mem_of_getElem? (i := 0) rfl))) (mvT hZ (hw _ (List.mem_of_getElem? (i := 1) rfl))) (mvT hZ (hw _ (List.mem_of_getElem? (i := 2) rfl))) (mvT hZ (hw _ (List.mem_of_getElem? (i := 3) rfl))) (by decide) (own_backW (W := 0) (rmS l Z a0 hw [] p2 ((((p3.toUInt32 >>> ((16 : Int32) &&& 31).toUInt32).toInt32) &&& (255 : Int32)) % (5 : Int32)) cs T3.heap n0 Z3 f4 hcs) hZ (hw _ (List.mem_of_getElem? (i := 3) rfl)) (hw _ (List.mem_of_getElem? (i := 2) rfl)) (by decide) (by decide) (own_ew hw) C3.1 own_hs0) (g := (mkF m 52 #[iv p0, iv p1, iv p2, iv p3, iv ((p3 &&& (255 : Int32)) % (5 : Int32)), iv ((((p3.toUInt32 >>> ((8 : Int32) &&& 31).toUInt32).toInt32) &&& (255 : Int32)) % (5 : Int32)), iv ((((p3.toUInt32 >>> ((16 : Int32) &&& 31).toUInt32).toInt32) &&& (255 : Int32)) % (5 : Int32)), rv xs1, rv xs3, .unset, .unset, .unset, .unset, .unset] [(.int ((((p3.toUInt32 >>> ((16 : Int32) &&& 31).toUInt32).toInt32) &&& (255 : Int32)) % (5 : Int32))), (.int p2)])) rfl (by rw [hml]; rfl) (argsL := [(.int p2), (.int ((((p3.toUInt32 >>> ((16 : Int32) &&& 31).toUInt32).toInt32) &&& (255 : Int32)) % (5 : Int32)))]) (rest := []) (lenOf own_pd22 rfl) rfl (by show 2 * 0 + _ ≤ _; exact Nat.le_of_eq rfl) (hD at_52) (fun _ _ => ⟨rfl, rfl, (by decide : 12 + 6 ≤ _), (by decide : 24 + 12 ≤ _)⟩)
  dsimp only [Pt.U, Pt.locs, Pt.cells, Pt.slots] at X5 hs5 hg5 l5 y5 z5 st5 hQ5 Cs5
  subst l5 y5 z5
  have hS5 : s.Since T5.vm T5.heap.size := foldS hS3 hk3 hs5 hg5
  have hZ : Z.Warmed39 (s.setVm T5.vm).vm := State.Warmed39.trans (t := s.setVm T3.vm) hZ hs5.1
  have hown : (s.setVm T5.vm).vm.findClass "com/example/design_drills/designdrills/service/listens/IdNumbersWrittenBytesPinLaw" = some m.cls := by rw [show (s.setVm T5.vm).vm = T5.vm from rfl, hs5.1.alike.findClass]; exact hown
  have X5 : Stand p l e _ (s.setVm T5.vm) m _ below meth cO T5 _ _ _ := X5
  have hk5 : T5.heap.size ≤ T5.heap.size := Nat.le_refl _
  obtain ⟨xs5, bs5, _, fs5, rfl, Nq5, Ex5, Ec5, Fc5, Fv5, Eb5, As5, rfl⟩ := hQ5
  have N5 := Fr.app N3 Nq5
  have C5 := CHr.trans C3 Cs5
  refine own_go (fun t k => st5.trans k) ?_
  have Z5 : n0 ≤ T5.heap.size := Nat.le_trans Z3 Ex5.1
  refine own_go (fun t' k' => XS.astore X5.here hx rfl (hD at_55) rfl rfl (l' := #[iv p0, iv p1, iv p2, iv p3, iv ((p3 &&& (255 : Int32)) % (5 : Int32)), iv ((((p3.toUInt32 >>> ((8 : Int32) &&& 31).toUInt32).toInt32) &&& (255 : Int32)) % (5 : Int32)), iv ((((p3.toUInt32 >>> ((16 : Int32) &&& 31).toUInt32).toInt32) &&& (255 : Int32)) % (5 : Int32)), rv xs1, rv xs3, rv xs5, .unset, .unset, .unset, .unset]) rfl k') ?_
  have f6 := ((Ec1.ext Ex3).ext Ex5)
  have f7 := ((Fc1.ext Ex3).ext Ex5)
  have f8 := ((Fv1.ext Ex3).ext Ex5)
  have f9 := ((Eb1.ext Ex3).ext Ex5)
  have f10 := ((As1.ext Ex3).ext Ex5)
  have f11 := (Ec3.ext Ex5)
  have f12 := (Fc3.ext Ex5)
  have f13 := (Fv3.ext Ex5)
  have f14 := (Eb3.ext Ex5)
  have f15 := (As3.ext Ex5)
  have f16 := (f4.ext Ex5)
  have f17 := (((S_8.ext Ex1).ext Ex3).ext Ex5)
  have f18 := (((S_i.ext Ex1).ext Ex3).ext Ex5)
  have f19 := (((S_a.ext Ex1).ext Ex3).ext Ex5)
  have f20 := (((S_u.ext Ex1).ext Ex3).ext Ex5)
  show Gm p e below T5 m 57 #[iv p0, iv p1, iv p2, iv p3, iv ((p3 &&& (255 : Int32)) % (5 : Int32)), iv ((((p3.toUInt32 >>> ((8 : Int32) &&& 31).toUInt32).toInt32) &&& (255 : Int32)) % (5 : Int32)), iv ((((p3.toUInt32 >>> ((16 : Int32) &&& 31).toUInt32).toInt32) &&& (255 : Int32)) % (5 : Int32)), rv xs1, rv xs3, rv xs5, .unset, .unset, .unset, .unset] [] _
  obtain ⟨T21, h21, X21, e21, E21, A21, D21, -, st21⟩ := newO X5 hx hZ hown (hw _ (List.mem_of_getElem? (i := 41) rfl)) (hw _ (List.mem_of_getElem? (i := 42) rfl)) (hw _ (List.mem_of_getElem? (i := 43) rfl)) rfl (g := (mkF m 57 #[iv p0, iv p1, iv p2, iv p3, iv ((p3 &&& (255 : Int32)) % (5 : Int32)), iv ((((p3.toUInt32 >>> ((8 : Int32) &&& 31).toUInt32).toInt32) &&& (255 : Int32)) % (5 : Int32)), iv ((((p3.toUInt32 >>> ((16 : Int32) &&& 31).toUInt32).toInt32) &&& (255 : Int32)) % (5 : Int32)), rv xs1, rv xs3, rv xs5, .unset, .unset, .unset, .unset] [])) rfl (hD at_57) (by decide) (by decide)
  obtain ⟨b21, g21⟩ : ∃ z, z = T5.heap.size := ⟨_, rfl⟩
  rw [← g21] at A21 D21 st21
  have g_b21 : n0 ≤ b21 := Nat.le_trans Z5 (Nat.le_of_eq g21.symm)
  have ne_xs1_b21 : xs1 ≠ b21 := Nat.ne_of_lt (Nat.lt_of_lt_of_le f6.lt (Nat.le_of_eq g21.symm))
  have ne_bs1_b21 : bs1 ≠ b21 := Nat.ne_of_lt (Nat.lt_of_lt_of_le f9.lt (Nat.le_of_eq g21.symm))
  have ne_xs3_b21 : xs3 ≠ b21 := Nat.ne_of_lt (Nat.lt_of_lt_of_le f11.lt (Nat.le_of_eq g21.symm))
  have ne_bs3_b21 : bs3 ≠ b21 := Nat.ne_of_lt (Nat.lt_of_lt_of_le f14.lt (Nat.le_of_eq g21.symm))
  have ne_xs5_b21 : xs5 ≠ b21 := Nat.ne_of_lt (Nat.lt_of_lt_of_le Ec5.lt (Nat.le_of_eq g21.symm))
  have ne_bs5_b21 : bs5 ≠ b21 := Nat.ne_of_lt (Nat.lt_of_lt_of_le Eb5.lt (Nat.le_of_eq g21.symm))
  have Z21 : n0 ≤ h21.size := Nat.le_trans Z5 E21.1
  have F_bytes_b21 : Fld Z h21 b21 "com/example/design_drills/designdrills/service/listens/IdNumbers" "bytes" "[B" .null := D21 (Or.inl (hw _ (List.mem_of_getElem? (i := 49) rfl))) (ty := (.array .byte)) (by decide)
  have F_starts_b21 : Fld Z h21 b21 "com/example/design_drills/designdrills/service/listens/IdNumbers" "starts" "[I" .null := D21 (Or.inl (hw _ (List.mem_of_getElem? (i := 52) rfl))) (ty := (.array .int)) (by decide)
  have F_slots_b21 : Fld Z h21 b21 "com/example/design_drills/designdrills/service/listens/IdNumbers" "slots" "[I" .null := D21 (Or.inl (hw _ (List.mem_of_getElem? (i := 54) rfl))) (ty := (.array .int)) (by decide)
  have F_used_b21 : Fld Z h21 b21 "com/example/design_drills/designdrills/service/listens/IdNumbers" "used" "I" (.int (0 : Int32)) := D21 (Or.inl (hw _ (List.mem_of_getElem? (i := 118) rfl))) (ty := .int) (by decide)
  have F_size_b21 : Fld Z h21 b21 "com/example/design_drills/designdrills/service/listens/IdNumbers" "size" "I" (.int (0 : Int32)) := D21 (Or.inl (hw _ (List.mem_of_getElem? (i := 120) rfl))) (ty := .int) (by decide)
  refine own_go st21 ?_
  refine own_go (fun t' k' => XS.dup X21.here hx rfl (hD at_60) rfl rfl k') ?_
  show Gm p e below T21 m 61 #[iv p0, iv p1, iv p2, iv p3, iv ((p3 &&& (255 : Int32)) % (5 : Int32)), iv ((((p3.toUInt32 >>> ((8 : Int32) &&& 31).toUInt32).toInt32) &&& (255 : Int32)) % (5 : Int32)), iv ((((p3.toUInt32 >>> ((16 : Int32) &&& 31).toUInt32).toInt32) &&& (255 : Int32)) % (5 : Int32)), rv xs1, rv xs3, rv xs5, .unset, .unset, .unset, .unset] [(.ref b21), (.ref b21)] _
  obtain ⟨_, _, ⟨T22, L22, k22, n22⟩, -, X22, ⟨Lc22, hQ22, l22, y22, z22⟩, st22⟩ := X21.specialBack hx (y := (⟨"com/example/design_drills/designdrills/service/listens/IdNumbers", "<init>", "()V"⟩ : MethodName)) rfl hown (mvT hZ (hw _ (List.mem_of_getElem? (i := 44) rfl))) (mvT hZ (hw _ (List.mem_of_getElem? (i := 45) rfl))) (mvT hZ (hw _ (List.mem_of_getElem? (i := 46) rfl))) (by decide) (backOf (W := 1) (rmIni l Z a0 hw [] b21 h21 T5.heap.size E21.1 A21 F_bytes_b21 F_starts_b21 F_slots_b21 F_used_b21 F_size_b21 (Nat.le_of_eq g21.symm)) hZ (hw _ (List.mem_of_getElem? (i := 46) rfl)) (hw _ (List.mem_of_getElem? (i := 43) rfl)) (by decide) (by decide)) (g := (mkF m 61 #[iv p0, iv p1, iv p2, iv p3, iv ((p3 &&& (255 : Int32)) % (5 : Int32)), iv ((((p3.toUInt32 >>> ((8 : Int32) &&& 31).toUInt32).toInt32) &&& (255 : Int32)) % (5 : Int32)), iv ((((p3.toUInt32 >>> ((16 : Int32) &&& 31).toUInt32).toInt32) &&& (255 : Int32)) % (5 : Int32)), rv xs1, rv xs3, rv xs5, .unset, .unset, .unset, .unset] [(.ref b21), (.ref b21)])) rfl (by rw [hml]; rfl) (Steps.refl _) (a := b21) (argsL := []) (rest := [(.ref b21)]) (lenOf own_pd23 rfl) rfl (by show 2 * 0 + _ ≤ _; exact Nat.le_of_eq rfl) (hD at_61) (fun _ _ => ⟨rfl, e21, (by decide : 19 + 3 ≤ _), (by decide : 41 + 304 ≤ _)⟩)
  dsimp only [Pt.U, Pt.locs, Pt.cells, Pt.slots] at X22 l22 y22 z22 st22 hQ22
  subst l22 y22 z22
  obtain ⟨rfl, Nr22, Kc22, Hi22⟩ := hQ22
  have Nq22 := own_frm Z5 Nr22
  have N22 := Fr.app N5 Nq22
  refine own_go (fun t k => st22.trans k) ?_
  have O22 := own_extk E21 Kc22 (allS (Nat.le_of_eq g21.symm) all0)
  have Z22 : n0 ≤ T22.heap.size := Nat.le_trans Z5 O22.1
  refine own_go (fun t' k' => XS.astore X22.here hx rfl (hD at_64) rfl rfl (l' := #[iv p0, iv p1, iv p2, iv p3, iv ((p3 &&& (255 : Int32)) % (5 : Int32)), iv ((((p3.toUInt32 >>> ((8 : Int32) &&& 31).toUInt32).toInt32) &&& (255 : Int32)) % (5 : Int32)), iv ((((p3.toUInt32 >>> ((16 : Int32) &&& 31).toUInt32).toInt32) &&& (255 : Int32)) % (5 : Int32)), rv xs1, rv xs3, rv xs5, rv b21, .unset, .unset, .unset]) rfl k') ?_
  refine own_go (fun t' k' => XS.aload X22.here hx rfl (hD at_66) rfl rfl k') ?_
  show Gm p e below T22 m 68 #[iv p0, iv p1, iv p2, iv p3, iv ((p3 &&& (255 : Int32)) % (5 : Int32)), iv ((((p3.toUInt32 >>> ((8 : Int32) &&& 31).toUInt32).toInt32) &&& (255 : Int32)) % (5 : Int32)), iv ((((p3.toUInt32 >>> ((16 : Int32) &&& 31).toUInt32).toInt32) &&& (255 : Int32)) % (5 : Int32)), rv xs1, rv xs3, rv xs5, rv b21, .unset, .unset, .unset] [(.ref b21)] _
  refine own_go (fun t' k' => XS.aload X22.here hx rfl (hD at_68) rfl rfl k') ?_
  show Gm p e below T22 m 70 #[iv p0, iv p1, iv p2, iv p3, iv ((p3 &&& (255 : Int32)) % (5 : Int32)), iv ((((p3.toUInt32 >>> ((8 : Int32) &&& 31).toUInt32).toInt32) &&& (255 : Int32)) % (5 : Int32)), iv ((((p3.toUInt32 >>> ((16 : Int32) &&& 31).toUInt32).toInt32) &&& (255 : Int32)) % (5 : Int32)), rv xs1, rv xs3, rv xs5, rv b21, .unset, .unset, .unset] [(.ref xs1), (.ref b21)] _
  obtain ⟨cq23, kq23, q23a, q23b, q23c⟩ := isOf hZ rfl Hi22.exa
  obtain ⟨_, _, ⟨T23, L23, k23, n23⟩, -, X23, ⟨Lc23, hQ23, l23, y23, z23⟩, st23⟩ := X22.virtualBack hx (y := (⟨"com/example/design_drills/designdrills/service/listens/IdNumbers", "add", "(Ljava/lang/String;)I"⟩ : MethodName)) (z := (⟨"com/example/design_drills/designdrills/service/listens/IdNumbers", "add", "(Ljava/lang/String;)I"⟩ : MethodName)) hown (mvT hZ (hw _ (List.mem_of_getElem? (i := 55) rfl))) (mvT hZ (hw _ (List.mem_of_getElem? (i := 56) rfl))) (notFace_of_selects (args := #[]) (mvT hZ (hw _ (List.mem_of_getElem? (i := 58) rfl)))) (mvT hZ (hw _ (List.mem_of_getElem? (i := 58) rfl))) (mvT hZ (hw _ (List.mem_of_getElem? (i := 57) rfl))) (by decide) (backOf (W := 0) (rmAS l Z a0 hw [] b21 xs1 ([] : List Nat) (lenS ((p3 &&& (255 : Int32)) % (5 : Int32))) bs1 fs1 cs a8 aI aU T5.heap T22.heap.size T22.heap T5.heap.size O22.1 Hi22 (Nat.zero_le _) (Nat.le_refl _) (Nat.le_of_eq g21.symm) O22 (Nat.le_refl _) (lenS_le _) f6 f7 f8 f9 f10 f16 hcs f17 f18 f19 f20 n8 nI) hZ (hw _ (List.mem_of_getElem? (i := 59) rfl)) (hw _ (List.mem_of_getElem? (i := 43) rfl)) (by decide) (by decide)) q23a q23c (g := (mkF m 70 #[iv p0, iv p1, iv p2, iv p3, iv ((p3 &&& (255 : Int32)) % (5 : Int32)), iv ((((p3.toUInt32 >>> ((8 : Int32) &&& 31).toUInt32).toInt32) &&& (255 : Int32)) % (5 : Int32)), iv ((((p3.toUInt32 >>> ((16 : Int32) &&& 31).toUInt32).toInt32) &&& (255 : Int32)) % (5 : Int32)), rv xs1, rv xs3, rv xs5, rv b21, .unset, .unset, .unset] [(.ref xs1), (.ref b21)])) rfl (by rw [hml]; rfl) (Steps.refl _) (argsL := [(.ref xs1)]) (rest := []) (lenOf own_pd24 rfl) rfl (by show 2 * 0 + _ ≤ _; exact Nat.le_of_eq rfl) (hD at_70) (fun _ _ => ⟨rfl, rfl, (by decide : 22 + 1 ≤ _), (by decide : 345 + 4 ≤ _)⟩)
  dsimp only [Pt.U, Pt.locs, Pt.cells, Pt.slots] at X23 l23 y23 z23 st23 hQ23
  subst l23 y23 z23
  obtain ⟨nu23, En23, rfl, Nr23, Oc23, Hn23, hg23, hm23, hl23, hKn23⟩ := hQ23
  have Nq23 := own_frm Z5 Nr23
  have N23 := Fr.app N22 Nq23
  refine own_go (fun t k => st23.trans k) ?_
  have hL23 : En23.length ≤ 1 := by simpa using hl23
  have Z23 : n0 ≤ T23.heap.size := Nat.le_trans Z5 Oc23.1
  refine own_go (fun t' k' => XS.istore X23.here hx rfl (hD at_73) rfl (l' := #[iv p0, iv p1, iv p2, iv p3, iv ((p3 &&& (255 : Int32)) % (5 : Int32)), iv ((((p3.toUInt32 >>> ((8 : Int32) &&& 31).toUInt32).toInt32) &&& (255 : Int32)) % (5 : Int32)), iv ((((p3.toUInt32 >>> ((16 : Int32) &&& 31).toUInt32).toInt32) &&& (255 : Int32)) % (5 : Int32)), rv xs1, rv xs3, rv xs5, rv b21, iv (nu23.toInt32), .unset, .unset]) rfl k') ?_
  refine own_go (fun t' k' => XS.aload X23.here hx rfl (hD at_75) rfl rfl k') ?_
  show Gm p e below T23 m 77 #[iv p0, iv p1, iv p2, iv p3, iv ((p3 &&& (255 : Int32)) % (5 : Int32)), iv ((((p3.toUInt32 >>> ((8 : Int32) &&& 31).toUInt32).toInt32) &&& (255 : Int32)) % (5 : Int32)), iv ((((p3.toUInt32 >>> ((16 : Int32) &&& 31).toUInt32).toInt32) &&& (255 : Int32)) % (5 : Int32)), rv xs1, rv xs3, rv xs5, rv b21, iv (nu23.toInt32), .unset, .unset] [(.ref b21)] _
  refine own_go (fun t' k' => XS.aload X23.here hx rfl (hD at_77) rfl rfl k') ?_
  show Gm p e below T23 m 79 #[iv p0, iv p1, iv p2, iv p3, iv ((p3 &&& (255 : Int32)) % (5 : Int32)), iv ((((p3.toUInt32 >>> ((8 : Int32) &&& 31).toUInt32).toInt32) &&& (255 : Int32)) % (5 : Int32)), iv ((((p3.toUInt32 >>> ((16 : Int32) &&& 31).toUInt32).toInt32) &&& (255 : Int32)) % (5 : Int32)), rv xs1, rv xs3, rv xs5, rv b21, iv (nu23.toInt32), .unset, .unset] [(.ref xs3), (.ref b21)] _
  obtain ⟨cq24, kq24, q24a, q24b, q24c⟩ := isOf hZ rfl Hn23.exa
  obtain ⟨_, _, ⟨T24, L24, k24, n24⟩, -, X24, ⟨Lc24, hQ24, l24, y24, z24⟩, st24⟩ := X23.virtualBack hx (y := (⟨"com/example/design_drills/designdrills/service/listens/IdNumbers", "add", "(Ljava/lang/String;)I"⟩ : MethodName)) (z := (⟨"com/example/design_drills/designdrills/service/listens/IdNumbers", "add", "(Ljava/lang/String;)I"⟩ : MethodName)) hown (mvT hZ (hw _ (List.mem_of_getElem? (i := 55) rfl))) (mvT hZ (hw _ (List.mem_of_getElem? (i := 56) rfl))) (notFace_of_selects (args := #[]) (mvT hZ (hw _ (List.mem_of_getElem? (i := 58) rfl)))) (mvT hZ (hw _ (List.mem_of_getElem? (i := 58) rfl))) (mvT hZ (hw _ (List.mem_of_getElem? (i := 57) rfl))) (by decide) (backOf (W := 0) (rmAS l Z a0 hw [] b21 xs3 En23 (lenS ((((p3.toUInt32 >>> ((8 : Int32) &&& 31).toUInt32).toInt32) &&& (255 : Int32)) % (5 : Int32))) bs3 fs3 cs a8 aI aU T5.heap T22.heap.size T23.heap T5.heap.size Oc23.1 Hn23 (Nat.le_trans hL23 (by decide)) hKn23 (Nat.le_of_eq g21.symm) Oc23 (Nat.le_refl _) (lenS_le _) f11 f12 f13 f14 f15 f16 hcs f17 f18 f19 f20 n8 nI) hZ (hw _ (List.mem_of_getElem? (i := 59) rfl)) (hw _ (List.mem_of_getElem? (i := 43) rfl)) (by decide) (by decide)) q24a q24c (g := (mkF m 79 #[iv p0, iv p1, iv p2, iv p3, iv ((p3 &&& (255 : Int32)) % (5 : Int32)), iv ((((p3.toUInt32 >>> ((8 : Int32) &&& 31).toUInt32).toInt32) &&& (255 : Int32)) % (5 : Int32)), iv ((((p3.toUInt32 >>> ((16 : Int32) &&& 31).toUInt32).toInt32) &&& (255 : Int32)) % (5 : Int32)), rv xs1, rv xs3, rv xs5, rv b21, iv (nu23.toInt32), .unset, .unset] [(.ref xs3), (.ref b21)])) rfl (by rw [hml]; rfl) (Steps.refl _) (argsL := [(.ref xs3)]) (rest := []) (lenOf own_pd24 rfl) rfl (by show 2 * 0 + _ ≤ _; exact Nat.le_of_eq rfl) (hD at_79) (fun _ _ => ⟨rfl, rfl, (by decide : 23 + 1 ≤ _), (by decide : 349 + 4 ≤ _)⟩)
  dsimp only [Pt.U, Pt.locs, Pt.cells, Pt.slots] at X24 l24 y24 z24 st24 hQ24
  subst l24 y24 z24
  obtain ⟨nu24, En24, rfl, Nr24, Oc24, Hn24, hg24, hm24, hl24, hKn24⟩ := hQ24
  have Nq24 := own_frm Z5 Nr24
  have N24 := Fr.app N23 Nq24
  refine own_go (fun t k => st24.trans k) ?_
  have hL24 : En24.length ≤ 2 := by omega
  have Z24 : n0 ≤ T24.heap.size := Nat.le_trans Z5 Oc24.1
  refine own_go (fun t' k' => XS.istore X24.here hx rfl (hD at_82) rfl (l' := #[iv p0, iv p1, iv p2, iv p3, iv ((p3 &&& (255 : Int32)) % (5 : Int32)), iv ((((p3.toUInt32 >>> ((8 : Int32) &&& 31).toUInt32).toInt32) &&& (255 : Int32)) % (5 : Int32)), iv ((((p3.toUInt32 >>> ((16 : Int32) &&& 31).toUInt32).toInt32) &&& (255 : Int32)) % (5 : Int32)), rv xs1, rv xs3, rv xs5, rv b21, iv (nu23.toInt32), iv (nu24.toInt32), .unset]) rfl k') ?_
  refine own_go (fun t' k' => XS.aload X24.here hx rfl (hD at_84) rfl rfl k') ?_
  show Gm p e below T24 m 86 #[iv p0, iv p1, iv p2, iv p3, iv ((p3 &&& (255 : Int32)) % (5 : Int32)), iv ((((p3.toUInt32 >>> ((8 : Int32) &&& 31).toUInt32).toInt32) &&& (255 : Int32)) % (5 : Int32)), iv ((((p3.toUInt32 >>> ((16 : Int32) &&& 31).toUInt32).toInt32) &&& (255 : Int32)) % (5 : Int32)), rv xs1, rv xs3, rv xs5, rv b21, iv (nu23.toInt32), iv (nu24.toInt32), .unset] [(.ref b21)] _
  refine own_go (fun t' k' => XS.aload X24.here hx rfl (hD at_86) rfl rfl k') ?_
  show Gm p e below T24 m 88 #[iv p0, iv p1, iv p2, iv p3, iv ((p3 &&& (255 : Int32)) % (5 : Int32)), iv ((((p3.toUInt32 >>> ((8 : Int32) &&& 31).toUInt32).toInt32) &&& (255 : Int32)) % (5 : Int32)), iv ((((p3.toUInt32 >>> ((16 : Int32) &&& 31).toUInt32).toInt32) &&& (255 : Int32)) % (5 : Int32)), rv xs1, rv xs3, rv xs5, rv b21, iv (nu23.toInt32), iv (nu24.toInt32), .unset] [(.ref xs5), (.ref b21)] _
  obtain ⟨cq25, kq25, q25a, q25b, q25c⟩ := isOf hZ rfl Hn24.exa
  obtain ⟨_, _, ⟨T25, L25, k25, n25⟩, -, X25, ⟨Lc25, hQ25, l25, y25, z25⟩, st25⟩ := X24.virtualBack hx (y := (⟨"com/example/design_drills/designdrills/service/listens/IdNumbers", "add", "(Ljava/lang/String;)I"⟩ : MethodName)) (z := (⟨"com/example/design_drills/designdrills/service/listens/IdNumbers", "add", "(Ljava/lang/String;)I"⟩ : MethodName)) hown (mvT hZ (hw _ (List.mem_of_getElem? (i := 55) rfl))) (mvT hZ (hw _ (List.mem_of_getElem? (i := 56) rfl))) (notFace_of_selects (args := #[]) (mvT hZ (hw _ (List.mem_of_getElem? (i := 58) rfl)))) (mvT hZ (hw _ (List.mem_of_getElem? (i := 58) rfl))) (mvT hZ (hw _ (List.mem_of_getElem? (i := 57) rfl))) (by decide) (backOf (W := 0) (rmAS l Z a0 hw [] b21 xs5 En24 (lenS ((((p3.toUInt32 >>> ((16 : Int32) &&& 31).toUInt32).toInt32) &&& (255 : Int32)) % (5 : Int32))) bs5 fs5 cs a8 aI aU T5.heap T22.heap.size T24.heap T5.heap.size Oc24.1 Hn24 (Nat.le_trans hL24 (by decide)) hKn24 (Nat.le_of_eq g21.symm) Oc24 (Nat.le_refl _) (lenS_le _) Ec5 Fc5 Fv5 Eb5 As5 f16 hcs f17 f18 f19 f20 n8 nI) hZ (hw _ (List.mem_of_getElem? (i := 59) rfl)) (hw _ (List.mem_of_getElem? (i := 43) rfl)) (by decide) (by decide)) q25a q25c (g := (mkF m 88 #[iv p0, iv p1, iv p2, iv p3, iv ((p3 &&& (255 : Int32)) % (5 : Int32)), iv ((((p3.toUInt32 >>> ((8 : Int32) &&& 31).toUInt32).toInt32) &&& (255 : Int32)) % (5 : Int32)), iv ((((p3.toUInt32 >>> ((16 : Int32) &&& 31).toUInt32).toInt32) &&& (255 : Int32)) % (5 : Int32)), rv xs1, rv xs3, rv xs5, rv b21, iv (nu23.toInt32), iv (nu24.toInt32), .unset] [(.ref xs5), (.ref b21)])) rfl (by rw [hml]; rfl) (Steps.refl _) (argsL := [(.ref xs5)]) (rest := []) (lenOf own_pd24 rfl) rfl (by show 2 * 0 + _ ≤ _; exact Nat.le_of_eq rfl) (hD at_88) (fun _ _ => ⟨rfl, rfl, (by decide : 24 + 1 ≤ _), (by decide : 353 + 4 ≤ _)⟩)
  dsimp only [Pt.U, Pt.locs, Pt.cells, Pt.slots] at X25 l25 y25 z25 st25 hQ25
  subst l25 y25 z25
  obtain ⟨nu25, En25, rfl, Nr25, Oc25, Hn25, hg25, hm25, hl25, hKn25⟩ := hQ25
  have Nq25 := own_frm Z5 Nr25
  have N25 := Fr.app N24 Nq25
  refine own_go (fun t k => st25.trans k) ?_
  have hL25 : En25.length ≤ 3 := by omega
  have Z25 : n0 ≤ T25.heap.size := Nat.le_trans Z5 Oc25.1
  refine own_go (fun t' k' => XS.istore X25.here hx rfl (hD at_91) rfl (l' := #[iv p0, iv p1, iv p2, iv p3, iv ((p3 &&& (255 : Int32)) % (5 : Int32)), iv ((((p3.toUInt32 >>> ((8 : Int32) &&& 31).toUInt32).toInt32) &&& (255 : Int32)) % (5 : Int32)), iv ((((p3.toUInt32 >>> ((16 : Int32) &&& 31).toUInt32).toInt32) &&& (255 : Int32)) % (5 : Int32)), rv xs1, rv xs3, rv xs5, rv b21, iv (nu23.toInt32), iv (nu24.toInt32), iv (nu25.toInt32)]) rfl k') ?_
  refine own_go (fun t' k' => XS.aload X25.here hx rfl (hD at_93) rfl rfl k') ?_
  show Gm p e below T25 m 95 #[iv p0, iv p1, iv p2, iv p3, iv ((p3 &&& (255 : Int32)) % (5 : Int32)), iv ((((p3.toUInt32 >>> ((8 : Int32) &&& 31).toUInt32).toInt32) &&& (255 : Int32)) % (5 : Int32)), iv ((((p3.toUInt32 >>> ((16 : Int32) &&& 31).toUInt32).toInt32) &&& (255 : Int32)) % (5 : Int32)), rv xs1, rv xs3, rv xs5, rv b21, iv (nu23.toInt32), iv (nu24.toInt32), iv (nu25.toInt32)] [(.ref b21)] _
  refine own_go (fun t' k' => XS.iload X25.here hx rfl (hD at_95) rfl k') ?_
  show Gm p e below T25 m 97 #[iv p0, iv p1, iv p2, iv p3, iv ((p3 &&& (255 : Int32)) % (5 : Int32)), iv ((((p3.toUInt32 >>> ((8 : Int32) &&& 31).toUInt32).toInt32) &&& (255 : Int32)) % (5 : Int32)), iv ((((p3.toUInt32 >>> ((16 : Int32) &&& 31).toUInt32).toInt32) &&& (255 : Int32)) % (5 : Int32)), rv xs1, rv xs3, rv xs5, rv b21, iv (nu23.toInt32), iv (nu24.toInt32), iv (nu25.toInt32)] [(.int (nu23.toInt32)), (.ref b21)] _
  obtain ⟨cq26, kq26, q26a, q26b, q26c⟩ := isOf hZ rfl Hn25.exa
  obtain ⟨_, _, ⟨T26, L26, k26, n26⟩, -, X26, ⟨Lc26, hQ26, l26, y26, z26⟩, st26⟩ := X25.virtualBack hx (y := (⟨"com/example/design_drills/designdrills/service/listens/IdNumbers", "writtenBytes", "(I)I"⟩ : MethodName)) (z := (⟨"com/example/design_drills/designdrills/service/listens/IdNumbers", "writtenBytes", "(I)I"⟩ : MethodName)) hown (mvT hZ (hw _ (List.mem_of_getElem? (i := 140) rfl))) (mvT hZ (hw _ (List.mem_of_getElem? (i := 141) rfl))) (notFace_of_selects (args := #[]) (mvT hZ (hw _ (List.mem_of_getElem? (i := 143) rfl)))) (mvT hZ (hw _ (List.mem_of_getElem? (i := 143) rfl))) (mvT hZ (hw _ (List.mem_of_getElem? (i := 142) rfl))) (by decide) (backOf (W := 0) (rmWB l Z a0 hw [] b21 (nu23.toInt32) En25 nu23 (lenS ((p3 &&& (255 : Int32)) % (5 : Int32))) _ T22.heap.size T25.heap n0 Z25 Hn25 hL25 (hm25 _ _ (hm24 _ _ hg23)) rfl) hZ (hw _ (List.mem_of_getElem? (i := 144) rfl)) (hw _ (List.mem_of_getElem? (i := 43) rfl)) (by decide) (by decide)) q26a q26c (g := (mkF m 97 #[iv p0, iv p1, iv p2, iv p3, iv ((p3 &&& (255 : Int32)) % (5 : Int32)), iv ((((p3.toUInt32 >>> ((8 : Int32) &&& 31).toUInt32).toInt32) &&& (255 : Int32)) % (5 : Int32)), iv ((((p3.toUInt32 >>> ((16 : Int32) &&& 31).toUInt32).toInt32) &&& (255 : Int32)) % (5 : Int32)), rv xs1, rv xs3, rv xs5, rv b21, iv (nu23.toInt32), iv (nu24.toInt32), iv (nu25.toInt32)] [(.int (nu23.toInt32)), (.ref b21)])) rfl (by rw [hml]; rfl) (Steps.refl _) (argsL := [(.int (nu23.toInt32))]) (rest := []) (lenOf own_pd18 rfl) rfl (by show 2 * 0 + _ ≤ _; exact Nat.le_of_eq rfl) (hD at_97) (fun _ _ => ⟨rfl, rfl, (by decide : 25 + 0 ≤ _), (by decide : 357 + 0 ≤ _)⟩)
  dsimp only [Pt.U, Pt.locs, Pt.cells, Pt.slots] at X26 l26 y26 z26 st26 hQ26
  subst l26 y26 z26
  obtain ⟨rfl, Nq26, eq26⟩ := hQ26
  have N26 := Fr.app N25 Nq26
  have e26 : T26.heap = T25.heap := eq26
  refine own_go (fun t k => st26.trans k) ?_
  refine own_go (fun t' k' => XS.iconst X26.here hx rfl (hD at_100) k') ?_
  refine own_go (fun t' k' => XS.aload X26.here hx rfl (hD at_101) rfl rfl k') ?_
  show Gm p e below T26 m 103 #[iv p0, iv p1, iv p2, iv p3, iv ((p3 &&& (255 : Int32)) % (5 : Int32)), iv ((((p3.toUInt32 >>> ((8 : Int32) &&& 31).toUInt32).toInt32) &&& (255 : Int32)) % (5 : Int32)), iv ((((p3.toUInt32 >>> ((16 : Int32) &&& 31).toUInt32).toInt32) &&& (255 : Int32)) % (5 : Int32)), rv xs1, rv xs3, rv xs5, rv b21, iv (nu23.toInt32), iv (nu24.toInt32), iv (nu25.toInt32)] [(.ref xs1), (.int (1 : Int32)), (.int ((1 : Int32) + ((lenS ((p3 &&& (255 : Int32)) % (5 : Int32))).toInt32)))] _
  obtain ⟨cq27, kq27, q27a, q27b, q27c⟩ := isOf hZ e26 (f6.ext Oc25)
  obtain ⟨_, _, ⟨T27, L27, k27, n27⟩, -, X27, ⟨Lc27, hQ27, l27, y27, z27⟩, st27⟩ := X26.virtualBack hx (y := (⟨"java/lang/String", "length", "()I"⟩ : MethodName)) (z := (⟨"java/lang/String", "length", "()I"⟩ : MethodName)) hown (mvT hZ (hw _ (List.mem_of_getElem? (i := 145) rfl))) (mvT hZ (hw _ (List.mem_of_getElem? (i := 146) rfl))) (notFace_of_selects (args := #[]) (mvT hZ (hw _ (List.mem_of_getElem? (i := 148) rfl)))) (mvT hZ (hw _ (List.mem_of_getElem? (i := 148) rfl))) (mvT hZ (hw _ (List.mem_of_getElem? (i := 147) rfl))) (by decide) (backOf (W := 2) (rmLn l Z a0 hw [] xs1 (lenS ((p3 &&& (255 : Int32)) % (5 : Int32))) bs1 fs1 cs T25.heap n0 Z25 (lenS_le _) (f6.ext Oc25) (f7.ext Oc25) (f8.ext Oc25) (f9.ext Oc25) (f10.ext Oc25) (f16.ext Oc25) hcs) hZ (hw _ (List.mem_of_getElem? (i := 149) rfl)) (hw _ (List.mem_of_getElem? (i := 6) rfl)) (by decide) (by decide)) q27a q27c (g := (mkF m 103 #[iv p0, iv p1, iv p2, iv p3, iv ((p3 &&& (255 : Int32)) % (5 : Int32)), iv ((((p3.toUInt32 >>> ((8 : Int32) &&& 31).toUInt32).toInt32) &&& (255 : Int32)) % (5 : Int32)), iv ((((p3.toUInt32 >>> ((16 : Int32) &&& 31).toUInt32).toInt32) &&& (255 : Int32)) % (5 : Int32)), rv xs1, rv xs3, rv xs5, rv b21, iv (nu23.toInt32), iv (nu24.toInt32), iv (nu25.toInt32)] [(.ref xs1), (.int (1 : Int32)), (.int ((1 : Int32) + ((lenS ((p3 &&& (255 : Int32)) % (5 : Int32))).toInt32)))])) rfl (by rw [hml]; rfl) (Steps.refl _) (argsL := []) (rest := [(.int (1 : Int32)), (.int ((1 : Int32) + ((lenS ((p3 &&& (255 : Int32)) % (5 : Int32))).toInt32)))]) (lenOf own_pd25 rfl) rfl (by show 2 * 0 + _ ≤ _; exact Nat.le_of_eq rfl) (hD at_103) (fun _ _ => ⟨rfl, e26, (by decide : 25 + 0 ≤ _), (by decide : 357 + 0 ≤ _)⟩)
  dsimp only [Pt.U, Pt.locs, Pt.cells, Pt.slots] at X27 l27 y27 z27 st27 hQ27
  subst l27 y27 z27
  obtain ⟨rfl, Nq27, eq27⟩ := hQ27
  have N27 := Fr.app N26 Nq27
  have e27 : T27.heap = T25.heap := eq27
  refine own_go (fun t k => st27.trans k) ?_
  refine own_go (fun t' k' => XS.iadd X27.here hx rfl (hD at_106) rfl k') ?_
  show Gm p e below T27 m 107 #[iv p0, iv p1, iv p2, iv p3, iv ((p3 &&& (255 : Int32)) % (5 : Int32)), iv ((((p3.toUInt32 >>> ((8 : Int32) &&& 31).toUInt32).toInt32) &&& (255 : Int32)) % (5 : Int32)), iv ((((p3.toUInt32 >>> ((16 : Int32) &&& 31).toUInt32).toInt32) &&& (255 : Int32)) % (5 : Int32)), rv xs1, rv xs3, rv xs5, rv b21, iv (nu23.toInt32), iv (nu24.toInt32), iv (nu25.toInt32)] [(.int ((1 : Int32) + ((lenS ((p3 &&& (255 : Int32)) % (5 : Int32))).toInt32))), (.int ((1 : Int32) + ((lenS ((p3 &&& (255 : Int32)) % (5 : Int32))).toInt32)))] _
  refine own_go (fun t' k' => XS.icmpNo X27.here hx rfl (hD at_107) rfl (XT.ii_ne_f rfl) k') ?_
  refine own_go (fun t' k' => XS.aload X27.here hx rfl (hD at_110) rfl rfl k') ?_
  refine own_go (fun t' k' => XS.iload X27.here hx rfl (hD at_112) rfl k') ?_
  show Gm p e below T27 m 114 #[iv p0, iv p1, iv p2, iv p3, iv ((p3 &&& (255 : Int32)) % (5 : Int32)), iv ((((p3.toUInt32 >>> ((8 : Int32) &&& 31).toUInt32).toInt32) &&& (255 : Int32)) % (5 : Int32)), iv ((((p3.toUInt32 >>> ((16 : Int32) &&& 31).toUInt32).toInt32) &&& (255 : Int32)) % (5 : Int32)), rv xs1, rv xs3, rv xs5, rv b21, iv (nu23.toInt32), iv (nu24.toInt32), iv (nu25.toInt32)] [(.int (nu24.toInt32)), (.ref b21)] _
  obtain ⟨cq28, kq28, q28a, q28b, q28c⟩ := isOf hZ e27 Hn25.exa
  obtain ⟨_, _, ⟨T28, L28, k28, n28⟩, -, X28, ⟨Lc28, hQ28, l28, y28, z28⟩, st28⟩ := X27.virtualBack hx (y := (⟨"com/example/design_drills/designdrills/service/listens/IdNumbers", "writtenBytes", "(I)I"⟩ : MethodName)) (z := (⟨"com/example/design_drills/designdrills/service/listens/IdNumbers", "writtenBytes", "(I)I"⟩ : MethodName)) hown (mvT hZ (hw _ (List.mem_of_getElem? (i := 140) rfl))) (mvT hZ (hw _ (List.mem_of_getElem? (i := 141) rfl))) (notFace_of_selects (args := #[]) (mvT hZ (hw _ (List.mem_of_getElem? (i := 143) rfl)))) (mvT hZ (hw _ (List.mem_of_getElem? (i := 143) rfl))) (mvT hZ (hw _ (List.mem_of_getElem? (i := 142) rfl))) (by decide) (backOf (W := 0) (rmWB l Z a0 hw [] b21 (nu24.toInt32) En25 nu24 (lenS ((((p3.toUInt32 >>> ((8 : Int32) &&& 31).toUInt32).toInt32) &&& (255 : Int32)) % (5 : Int32))) _ T22.heap.size T25.heap n0 Z25 Hn25 hL25 (hm25 _ _ hg24) rfl) hZ (hw _ (List.mem_of_getElem? (i := 144) rfl)) (hw _ (List.mem_of_getElem? (i := 43) rfl)) (by decide) (by decide)) q28a q28c (g := (mkF m 114 #[iv p0, iv p1, iv p2, iv p3, iv ((p3 &&& (255 : Int32)) % (5 : Int32)), iv ((((p3.toUInt32 >>> ((8 : Int32) &&& 31).toUInt32).toInt32) &&& (255 : Int32)) % (5 : Int32)), iv ((((p3.toUInt32 >>> ((16 : Int32) &&& 31).toUInt32).toInt32) &&& (255 : Int32)) % (5 : Int32)), rv xs1, rv xs3, rv xs5, rv b21, iv (nu23.toInt32), iv (nu24.toInt32), iv (nu25.toInt32)] [(.int (nu24.toInt32)), (.ref b21)])) rfl (by rw [hml]; rfl) (Steps.refl _) (argsL := [(.int (nu24.toInt32))]) (rest := []) (lenOf own_pd18 rfl) rfl (by show 2 * 0 + _ ≤ _; exact Nat.le_of_eq rfl) (hD at_114) (fun _ _ => ⟨rfl, e27, (by decide : 25 + 0 ≤ _), (by decide : 357 + 0 ≤ _)⟩)
  dsimp only [Pt.U, Pt.locs, Pt.cells, Pt.slots] at X28 l28 y28 z28 st28 hQ28
  subst l28 y28 z28
  obtain ⟨rfl, Nq28, eq28⟩ := hQ28
  have N28 := Fr.app N27 Nq28
  have e28 : T28.heap = T25.heap := eq28
  refine own_go (fun t k => st28.trans k) ?_
  refine own_go (fun t' k' => XS.iconst X28.here hx rfl (hD at_117) k') ?_
  refine own_go (fun t' k' => XS.aload X28.here hx rfl (hD at_118) rfl rfl k') ?_
  show Gm p e below T28 m 120 #[iv p0, iv p1, iv p2, iv p3, iv ((p3 &&& (255 : Int32)) % (5 : Int32)), iv ((((p3.toUInt32 >>> ((8 : Int32) &&& 31).toUInt32).toInt32) &&& (255 : Int32)) % (5 : Int32)), iv ((((p3.toUInt32 >>> ((16 : Int32) &&& 31).toUInt32).toInt32) &&& (255 : Int32)) % (5 : Int32)), rv xs1, rv xs3, rv xs5, rv b21, iv (nu23.toInt32), iv (nu24.toInt32), iv (nu25.toInt32)] [(.ref xs3), (.int (1 : Int32)), (.int ((1 : Int32) + ((lenS ((((p3.toUInt32 >>> ((8 : Int32) &&& 31).toUInt32).toInt32) &&& (255 : Int32)) % (5 : Int32))).toInt32)))] _
  obtain ⟨cq29, kq29, q29a, q29b, q29c⟩ := isOf hZ e28 (f11.ext Oc25)
  obtain ⟨_, _, ⟨T29, L29, k29, n29⟩, -, X29, ⟨Lc29, hQ29, l29, y29, z29⟩, st29⟩ := X28.virtualBack hx (y := (⟨"java/lang/String", "length", "()I"⟩ : MethodName)) (z := (⟨"java/lang/String", "length", "()I"⟩ : MethodName)) hown (mvT hZ (hw _ (List.mem_of_getElem? (i := 145) rfl))) (mvT hZ (hw _ (List.mem_of_getElem? (i := 146) rfl))) (notFace_of_selects (args := #[]) (mvT hZ (hw _ (List.mem_of_getElem? (i := 148) rfl)))) (mvT hZ (hw _ (List.mem_of_getElem? (i := 148) rfl))) (mvT hZ (hw _ (List.mem_of_getElem? (i := 147) rfl))) (by decide) (backOf (W := 2) (rmLn l Z a0 hw [] xs3 (lenS ((((p3.toUInt32 >>> ((8 : Int32) &&& 31).toUInt32).toInt32) &&& (255 : Int32)) % (5 : Int32))) bs3 fs3 cs T25.heap n0 Z25 (lenS_le _) (f11.ext Oc25) (f12.ext Oc25) (f13.ext Oc25) (f14.ext Oc25) (f15.ext Oc25) (f16.ext Oc25) hcs) hZ (hw _ (List.mem_of_getElem? (i := 149) rfl)) (hw _ (List.mem_of_getElem? (i := 6) rfl)) (by decide) (by decide)) q29a q29c (g := (mkF m 120 #[iv p0, iv p1, iv p2, iv p3, iv ((p3 &&& (255 : Int32)) % (5 : Int32)), iv ((((p3.toUInt32 >>> ((8 : Int32) &&& 31).toUInt32).toInt32) &&& (255 : Int32)) % (5 : Int32)), iv ((((p3.toUInt32 >>> ((16 : Int32) &&& 31).toUInt32).toInt32) &&& (255 : Int32)) % (5 : Int32)), rv xs1, rv xs3, rv xs5, rv b21, iv (nu23.toInt32), iv (nu24.toInt32), iv (nu25.toInt32)] [(.ref xs3), (.int (1 : Int32)), (.int ((1 : Int32) + ((lenS ((((p3.toUInt32 >>> ((8 : Int32) &&& 31).toUInt32).toInt32) &&& (255 : Int32)) % (5 : Int32))).toInt32)))])) rfl (by rw [hml]; rfl) (Steps.refl _) (argsL := []) (rest := [(.int (1 : Int32)), (.int ((1 : Int32) + ((lenS ((((p3.toUInt32 >>> ((8 : Int32) &&& 31).toUInt32).toInt32) &&& (255 : Int32)) % (5 : Int32))).toInt32)))]) (lenOf own_pd25 rfl) rfl (by show 2 * 0 + _ ≤ _; exact Nat.le_of_eq rfl) (hD at_120) (fun _ _ => ⟨rfl, e28, (by decide : 25 + 0 ≤ _), (by decide : 357 + 0 ≤ _)⟩)
  dsimp only [Pt.U, Pt.locs, Pt.cells, Pt.slots] at X29 l29 y29 z29 st29 hQ29
  subst l29 y29 z29
  obtain ⟨rfl, Nq29, eq29⟩ := hQ29
  have N29 := Fr.app N28 Nq29
  have e29 : T29.heap = T25.heap := eq29
  refine own_go (fun t k => st29.trans k) ?_
  refine own_go (fun t' k' => XS.iadd X29.here hx rfl (hD at_123) rfl k') ?_
  show Gm p e below T29 m 124 #[iv p0, iv p1, iv p2, iv p3, iv ((p3 &&& (255 : Int32)) % (5 : Int32)), iv ((((p3.toUInt32 >>> ((8 : Int32) &&& 31).toUInt32).toInt32) &&& (255 : Int32)) % (5 : Int32)), iv ((((p3.toUInt32 >>> ((16 : Int32) &&& 31).toUInt32).toInt32) &&& (255 : Int32)) % (5 : Int32)), rv xs1, rv xs3, rv xs5, rv b21, iv (nu23.toInt32), iv (nu24.toInt32), iv (nu25.toInt32)] [(.int ((1 : Int32) + ((lenS ((((p3.toUInt32 >>> ((8 : Int32) &&& 31).toUInt32).toInt32) &&& (255 : Int32)) % (5 : Int32))).toInt32))), (.int ((1 : Int32) + ((lenS ((((p3.toUInt32 >>> ((8 : Int32) &&& 31).toUInt32).toInt32) &&& (255 : Int32)) % (5 : Int32))).toInt32)))] _
  refine own_go (fun t' k' => XS.icmpNo X29.here hx rfl (hD at_124) rfl (XT.ii_ne_f rfl) k') ?_
  refine own_go (fun t' k' => XS.aload X29.here hx rfl (hD at_127) rfl rfl k') ?_
  refine own_go (fun t' k' => XS.iload X29.here hx rfl (hD at_129) rfl k') ?_
  show Gm p e below T29 m 131 #[iv p0, iv p1, iv p2, iv p3, iv ((p3 &&& (255 : Int32)) % (5 : Int32)), iv ((((p3.toUInt32 >>> ((8 : Int32) &&& 31).toUInt32).toInt32) &&& (255 : Int32)) % (5 : Int32)), iv ((((p3.toUInt32 >>> ((16 : Int32) &&& 31).toUInt32).toInt32) &&& (255 : Int32)) % (5 : Int32)), rv xs1, rv xs3, rv xs5, rv b21, iv (nu23.toInt32), iv (nu24.toInt32), iv (nu25.toInt32)] [(.int (nu25.toInt32)), (.ref b21)] _
  obtain ⟨cq30, kq30, q30a, q30b, q30c⟩ := isOf hZ e29 Hn25.exa
  obtain ⟨_, _, ⟨T30, L30, k30, n30⟩, -, X30, ⟨Lc30, hQ30, l30, y30, z30⟩, st30⟩ := X29.virtualBack hx (y := (⟨"com/example/design_drills/designdrills/service/listens/IdNumbers", "writtenBytes", "(I)I"⟩ : MethodName)) (z := (⟨"com/example/design_drills/designdrills/service/listens/IdNumbers", "writtenBytes", "(I)I"⟩ : MethodName)) hown (mvT hZ (hw _ (List.mem_of_getElem? (i := 140) rfl))) (mvT hZ (hw _ (List.mem_of_getElem? (i := 141) rfl))) (notFace_of_selects (args := #[]) (mvT hZ (hw _ (List.mem_of_getElem? (i := 143) rfl)))) (mvT hZ (hw _ (List.mem_of_getElem? (i := 143) rfl))) (mvT hZ (hw _ (List.mem_of_getElem? (i := 142) rfl))) (by decide) (backOf (W := 0) (rmWB l Z a0 hw [] b21 (nu25.toInt32) En25 nu25 (lenS ((((p3.toUInt32 >>> ((16 : Int32) &&& 31).toUInt32).toInt32) &&& (255 : Int32)) % (5 : Int32))) _ T22.heap.size T25.heap n0 Z25 Hn25 hL25 hg25 rfl) hZ (hw _ (List.mem_of_getElem? (i := 144) rfl)) (hw _ (List.mem_of_getElem? (i := 43) rfl)) (by decide) (by decide)) q30a q30c (g := (mkF m 131 #[iv p0, iv p1, iv p2, iv p3, iv ((p3 &&& (255 : Int32)) % (5 : Int32)), iv ((((p3.toUInt32 >>> ((8 : Int32) &&& 31).toUInt32).toInt32) &&& (255 : Int32)) % (5 : Int32)), iv ((((p3.toUInt32 >>> ((16 : Int32) &&& 31).toUInt32).toInt32) &&& (255 : Int32)) % (5 : Int32)), rv xs1, rv xs3, rv xs5, rv b21, iv (nu23.toInt32), iv (nu24.toInt32), iv (nu25.toInt32)] [(.int (nu25.toInt32)), (.ref b21)])) rfl (by rw [hml]; rfl) (Steps.refl _) (argsL := [(.int (nu25.toInt32))]) (rest := []) (lenOf own_pd18 rfl) rfl (by show 2 * 0 + _ ≤ _; exact Nat.le_of_eq rfl) (hD at_131) (fun _ _ => ⟨rfl, e29, (by decide : 25 + 0 ≤ _), (by decide : 357 + 0 ≤ _)⟩)
  dsimp only [Pt.U, Pt.locs, Pt.cells, Pt.slots] at X30 l30 y30 z30 st30 hQ30
  subst l30 y30 z30
  obtain ⟨rfl, Nq30, eq30⟩ := hQ30
  have N30 := Fr.app N29 Nq30
  have e30 : T30.heap = T25.heap := eq30
  refine own_go (fun t k => st30.trans k) ?_
  refine own_go (fun t' k' => XS.iconst X30.here hx rfl (hD at_134) k') ?_
  refine own_go (fun t' k' => XS.aload X30.here hx rfl (hD at_135) rfl rfl k') ?_
  show Gm p e below T30 m 137 #[iv p0, iv p1, iv p2, iv p3, iv ((p3 &&& (255 : Int32)) % (5 : Int32)), iv ((((p3.toUInt32 >>> ((8 : Int32) &&& 31).toUInt32).toInt32) &&& (255 : Int32)) % (5 : Int32)), iv ((((p3.toUInt32 >>> ((16 : Int32) &&& 31).toUInt32).toInt32) &&& (255 : Int32)) % (5 : Int32)), rv xs1, rv xs3, rv xs5, rv b21, iv (nu23.toInt32), iv (nu24.toInt32), iv (nu25.toInt32)] [(.ref xs5), (.int (1 : Int32)), (.int ((1 : Int32) + ((lenS ((((p3.toUInt32 >>> ((16 : Int32) &&& 31).toUInt32).toInt32) &&& (255 : Int32)) % (5 : Int32))).toInt32)))] _
  obtain ⟨cq31, kq31, q31a, q31b, q31c⟩ := isOf hZ e30 (Ec5.ext Oc25)
  obtain ⟨_, _, ⟨T31, L31, k31, n31⟩, -, X31, ⟨Lc31, hQ31, l31, y31, z31⟩, st31⟩ := X30.virtualBack hx (y := (⟨"java/lang/String", "length", "()I"⟩ : MethodName)) (z := (⟨"java/lang/String", "length", "()I"⟩ : MethodName)) hown (mvT hZ (hw _ (List.mem_of_getElem? (i := 145) rfl))) (mvT hZ (hw _ (List.mem_of_getElem? (i := 146) rfl))) (notFace_of_selects (args := #[]) (mvT hZ (hw _ (List.mem_of_getElem? (i := 148) rfl)))) (mvT hZ (hw _ (List.mem_of_getElem? (i := 148) rfl))) (mvT hZ (hw _ (List.mem_of_getElem? (i := 147) rfl))) (by decide) (backOf (W := 2) (rmLn l Z a0 hw [] xs5 (lenS ((((p3.toUInt32 >>> ((16 : Int32) &&& 31).toUInt32).toInt32) &&& (255 : Int32)) % (5 : Int32))) bs5 fs5 cs T25.heap n0 Z25 (lenS_le _) (Ec5.ext Oc25) (Fc5.ext Oc25) (Fv5.ext Oc25) (Eb5.ext Oc25) (As5.ext Oc25) (f16.ext Oc25) hcs) hZ (hw _ (List.mem_of_getElem? (i := 149) rfl)) (hw _ (List.mem_of_getElem? (i := 6) rfl)) (by decide) (by decide)) q31a q31c (g := (mkF m 137 #[iv p0, iv p1, iv p2, iv p3, iv ((p3 &&& (255 : Int32)) % (5 : Int32)), iv ((((p3.toUInt32 >>> ((8 : Int32) &&& 31).toUInt32).toInt32) &&& (255 : Int32)) % (5 : Int32)), iv ((((p3.toUInt32 >>> ((16 : Int32) &&& 31).toUInt32).toInt32) &&& (255 : Int32)) % (5 : Int32)), rv xs1, rv xs3, rv xs5, rv b21, iv (nu23.toInt32), iv (nu24.toInt32), iv (nu25.toInt32)] [(.ref xs5), (.int (1 : Int32)), (.int ((1 : Int32) + ((lenS ((((p3.toUInt32 >>> ((16 : Int32) &&& 31).toUInt32).toInt32) &&& (255 : Int32)) % (5 : Int32))).toInt32)))])) rfl (by rw [hml]; rfl) (Steps.refl _) (argsL := []) (rest := [(.int (1 : Int32)), (.int ((1 : Int32) + ((lenS ((((p3.toUInt32 >>> ((16 : Int32) &&& 31).toUInt32).toInt32) &&& (255 : Int32)) % (5 : Int32))).toInt32)))]) (lenOf own_pd25 rfl) rfl (by show 2 * 0 + _ ≤ _; exact Nat.le_of_eq rfl) (hD at_137) (fun _ _ => ⟨rfl, e30, (by decide : 25 + 0 ≤ _), (by decide : 357 + 0 ≤ _)⟩)
  dsimp only [Pt.U, Pt.locs, Pt.cells, Pt.slots] at X31 l31 y31 z31 st31 hQ31
  subst l31 y31 z31
  obtain ⟨rfl, Nq31, eq31⟩ := hQ31
  have N31 := Fr.app N30 Nq31
  have e31 : T31.heap = T25.heap := eq31
  refine own_go (fun t k => st31.trans k) ?_
  refine own_go (fun t' k' => XS.iadd X31.here hx rfl (hD at_140) rfl k') ?_
  show Gm p e below T31 m 141 #[iv p0, iv p1, iv p2, iv p3, iv ((p3 &&& (255 : Int32)) % (5 : Int32)), iv ((((p3.toUInt32 >>> ((8 : Int32) &&& 31).toUInt32).toInt32) &&& (255 : Int32)) % (5 : Int32)), iv ((((p3.toUInt32 >>> ((16 : Int32) &&& 31).toUInt32).toInt32) &&& (255 : Int32)) % (5 : Int32)), rv xs1, rv xs3, rv xs5, rv b21, iv (nu23.toInt32), iv (nu24.toInt32), iv (nu25.toInt32)] [(.int ((1 : Int32) + ((lenS ((((p3.toUInt32 >>> ((16 : Int32) &&& 31).toUInt32).toInt32) &&& (255 : Int32)) % (5 : Int32))).toInt32))), (.int ((1 : Int32) + ((lenS ((((p3.toUInt32 >>> ((16 : Int32) &&& 31).toUInt32).toInt32) &&& (255 : Int32)) % (5 : Int32))).toInt32)))] _
  refine own_go (fun t' k' => XS.icmpNo X31.here hx rfl (hD at_141) rfl (XT.ii_ne_f rfl) k') ?_
  refine own_go (fun t' k' => XS.iconst X31.here hx rfl (hD at_144) k') ?_
  refine own_go (fun t' k' => XS.goto X31.here hx rfl (pc0 := 145) (pc' := 149) rfl (hD at_145) (by decide) (by decide) k') ?_
  have Ce := CHr.trans C5 (CHr.ext Oc25 C5.1)
  have hke : T5.heap.size ≤ T25.heap.size := Nat.le_trans hk5 Oc25.1
  show Gm p e below T31 m 149 #[iv p0, iv p1, iv p2, iv p3, iv ((p3 &&& (255 : Int32)) % (5 : Int32)), iv ((((p3.toUInt32 >>> ((8 : Int32) &&& 31).toUInt32).toInt32) &&& (255 : Int32)) % (5 : Int32)), iv ((((p3.toUInt32 >>> ((16 : Int32) &&& 31).toUInt32).toInt32) &&& (255 : Int32)) % (5 : Int32)), rv xs1, rv xs3, rv xs5, rv b21, iv (nu23.toInt32), iv (nu24.toInt32), iv (nu25.toInt32)] [(.int (1 : Int32))] _
  exact own_retIW X31 hx hlk hZ (own_ew hw) hS5 hke Ce (t := .boolean) Bd.returns rfl (by simp) (hD at_149) e31 ⟨rfl, N31⟩ (by decide) (by decide)
theorem own_eqR {args : Array Value} {first s : State} {o : Option Outcome} {idx : List Nat} {a b : Term} {x y : Addr} (h : (Jvm.Cond.eq a b).value args first o s idx = some true) (ea : a.eval args first o idx s = some (.ref x)) (eb : b.eval args first o idx s = some (.ref y)) : x = y := by
  simpa [Cond.value, ea, eb] using h
set_option maxRecDepth 65536 in
set_option maxHeartbeats 40000000 in
theorem comes_1 {Post : Tables → Env → Array Value → State → Outcome → State → Prop} (hpost : ∀ tb e args s v u, (limb_1_1.after args s (.returned v) u = true ∧ limb_1_2.after args s (.returned v) u = true ∧ True) → ReturnedEndW s (.returned v) u (Jvm.fieldLocs frame_1_writes args s ++ Jvm.arrayLocs frame_1_arrays args s ++ Jvm.staticLocs frame_1_statics s) 48 1856 → Post tb e args s (.returned v) u) :
    ArmFor flags0 classFile x code maxLocals ret World_1 tables_1 room_1 Calls_1 rest_1 Pre_1 Post := by
  intro l hfl _ _ p e ha hc hk s m args below hf hA hF happ hP
  obtain ⟨hcalls, hrest, hpre⟩ := hP
  obtain ⟨-, -, -, hnamed, -, -, -, hat⟩ := (Spec.applies_iff hf).mp happ
  obtain ⟨hg, hn⟩ := and_e (Cond.before_iff.mp (show (Jvm.Cond.and given_1 narrow_1).before args s = true from hpre))
  obtain ⟨g1, g2⟩ := and_e hg
  obtain ⟨g3, g4⟩ := and_e g2
  obtain ⟨g5, g6⟩ := and_e g4
  obtain ⟨g7, g8⟩ := and_e g6
  obtain ⟨w0, w1, w2, w3, rfl⟩ : ∃ w0 w1 w2 w3 : Value, args = #[w0, w1, w2, w3] := by
    have hs : args.size = 4 := by simpa [Cond.value, given_1] using g1
    obtain ⟨L⟩ := args
    match L, hs with
    | [w0, w1, w2, w3], _ => exact ⟨w0, w1, w2, w3, rfl⟩
  have hw := fun d (hd : d ∈ tables_1) => atoms_spec (ws := Jvm.Cond.code x code maxLocals ret :: tables_1) hat d (List.mem_cons_of_mem _ hd)
  have hfit : Fit s := fun {y c} hc i hi => by
    obtain ⟨ha, rfl⟩ := Array.getElem?_eq_some_iff.mp hc
    have q := List.all_eq_true.mp ((Array.all_eq_true_iff_forall_mem.mp hF) _ (Array.getElem_mem ha)) i (List.mem_range.mpr hi)
    simpa [Array.getElem?_eq_getElem hi] using q
  obtain ⟨hsets, hown0⟩ := atoms_of _ (rest_1_c_eq ▸ (show rest_1_c.before _ s = true from hrest))
  have hr0 := Cond.before_iff.mp hown0
  obtain ⟨i0, ei0⟩ := is_v g3
  obtain rfl : w0 = (.int i0) := Option.some.inj ei0
  obtain ⟨i1, ei1⟩ := is_v g5
  obtain rfl : w1 = (.int i1) := Option.some.inj ei1
  obtain ⟨i2, ei2⟩ := is_v g7
  obtain rfl : w2 = (.int i2) := Option.some.inj ei2
  obtain ⟨i3, ei3⟩ := is_v g8
  obtain rfl : w3 = (.int i3) := Option.some.inj ei3
  obtain ⟨cs, ev_cs⟩ := is_v (Cond.before_iff.mp (hsets _ (List.mem_of_getElem? (i := 1) rfl)))
  have S_c : Sta s s.heap "java/lang/String" "COMPACT_STRINGS" "Z" (.int cs) := Sta.start ev_cs (Or.inl (hsets _ (List.mem_of_getElem? (i := 0) rfl)))
  have hcs : ¬ cs = 0 := fun q => by
    have u := not_v (Cond.before_iff.mp (hsets _ (List.mem_of_getElem? (i := 2) rfl)))
    rw [q] at ev_cs
    exact own_neq0 u ev_cs
  obtain ⟨fw, ev_fw, hv_fw⟩ := isR_v (Cond.before_iff.mp (hsets _ (List.mem_of_getElem? (i := 8) rfl)))
  have S_f : Sta s s.heap "jdk/internal/util/Preconditions" "SIOOBE_FORMATTER" "Ljava/util/function/BiFunction;" fw := Sta.start ev_fw (Or.inl (hsets _ (List.mem_of_getElem? (i := 7) rfl)))
  obtain ⟨a8, ev_a8⟩ := exa_v (Cond.before_iff.mp (hsets _ (List.mem_of_getElem? (i := 17) rfl)))
  have E_a8 : Exa s s.heap a8 "sun/nio/cs/UTF_8" := Exa.start ev_a8 (Cond.before_iff.mp (hsets _ (List.mem_of_getElem? (i := 17) rfl)))
  have S_8 : Sta s s.heap "sun/nio/cs/UTF_8" "INSTANCE" "Lsun/nio/cs/UTF_8;" (.ref a8) := Sta.start ev_a8 (Or.inl (hsets _ (List.mem_of_getElem? (i := 16) rfl)))
  obtain ⟨aI, ev_aI⟩ := exa_v (Cond.before_iff.mp (hsets _ (List.mem_of_getElem? (i := 20) rfl)))
  have E_aI : Exa s s.heap aI "sun/nio/cs/ISO_8859_1" := Exa.start ev_aI (Cond.before_iff.mp (hsets _ (List.mem_of_getElem? (i := 20) rfl)))
  have S_i : Sta s s.heap "sun/nio/cs/ISO_8859_1" "INSTANCE" "Lsun/nio/cs/ISO_8859_1;" (.ref aI) := Sta.start ev_aI (Or.inl (hsets _ (List.mem_of_getElem? (i := 19) rfl)))
  obtain ⟨aU, ev_aU⟩ := exa_v (Cond.before_iff.mp (hsets _ (List.mem_of_getElem? (i := 14) rfl)))
  have E_aU : Exa s s.heap aU "sun/nio/cs/US_ASCII" := Exa.start ev_aU (Cond.before_iff.mp (hsets _ (List.mem_of_getElem? (i := 14) rfl)))
  have S_u : Sta s s.heap "java/nio/charset/StandardCharsets" "US_ASCII" "Ljava/nio/charset/Charset;" (.ref aU) := Sta.start ev_aU (Or.inl (hsets _ (List.mem_of_getElem? (i := 10) rfl)))
  obtain ⟨aV, ev_aV⟩ := exa_v (Cond.before_iff.mp (hsets _ (List.mem_of_getElem? (i := 23) rfl)))
  have E_aV : Exa s s.heap aV "sun/nio/cs/US_ASCII" := Exa.start ev_aV (Cond.before_iff.mp (hsets _ (List.mem_of_getElem? (i := 23) rfl)))
  have S_a0 : Sta s s.heap "sun/nio/cs/US_ASCII" "INSTANCE" "Lsun/nio/cs/US_ASCII;" (.ref aV) := Sta.start ev_aV (Or.inl (hsets _ (List.mem_of_getElem? (i := 12) rfl)))
  obtain rfl : aU = aV := own_eqR (Cond.before_iff.mp (hsets _ (List.mem_of_getElem? (i := 13) rfl))) ev_aU ev_aV
  have n8 : aU ≠ a8 := E_aU.ne E_a8 (by decide)
  have nI : aU ≠ aI := E_aU.ne E_aI (by decide)
  obtain ⟨n, o, h1, h2, h3, _, L, rfl, ⟨rfl, N⟩, -, hq⟩ := rm0 l s _ hw tables_1 i0 i1 i2 i3 cs a8 aI aU s.heap s.heap.size (Nat.le_refl _) S_c hcs S_8 S_i S_a0 S_u n8 nI p e ha hc hk s m _ below hf ((Spec.applies_iff_loose hf).mp happ).1 ⟨rfl, State.Warmed39.refl s, rfl, CHv.start (own_ew hw) (fun q hq => by
    simp only [own_EL, List.mem_singleton] at hq
    subst hq
    exact hcalls.1 _ (List.mem_of_getElem? (i := 0) rfl)) (hsets _ (List.mem_of_getElem? (i := 2) rfl)) (hw _ (List.mem_of_getElem? (i := 18) rfl)) (hw _ (List.mem_of_getElem? (i := 14) rfl)), fun _ q => nomatch q⟩ trivial
  refine ⟨n, _, h1, h2, h3, hpost _ _ _ _ _ _ ⟨Cond.after_iff.mpr rfl, Cond.after_iff.mpr (eq_i res_at (Term.int_eval (1)) rfl), trivial⟩ ⟨hq.1, hq.2.1, hq.2.2.1, (hq.2.2.2.sift fun y hy => Or.inr (N y hy)).mono (by decide) (by decide)⟩⟩
theorem main_1_1 : Claimed_1_1 := comes_1 fun _ _ _ _ _ _ h hF => ⟨h.1, hF⟩
theorem main_1_2 : Claimed_1_2 := comes_1 fun _ _ _ _ _ _ h hF => ⟨h.2.1, hF⟩
end Jvm.Pilot.@@N@@
namespace Jvm.Pilot.@@N@@
open Jvm Jvm.ClassFile Sem Op Lib Jvm.Free Jvm.Stand Jvm.Pilot.@@N@@.Jvm.D
/-! MADE BY PROGRAM (witnessworld.py) out of the Statement's table words and the real class files: 30 classes; the members and pool entries that the words name. The judged class is class 1, her method 2. -/
namespace start1
open Jvm.ClassFile
def u (s : String) : CpInfo := .utf8 (stringToUtf16 s)
/-- a pool by its gaps: so many unusable entries, then the entry; so many at the end -/
def gap : Nat → List CpInfo → List CpInfo
  | 0, r => r
  | n + 1, r => .unusable :: gap n r
def poolList (es : List (Nat × CpInfo)) (last : Nat) : List CpInfo := es.foldr (fun e r => gap e.1 (e.2 :: r)) (gap last [])
def pool (es : List (Nat × CpInfo)) (last : Nat) : Array CpInfo := ⟨poolList es last⟩
def fileOf (pool : Array CpInfo) (this : Nat) (attrs : Array Attribute := #[]) (ms : Array MethodInfo := #[]) (fl : Nat := 33) (sup : Nat := 0) (ifs : Array Nat := #[]) (fds : Array FieldInfo := #[]) : ClassFile where
  minorVersion := 0
  majorVersion := 65
  constantPool := pool
  accessFlags := fl
  thisClass := this
  superClass := sup
  interfaces := ifs
  fields := fds
  methods := ms
  attributes := attrs
def plain (name : String) (sup : Option ClassId) : Class where
  name := name
  kind := .ordinary
  loader := none
  accessFlags := 33
  super := sup
  interfaces := #[]
  cf := none
  fields := #[]
  methods := #[]
  instanceTypes := #[]
  staticTypes := #[]
  resolved := #[]
  callSites := []
  init := .initialized
  statics := none
  mirror := none

def pool0 : Array CpInfo := pool [(5, u "<init>"), (0, u "()V"), (1, .class_ 10), (1, u "java/lang/Object"), (85, u "clone"), (0, u "()Ljava/lang/Object;")] 26

def k0c0 : Code := { maxStack := 0, maxLocals := 1, code := object_method_1_code, exceptionTable := #[], attributes := #[] }
def k0m0 : Method := { name := "<init>", desc := "()V", sig := { parameters := [], returnType := none }, accessFlags := 1, code := some k0c0 }
def k0m1 : Method := { name := "clone", desc := "()Ljava/lang/Object;", sig := { parameters := [], returnType := some (.object "java/lang/Object") }, accessFlags := 260, code := none }
/-- java/lang/Object -/
def k0 : Class := { plain "java/lang/Object" none with
  accessFlags := 33
  interfaces := #[]
  cf := some (fileOf pool0 8 #[] #[{ accessFlags := 1, nameIndex := 5, descriptorIndex := 6, attributes := #[] }, { accessFlags := 260, nameIndex := 96, descriptorIndex := 97, attributes := #[] }] 33 0 #[] #[])
  fields := #[]
  methods := #[k0m0, k0m1]
  instanceTypes := #[]
  staticTypes := #[]
  resolved := Array.replicate 124 none
  statics := none }

def pool1 : Array CpInfo := pool [(2, .class_ 4), (0, .nameAndType 5 6), (0, u "java/lang/Object"), (0, u "<init>"), (0, u "()V"), (0, .class_ 8), (0, u "java/lang/String"), (0, .methodref 7 10), (0, .nameAndType 5 11), (0, u "([C)V"), (0, .methodref 7 13), (0, .nameAndType 14 15), (0, u "valueOf"), (0, u "(C)Ljava/lang/String;"), (0, .methodref 17 18), (0, .class_ 19), (0, .nameAndType 20 21), (0, u "com/example/design_drills/designdrills/service/listens/IdNumbersWrittenBytesPinLaw"), (0, u "id"), (0, u "(II)Ljava/lang/String;"), (0, .class_ 23), (0, u "com/example/design_drills/designdrills/service/listens/IdNumbers"), (0, .methodref 22 3), (0, .methodref 22 26), (0, .nameAndType 27 28), (0, u "add"), (0, u "(Ljava/lang/String;)I"), (0, .methodref 22 30), (0, .nameAndType 31 32), (0, u "writtenBytes"), (0, u "(I)I"), (0, .methodref 7 34), (0, .nameAndType 35 36), (0, u "length"), (0, u "()I"), (3, u "law"), (0, u "(IIII)Z")] 2

def k1m0 : Method := { name := "<init>", desc := "()V", sig := { parameters := [], returnType := none }, accessFlags := 2, code := none }
def k1c1 : Code := { maxStack := 6, maxLocals := 6, code := method_2_code, exceptionTable := #[], attributes := #[] }
def k1m1 : Method := { name := "id", desc := "(II)Ljava/lang/String;", sig := { parameters := [.int, .int], returnType := some (.object "java/lang/String") }, accessFlags := 10, code := some k1c1 }
def k1c2 : Code := { maxStack := 3, maxLocals := 14, code := code, exceptionTable := #[], attributes := #[] }
def k1m2 : Method := { name := "law", desc := "(IIII)Z", sig := { parameters := [.int, .int, .int, .int], returnType := some .boolean }, accessFlags := 9, code := some k1c2 }
/-- com/example/design_drills/designdrills/service/listens/IdNumbersWrittenBytesPinLaw -/
def k1 : Class := { plain "com/example/design_drills/designdrills/service/listens/IdNumbersWrittenBytesPinLaw" (some 0) with
  accessFlags := 49
  interfaces := #[]
  cf := some (fileOf pool1 17 #[] #[{ accessFlags := 2, nameIndex := 5, descriptorIndex := 6, attributes := #[] }, { accessFlags := 10, nameIndex := 20, descriptorIndex := 21, attributes := #[] }, { accessFlags := 9, nameIndex := 40, descriptorIndex := 41, attributes := #[] }] 49 2 #[] #[])
  fields := #[]
  methods := #[k1m0, k1m1, k1m2]
  instanceTypes := #[]
  staticTypes := #[]
  resolved := Array.replicate 44 none
  statics := none }

def pool2 : Array CpInfo := pool [(1, .class_ 2), (0, u "java/io/Serializable"), (0, .class_ 4), (0, u "java/lang/Object")] 2

/-- java/io/Serializable -/
def k2 : Class := { plain "java/io/Serializable" (some 0) with
  accessFlags := 1537
  interfaces := #[]
  cf := some (fileOf pool2 1 #[] #[] 1537 3 #[] #[])
  fields := #[]
  methods := #[]
  instanceTypes := #[]
  staticTypes := #[]
  resolved := Array.replicate 7 none
  statics := none }

def pool3 : Array CpInfo := pool [(1, .class_ 2), (0, u "java/lang/Comparable"), (0, .class_ 4), (0, u "java/lang/Object")] 7

/-- java/lang/Comparable -/
def k3 : Class := { plain "java/lang/Comparable" (some 0) with
  accessFlags := 1537
  interfaces := #[]
  cf := some (fileOf pool3 1 #[] #[] 1537 3 #[] #[])
  fields := #[]
  methods := #[]
  instanceTypes := #[]
  staticTypes := #[]
  resolved := Array.replicate 12 none
  statics := none }

def pool4 : Array CpInfo := pool [(2, .class_ 4), (1, u "java/lang/CharSequence"), (42, .class_ 48), (0, u "java/lang/CharSequence$1CodePointIterator"), (10, .class_ 60), (0, u "java/lang/CharSequence$1CharIterator"), (5, .class_ 67), (0, u "java/lang/Object")] 63

/-- java/lang/CharSequence -/
def k4 : Class := { plain "java/lang/CharSequence" (some 0) with
  accessFlags := 1537
  interfaces := #[]
  cf := some (fileOf pool4 2 #[.nestMembers #[47, 59]] #[] 1537 66 #[] #[])
  fields := #[]
  methods := #[]
  instanceTypes := #[]
  staticTypes := #[]
  resolved := Array.replicate 131 none
  statics := none }

def pool5 : Array CpInfo := pool [(1, .class_ 2), (0, u "java/lang/constant/Constable"), (0, .class_ 4), (0, u "java/lang/Object")] 6

/-- java/lang/constant/Constable -/
def k5 : Class := { plain "java/lang/constant/Constable" (some 0) with
  accessFlags := 1537
  interfaces := #[]
  cf := some (fileOf pool5 1 #[] #[] 1537 3 #[] #[])
  fields := #[]
  methods := #[]
  instanceTypes := #[]
  staticTypes := #[]
  resolved := Array.replicate 11 none
  statics := none }

def pool6 : Array CpInfo := pool [(1, .class_ 2), (0, u "java/lang/constant/ConstantDesc"), (0, .class_ 4), (0, u "java/lang/Object")] 32

/-- java/lang/constant/ConstantDesc -/
def k6 : Class := { plain "java/lang/constant/ConstantDesc" (some 0) with
  accessFlags := 1537
  interfaces := #[]
  cf := some (fileOf pool6 1 #[] #[] 1537 3 #[] #[])
  fields := #[]
  methods := #[]
  instanceTypes := #[]
  staticTypes := #[]
  resolved := Array.replicate 37 none
  statics := none }

def pool7 : Array CpInfo := pool [(1, .methodref 2 3), (0, .class_ 4), (0, .nameAndType 5 6), (0, u "java/lang/Object"), (0, u "<init>"), (0, u "()V"), (0, .string 8), (0, u ""), (0, .fieldref 10 11), (0, .class_ 12), (0, .nameAndType 13 14), (0, u "java/lang/String"), (0, u "value"), (0, u "[B"), (0, .fieldref 10 16), (0, .nameAndType 17 18), (0, u "coder"), (0, u "B"), (2, u "hash"), (0, u "I"), (2, u "hashIsZero"), (0, u "Z"), (0, .methodref 10 28), (0, .nameAndType 5 29), (0, u "([CIILjava/lang/Void;)V"), (8, .fieldref 10 39), (0, .nameAndType 40 26), (0, u "COMPACT_STRINGS"), (1, .class_ 44), (1, u "java/lang/StringUTF16"), (0, u "compress"), (1, .methodref 42 48), (0, .nameAndType 49 50), (0, u "coderFromArrayLen"), (0, u "([BI)B"), (2, u "toBytes"), (32, .fieldref 87 88), (0, .class_ 89), (0, .nameAndType 90 91), (0, u "sun/nio/cs/UTF_8"), (0, u "INSTANCE"), (0, u "Lsun/nio/cs/UTF_8;"), (0, .methodref 93 94), (0, .class_ 95), (0, .nameAndType 96 97), (0, u "java/lang/StringCoding"), (0, u "countPositives"), (0, u "([BII)I"), (9, .class_ 109), (1, u "java/lang/StringLatin1"), (6, .fieldref 117 118), (0, .class_ 119), (0, .nameAndType 90 120), (0, u "sun/nio/cs/ISO_8859_1"), (0, u "Lsun/nio/cs/ISO_8859_1;"), (2, .fieldref 124 125), (0, .class_ 126), (0, .nameAndType 90 127), (0, u "sun/nio/cs/US_ASCII"), (0, u "Lsun/nio/cs/US_ASCII;"), (49, .methodref 42 178), (0, .nameAndType 45 179), (0, u "([CII)[B"), (29, .methodref 10 210), (0, .nameAndType 5 211), (0, u "([BB)V"), (47, u "(B[B)[B"), (0, .methodref 10 261), (0, .nameAndType 262 259), (0, u "encodeASCII"), (16, .methodref 280 281), (0, .class_ 14), (0, .nameAndType 282 283), (0, u "clone"), (0, u "()Ljava/lang/Object;"), (33, u "encode"), (16, u "()I"), (0, .methodref 10 336), (0, .nameAndType 17 337), (0, u "()B"), (18, .methodref 10 357), (0, .nameAndType 358 359), (0, u "replaceNegatives"), (0, u "([BI)V"), (9, u "(C)Z"), (137, u "length"), (24, u "getBytes"), (2, .methodref 10 536), (0, .nameAndType 317 537), (0, u "(Ljava/nio/charset/Charset;B[B)[B"), (37, .class_ 576), (0, u "java/lang/CharSequence"), (22, u "CASE_INSENSITIVE_ORDER"), (0, u "Ljava/util/Comparator;"), (181, u "valueOf"), (0, u "(C)Ljava/lang/String;"), (226, u "([C)V"), (4, .methodref 107 1016), (0, .nameAndType 1017 369), (0, u "canEncode"), (0, .methodref 107 1019), (0, .nameAndType 53 1020), (0, u "(C)[B"), (80, u "serialPersistentFields"), (0, u "[Ljava/io/ObjectStreamField;"), (0, .class_ 1104), (0, u "java/lang/String$CaseInsensitiveComparator"), (1, .class_ 1107), (0, u "java/io/Serializable"), (0, .class_ 1109), (0, u "java/lang/Comparable"), (0, .class_ 1111), (0, u "java/lang/constant/Constable"), (0, .class_ 1113), (0, u "java/lang/constant/ConstantDesc"), (2, u "serialVersionUID"), (0, u "J"), (3, u "REPL"), (0, u "C"), (2, u "LATIN1"), (1, u "UTF16"), (117, u "(Ljava/nio/charset/Charset;)[B")] 205

def k7m0 : Method := { name := "<init>", desc := "()V", sig := { parameters := [], returnType := none }, accessFlags := 1, code := none }
def k7c1 : Code := { maxStack := 5, maxLocals := 2, code := jdk_42_method_3_code, exceptionTable := #[], attributes := #[] }
def k7m1 : Method := { name := "<init>", desc := "([C)V", sig := { parameters := [(.array .char)], returnType := none }, accessFlags := 1, code := some k7c1 }
def k7c2 : Code := { maxStack := 4, maxLocals := 3, code := jdk_42_method_18_code, exceptionTable := #[], attributes := #[] }
def k7m2 : Method := { name := "encode", desc := "(Ljava/nio/charset/Charset;B[B)[B", sig := { parameters := [(.object "java/nio/charset/Charset"), .byte, (.array .byte)], returnType := some (.array .byte) }, accessFlags := 10, code := some k7c2 }
def k7c3 : Code := { maxStack := 3, maxLocals := 7, code := jdk_42_method_24_code, exceptionTable := #[], attributes := #[] }
def k7m3 : Method := { name := "encodeASCII", desc := "(B[B)[B", sig := { parameters := [.byte, (.array .byte)], returnType := some (.array .byte) }, accessFlags := 10, code := some k7c3 }
def k7c4 : Code := { maxStack := 3, maxLocals := 3, code := jdk_42_method_25_code, exceptionTable := #[], attributes := #[] }
def k7m4 : Method := { name := "replaceNegatives", desc := "([BI)V", sig := { parameters := [(.array .byte), .int], returnType := none }, accessFlags := 10, code := some k7c4 }
def k7c5 : Code := { maxStack := 2, maxLocals := 1, code := jdk_42_method_54_code, exceptionTable := #[], attributes := #[] }
def k7m5 : Method := { name := "length", desc := "()I", sig := { parameters := [], returnType := some .int }, accessFlags := 1, code := some k7c5 }
def k7c6 : Code := { maxStack := 3, maxLocals := 2, code := jdk_42_method_64_code, exceptionTable := #[], attributes := #[] }
def k7m6 : Method := { name := "getBytes", desc := "(Ljava/nio/charset/Charset;)[B", sig := { parameters := [(.object "java/nio/charset/Charset")], returnType := some (.array .byte) }, accessFlags := 1, code := some k7c6 }
def k7c7 : Code := { maxStack := 4, maxLocals := 1, code := jdk_42_method_139_code, exceptionTable := #[], attributes := #[] }
def k7m7 : Method := { name := "valueOf", desc := "(C)Ljava/lang/String;", sig := { parameters := [.char], returnType := some (.object "java/lang/String") }, accessFlags := 9, code := some k7c7 }
def k7c8 : Code := { maxStack := 4, maxLocals := 6, code := jdk_42_method_149_code, exceptionTable := #[], attributes := #[] }
def k7m8 : Method := { name := "<init>", desc := "([CIILjava/lang/Void;)V", sig := { parameters := [(.array .char), .int, .int, (.object "java/lang/Void")], returnType := none }, accessFlags := 2, code := some k7c8 }
def k7c9 : Code := { maxStack := 2, maxLocals := 3, code := jdk_42_method_151_code, exceptionTable := #[], attributes := #[] }
def k7m9 : Method := { name := "<init>", desc := "([BB)V", sig := { parameters := [(.array .byte), .byte], returnType := none }, accessFlags := 0, code := some k7c9 }
def k7c10 : Code := { maxStack := 1, maxLocals := 1, code := jdk_42_method_152_code, exceptionTable := #[], attributes := #[] }
def k7m10 : Method := { name := "coder", desc := "()B", sig := { parameters := [], returnType := some .byte }, accessFlags := 0, code := some k7c10 }
/-- java/lang/String -/
def k7 : Class := { plain "java/lang/String" (some 0) with
  accessFlags := 49
  interfaces := #[2, 3, 4, 5, 6]
  cf := some (fileOf pool7 10 #[.nestMembers #[1103]] #[{ accessFlags := 1, nameIndex := 5, descriptorIndex := 6, attributes := #[] }, { accessFlags := 1, nameIndex := 5, descriptorIndex := 1010, attributes := #[] }, { accessFlags := 10, nameIndex := 317, descriptorIndex := 537, attributes := #[] }, { accessFlags := 10, nameIndex := 262, descriptorIndex := 259, attributes := #[] }, { accessFlags := 10, nameIndex := 358, descriptorIndex := 359, attributes := #[] }, { accessFlags := 1, nameIndex := 507, descriptorIndex := 334, attributes := #[] }, { accessFlags := 1, nameIndex := 532, descriptorIndex := 1245, attributes := #[] }, { accessFlags := 9, nameIndex := 782, descriptorIndex := 783, attributes := #[] }, { accessFlags := 2, nameIndex := 5, descriptorIndex := 29, attributes := #[] }, { accessFlags := 0, nameIndex := 5, descriptorIndex := 211, attributes := #[] }, { accessFlags := 0, nameIndex := 17, descriptorIndex := 337, attributes := #[] }] 49 2 #[1106, 1108, 575, 1110, 1112] #[{ accessFlags := 18, nameIndex := 13, descriptorIndex := 14, attributes := #[] }, { accessFlags := 18, nameIndex := 17, descriptorIndex := 18, attributes := #[] }, { accessFlags := 2, nameIndex := 21, descriptorIndex := 22, attributes := #[] }, { accessFlags := 2, nameIndex := 25, descriptorIndex := 26, attributes := #[] }, { accessFlags := 26, nameIndex := 1116, descriptorIndex := 1117, attributes := #[] }, { accessFlags := 24, nameIndex := 40, descriptorIndex := 26, attributes := #[] }, { accessFlags := 26, nameIndex := 1101, descriptorIndex := 1102, attributes := #[] }, { accessFlags := 26, nameIndex := 1121, descriptorIndex := 1122, attributes := #[] }, { accessFlags := 25, nameIndex := 599, descriptorIndex := 600, attributes := #[] }, { accessFlags := 24, nameIndex := 1125, descriptorIndex := 18, attributes := #[] }, { accessFlags := 24, nameIndex := 1127, descriptorIndex := 18, attributes := #[] }])
  fields := #[{ name := "value", type := (.array .byte), accessFlags := 18, slot := 0, constantValue := 0 }, { name := "coder", type := .byte, accessFlags := 18, slot := 1, constantValue := 0 }, { name := "hash", type := .int, accessFlags := 2, slot := 2, constantValue := 0 }, { name := "hashIsZero", type := .boolean, accessFlags := 2, slot := 3, constantValue := 0 }, { name := "serialVersionUID", type := .long, accessFlags := 26, slot := 0, constantValue := 0 }, { name := "COMPACT_STRINGS", type := .boolean, accessFlags := 24, slot := 1, constantValue := 0 }, { name := "serialPersistentFields", type := (.array (.object "java/io/ObjectStreamField")), accessFlags := 26, slot := 2, constantValue := 0 }, { name := "REPL", type := .char, accessFlags := 26, slot := 3, constantValue := 0 }, { name := "CASE_INSENSITIVE_ORDER", type := (.object "java/util/Comparator"), accessFlags := 25, slot := 4, constantValue := 0 }, { name := "LATIN1", type := .byte, accessFlags := 24, slot := 5, constantValue := 0 }, { name := "UTF16", type := .byte, accessFlags := 24, slot := 6, constantValue := 0 }]
  methods := #[k7m0, k7m1, k7m2, k7m3, k7m4, k7m5, k7m6, k7m7, k7m8, k7m9, k7m10]
  instanceTypes := #[(.array .byte), .byte, .int, .boolean]
  staticTypes := #[.long, .boolean, (.array (.object "java/io/ObjectStreamField")), .char, (.object "java/util/Comparator"), .byte, .byte]
  resolved := Array.replicate 1451 none
  statics := some 0 }

def pool8 : Array CpInfo := pool [(4, .class_ 6), (1, u "java/lang/Object"), (0, u "<init>"), (0, u "()V"), (5, .class_ 16), (1, u "java/lang/StringLatin1"), (73, u "canEncode"), (14, u "(C)Z"), (15, u "$assertionsDisabled"), (0, u "Z"), (98, .class_ 223), (1, u "java/lang/StringLatin1$LinesSpliterator"), (156, u "toBytes"), (1, u "(C)[B"), (7, .class_ 391), (0, u "java/lang/StringLatin1$CharsSpliterator")] 3

def k8m0 : Method := { name := "<init>", desc := "()V", sig := { parameters := [], returnType := none }, accessFlags := 0, code := none }
def k8c1 : Code := { maxStack := 2, maxLocals := 1, code := jdk_43_method_3_code, exceptionTable := #[], attributes := #[] }
def k8m1 : Method := { name := "canEncode", desc := "(C)Z", sig := { parameters := [.char], returnType := some .boolean }, accessFlags := 9, code := some k8c1 }
def k8c2 : Code := { maxStack := 4, maxLocals := 1, code := jdk_43_method_46_code, exceptionTable := #[], attributes := #[] }
def k8m2 : Method := { name := "toBytes", desc := "(C)[B", sig := { parameters := [.char], returnType := some (.array .byte) }, accessFlags := 9, code := some k8c2 }
/-- java/lang/StringLatin1 -/
def k8 : Class := { plain "java/lang/StringLatin1" (some 0) with
  accessFlags := 48
  interfaces := #[]
  cf := some (fileOf pool8 14 #[.nestMembers #[390, 221]] #[{ accessFlags := 0, nameIndex := 7, descriptorIndex := 8, attributes := #[] }, { accessFlags := 9, nameIndex := 90, descriptorIndex := 105, attributes := #[] }, { accessFlags := 9, nameIndex := 380, descriptorIndex := 382, attributes := #[] }] 48 4 #[] #[{ accessFlags := 4120, nameIndex := 121, descriptorIndex := 122, attributes := #[] }])
  fields := #[{ name := "$assertionsDisabled", type := .boolean, accessFlags := 4120, slot := 0, constantValue := 0 }]
  methods := #[k8m0, k8m1, k8m2]
  instanceTypes := #[]
  staticTypes := #[.boolean]
  resolved := Array.replicate 395 none
  statics := none }

def pool9 : Array CpInfo := pool [(3, .methodref 4 5), (0, .class_ 6), (0, .nameAndType 7 8), (0, u "java/lang/Object"), (0, u "<init>"), (0, u "()V"), (0, .fieldref 10 11), (0, .class_ 12), (0, .nameAndType 13 14), (0, u "com/example/design_drills/designdrills/service/listens/IdNumbers"), (0, u "bytes"), (0, u "[B"), (0, .fieldref 10 16), (0, .nameAndType 17 18), (0, u "starts"), (0, u "[I"), (0, .fieldref 10 20), (0, .nameAndType 21 18), (0, u "slots"), (0, .fieldref 10 23), (0, .nameAndType 24 25), (0, u "size"), (0, u "I"), (0, .methodref 10 27), (0, .nameAndType 28 29), (0, u "ascii"), (0, u "(Ljava/lang/String;)[B"), (0, .methodref 10 31), (0, .nameAndType 32 33), (0, u "hash"), (0, u "([BII)I"), (0, .methodref 10 35), (0, .nameAndType 36 37), (0, u "slotOf"), (0, u "([BIII)I"), (0, .methodref 10 39), (0, .nameAndType 40 33), (0, u "add"), (0, .fieldref 10 42), (0, .nameAndType 43 25), (0, u "used"), (3, u "(I)I"), (1, .class_ 51), (1, u "java/util/Arrays"), (5, .methodref 58 59), (0, .class_ 60), (0, .nameAndType 61 62), (0, u "java/lang/System"), (0, u "arraycopy"), (0, u "(Ljava/lang/Object;ILjava/lang/Object;II)V"), (5, u "writtenBytes"), (6, .class_ 76), (0, u "java/lang/String"), (0, .fieldref 78 79), (0, .class_ 80), (0, .nameAndType 81 82), (0, u "java/nio/charset/StandardCharsets"), (0, u "US_ASCII"), (0, u "Ljava/nio/charset/Charset;"), (7, .methodref 10 91), (0, .nameAndType 92 47), (0, u "spread"), (0, .methodref 10 94), (0, .nameAndType 95 96), (0, u "holds"), (0, u "(I[BII)Z"), (0, .methodref 49 98), (0, .nameAndType 99 100), (0, u "equals"), (0, u "([BII[BII)Z"), (21, .integer 2246822507), (0, .integer 3266489909), (0, .methodref 75 125), (0, .nameAndType 126 127), (0, u "getBytes"), (0, u "(Ljava/nio/charset/Charset;)[B"), (0, u "MAX_BYTES"), (5, u "(Ljava/lang/String;)I")] 10

def k9c0 : Code := { maxStack := 2, maxLocals := 1, code := prog_65_method_1_code, exceptionTable := #[], attributes := #[] }
def k9m0 : Method := { name := "<init>", desc := "()V", sig := { parameters := [], returnType := none }, accessFlags := 0, code := some k9c0 }
def k9c1 : Code := { maxStack := 4, maxLocals := 3, code := prog_65_method_4_code, exceptionTable := #[], attributes := #[] }
def k9m1 : Method := { name := "add", desc := "(Ljava/lang/String;)I", sig := { parameters := [(.object "java/lang/String")], returnType := some .int }, accessFlags := 0, code := some k9c1 }
def k9c2 : Code := { maxStack := 5, maxLocals := 7, code := prog_65_method_6_code, exceptionTable := #[], attributes := #[] }
def k9m2 : Method := { name := "add", desc := "([BII)I", sig := { parameters := [(.array .byte), .int, .int], returnType := some .int }, accessFlags := 0, code := some k9c2 }
def k9c3 : Code := { maxStack := 4, maxLocals := 2, code := prog_65_method_7_code, exceptionTable := #[], attributes := #[] }
def k9m3 : Method := { name := "writtenBytes", desc := "(I)I", sig := { parameters := [.int], returnType := some .int }, accessFlags := 0, code := some k9c3 }
def k9c4 : Code := { maxStack := 5, maxLocals := 8, code := prog_65_method_11_code, exceptionTable := #[], attributes := #[] }
def k9m4 : Method := { name := "slotOf", desc := "([BIII)I", sig := { parameters := [(.array .byte), .int, .int, .int], returnType := some .int }, accessFlags := 2, code := some k9c4 }
def k9c5 : Code := { maxStack := 7, maxLocals := 6, code := prog_65_method_12_code, exceptionTable := #[], attributes := #[] }
def k9m5 : Method := { name := "holds", desc := "(I[BII)Z", sig := { parameters := [.int, (.array .byte), .int, .int], returnType := some .boolean }, accessFlags := 2, code := some k9c5 }
def k9c6 : Code := { maxStack := 3, maxLocals := 5, code := prog_65_method_15_code, exceptionTable := #[], attributes := #[] }
def k9m6 : Method := { name := "hash", desc := "([BII)I", sig := { parameters := [(.array .byte), .int, .int], returnType := some .int }, accessFlags := 10, code := some k9c6 }
def k9c7 : Code := { maxStack := 3, maxLocals := 2, code := prog_65_method_16_code, exceptionTable := #[], attributes := #[] }
def k9m7 : Method := { name := "spread", desc := "(I)I", sig := { parameters := [.int], returnType := some .int }, accessFlags := 8, code := some k9c7 }
def k9c8 : Code := { maxStack := 2, maxLocals := 1, code := prog_65_method_17_code, exceptionTable := #[], attributes := #[] }
def k9m8 : Method := { name := "ascii", desc := "(Ljava/lang/String;)[B", sig := { parameters := [(.object "java/lang/String")], returnType := some (.array .byte) }, accessFlags := 10, code := some k9c8 }
/-- com/example/design_drills/designdrills/service/listens/IdNumbers -/
def k9 : Class := { plain "com/example/design_drills/designdrills/service/listens/IdNumbers" (some 0) with
  accessFlags := 48
  interfaces := #[]
  cf := some (fileOf pool9 10 #[] #[{ accessFlags := 0, nameIndex := 7, descriptorIndex := 8, attributes := #[] }, { accessFlags := 0, nameIndex := 40, descriptorIndex := 134, attributes := #[] }, { accessFlags := 0, nameIndex := 40, descriptorIndex := 33, attributes := #[] }, { accessFlags := 0, nameIndex := 68, descriptorIndex := 47, attributes := #[] }, { accessFlags := 2, nameIndex := 36, descriptorIndex := 37, attributes := #[] }, { accessFlags := 2, nameIndex := 95, descriptorIndex := 96, attributes := #[] }, { accessFlags := 10, nameIndex := 32, descriptorIndex := 33, attributes := #[] }, { accessFlags := 8, nameIndex := 92, descriptorIndex := 47, attributes := #[] }, { accessFlags := 10, nameIndex := 28, descriptorIndex := 29, attributes := #[] }] 48 4 #[] #[{ accessFlags := 26, nameIndex := 128, descriptorIndex := 25, attributes := #[] }, { accessFlags := 2, nameIndex := 13, descriptorIndex := 14, attributes := #[] }, { accessFlags := 2, nameIndex := 43, descriptorIndex := 25, attributes := #[] }, { accessFlags := 2, nameIndex := 17, descriptorIndex := 18, attributes := #[] }, { accessFlags := 2, nameIndex := 24, descriptorIndex := 25, attributes := #[] }, { accessFlags := 2, nameIndex := 21, descriptorIndex := 18, attributes := #[] }])
  fields := #[{ name := "MAX_BYTES", type := .int, accessFlags := 26, slot := 0, constantValue := 0 }, { name := "bytes", type := (.array .byte), accessFlags := 2, slot := 0, constantValue := 0 }, { name := "used", type := .int, accessFlags := 2, slot := 1, constantValue := 0 }, { name := "starts", type := (.array .int), accessFlags := 2, slot := 2, constantValue := 0 }, { name := "size", type := .int, accessFlags := 2, slot := 3, constantValue := 0 }, { name := "slots", type := (.array .int), accessFlags := 2, slot := 4, constantValue := 0 }]
  methods := #[k9m0, k9m1, k9m2, k9m3, k9m4, k9m5, k9m6, k9m7, k9m8]
  instanceTypes := #[(.array .byte), .int, (.array .int), .int, (.array .int)]
  staticTypes := #[.int]
  resolved := Array.replicate 145 none
  statics := none }

def pool10 : Array CpInfo := pool [(2, .class_ 4), (1, u "java/lang/Object"), (0, u "<init>"), (0, u "()V"), (14, .class_ 23), (1, u "java/nio/charset/StandardCharsets"), (0, u "US_ASCII"), (0, u "Ljava/nio/charset/Charset;"), (7, u "ISO_8859_1"), (7, u "UTF_8"), (5, u "UTF_16BE"), (5, u "UTF_16LE"), (5, u "UTF_16")] 8

def k10m0 : Method := { name := "<init>", desc := "()V", sig := { parameters := [], returnType := none }, accessFlags := 2, code := none }
/-- java/nio/charset/StandardCharsets -/
def k10 : Class := { plain "java/nio/charset/StandardCharsets" (some 0) with
  accessFlags := 49
  interfaces := #[]
  cf := some (fileOf pool10 21 #[] #[{ accessFlags := 2, nameIndex := 5, descriptorIndex := 6, attributes := #[] }] 49 2 #[] #[{ accessFlags := 25, nameIndex := 24, descriptorIndex := 25, attributes := #[] }, { accessFlags := 25, nameIndex := 33, descriptorIndex := 25, attributes := #[] }, { accessFlags := 25, nameIndex := 41, descriptorIndex := 25, attributes := #[] }, { accessFlags := 25, nameIndex := 47, descriptorIndex := 25, attributes := #[] }, { accessFlags := 25, nameIndex := 53, descriptorIndex := 25, attributes := #[] }, { accessFlags := 25, nameIndex := 59, descriptorIndex := 25, attributes := #[] }])
  fields := #[{ name := "US_ASCII", type := (.object "java/nio/charset/Charset"), accessFlags := 25, slot := 0, constantValue := 0 }, { name := "ISO_8859_1", type := (.object "java/nio/charset/Charset"), accessFlags := 25, slot := 1, constantValue := 0 }, { name := "UTF_8", type := (.object "java/nio/charset/Charset"), accessFlags := 25, slot := 2, constantValue := 0 }, { name := "UTF_16BE", type := (.object "java/nio/charset/Charset"), accessFlags := 25, slot := 3, constantValue := 0 }, { name := "UTF_16LE", type := (.object "java/nio/charset/Charset"), accessFlags := 25, slot := 4, constantValue := 0 }, { name := "UTF_16", type := (.object "java/nio/charset/Charset"), accessFlags := 25, slot := 5, constantValue := 0 }]
  methods := #[k10m0]
  instanceTypes := #[]
  staticTypes := #[(.object "java/nio/charset/Charset"), (.object "java/nio/charset/Charset"), (.object "java/nio/charset/Charset"), (.object "java/nio/charset/Charset"), (.object "java/nio/charset/Charset"), (.object "java/nio/charset/Charset")]
  resolved := Array.replicate 68 none
  statics := some 1 }

def pool11 : Array CpInfo := pool [(18, .class_ 20), (1, u "java/nio/charset/Charset"), (0, u "cache1"), (0, u "[Ljava/lang/Object;"), (2, u "cache2"), (0, .class_ 27), (0, u "java/lang/Object"), (0, .class_ 29), (0, u "java/nio/charset/Charset$1"), (4, .class_ 36), (1, u "java/nio/charset/Charset$ThreadTrackHolder"), (21, .class_ 59), (0, u "java/nio/charset/Charset$2"), (11, .class_ 73), (1, u "java/nio/charset/Charset$ExtendedProviderHolder"), (22, u "standardProvider"), (0, u "Ljava/nio/charset/spi/CharsetProvider;"), (29, u "name"), (7, .class_ 136), (0, u "java/nio/charset/Charset$3"), (5, u "defaultCharset"), (0, u "Ljava/nio/charset/Charset;"), (14, u "zeroAliases"), (0, u "[Ljava/lang/String;"), (29, u "Ljava/lang/String;"), (2, u "aliases"), (2, u "aliasSet"), (0, u "Ljava/util/Set;"), (82, .class_ 280), (0, u "java/lang/Comparable"), (84, .class_ 366), (0, u "java/nio/charset/Charset$ExtendedProviderHolder$1")] 3

/-- java/nio/charset/Charset -/
def k11 : Class := { plain "java/nio/charset/Charset" (some 0) with
  accessFlags := 1057
  interfaces := #[3]
  cf := some (fileOf pool11 18 #[.nestMembers #[71, 365, 34, 135, 58, 28]] #[] 1057 26 #[279] #[{ accessFlags := 26, nameIndex := 96, descriptorIndex := 97, attributes := #[] }, { accessFlags := 26, nameIndex := 158, descriptorIndex := 159, attributes := #[] }, { accessFlags := 74, nameIndex := 21, descriptorIndex := 22, attributes := #[] }, { accessFlags := 74, nameIndex := 25, descriptorIndex := 22, attributes := #[] }, { accessFlags := 10, nameIndex := 142, descriptorIndex := 143, attributes := #[] }, { accessFlags := 18, nameIndex := 127, descriptorIndex := 189, attributes := #[] }, { accessFlags := 18, nameIndex := 192, descriptorIndex := 159, attributes := #[] }, { accessFlags := 2, nameIndex := 195, descriptorIndex := 196, attributes := #[] }])
  fields := #[{ name := "standardProvider", type := (.object "java/nio/charset/spi/CharsetProvider"), accessFlags := 26, slot := 0, constantValue := 0 }, { name := "zeroAliases", type := (.array (.object "java/lang/String")), accessFlags := 26, slot := 1, constantValue := 0 }, { name := "cache1", type := (.array (.object "java/lang/Object")), accessFlags := 74, slot := 2, constantValue := 0 }, { name := "cache2", type := (.array (.object "java/lang/Object")), accessFlags := 74, slot := 3, constantValue := 0 }, { name := "defaultCharset", type := (.object "java/nio/charset/Charset"), accessFlags := 10, slot := 4, constantValue := 0 }, { name := "name", type := (.object "java/lang/String"), accessFlags := 18, slot := 0, constantValue := 0 }, { name := "aliases", type := (.array (.object "java/lang/String")), accessFlags := 18, slot := 1, constantValue := 0 }, { name := "aliasSet", type := (.object "java/util/Set"), accessFlags := 2, slot := 2, constantValue := 0 }]
  methods := #[]
  instanceTypes := #[(.object "java/lang/String"), (.array (.object "java/lang/String")), (.object "java/util/Set")]
  staticTypes := #[(.object "java/nio/charset/spi/CharsetProvider"), (.array (.object "java/lang/String")), (.array (.object "java/lang/Object")), (.array (.object "java/lang/Object")), (.object "java/nio/charset/Charset")]
  resolved := Array.replicate 370 none
  statics := none }

def pool12 : Array CpInfo := pool [(1, .class_ 2), (0, u "sun/nio/cs/HistoricallyNamedCharset"), (0, .class_ 4), (0, u "java/lang/Object")] 4

/-- sun/nio/cs/HistoricallyNamedCharset -/
def k12 : Class := { plain "sun/nio/cs/HistoricallyNamedCharset" (some 0) with
  accessFlags := 1537
  interfaces := #[]
  cf := some (fileOf pool12 1 #[] #[] 1537 3 #[] #[])
  fields := #[]
  methods := #[]
  instanceTypes := #[]
  staticTypes := #[]
  resolved := Array.replicate 9 none
  statics := none }

def pool13 : Array CpInfo := pool [(2, .class_ 4), (1, u "java/nio/charset/Charset"), (130, .class_ 136), (0, u "sun/nio/cs/Unicode"), (0, .class_ 138), (0, u "sun/nio/cs/HistoricallyNamedCharset")] 15

/-- sun/nio/cs/Unicode -/
def k13 : Class := { plain "sun/nio/cs/Unicode" (some 11) with
  accessFlags := 1056
  interfaces := #[12]
  cf := some (fileOf pool13 135 #[] #[] 1056 2 #[137] #[])
  fields := #[]
  methods := #[]
  instanceTypes := #[(.object "java/lang/String"), (.array (.object "java/lang/String")), (.object "java/util/Set")]
  staticTypes := #[]
  resolved := Array.replicate 154 none
  statics := none }

def pool14 : Array CpInfo := pool [(10, .class_ 12), (1, u "sun/nio/cs/Unicode"), (0, u "<init>"), (3, .class_ 18), (0, u "sun/nio/cs/UTF_8$Decoder"), (3, .class_ 23), (0, u "sun/nio/cs/UTF_8$Encoder"), (15, .class_ 40), (0, u "sun/nio/cs/UTF_8"), (2, u "()V"), (2, u "INSTANCE"), (0, u "Lsun/nio/cs/UTF_8;"), (8, u "JLA"), (0, u "Ljdk/internal/access/JavaLangAccess;")] 26

def k14m0 : Method := { name := "<init>", desc := "()V", sig := { parameters := [], returnType := none }, accessFlags := 1, code := none }
/-- sun/nio/cs/UTF_8 -/
def k14 : Class := { plain "sun/nio/cs/UTF_8" (some 13) with
  accessFlags := 49
  interfaces := #[]
  cf := some (fileOf pool14 39 #[.nestMembers #[22, 17]] #[{ accessFlags := 1, nameIndex := 13, descriptorIndex := 43, attributes := #[] }] 49 10 #[] #[{ accessFlags := 25, nameIndex := 46, descriptorIndex := 47, attributes := #[] }, { accessFlags := 26, nameIndex := 56, descriptorIndex := 57, attributes := #[] }])
  fields := #[{ name := "INSTANCE", type := (.object "sun/nio/cs/UTF_8"), accessFlags := 25, slot := 0, constantValue := 0 }, { name := "JLA", type := (.object "jdk/internal/access/JavaLangAccess"), accessFlags := 26, slot := 1, constantValue := 0 }]
  methods := #[k14m0]
  instanceTypes := #[(.object "java/lang/String"), (.array (.object "java/lang/String")), (.object "java/util/Set")]
  staticTypes := #[(.object "sun/nio/cs/UTF_8"), (.object "jdk/internal/access/JavaLangAccess")]
  resolved := Array.replicate 84 none
  statics := some 2 }

def pool15 : Array CpInfo := pool [(10, .class_ 12), (1, u "java/nio/charset/Charset"), (0, u "<init>"), (5, .class_ 20), (0, u "sun/nio/cs/ISO_8859_1"), (0, .class_ 22), (0, u "sun/nio/cs/ISO_8859_1$Decoder"), (3, .class_ 27), (0, u "sun/nio/cs/ISO_8859_1$Encoder"), (3, u "()V"), (2, u "INSTANCE"), (0, u "Lsun/nio/cs/ISO_8859_1;"), (0, .class_ 37), (0, u "sun/nio/cs/HistoricallyNamedCharset")] 22

def k15m0 : Method := { name := "<init>", desc := "()V", sig := { parameters := [], returnType := none }, accessFlags := 1, code := none }
/-- sun/nio/cs/ISO_8859_1 -/
def k15 : Class := { plain "sun/nio/cs/ISO_8859_1" (some 11) with
  accessFlags := 33
  interfaces := #[12]
  cf := some (fileOf pool15 19 #[.nestMembers #[26, 21]] #[{ accessFlags := 1, nameIndex := 13, descriptorIndex := 31, attributes := #[] }] 33 10 #[36] #[{ accessFlags := 25, nameIndex := 34, descriptorIndex := 35, attributes := #[] }])
  fields := #[{ name := "INSTANCE", type := (.object "sun/nio/cs/ISO_8859_1"), accessFlags := 25, slot := 0, constantValue := 0 }]
  methods := #[k15m0]
  instanceTypes := #[(.object "java/lang/String"), (.array (.object "java/lang/String")), (.object "java/util/Set")]
  staticTypes := #[(.object "sun/nio/cs/ISO_8859_1")]
  resolved := Array.replicate 60 none
  statics := some 3 }

def pool16 : Array CpInfo := pool [(10, .class_ 12), (1, u "java/nio/charset/Charset"), (0, u "<init>"), (3, .class_ 18), (0, u "sun/nio/cs/US_ASCII"), (0, .class_ 20), (0, u "sun/nio/cs/US_ASCII$Decoder"), (3, .class_ 25), (0, u "sun/nio/cs/US_ASCII$Encoder"), (3, u "()V"), (2, u "INSTANCE"), (0, u "Lsun/nio/cs/US_ASCII;"), (8, u "JLA"), (0, u "Ljdk/internal/access/JavaLangAccess;"), (0, .class_ 45), (0, u "sun/nio/cs/HistoricallyNamedCharset")] 21

def k16m0 : Method := { name := "<init>", desc := "()V", sig := { parameters := [], returnType := none }, accessFlags := 1, code := none }
/-- sun/nio/cs/US_ASCII -/
def k16 : Class := { plain "sun/nio/cs/US_ASCII" (some 11) with
  accessFlags := 33
  interfaces := #[12]
  cf := some (fileOf pool16 17 #[.nestMembers #[24, 19]] #[{ accessFlags := 1, nameIndex := 13, descriptorIndex := 29, attributes := #[] }] 33 10 #[44] #[{ accessFlags := 25, nameIndex := 32, descriptorIndex := 33, attributes := #[] }, { accessFlags := 26, nameIndex := 42, descriptorIndex := 43, attributes := #[] }])
  fields := #[{ name := "INSTANCE", type := (.object "sun/nio/cs/US_ASCII"), accessFlags := 25, slot := 0, constantValue := 0 }, { name := "JLA", type := (.object "jdk/internal/access/JavaLangAccess"), accessFlags := 26, slot := 1, constantValue := 0 }]
  methods := #[k16m0]
  instanceTypes := #[(.object "java/lang/String"), (.array (.object "java/lang/String")), (.object "java/util/Set")]
  staticTypes := #[(.object "sun/nio/cs/US_ASCII"), (.object "jdk/internal/access/JavaLangAccess")]
  resolved := Array.replicate 67 none
  statics := some 4 }

def pool17 : Array CpInfo := pool [(2, .class_ 4), (1, u "java/lang/Object"), (0, u "<init>"), (0, u "()V"), (1, .class_ 10), (1, u "java/lang/StringCoding"), (0, u "countPositives"), (0, u "([BII)I")] 36

def k17m0 : Method := { name := "<init>", desc := "()V", sig := { parameters := [], returnType := none }, accessFlags := 2, code := none }
def k17c1 : Code := { maxStack := 2, maxLocals := 5, code := jdk_123_method_3_code, exceptionTable := #[], attributes := #[] }
def k17m1 : Method := { name := "countPositives", desc := "([BII)I", sig := { parameters := [(.array .byte), .int, .int], returnType := some .int }, accessFlags := 9, code := some k17c1 }
/-- java/lang/StringCoding -/
def k17 : Class := { plain "java/lang/StringCoding" (some 0) with
  accessFlags := 32
  interfaces := #[]
  cf := some (fileOf pool17 8 #[] #[{ accessFlags := 2, nameIndex := 5, descriptorIndex := 6, attributes := #[] }, { accessFlags := 9, nameIndex := 11, descriptorIndex := 12, attributes := #[] }] 32 2 #[] #[])
  fields := #[]
  methods := #[k17m0, k17m1]
  instanceTypes := #[]
  staticTypes := #[]
  resolved := Array.replicate 49 none
  statics := none }

def pool18 : Array CpInfo := pool [(1, .class_ 2), (0, u "java/lang/Cloneable"), (0, .class_ 4), (0, u "java/lang/Object")] 2

/-- java/lang/Cloneable -/
def k18 : Class := { plain "java/lang/Cloneable" (some 0) with
  accessFlags := 1537
  interfaces := #[]
  cf := some (fileOf pool18 1 #[] #[] 1537 3 #[] #[])
  fields := #[]
  methods := #[]
  instanceTypes := #[]
  staticTypes := #[]
  resolved := Array.replicate 7 none
  statics := none }

def pool19 : Array CpInfo := pool [(2, .class_ 4), (1, u "java/lang/Object"), (0, u "<init>"), (0, u "()V"), (1, .class_ 10), (1, u "java/lang/System"), (0, u "allowSecurityManager"), (0, u "I"), (16, u "cons"), (0, u "Ljava/io/Console;"), (77, .class_ 110), (1, u "java/lang/System$CallersHolder"), (43, u "initialErrStream"), (0, u "Ljava/io/PrintStream;"), (19, u "security"), (0, u "Ljava/lang/SecurityManager;"), (31, .class_ 209), (0, u "java/lang/System$1"), (7, u "props"), (0, u "Ljava/util/Properties;"), (2, u "lineSeparator"), (0, u "Ljava/lang/String;"), (96, .class_ 321), (1, u "java/lang/System$LoggerFinder"), (5, .class_ 328), (0, u "java/lang/System$Logger"), (67, u "err"), (2, u "out"), (91, u "notSupportedJnuEncoding"), (15, u "in"), (17, u "initialIn"), (0, u "Ljava/io/InputStream;"), (35, u "bootLayer"), (0, u "Ljava/lang/ModuleLayer;"), (99, .class_ 664), (0, u "java/lang/System$2"), (9, u "NEVER"), (2, u "MAYBE"), (49, u "arraycopy"), (0, u "(Ljava/lang/Object;ILjava/lang/Object;II)V"), (72, .class_ 802), (0, u "java/lang/System$Logger$Level")] 31

def k19m0 : Method := { name := "<init>", desc := "()V", sig := { parameters := [], returnType := none }, accessFlags := 2, code := none }
def k19m1 : Method := { name := "arraycopy", desc := "(Ljava/lang/Object;ILjava/lang/Object;II)V", sig := { parameters := [(.object "java/lang/Object"), .int, (.object "java/lang/Object"), .int, .int], returnType := none }, accessFlags := 265, code := none }
/-- java/lang/System -/
def k19 : Class := { plain "java/lang/System" (some 0) with
  accessFlags := 49
  interfaces := #[]
  cf := some (fileOf pool19 8 #[.nestMembers #[319, 327, 801, 108, 663, 208]] #[{ accessFlags := 2, nameIndex := 5, descriptorIndex := 6, attributes := #[] }, { accessFlags := 265, nameIndex := 727, descriptorIndex := 728, attributes := #[] }] 49 2 #[] #[{ accessFlags := 25, nameIndex := 507, descriptorIndex := 526, attributes := #[] }, { accessFlags := 25, nameIndex := 399, descriptorIndex := 155, attributes := #[] }, { accessFlags := 25, nameIndex := 396, descriptorIndex := 155, attributes := #[] }, { accessFlags := 10, nameIndex := 525, descriptorIndex := 526, attributes := #[] }, { accessFlags := 26, nameIndex := 674, descriptorIndex := 12, attributes := #[] }, { accessFlags := 26, nameIndex := 677, descriptorIndex := 12, attributes := #[] }, { accessFlags := 10, nameIndex := 11, descriptorIndex := 12, attributes := #[] }, { accessFlags := 74, nameIndex := 175, descriptorIndex := 176, attributes := #[] }, { accessFlags := 10, nameIndex := 491, descriptorIndex := 222, attributes := #[] }, { accessFlags := 74, nameIndex := 29, descriptorIndex := 30, attributes := #[] }, { accessFlags := 74, nameIndex := 154, descriptorIndex := 155, attributes := #[] }, { accessFlags := 10, nameIndex := 217, descriptorIndex := 218, attributes := #[] }, { accessFlags := 10, nameIndex := 221, descriptorIndex := 222, attributes := #[] }, { accessFlags := 8, nameIndex := 562, descriptorIndex := 563, attributes := #[] }])
  fields := #[{ name := "in", type := (.object "java/io/InputStream"), accessFlags := 25, slot := 0, constantValue := 0 }, { name := "out", type := (.object "java/io/PrintStream"), accessFlags := 25, slot := 1, constantValue := 0 }, { name := "err", type := (.object "java/io/PrintStream"), accessFlags := 25, slot := 2, constantValue := 0 }, { name := "initialIn", type := (.object "java/io/InputStream"), accessFlags := 10, slot := 3, constantValue := 0 }, { name := "NEVER", type := .int, accessFlags := 26, slot := 4, constantValue := 0 }, { name := "MAYBE", type := .int, accessFlags := 26, slot := 5, constantValue := 0 }, { name := "allowSecurityManager", type := .int, accessFlags := 10, slot := 6, constantValue := 0 }, { name := "security", type := (.object "java/lang/SecurityManager"), accessFlags := 74, slot := 7, constantValue := 0 }, { name := "notSupportedJnuEncoding", type := (.object "java/lang/String"), accessFlags := 10, slot := 8, constantValue := 0 }, { name := "cons", type := (.object "java/io/Console"), accessFlags := 74, slot := 9, constantValue := 0 }, { name := "initialErrStream", type := (.object "java/io/PrintStream"), accessFlags := 74, slot := 10, constantValue := 0 }, { name := "props", type := (.object "java/util/Properties"), accessFlags := 10, slot := 11, constantValue := 0 }, { name := "lineSeparator", type := (.object "java/lang/String"), accessFlags := 10, slot := 12, constantValue := 0 }, { name := "bootLayer", type := (.object "java/lang/ModuleLayer"), accessFlags := 8, slot := 13, constantValue := 0 }]
  methods := #[k19m0, k19m1]
  instanceTypes := #[]
  staticTypes := #[(.object "java/io/InputStream"), (.object "java/io/PrintStream"), (.object "java/io/PrintStream"), (.object "java/io/InputStream"), .int, .int, .int, (.object "java/lang/SecurityManager"), (.object "java/lang/String"), (.object "java/io/Console"), (.object "java/io/PrintStream"), (.object "java/util/Properties"), (.object "java/lang/String"), (.object "java/lang/ModuleLayer")]
  resolved := Array.replicate 834 none
  statics := none }

def pool20 : Array CpInfo := pool [(2, .class_ 4), (1, u "java/lang/Object"), (0, u "<init>"), (0, u "()V"), (6, .methodref 14 15), (0, .class_ 16), (0, .nameAndType 17 18), (0, u "java/util/Arrays"), (0, u "rangeCheck"), (0, u "(III)V"), (55, .class_ 76), (1, u "java/util/Arrays$NaturalOrder"), (36, .class_ 115), (1, u "java/util/Arrays$LegacyMergeSort"), (1, u "Z"), (128, .class_ 248), (1, u "jdk/internal/util/ArraysSupport"), (0, u "mismatch"), (25, .methodref 246 276), (0, .nameAndType 249 277), (0, u "([BI[BII)I"), (20, u "equals"), (76, .class_ 376), (0, u "java/util/Arrays$ArrayList"), (68, u "$assertionsDisabled"), (269, u "MIN_ARRAY_SORT_GRAN"), (0, u "I"), (2, u "INSERTIONSORT_THRESHOLD"), (111, u "([BII[BII)Z"), (143, .class_ 976), (0, u "java/util/Arrays$ArrayItr")] 52

def k20m0 : Method := { name := "<init>", desc := "()V", sig := { parameters := [], returnType := none }, accessFlags := 2, code := none }
def k20c1 : Code := { maxStack := 4, maxLocals := 3, code := jdk_65_method_30_code, exceptionTable := #[], attributes := #[] }
def k20m1 : Method := { name := "rangeCheck", desc := "(III)V", sig := { parameters := [.int, .int, .int], returnType := none }, accessFlags := 8, code := some k20c1 }
def k20c2 : Code := { maxStack := 5, maxLocals := 8, code := jdk_65_method_90_code, exceptionTable := #[], attributes := #[] }
def k20m2 : Method := { name := "equals", desc := "([BII[BII)Z", sig := { parameters := [(.array .byte), .int, .int, (.array .byte), .int, .int], returnType := some .boolean }, accessFlags := 9, code := some k20c2 }
/-- java/util/Arrays -/
def k20 : Class := { plain "java/util/Arrays" (some 0) with
  accessFlags := 49
  interfaces := #[]
  cf := some (fileOf pool20 14 #[.nestMembers #[975, 375, 113, 74]] #[{ accessFlags := 2, nameIndex := 5, descriptorIndex := 6, attributes := #[] }, { accessFlags := 8, nameIndex := 17, descriptorIndex := 18, attributes := #[] }, { accessFlags := 9, nameIndex := 298, descriptorIndex := 831, attributes := #[] }] 49 2 #[] #[{ accessFlags := 26, nameIndex := 715, descriptorIndex := 716, attributes := #[] }, { accessFlags := 26, nameIndex := 719, descriptorIndex := 716, attributes := #[] }, { accessFlags := 4120, nameIndex := 445, descriptorIndex := 117, attributes := #[] }])
  fields := #[{ name := "MIN_ARRAY_SORT_GRAN", type := .int, accessFlags := 26, slot := 0, constantValue := 0 }, { name := "INSERTIONSORT_THRESHOLD", type := .int, accessFlags := 26, slot := 1, constantValue := 0 }, { name := "$assertionsDisabled", type := .boolean, accessFlags := 4120, slot := 2, constantValue := 0 }]
  methods := #[k20m0, k20m1, k20m2]
  instanceTypes := #[]
  staticTypes := #[.int, .int, .boolean]
  resolved := Array.replicate 1029 none
  statics := none }

def pool21 : Array CpInfo := pool [(9, u "<init>"), (6, .class_ 18), (1, u "java/lang/Object"), (0, u "()V"), (1, .class_ 23), (1, u "jdk/internal/util/ArraysSupport"), (0, u "LOG2_ARRAY_LONG_INDEX_SCALE"), (0, u "I"), (2, u "U"), (0, u "Ljdk/internal/misc/Unsafe;"), (8, u "BIG_ENDIAN"), (0, u "Z"), (8, u "LOG2_BYTE_BIT_SIZE"), (4, u "LOG2_ARRAY_INT_INDEX_SCALE"), (54, u "JLA"), (0, u "Ljdk/internal/access/JavaLangAccess;"), (11, u "LOG2_ARRAY_BOOLEAN_INDEX_SCALE"), (9, u "LOG2_ARRAY_BYTE_INDEX_SCALE"), (5, u "LOG2_ARRAY_CHAR_INDEX_SCALE"), (5, u "LOG2_ARRAY_SHORT_INDEX_SCALE"), (5, u "mismatch"), (12, u "LOG2_ARRAY_FLOAT_INDEX_SCALE"), (24, u "LOG2_ARRAY_DOUBLE_INDEX_SCALE"), (89, u "T_BOOLEAN"), (2, u "T_CHAR"), (1, u "T_FLOAT"), (1, u "T_DOUBLE"), (1, u "T_BYTE"), (1, u "T_SHORT"), (1, u "T_INT"), (1, u "T_LONG"), (1, u "SOFT_MAX_ARRAY_LENGTH"), (42, u "([BI[BII)I")] 40

def k21m0 : Method := { name := "<init>", desc := "()V", sig := { parameters := [], returnType := none }, accessFlags := 2, code := none }
def k21c1 : Code := { maxStack := 8, maxLocals := 8, code := jdk_48_method_14_code, exceptionTable := #[], attributes := #[] }
def k21m1 : Method := { name := "mismatch", desc := "([BI[BII)I", sig := { parameters := [(.array .byte), .int, (.array .byte), .int, .int], returnType := some .int }, accessFlags := 9, code := some k21c1 }
/-- jdk/internal/util/ArraysSupport -/
def k21 : Class := { plain "jdk/internal/util/ArraysSupport" (some 0) with
  accessFlags := 33
  interfaces := #[]
  cf := some (fileOf pool21 21 #[] #[{ accessFlags := 2, nameIndex := 9, descriptorIndex := 19, attributes := #[] }, { accessFlags := 9, nameIndex := 149, descriptorIndex := 337, attributes := #[] }] 33 16 #[] #[{ accessFlags := 24, nameIndex := 28, descriptorIndex := 29, attributes := #[] }, { accessFlags := 26, nameIndex := 38, descriptorIndex := 39, attributes := #[] }, { accessFlags := 25, nameIndex := 121, descriptorIndex := 25, attributes := #[] }, { accessFlags := 25, nameIndex := 131, descriptorIndex := 25, attributes := #[] }, { accessFlags := 25, nameIndex := 137, descriptorIndex := 25, attributes := #[] }, { accessFlags := 25, nameIndex := 143, descriptorIndex := 25, attributes := #[] }, { accessFlags := 25, nameIndex := 53, descriptorIndex := 25, attributes := #[] }, { accessFlags := 25, nameIndex := 24, descriptorIndex := 25, attributes := #[] }, { accessFlags := 25, nameIndex := 162, descriptorIndex := 25, attributes := #[] }, { accessFlags := 25, nameIndex := 187, descriptorIndex := 25, attributes := #[] }, { accessFlags := 26, nameIndex := 48, descriptorIndex := 25, attributes := #[] }, { accessFlags := 25, nameIndex := 277, descriptorIndex := 25, attributes := #[] }, { accessFlags := 25, nameIndex := 280, descriptorIndex := 25, attributes := #[] }, { accessFlags := 25, nameIndex := 282, descriptorIndex := 25, attributes := #[] }, { accessFlags := 25, nameIndex := 284, descriptorIndex := 25, attributes := #[] }, { accessFlags := 25, nameIndex := 286, descriptorIndex := 25, attributes := #[] }, { accessFlags := 25, nameIndex := 288, descriptorIndex := 25, attributes := #[] }, { accessFlags := 25, nameIndex := 290, descriptorIndex := 25, attributes := #[] }, { accessFlags := 25, nameIndex := 292, descriptorIndex := 25, attributes := #[] }, { accessFlags := 26, nameIndex := 108, descriptorIndex := 109, attributes := #[] }, { accessFlags := 25, nameIndex := 294, descriptorIndex := 25, attributes := #[] }])
  fields := #[{ name := "U", type := (.object "jdk/internal/misc/Unsafe"), accessFlags := 24, slot := 0, constantValue := 0 }, { name := "BIG_ENDIAN", type := .boolean, accessFlags := 26, slot := 1, constantValue := 0 }, { name := "LOG2_ARRAY_BOOLEAN_INDEX_SCALE", type := .int, accessFlags := 25, slot := 2, constantValue := 0 }, { name := "LOG2_ARRAY_BYTE_INDEX_SCALE", type := .int, accessFlags := 25, slot := 3, constantValue := 0 }, { name := "LOG2_ARRAY_CHAR_INDEX_SCALE", type := .int, accessFlags := 25, slot := 4, constantValue := 0 }, { name := "LOG2_ARRAY_SHORT_INDEX_SCALE", type := .int, accessFlags := 25, slot := 5, constantValue := 0 }, { name := "LOG2_ARRAY_INT_INDEX_SCALE", type := .int, accessFlags := 25, slot := 6, constantValue := 0 }, { name := "LOG2_ARRAY_LONG_INDEX_SCALE", type := .int, accessFlags := 25, slot := 7, constantValue := 0 }, { name := "LOG2_ARRAY_FLOAT_INDEX_SCALE", type := .int, accessFlags := 25, slot := 8, constantValue := 0 }, { name := "LOG2_ARRAY_DOUBLE_INDEX_SCALE", type := .int, accessFlags := 25, slot := 9, constantValue := 0 }, { name := "LOG2_BYTE_BIT_SIZE", type := .int, accessFlags := 26, slot := 10, constantValue := 0 }, { name := "T_BOOLEAN", type := .int, accessFlags := 25, slot := 11, constantValue := 0 }, { name := "T_CHAR", type := .int, accessFlags := 25, slot := 12, constantValue := 0 }, { name := "T_FLOAT", type := .int, accessFlags := 25, slot := 13, constantValue := 0 }, { name := "T_DOUBLE", type := .int, accessFlags := 25, slot := 14, constantValue := 0 }, { name := "T_BYTE", type := .int, accessFlags := 25, slot := 15, constantValue := 0 }, { name := "T_SHORT", type := .int, accessFlags := 25, slot := 16, constantValue := 0 }, { name := "T_INT", type := .int, accessFlags := 25, slot := 17, constantValue := 0 }, { name := "T_LONG", type := .int, accessFlags := 25, slot := 18, constantValue := 0 }, { name := "JLA", type := (.object "jdk/internal/access/JavaLangAccess"), accessFlags := 26, slot := 19, constantValue := 0 }, { name := "SOFT_MAX_ARRAY_LENGTH", type := .int, accessFlags := 25, slot := 20, constantValue := 0 }]
  methods := #[k21m0, k21m1]
  instanceTypes := #[]
  staticTypes := #[(.object "jdk/internal/misc/Unsafe"), .boolean, .int, .int, .int, .int, .int, .int, .int, .int, .int, .int, .int, .int, .int, .int, .int, .int, .int, (.object "jdk/internal/access/JavaLangAccess"), .int]
  resolved := Array.replicate 378 none
  statics := none }

def pool22 : Array CpInfo := pool [(6, .class_ 8), (1, u "java/lang/Object"), (0, u "<init>"), (0, u "()V"), (1, .class_ 14), (1, u "java/lang/StringUTF16"), (31, u "$assertionsDisabled"), (0, u "Z"), (13, u "HI_BYTE_SHIFT"), (0, u "I"), (2, u "LO_BYTE_SHIFT"), (49, .methodref 12 116), (0, .nameAndType 117 118), (0, u "compress"), (0, u "([CI[BII)I"), (3, u "([CII)[B"), (138, u "coderFromArrayLen"), (0, u "([BI)B"), (106, .class_ 371), (1, u "java/lang/StringUTF16$LinesSpliterator"), (58, u "MAX_LENGTH"), (196, .class_ 628), (0, u "java/lang/StringUTF16$CodePointsSpliterator"), (0, .class_ 630), (0, u "java/lang/StringUTF16$CharsSpliterator")] 4

def k22m0 : Method := { name := "<init>", desc := "()V", sig := { parameters := [], returnType := none }, accessFlags := 0, code := none }
def k22c1 : Code := { maxStack := 2, maxLocals := 2, code := jdk_52_method_15_code, exceptionTable := #[], attributes := #[] }
def k22m1 : Method := { name := "coderFromArrayLen", desc := "([BI)B", sig := { parameters := [(.array .byte), .int], returnType := some .byte }, accessFlags := 8, code := some k22c1 }
def k22c2 : Code := { maxStack := 5, maxLocals := 6, code := jdk_52_method_16_code, exceptionTable := #[], attributes := #[] }
def k22m2 : Method := { name := "compress", desc := "([CII)[B", sig := { parameters := [(.array .char), .int, .int], returnType := some (.array .byte) }, accessFlags := 9, code := some k22c2 }
def k22c3 : Code := { maxStack := 3, maxLocals := 7, code := jdk_52_method_21_code, exceptionTable := #[], attributes := #[] }
def k22m3 : Method := { name := "compress", desc := "([CI[BII)I", sig := { parameters := [(.array .char), .int, (.array .byte), .int, .int], returnType := some .int }, accessFlags := 9, code := some k22c3 }
/-- java/lang/StringUTF16 -/
def k22 : Class := { plain "java/lang/StringUTF16" (some 0) with
  accessFlags := 48
  interfaces := #[]
  cf := some (fileOf pool22 12 #[.nestMembers #[627, 629, 369]] #[{ accessFlags := 0, nameIndex := 9, descriptorIndex := 10, attributes := #[] }, { accessFlags := 8, nameIndex := 261, descriptorIndex := 262, attributes := #[] }, { accessFlags := 9, nameIndex := 117, descriptorIndex := 122, attributes := #[] }, { accessFlags := 9, nameIndex := 117, descriptorIndex := 118, attributes := #[] }] 48 6 #[] #[{ accessFlags := 26, nameIndex := 61, descriptorIndex := 62, attributes := #[] }, { accessFlags := 26, nameIndex := 65, descriptorIndex := 62, attributes := #[] }, { accessFlags := 24, nameIndex := 430, descriptorIndex := 62, attributes := #[] }, { accessFlags := 4120, nameIndex := 46, descriptorIndex := 47, attributes := #[] }])
  fields := #[{ name := "HI_BYTE_SHIFT", type := .int, accessFlags := 26, slot := 0, constantValue := 0 }, { name := "LO_BYTE_SHIFT", type := .int, accessFlags := 26, slot := 1, constantValue := 0 }, { name := "MAX_LENGTH", type := .int, accessFlags := 24, slot := 2, constantValue := 0 }, { name := "$assertionsDisabled", type := .boolean, accessFlags := 4120, slot := 3, constantValue := 0 }]
  methods := #[k22m0, k22m1, k22m2, k22m3]
  instanceTypes := #[]
  staticTypes := #[.int, .int, .int, .boolean]
  resolved := Array.replicate 635 none
  statics := none }

def pool23 : Array CpInfo := pool [(2, .class_ 4), (1, u "java/lang/Object"), (0, u "<init>"), (0, u "()V"), (17, .class_ 26), (1, u "jdk/internal/util/Preconditions"), (28, .class_ 56), (0, u "jdk/internal/util/Preconditions$4"), (57, .class_ 115), (0, u "jdk/internal/util/Preconditions$1"), (7, u "SIOOBE_FORMATTER"), (0, u "Ljava/util/function/BiFunction;"), (0, .class_ 126), (0, u "jdk/internal/util/Preconditions$2"), (3, u "AIOOBE_FORMATTER"), (0, .class_ 132), (0, u "jdk/internal/util/Preconditions$3"), (3, u "IOOBE_FORMATTER")] 57

def k23m0 : Method := { name := "<init>", desc := "()V", sig := { parameters := [], returnType := none }, accessFlags := 1, code := none }
/-- jdk/internal/util/Preconditions -/
def k23 : Class := { plain "jdk/internal/util/Preconditions" (some 0) with
  accessFlags := 33
  interfaces := #[]
  cf := some (fileOf pool23 24 #[.nestMembers #[55, 131, 125, 114]] #[{ accessFlags := 1, nameIndex := 5, descriptorIndex := 6, attributes := #[] }] 33 2 #[] #[{ accessFlags := 25, nameIndex := 123, descriptorIndex := 124, attributes := #[] }, { accessFlags := 25, nameIndex := 130, descriptorIndex := 124, attributes := #[] }, { accessFlags := 25, nameIndex := 136, descriptorIndex := 124, attributes := #[] }])
  fields := #[{ name := "SIOOBE_FORMATTER", type := (.object "java/util/function/BiFunction"), accessFlags := 25, slot := 0, constantValue := 0 }, { name := "AIOOBE_FORMATTER", type := (.object "java/util/function/BiFunction"), accessFlags := 25, slot := 1, constantValue := 0 }, { name := "IOOBE_FORMATTER", type := (.object "java/util/function/BiFunction"), accessFlags := 25, slot := 2, constantValue := 0 }]
  methods := #[k23m0]
  instanceTypes := #[]
  staticTypes := #[(.object "java/util/function/BiFunction"), (.object "java/util/function/BiFunction"), (.object "java/util/function/BiFunction")]
  resolved := Array.replicate 194 none
  statics := some 5 }

/-- the primitive byte -/
def k24 : Class := { plain "byte" none with kind := .primitive 'B', accessFlags := 0x411 }
/-- [B -/
def k25 : Class := { plain "[B" (some 0) with kind := .array 24 .byte, interfaces := #[18, 2], accessFlags := 1041 }

/-- the primitive char -/
def k26 : Class := { plain "char" none with kind := .primitive 'C', accessFlags := 0x411 }
/-- [C -/
def k27 : Class := { plain "[C" (some 0) with kind := .array 26 .char, interfaces := #[18, 2], accessFlags := 1041 }

/-- the primitive int -/
def k28 : Class := { plain "int" none with kind := .primitive 'I', accessFlags := 0x411 }
/-- [I -/
def k29 : Class := { plain "[I" (some 0) with kind := .array 28 .int, interfaces := #[18, 2], accessFlags := 1041 }

def heap : Heap := #[{ cls := 7, slots := #[.long 0, .int 1, .null, .int 0, .null, .int 0, .int 0], vm := .statics 7 },
  { cls := 10, slots := #[.ref 6, .null, .null, .null, .null, .null], vm := .statics 10 },
  { cls := 14, slots := #[.ref 7, .null], vm := .statics 14 },
  { cls := 15, slots := #[.ref 8], vm := .statics 15 },
  { cls := 16, slots := #[.ref 6, .null], vm := .statics 16 },
  { cls := 23, slots := #[.null, .null, .null], vm := .statics 23 },
  { cls := 16, slots := #[.null, .null, .null], vm := .none },
  { cls := 14, slots := #[.null, .null, .null], vm := .none },
  { cls := 15, slots := #[.null, .null, .null], vm := .none }]
def classes : Array Class := #[k0, k1, k2, k3, k4, k5, k6, k7, k8, k9, k10, k11, k12, k13, k14, k15, k16, k17, k18, k19, k20, k21, k22, k23, k24, k25, k26, k27, k28, k29]
def interned : List (Array UInt16 × Addr) := []
def slotsUsed : Nat := 30
def theMethod : MethodId := ⟨1, 2⟩
def args0 : Array Value := #[.int 65, .int 66, .int 67, .int 131586]
def aboutOver (below : List Frame) : State where
  vm := { classes := classes, interned := interned.toArray }
  heap := heap
  slotsUsed := slotsUsed
  threads := #[{ frames := .invoking theMethod args0 :: below }]
def below0 : List Frame := [.native { method := ⟨0, 0⟩, args := #[] }]
def about1 : State := aboutOver below0
def p0 : Program := .bare "" "" ""
def e0 : Env := launch0.env 0 0 0
theorem w_frames : about1.frames = Frame.invoking theMethod args0 :: below0 := rfl
set_option maxRecDepth 65536 in
theorem w_args : argsFit about1.vm theMethod args0 = true := by decide +kernel
set_option maxRecDepth 65536 in
theorem w_heap : heapFits about1 = true := by decide +kernel
set_option maxRecDepth 65536 in
theorem w_runnable : about1.curStatus? = some .runnable := by decide +kernel
set_option maxRecDepth 65536 in
theorem w_alone : about1.alone = true := by decide +kernel
set_option maxRecDepth 65536 in
theorem w_named : about1.methodNamed? x = some theMethod := by decide +kernel
set_option maxRecDepth 65536 in
theorem w_hears : about1.hears theMethod below0 = true := by decide +kernel
set_option maxRecDepth 65536 in
theorem w_ripe : about1.ripe theMethod args0 below0 = true := by decide +kernel
theorem w_running : about1.status = .running := rfl
set_option maxRecDepth 65536 in
theorem w_room : about1.hasRoom e0.platform room_1 = true :=
  launch0.hasRoom_least _ room_1 (by decide +kernel) (by decide +kernel) (by decide +kernel) (by decide +kernel) (by decide +kernel) (by decide +kernel)
theorem allAtoms_all (ts : List Jvm.Cond) (a : Array Jvm.Value) (st : Jvm.State) : (allAtoms ts).before a st = ts.all (fun c => c.before a st) := by
  induction ts with
  | nil => rfl
  | cons c t ih =>
    show (Jvm.Cond.and c (allAtoms t)).before a st = _
    rw [Jvm.Cond.before_and, ih, List.all_cons]
def words1 : List Jvm.Cond := Jvm.Cond.code x code maxLocals ret :: tables_1
/-- a 'code' word, met by the world's own term for the bytes: nothing is compared byte by byte -/
theorem code_word {y : MethodName} {bytes : ByteArray} {mx : Nat} {rt : Option FieldType} {a : Array Value} {s : State} {m : MethodId} {meth : Method} {c : Code} (h1 : s.methodNamed? y = some m) (h2 : s.vm.method? m = some meth) (h3 : meth.code = some c) (h4 : c.code = bytes)
    (h5 : (c.maxLocals == mx && c.exceptionTable.isEmpty && decide (c.maxStack ≤ mostOperands) && decide (meth.sig.returnType = rt) && !meth.locks && decide (parseMethodDescriptor y.desc = some meth.sig)) = true) : (Jvm.Cond.code y bytes mx rt).before a s = true := by
  simp only [Bool.and_eq_true, beq_iff_eq, Bool.not_eq_true', decide_eq_true_eq] at h5
  obtain ⟨⟨⟨⟨⟨g1, g2⟩, g3⟩, g4⟩, g5⟩, g6⟩ := h5
  simp [Cond.before, Cond.holds, Cond.value, h1, h2, h3, h4, g1, g2, g3, g4, g5, g6]
def isCode : Jvm.Cond → Bool
  | .code _ _ _ _ => true
  | _ => false
theorem all_split {L : List Jvm.Cond} {P : Jvm.Cond → Bool} (h1 : L.all (fun c => isCode c || P c) = true) (h2 : ∀ c ∈ L.filter isCode, P c = true) : L.all P = true := by
  refine List.all_eq_true.mpr fun c hc => ?_
  have h := List.all_eq_true.mp h1 c hc
  rcases Bool.eq_false_or_eq_true (isCode c) with hi | hi
  · exact h2 c (List.mem_filter.mpr ⟨hc, hi⟩)
  · simpa [hi] using h
set_option maxRecDepth 65536 in
theorem w_c0 : (Jvm.Cond.code x code maxLocals ret).before args0 about1 = true := code_word (m := ⟨1, 2⟩) (meth := k1m2) (c := k1c2) (by decide +kernel) rfl rfl rfl (by decide +kernel)
set_option maxRecDepth 65536 in
theorem w_c1 : (Jvm.Cond.code ({ cls := "com/example/design_drills/designdrills/service/listens/IdNumbersWrittenBytesPinLaw", name := "id", desc := "(II)Ljava/lang/String;" } : Jvm.MethodName) method_2_code (6 : Nat) (Option.some (Jvm.ClassFile.FieldType.object "java/lang/String"))).before args0 about1 = true := code_word (m := ⟨1, 1⟩) (meth := k1m1) (c := k1c1) (by decide +kernel) rfl rfl rfl (by decide +kernel)
set_option maxRecDepth 65536 in
theorem w_c2 : (Jvm.Cond.code ({ cls := "java/lang/String", name := "valueOf", desc := "(C)Ljava/lang/String;" } : Jvm.MethodName) jdk_42_method_139_code (1 : Nat) (Option.some (Jvm.ClassFile.FieldType.object "java/lang/String"))).before args0 about1 = true := code_word (m := ⟨7, 7⟩) (meth := k7m7) (c := k7c7) (by decide +kernel) rfl rfl rfl (by decide +kernel)
set_option maxRecDepth 65536 in
theorem w_c3 : (Jvm.Cond.code ({ cls := "java/lang/StringLatin1", name := "canEncode", desc := "(C)Z" } : Jvm.MethodName) jdk_43_method_3_code (1 : Nat) (Option.some Jvm.ClassFile.FieldType.boolean)).before args0 about1 = true := code_word (m := ⟨8, 1⟩) (meth := k8m1) (c := k8c1) (by decide +kernel) rfl rfl rfl (by decide +kernel)
set_option maxRecDepth 65536 in
theorem w_c4 : (Jvm.Cond.code ({ cls := "java/lang/StringLatin1", name := "toBytes", desc := "(C)[B" } : Jvm.MethodName) jdk_43_method_46_code (1 : Nat) (Option.some (Jvm.ClassFile.FieldType.array Jvm.ClassFile.FieldType.byte))).before args0 about1 = true := code_word (m := ⟨8, 2⟩) (meth := k8m2) (c := k8c2) (by decide +kernel) rfl rfl rfl (by decide +kernel)
set_option maxRecDepth 65536 in
theorem w_c5 : (Jvm.Cond.code ({ cls := "java/lang/String", name := "<init>", desc := "([BB)V" } : Jvm.MethodName) jdk_42_method_151_code (3 : Nat) (Option.none : Option Jvm.ClassFile.FieldType)).before args0 about1 = true := code_word (m := ⟨7, 9⟩) (meth := k7m9) (c := k7c9) (by decide +kernel) rfl rfl rfl (by decide +kernel)
set_option maxRecDepth 65536 in
theorem w_c6 : (Jvm.Cond.code ({ cls := "java/lang/Object", name := "<init>", desc := "()V" } : Jvm.MethodName) object_method_1_code (1 : Nat) (Option.none : Option Jvm.ClassFile.FieldType)).before args0 about1 = true := code_word (m := ⟨0, 0⟩) (meth := k0m0) (c := k0c0) (by decide +kernel) rfl rfl rfl (by decide +kernel)
set_option maxRecDepth 65536 in
theorem w_c7 : (Jvm.Cond.code ({ cls := "java/lang/String", name := "<init>", desc := "([C)V" } : Jvm.MethodName) jdk_42_method_3_code (2 : Nat) (Option.none : Option Jvm.ClassFile.FieldType)).before args0 about1 = true := code_word (m := ⟨7, 1⟩) (meth := k7m1) (c := k7c1) (by decide +kernel) rfl rfl rfl (by decide +kernel)
set_option maxRecDepth 65536 in
theorem w_c8 : (Jvm.Cond.code ({ cls := "java/lang/String", name := "<init>", desc := "([CIILjava/lang/Void;)V" } : Jvm.MethodName) jdk_42_method_149_code (6 : Nat) (Option.none : Option Jvm.ClassFile.FieldType)).before args0 about1 = true := code_word (m := ⟨7, 8⟩) (meth := k7m8) (c := k7c8) (by decide +kernel) rfl rfl rfl (by decide +kernel)
set_option maxRecDepth 65536 in
theorem w_c9 : (Jvm.Cond.code ({ cls := "com/example/design_drills/designdrills/service/listens/IdNumbers", name := "<init>", desc := "()V" } : Jvm.MethodName) prog_65_method_1_code (1 : Nat) (Option.none : Option Jvm.ClassFile.FieldType)).before args0 about1 = true := code_word (m := ⟨9, 0⟩) (meth := k9m0) (c := k9c0) (by decide +kernel) rfl rfl rfl (by decide +kernel)
set_option maxRecDepth 65536 in
theorem w_c10 : (Jvm.Cond.code ({ cls := "com/example/design_drills/designdrills/service/listens/IdNumbers", name := "add", desc := "(Ljava/lang/String;)I" } : Jvm.MethodName) prog_65_method_4_code (3 : Nat) (Option.some Jvm.ClassFile.FieldType.int)).before args0 about1 = true := code_word (m := ⟨9, 1⟩) (meth := k9m1) (c := k9c1) (by decide +kernel) rfl rfl rfl (by decide +kernel)
set_option maxRecDepth 65536 in
theorem w_c11 : (Jvm.Cond.code ({ cls := "com/example/design_drills/designdrills/service/listens/IdNumbers", name := "ascii", desc := "(Ljava/lang/String;)[B" } : Jvm.MethodName) prog_65_method_17_code (1 : Nat) (Option.some (Jvm.ClassFile.FieldType.array Jvm.ClassFile.FieldType.byte))).before args0 about1 = true := code_word (m := ⟨9, 8⟩) (meth := k9m8) (c := k9c8) (by decide +kernel) rfl rfl rfl (by decide +kernel)
set_option maxRecDepth 65536 in
theorem w_c12 : (Jvm.Cond.code ({ cls := "java/lang/String", name := "getBytes", desc := "(Ljava/nio/charset/Charset;)[B" } : Jvm.MethodName) jdk_42_method_64_code (2 : Nat) (Option.some (Jvm.ClassFile.FieldType.array Jvm.ClassFile.FieldType.byte))).before args0 about1 = true := code_word (m := ⟨7, 6⟩) (meth := k7m6) (c := k7c6) (by decide +kernel) rfl rfl rfl (by decide +kernel)
set_option maxRecDepth 65536 in
theorem w_c13 : (Jvm.Cond.code ({ cls := "java/lang/String", name := "coder", desc := "()B" } : Jvm.MethodName) jdk_42_method_152_code (1 : Nat) (Option.some Jvm.ClassFile.FieldType.byte)).before args0 about1 = true := code_word (m := ⟨7, 10⟩) (meth := k7m10) (c := k7c10) (by decide +kernel) rfl rfl rfl (by decide +kernel)
set_option maxRecDepth 65536 in
theorem w_c14 : (Jvm.Cond.code ({ cls := "java/lang/String", name := "encode", desc := "(Ljava/nio/charset/Charset;B[B)[B" } : Jvm.MethodName) jdk_42_method_18_code (3 : Nat) (Option.some (Jvm.ClassFile.FieldType.array Jvm.ClassFile.FieldType.byte))).before args0 about1 = true := code_word (m := ⟨7, 2⟩) (meth := k7m2) (c := k7c2) (by decide +kernel) rfl rfl rfl (by decide +kernel)
set_option maxRecDepth 65536 in
theorem w_c15 : (Jvm.Cond.code ({ cls := "java/lang/String", name := "encodeASCII", desc := "(B[B)[B" } : Jvm.MethodName) jdk_42_method_24_code (7 : Nat) (Option.some (Jvm.ClassFile.FieldType.array Jvm.ClassFile.FieldType.byte))).before args0 about1 = true := code_word (m := ⟨7, 3⟩) (meth := k7m3) (c := k7c3) (by decide +kernel) rfl rfl rfl (by decide +kernel)
set_option maxRecDepth 65536 in
theorem w_c16 : (Jvm.Cond.code ({ cls := "java/lang/StringCoding", name := "countPositives", desc := "([BII)I" } : Jvm.MethodName) jdk_123_method_3_code (5 : Nat) (Option.some Jvm.ClassFile.FieldType.int)).before args0 about1 = true := code_word (m := ⟨17, 1⟩) (meth := k17m1) (c := k17c1) (by decide +kernel) rfl rfl rfl (by decide +kernel)
set_option maxRecDepth 65536 in
theorem w_c17 : (Jvm.Cond.code ({ cls := "com/example/design_drills/designdrills/service/listens/IdNumbers", name := "add", desc := "([BII)I" } : Jvm.MethodName) prog_65_method_6_code (7 : Nat) (Option.some Jvm.ClassFile.FieldType.int)).before args0 about1 = true := code_word (m := ⟨9, 2⟩) (meth := k9m2) (c := k9c2) (by decide +kernel) rfl rfl rfl (by decide +kernel)
set_option maxRecDepth 65536 in
theorem w_c18 : (Jvm.Cond.code ({ cls := "com/example/design_drills/designdrills/service/listens/IdNumbers", name := "hash", desc := "([BII)I" } : Jvm.MethodName) prog_65_method_15_code (5 : Nat) (Option.some Jvm.ClassFile.FieldType.int)).before args0 about1 = true := code_word (m := ⟨9, 6⟩) (meth := k9m6) (c := k9c6) (by decide +kernel) rfl rfl rfl (by decide +kernel)
set_option maxRecDepth 65536 in
theorem w_c19 : (Jvm.Cond.code ({ cls := "com/example/design_drills/designdrills/service/listens/IdNumbers", name := "slotOf", desc := "([BIII)I" } : Jvm.MethodName) prog_65_method_11_code (8 : Nat) (Option.some Jvm.ClassFile.FieldType.int)).before args0 about1 = true := code_word (m := ⟨9, 4⟩) (meth := k9m4) (c := k9c4) (by decide +kernel) rfl rfl rfl (by decide +kernel)
set_option maxRecDepth 65536 in
theorem w_c20 : (Jvm.Cond.code ({ cls := "com/example/design_drills/designdrills/service/listens/IdNumbers", name := "spread", desc := "(I)I" } : Jvm.MethodName) prog_65_method_16_code (2 : Nat) (Option.some Jvm.ClassFile.FieldType.int)).before args0 about1 = true := code_word (m := ⟨9, 7⟩) (meth := k9m7) (c := k9c7) (by decide +kernel) rfl rfl rfl (by decide +kernel)
set_option maxRecDepth 65536 in
theorem w_c21 : (Jvm.Cond.code ({ cls := "com/example/design_drills/designdrills/service/listens/IdNumbers", name := "holds", desc := "(I[BII)Z" } : Jvm.MethodName) prog_65_method_12_code (6 : Nat) (Option.some Jvm.ClassFile.FieldType.boolean)).before args0 about1 = true := code_word (m := ⟨9, 5⟩) (meth := k9m5) (c := k9c5) (by decide +kernel) rfl rfl rfl (by decide +kernel)
set_option maxRecDepth 65536 in
theorem w_c22 : (Jvm.Cond.code ({ cls := "java/util/Arrays", name := "equals", desc := "([BII[BII)Z" } : Jvm.MethodName) jdk_65_method_90_code (8 : Nat) (Option.some Jvm.ClassFile.FieldType.boolean)).before args0 about1 = true := code_word (m := ⟨20, 2⟩) (meth := k20m2) (c := k20c2) (by decide +kernel) rfl rfl rfl (by decide +kernel)
set_option maxRecDepth 65536 in
theorem w_c23 : (Jvm.Cond.code ({ cls := "java/util/Arrays", name := "rangeCheck", desc := "(III)V" } : Jvm.MethodName) jdk_65_method_30_code (3 : Nat) (Option.none : Option Jvm.ClassFile.FieldType)).before args0 about1 = true := code_word (m := ⟨20, 1⟩) (meth := k20m1) (c := k20c1) (by decide +kernel) rfl rfl rfl (by decide +kernel)
set_option maxRecDepth 65536 in
theorem w_c24 : (Jvm.Cond.code ({ cls := "jdk/internal/util/ArraysSupport", name := "mismatch", desc := "([BI[BII)I" } : Jvm.MethodName) jdk_48_method_14_code (8 : Nat) (Option.some Jvm.ClassFile.FieldType.int)).before args0 about1 = true := code_word (m := ⟨21, 1⟩) (meth := k21m1) (c := k21c1) (by decide +kernel) rfl rfl rfl (by decide +kernel)
set_option maxRecDepth 65536 in
theorem w_c25 : (Jvm.Cond.code ({ cls := "com/example/design_drills/designdrills/service/listens/IdNumbers", name := "writtenBytes", desc := "(I)I" } : Jvm.MethodName) prog_65_method_7_code (2 : Nat) (Option.some Jvm.ClassFile.FieldType.int)).before args0 about1 = true := code_word (m := ⟨9, 3⟩) (meth := k9m3) (c := k9c3) (by decide +kernel) rfl rfl rfl (by decide +kernel)
set_option maxRecDepth 65536 in
theorem w_c26 : (Jvm.Cond.code ({ cls := "java/lang/String", name := "length", desc := "()I" } : Jvm.MethodName) jdk_42_method_54_code (1 : Nat) (Option.some Jvm.ClassFile.FieldType.int)).before args0 about1 = true := code_word (m := ⟨7, 5⟩) (meth := k7m5) (c := k7c5) (by decide +kernel) rfl rfl rfl (by decide +kernel)
set_option maxRecDepth 65536 in
theorem w_c27 : (Jvm.Cond.code ({ cls := "java/lang/StringUTF16", name := "compress", desc := "([CII)[B" } : Jvm.MethodName) jdk_52_method_16_code (6 : Nat) (Option.some (Jvm.ClassFile.FieldType.array Jvm.ClassFile.FieldType.byte))).before args0 about1 = true := code_word (m := ⟨22, 2⟩) (meth := k22m2) (c := k22c2) (by decide +kernel) rfl rfl rfl (by decide +kernel)
set_option maxRecDepth 65536 in
theorem w_c28 : (Jvm.Cond.code ({ cls := "java/lang/StringUTF16", name := "compress", desc := "([CI[BII)I" } : Jvm.MethodName) jdk_52_method_21_code (7 : Nat) (Option.some Jvm.ClassFile.FieldType.int)).before args0 about1 = true := code_word (m := ⟨22, 3⟩) (meth := k22m3) (c := k22c3) (by decide +kernel) rfl rfl rfl (by decide +kernel)
set_option maxRecDepth 65536 in
theorem w_c29 : (Jvm.Cond.code ({ cls := "java/lang/StringUTF16", name := "coderFromArrayLen", desc := "([BI)B" } : Jvm.MethodName) jdk_52_method_15_code (2 : Nat) (Option.some Jvm.ClassFile.FieldType.byte)).before args0 about1 = true := code_word (m := ⟨22, 1⟩) (meth := k22m1) (c := k22c1) (by decide +kernel) rfl rfl rfl (by decide +kernel)
set_option maxRecDepth 65536 in
theorem w_c30 : (Jvm.Cond.code ({ cls := "java/lang/String", name := "replaceNegatives", desc := "([BI)V" } : Jvm.MethodName) jdk_42_method_25_code (3 : Nat) (Option.none : Option Jvm.ClassFile.FieldType)).before args0 about1 = true := code_word (m := ⟨7, 4⟩) (meth := k7m4) (c := k7c4) (by decide +kernel) rfl rfl rfl (by decide +kernel)
def codes1 : List Jvm.Cond := [Jvm.Cond.code x code maxLocals ret, Jvm.Cond.code ({ cls := "com/example/design_drills/designdrills/service/listens/IdNumbersWrittenBytesPinLaw", name := "id", desc := "(II)Ljava/lang/String;" } : Jvm.MethodName) method_2_code (6 : Nat) (Option.some (Jvm.ClassFile.FieldType.object "java/lang/String")), Jvm.Cond.code ({ cls := "java/lang/String", name := "valueOf", desc := "(C)Ljava/lang/String;" } : Jvm.MethodName) jdk_42_method_139_code (1 : Nat) (Option.some (Jvm.ClassFile.FieldType.object "java/lang/String")), Jvm.Cond.code ({ cls := "java/lang/StringLatin1", name := "canEncode", desc := "(C)Z" } : Jvm.MethodName) jdk_43_method_3_code (1 : Nat) (Option.some Jvm.ClassFile.FieldType.boolean), Jvm.Cond.code ({ cls := "java/lang/StringLatin1", name := "toBytes", desc := "(C)[B" } : Jvm.MethodName) jdk_43_method_46_code (1 : Nat) (Option.some (Jvm.ClassFile.FieldType.array Jvm.ClassFile.FieldType.byte)), Jvm.Cond.code ({ cls := "java/lang/String", name := "<init>", desc := "([BB)V" } : Jvm.MethodName) jdk_42_method_151_code (3 : Nat) (Option.none : Option Jvm.ClassFile.FieldType), Jvm.Cond.code ({ cls := "java/lang/Object", name := "<init>", desc := "()V" } : Jvm.MethodName) object_method_1_code (1 : Nat) (Option.none : Option Jvm.ClassFile.FieldType), Jvm.Cond.code ({ cls := "java/lang/String", name := "<init>", desc := "([C)V" } : Jvm.MethodName) jdk_42_method_3_code (2 : Nat) (Option.none : Option Jvm.ClassFile.FieldType), Jvm.Cond.code ({ cls := "java/lang/String", name := "<init>", desc := "([CIILjava/lang/Void;)V" } : Jvm.MethodName) jdk_42_method_149_code (6 : Nat) (Option.none : Option Jvm.ClassFile.FieldType), Jvm.Cond.code ({ cls := "com/example/design_drills/designdrills/service/listens/IdNumbers", name := "<init>", desc := "()V" } : Jvm.MethodName) prog_65_method_1_code (1 : Nat) (Option.none : Option Jvm.ClassFile.FieldType), Jvm.Cond.code ({ cls := "com/example/design_drills/designdrills/service/listens/IdNumbers", name := "add", desc := "(Ljava/lang/String;)I" } : Jvm.MethodName) prog_65_method_4_code (3 : Nat) (Option.some Jvm.ClassFile.FieldType.int), Jvm.Cond.code ({ cls := "com/example/design_drills/designdrills/service/listens/IdNumbers", name := "ascii", desc := "(Ljava/lang/String;)[B" } : Jvm.MethodName) prog_65_method_17_code (1 : Nat) (Option.some (Jvm.ClassFile.FieldType.array Jvm.ClassFile.FieldType.byte)), Jvm.Cond.code ({ cls := "java/lang/String", name := "getBytes", desc := "(Ljava/nio/charset/Charset;)[B" } : Jvm.MethodName) jdk_42_method_64_code (2 : Nat) (Option.some (Jvm.ClassFile.FieldType.array Jvm.ClassFile.FieldType.byte)), Jvm.Cond.code ({ cls := "java/lang/String", name := "coder", desc := "()B" } : Jvm.MethodName) jdk_42_method_152_code (1 : Nat) (Option.some Jvm.ClassFile.FieldType.byte), Jvm.Cond.code ({ cls := "java/lang/String", name := "encode", desc := "(Ljava/nio/charset/Charset;B[B)[B" } : Jvm.MethodName) jdk_42_method_18_code (3 : Nat) (Option.some (Jvm.ClassFile.FieldType.array Jvm.ClassFile.FieldType.byte)), Jvm.Cond.code ({ cls := "java/lang/String", name := "encodeASCII", desc := "(B[B)[B" } : Jvm.MethodName) jdk_42_method_24_code (7 : Nat) (Option.some (Jvm.ClassFile.FieldType.array Jvm.ClassFile.FieldType.byte)), Jvm.Cond.code ({ cls := "java/lang/StringCoding", name := "countPositives", desc := "([BII)I" } : Jvm.MethodName) jdk_123_method_3_code (5 : Nat) (Option.some Jvm.ClassFile.FieldType.int), Jvm.Cond.code ({ cls := "com/example/design_drills/designdrills/service/listens/IdNumbers", name := "add", desc := "([BII)I" } : Jvm.MethodName) prog_65_method_6_code (7 : Nat) (Option.some Jvm.ClassFile.FieldType.int), Jvm.Cond.code ({ cls := "com/example/design_drills/designdrills/service/listens/IdNumbers", name := "hash", desc := "([BII)I" } : Jvm.MethodName) prog_65_method_15_code (5 : Nat) (Option.some Jvm.ClassFile.FieldType.int), Jvm.Cond.code ({ cls := "com/example/design_drills/designdrills/service/listens/IdNumbers", name := "slotOf", desc := "([BIII)I" } : Jvm.MethodName) prog_65_method_11_code (8 : Nat) (Option.some Jvm.ClassFile.FieldType.int), Jvm.Cond.code ({ cls := "com/example/design_drills/designdrills/service/listens/IdNumbers", name := "spread", desc := "(I)I" } : Jvm.MethodName) prog_65_method_16_code (2 : Nat) (Option.some Jvm.ClassFile.FieldType.int), Jvm.Cond.code ({ cls := "com/example/design_drills/designdrills/service/listens/IdNumbers", name := "holds", desc := "(I[BII)Z" } : Jvm.MethodName) prog_65_method_12_code (6 : Nat) (Option.some Jvm.ClassFile.FieldType.boolean), Jvm.Cond.code ({ cls := "java/util/Arrays", name := "equals", desc := "([BII[BII)Z" } : Jvm.MethodName) jdk_65_method_90_code (8 : Nat) (Option.some Jvm.ClassFile.FieldType.boolean), Jvm.Cond.code ({ cls := "java/util/Arrays", name := "rangeCheck", desc := "(III)V" } : Jvm.MethodName) jdk_65_method_30_code (3 : Nat) (Option.none : Option Jvm.ClassFile.FieldType), Jvm.Cond.code ({ cls := "jdk/internal/util/ArraysSupport", name := "mismatch", desc := "([BI[BII)I" } : Jvm.MethodName) jdk_48_method_14_code (8 : Nat) (Option.some Jvm.ClassFile.FieldType.int), Jvm.Cond.code ({ cls := "com/example/design_drills/designdrills/service/listens/IdNumbers", name := "writtenBytes", desc := "(I)I" } : Jvm.MethodName) prog_65_method_7_code (2 : Nat) (Option.some Jvm.ClassFile.FieldType.int), Jvm.Cond.code ({ cls := "java/lang/String", name := "length", desc := "()I" } : Jvm.MethodName) jdk_42_method_54_code (1 : Nat) (Option.some Jvm.ClassFile.FieldType.int), Jvm.Cond.code ({ cls := "java/lang/StringUTF16", name := "compress", desc := "([CII)[B" } : Jvm.MethodName) jdk_52_method_16_code (6 : Nat) (Option.some (Jvm.ClassFile.FieldType.array Jvm.ClassFile.FieldType.byte)), Jvm.Cond.code ({ cls := "java/lang/StringUTF16", name := "compress", desc := "([CI[BII)I" } : Jvm.MethodName) jdk_52_method_21_code (7 : Nat) (Option.some Jvm.ClassFile.FieldType.int), Jvm.Cond.code ({ cls := "java/lang/StringUTF16", name := "coderFromArrayLen", desc := "([BI)B" } : Jvm.MethodName) jdk_52_method_15_code (2 : Nat) (Option.some Jvm.ClassFile.FieldType.byte), Jvm.Cond.code ({ cls := "java/lang/String", name := "replaceNegatives", desc := "([BI)V" } : Jvm.MethodName) jdk_42_method_25_code (3 : Nat) (Option.none : Option Jvm.ClassFile.FieldType)]
set_option maxRecDepth 65536 in
theorem codes_eq : words1.filter isCode = codes1 := rfl
theorem w_codes : ∀ c ∈ words1.filter isCode, c.before args0 about1 = true := by
  rw [codes_eq]
  intro c hc
  simp only [codes1, List.mem_cons, List.not_mem_nil, or_false] at hc
  rcases hc with rfl | rfl | rfl | rfl | rfl | rfl | rfl | rfl | rfl | rfl | rfl | rfl | rfl | rfl | rfl | rfl | rfl | rfl | rfl | rfl | rfl | rfl | rfl | rfl | rfl | rfl | rfl | rfl | rfl | rfl | rfl
  · exact w_c0
  · exact w_c1
  · exact w_c2
  · exact w_c3
  · exact w_c4
  · exact w_c5
  · exact w_c6
  · exact w_c7
  · exact w_c8
  · exact w_c9
  · exact w_c10
  · exact w_c11
  · exact w_c12
  · exact w_c13
  · exact w_c14
  · exact w_c15
  · exact w_c16
  · exact w_c17
  · exact w_c18
  · exact w_c19
  · exact w_c20
  · exact w_c21
  · exact w_c22
  · exact w_c23
  · exact w_c24
  · exact w_c25
  · exact w_c26
  · exact w_c27
  · exact w_c28
  · exact w_c29
  · exact w_c30
set_option maxRecDepth 65536 in
theorem w_t1 : (words1.take 24).all (fun c => isCode c || c.before args0 about1) = true := by decide +kernel
set_option maxRecDepth 65536 in
theorem w_t2 : ((words1.drop 24).take 24).all (fun c => isCode c || c.before args0 about1) = true := by decide +kernel
set_option maxRecDepth 65536 in
theorem w_t3 : (((words1.drop 24).drop 24).take 24).all (fun c => isCode c || c.before args0 about1) = true := by decide +kernel
set_option maxRecDepth 65536 in
theorem w_t4 : ((((words1.drop 24).drop 24).drop 24).take 24).all (fun c => isCode c || c.before args0 about1) = true := by decide +kernel
set_option maxRecDepth 65536 in
theorem w_t5 : (((((words1.drop 24).drop 24).drop 24).drop 24).take 24).all (fun c => isCode c || c.before args0 about1) = true := by decide +kernel
set_option maxRecDepth 65536 in
theorem w_t6 : ((((((words1.drop 24).drop 24).drop 24).drop 24).drop 24).take 24).all (fun c => isCode c || c.before args0 about1) = true := by decide +kernel
set_option maxRecDepth 65536 in
theorem w_t7 : ((((((words1.drop 24).drop 24).drop 24).drop 24).drop 24).drop 24).all (fun c => isCode c || c.before args0 about1) = true := by decide +kernel
theorem w_tables : (allAtoms (Jvm.Cond.code x code maxLocals ret :: tables_1)).before args0 about1 = true := by
  rw [allAtoms_all]
  show words1.all (fun c => c.before args0 about1) = true
  refine all_split ?_ w_codes
  rw [← List.take_append_drop 24 words1, List.all_append, w_t1, ← List.take_append_drop 24 (words1.drop 24), List.all_append, w_t2, ← List.take_append_drop 24 ((words1.drop 24).drop 24), List.all_append, w_t3, ← List.take_append_drop 24 (((words1.drop 24).drop 24).drop 24), List.all_append, w_t4, ← List.take_append_drop 24 ((((words1.drop 24).drop 24).drop 24).drop 24), List.all_append, w_t5, ← List.take_append_drop 24 (((((words1.drop 24).drop 24).drop 24).drop 24).drop 24), List.all_append, w_t6, w_t7]
  rfl
set_option maxRecDepth 65536 in
theorem w_rest : rest_1_c.before args0 about1 = true := by decide +kernel
set_option maxRecDepth 65536 in
theorem w_case : (Jvm.Cond.and given_1 narrow_1).before args0 about1 = true := by decide +kernel
set_option maxRecDepth 65536 in
theorem w_consts : constsHeld consts_1 about1 := Jvm.Lit.constsHeldB_iff.mp (by decide +kernel)
theorem w_applies : (headSpec (Jvm.Cond.code x code maxLocals ret :: tables_1) room_1).applies x e0.platform about1 = true :=
  (Spec.applies_iff w_frames).mpr ⟨w_running, w_runnable, w_alone, w_named, w_hears, w_ripe, w_room, w_tables⟩
theorem atStart : AtStart classFile x code maxLocals ret World_1 tables_1 room_1 Calls_1 rest_1 Pre_1 launch0 p0 e0 about1 theMethod args0 below0 :=
  ⟨lists_1, trivial, launch0.admits_env _ _ _, launch0.least_env, fairChoices_fair.cas, fairChoices_fair.clock, w_frames, w_args, w_heap, w_applies, ⟨w_consts, trivial⟩, w_rest, w_case⟩
end start1
theorem witness_1 : WitnessClaimed_1 := ⟨start1.p0, start1.e0, start1.about1, start1.theMethod, start1.args0, start1.below0, start1.atStart⟩
end Jvm.Pilot.@@N@@
