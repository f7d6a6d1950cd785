import JvmDerived
import JvmDerived.Pilot.@@N@@Statement
import JvmDerived.Pilot.@@N@@Code
set_option linter.unusedVariables false
set_option linter.unusedSimpArgs false
namespace Jvm.Pilot.@@N@@
open Jvm Jvm.ClassFile Sem Op Lib Jvm.Free Jvm.Stand Jvm.LawKit Jvm.RoadKit Bundle Jvm.Pilot.@@N@@.Jvm.D
def Go (p : Program) (e : Env) (below : List Frame) (S : State) (P : State → Outcome → Prop) : Prop := ∃ t o, Steps p.tables e below S t ∧ P t o
abbrev Gm (p : Program) (e : Env) (below : List Frame) (T : State) (m : MethodId) (pc : Nat) (ls : Array Slot) (st : List Value) (P : State → Outcome → Prop) : Prop := Go p e below (T.setTop (mkF m pc ls st)) P
abbrev lv (x : Int64) : Slot := .val (.long x)
theorem own_in {p : Program} {e : Env} {below : List Frame} {T : State} {g g' : JFrame} {P : State → Outcome → Prop} (q : g = g') (h : Go p e below (T.setTop g') P) : ∃ s₂ o, Steps p.tables e below (T.setTop g) s₂ ∧ P s₂ o := q ▸ h
theorem own_go {p : Program} {e : Env} {below : List Frame} {S S' : State} {P : State → Outcome → Prop} (k : ∀ t, Steps p.tables e below S' t → Steps p.tables e below S t) (h : Go p e below S' P) : Go p e below S P := by
  obtain ⟨t, o, h1, h2⟩ := h
  exact ⟨t, o, k t h1, h2⟩
section Rets
variable {p : Program} {l : Launch} {e : Env} {R : Room} {s : State} {m : MethodId} {args : Array Value} {below : List Frame} {meth : Method} {c : Code} {T : State} {locs : List Loc} {cells slots : Nat}
theorem own_retI (X : Stand p l e R s m args below meth c T locs cells slots) (hx : p.tables.exec = Jvm.exec) (hlk : meth.locks = false) {pc : Nat} {Ls : Array Slot} {z : Int32} {t : FieldType} {Q : Option Value → Heap → List Loc → Prop} {C N : Nat} (hret : meth.sig.returnType = some t) (hn : narrow t (.int z) = .int z) (ht : t = .int ∨ t = .boolean ∨ t = .byte ∨ t = .char ∨ t = .short)
    (hd : decode c.code pc = .ok (.ireturn, 1)) {h : Heap} (eh : T.heap = h) (hq : Q (some (.int z)) h locs) (hC : cells ≤ C) (hN : slots ≤ N) : Go p e below (T.setTop (mkF m pc Ls [.int z])) (fun t o => t.status = .running ∧ Ended t below o ∧ ∃ v L, o = .returned v ∧ Q v t.heap L ∧ FrameEnd s o t L C N) := by
  subst eh
  obtain ⟨fs, hr, hrun, hended, hW, hsame⟩ := X.leave (v := some (.int z)) (fun h => by rw [hret] at h; cases h) hlk
  exact ⟨_, _, X.ireturnOut hx hret hn ht hd hr, hrun, hended, _, _, rfl, hq, ⟨_, rfl⟩, hW, hsame.mono hC hN⟩
theorem own_retL (X : Stand p l e R s m args below meth c T locs cells slots) (hx : p.tables.exec = Jvm.exec) (hlk : meth.locks = false) {pc : Nat} {Ls : Array Slot} {z : Int64} {Q : Option Value → Heap → List Loc → Prop} {C N : Nat} (hret : meth.sig.returnType = some .long)
    (hd : decode c.code pc = .ok (.lreturn, 1)) {h : Heap} (eh : T.heap = h) (hq : Q (some (.long z)) h locs) (hC : cells ≤ C) (hN : slots ≤ N) : Go p e below (T.setTop (mkF m pc Ls [.long z])) (fun t o => t.status = .running ∧ Ended t below o ∧ ∃ v L, o = .returned v ∧ Q v t.heap L ∧ FrameEnd s o t L C N) := by
  subst eh
  obtain ⟨fs, hr, hrun, hended, hW, hsame⟩ := X.leave (v := some (.long z)) (fun h => by rw [hret] at h; cases h) hlk
  exact ⟨_, _, X.lreturnOut hx hret hd hr, hrun, hended, _, _, rfl, hq, ⟨_, rfl⟩, hW, hsame.mono hC hN⟩
theorem own_retA (X : Stand p l e R s m args below meth c T locs cells slots) (hx : p.tables.exec = Jvm.exec) (hlk : meth.locks = false) {pc : Nat} {Ls : Array Slot} {w : Value} {t : FieldType} {Q : Option Value → Heap → List Loc → Prop} {C N : Nat} (hw : w.isRef = true) (hret : meth.sig.returnType = some t) (ht : t.isReference = true)
    (hd : decode c.code pc = .ok (.areturn, 1)) {h : Heap} (eh : T.heap = h) (hq : Q (some w) h locs) (hC : cells ≤ C) (hN : slots ≤ N) : Go p e below (T.setTop (mkF m pc Ls [w])) (fun t o => t.status = .running ∧ Ended t below o ∧ ∃ v L, o = .returned v ∧ Q v t.heap L ∧ FrameEnd s o t L C N) := by
  subst eh
  obtain ⟨fs, hr, hrun, hended, hW, hsame⟩ := X.leave (v := some w) (fun h => by rw [hret] at h; cases h) hlk
  exact ⟨_, _, X.areturnOut hx hw hret ht hd hr, hrun, hended, _, _, rfl, hq, ⟨_, rfl⟩, hW, hsame.mono hC hN⟩
theorem own_retV (X : Stand p l e R s m args below meth c T locs cells slots) (hx : p.tables.exec = Jvm.exec) (hlk : meth.locks = false) {pc : Nat} {Ls : Array Slot} {Q : Option Value → Heap → List Loc → Prop} {C N : Nat} (hret : meth.sig.returnType = none)
    (hd : decode c.code pc = .ok (.return_, 1)) {h : Heap} (eh : T.heap = h) (hq : Q none h locs) (hC : cells ≤ C) (hN : slots ≤ N) : Go p e below (T.setTop (mkF m pc Ls [])) (fun t o => t.status = .running ∧ Ended t below o ∧ ∃ v L, o = .returned v ∧ Q v t.heap L ∧ FrameEnd s o t L C N) := by
  subst eh
  obtain ⟨fs, hr, hrun, hended, hW, hsame⟩ := X.leave (v := none) (fun _ => rfl) hlk
  exact ⟨_, _, X.returnOut hx hret hd hr, hrun, hended, _, _, rfl, hq, ⟨_, rfl⟩, hW, hsame.mono hC hN⟩
end Rets

def Af (Z : State) (h : Heap) (a : Addr) (ty : FieldType) (n : Nat) (f : Nat → Value) : Prop := n < 2 ^ 31 ∧ ∃ c : Cell, Arr Z h a c ty ∧ c.slots.size = n ∧ ∀ i, i < n → c.slots[i]? = some (f i) ∧ fits ty (f i) = true
section AfS
variable {Z : State} {h h' : Heap} {a b : Addr} {ty : FieldType} {n : Nat} {f : Nat → Value} {v : Value} {sl : Nat} {ws : List Addr}
theorem Af.lt (A : Af Z h a ty n f) : a < h.size := by obtain ⟨-, c, A, -⟩ := A; exact A.lt
theorem Af.ext (A : Af Z h a ty n f) (E : Ext h h') : Af Z h' a ty n f := by obtain ⟨q, c, A, r⟩ := A; exact ⟨q, c, A.ext E, r⟩
theorem Af.other (A : Af Z h b ty n f) (W : Wr h h' a sl v) (q : b ≠ a) : Af Z h' b ty n f := by obtain ⟨q', c, A, r⟩ := A; exact ⟨q', c, A.other W q, r⟩
theorem Af.keep (A : Af Z h a ty n f) (K : Keep h h' ws) (q : a ∉ ws) : Af Z h' a ty n f := by obtain ⟨q', c, A, r⟩ := A; exact ⟨q', c, ⟨K.2.1 a c A.1 q, A.2⟩, r⟩
theorem Af.congr (A : Af Z h a ty n f) {g : Nat → Value} (q : ∀ i, i < n → g i = f i) : Af Z h a ty n g := by obtain ⟨q', c, A, r1, r2⟩ := A; exact ⟨q', c, A, r1, fun i hi => by rw [q i hi]; exact r2 i hi⟩
theorem Af.set (A : Af Z h a ty n f) (W : Wr h h' a sl v) (hv : fits ty v = true) : Af Z h' a ty n (fun i => if i = sl then v else f i) := by
  obtain ⟨q, c, A, r1, r2⟩ := A
  refine ⟨q, c.setSlot sl v, A.same W, by rw [sz_set]; exact r1, fun i hi => ?_⟩
  by_cases e : i = sl
  · subst e
    show _ = some (if i = i then v else f i) ∧ fits ty (if i = i then v else f i) = true
    rw [if_pos rfl]
    refine ⟨?_, hv⟩
    show (c.slots.setIfInBounds i v)[i]? = _
    rw [Array.getElem?_setIfInBounds_self_of_lt (by omega)]
  · show _ = some (if i = sl then v else f i) ∧ fits ty (if i = sl then v else f i) = true
    rw [if_neg e]
    refine ⟨?_, (r2 i hi).2⟩
    show (c.slots.setIfInBounds sl v)[i]? = _
    rw [Array.getElem?_setIfInBounds_ne (Ne.symm e)]
    exact (r2 i hi).1
theorem Af.new {k : ClassId} {z : Int32} (A : Arr Z h a (newA k ty z) ty) (q : ¬ z < 0) {n : Nat} (hn : z.toNatClampNeg = n) (hd : fits ty (defaultValue ty) = true) : Af Z h a ty n (fun _ => defaultValue ty) := by
  subst hn
  refine ⟨(back32 q).2, _, A, sz_new _ _ _, fun i hi => ⟨?_, hd⟩⟩
  simp [newA, hi]
theorem Af.arv (A : Af Z h a ty n f) (dv : Value) : ∃ k, Arv Z h a k ty n.toInt32 ((List.range n).map f) dv := by
  obtain ⟨q, c, A, r1, r2⟩ := A
  have hz : n.toInt32.toNatClampNeg = n := by
    show n.toInt32.toInt.toNat = n
    rw [len_toInt q]; rfl
  have hg : ∀ i, i < n → ((List.range n).map f).getD i dv = f i := fun i hi => by
    rw [List.getD_eq_getElem?_getD]; simp [hi]
  refine ⟨_, c, A, rfl, by rw [hz]; exact r1, ?_, fun i hi => ?_, fun i hi => ?_⟩
  · rw [Int32.lt_iff_toInt_lt, len_toInt q]; simp
  · rw [hg i (r1 ▸ hi)]; exact (r2 i (r1 ▸ hi)).1
  · rw [hg i (r1 ▸ hi)]; exact (r2 i (r1 ▸ hi)).2
theorem Af.ofArv {k : ClassId} {z : Int32} {vs : List Value} {dv : Value} (F : Arv Z h a k ty z vs dv) (hz : z.toNatClampNeg = n) (hf : ∀ i, i < n → f i = vs.getD i dv) : Af Z h a ty n f := by
  obtain ⟨c, A, -, S, q, H, G⟩ := F
  subst hz
  refine ⟨(back32 q).2, c, A, S, fun i hi => ?_⟩
  rw [hf i hi]
  exact ⟨H i (S ▸ hi), G i (S ▸ hi)⟩
theorem nat32 {n : Nat} (q : n < 2 ^ 31) : n.toInt32.toNatClampNeg = n := by
  show n.toInt32.toInt.toNat = n
  rw [len_toInt q]; rfl
theorem nn32 {n : Nat} (q : n < 2 ^ 31) : ¬ n.toInt32 < 0 := by rw [Int32.lt_iff_toInt_lt, len_toInt q]; simp
end AfS
section AfX
variable {p : Program} {l : Launch} {e : Env} {R : Room} {s : State} {m : MethodId} {args : Array Value} {below : List Frame} {meth : Method} {c : Code} {T : State} {locs : List Loc} {cells slots : Nat} {Z : State} {a0 : Array Value} {h : Heap} {a : Addr} {ty : FieldType} {n : Nat} {f : Nat → Value}
theorem own_len (X : Stand p l e R s m args below meth c T locs cells slots) (hx : p.tables.exec = Jvm.exec) (hZ : Z.Warmed39 s.vm) (eT : T.heap = h) (A : Af Z h a ty n f) {z : Int32} (hz : n.toInt32 = z) {g : JFrame} (hg : g.method = m) {rest : List Value} (hs : g.stack = .ref a :: rest) (hd : decode c.code g.pc = .ok (.arraylength, 1)) {target : State}
    (hr : Steps p.tables e below (T.setTop { g with pc := g.pc + 1, stack := .int z :: rest }) target) : Steps p.tables e below (T.setTop g) target := by
  obtain ⟨q, cl, A, r1, r2⟩ := A
  refine X.arraylength hx (by rw [eT]; exact A.1) (State.isArrayOf_alike hZ.alike A.2.1) hg hs hd _ ?_
  rw [r1, hz]; exact hr
theorem own_inb {cl : Cell} {j : Int32} {k : Nat} (r : cl.slots.size = n) (hj : ¬ j < 0) (hk : j.toNatClampNeg = k) (hkn : k < n) : ¬ (j < 0 ∨ cl.slots.size ≤ j.toNatClampNeg) := by
  rw [r, hk]; rintro (q | q)
  · exact hj q
  · omega
theorem own_ldI (X : Stand p l e R s m args below meth c T locs cells slots) (hx : p.tables.exec = Jvm.exec) (hZ : Z.Warmed39 s.vm) (eT : T.heap = h) (A : Af Z h a .int n f) {j : Int32} {k : Nat} (hj : ¬ j < 0) (hk : j.toNatClampNeg = k) (hkn : k < n) {w : Value} (hv : f k = w) {g : JFrame} (hg : g.method = m) {rest : List Value} (hs : g.stack = .int j :: .ref a :: rest) (hd : decode c.code g.pc = .ok (.iaload, 1)) {target : State}
    (hr : Steps p.tables e below (T.setTop { g with pc := g.pc + 1, stack := w :: rest }) target) : Steps p.tables e below (T.setTop g) target := by
  obtain ⟨q, cl, A, r1, r2⟩ := A
  exact X.iaload hx (by rw [eT]; exact A.1) (State.isArrayOf_alike hZ.alike A.2.1) A.2.2 (own_inb r1 hj hk hkn) (by rw [hk, (r2 k hkn).1, hv]) hg hs hd _ hr
theorem own_ldJ (X : Stand p l e R s m args below meth c T locs cells slots) (hx : p.tables.exec = Jvm.exec) (hZ : Z.Warmed39 s.vm) (eT : T.heap = h) (A : Af Z h a .long n f) {j : Int32} {k : Nat} (hj : ¬ j < 0) (hk : j.toNatClampNeg = k) (hkn : k < n) {w : Value} (hv : f k = w) {g : JFrame} (hg : g.method = m) {rest : List Value} (hs : g.stack = .int j :: .ref a :: rest) (hd : decode c.code g.pc = .ok (.laload, 1)) {target : State}
    (hr : Steps p.tables e below (T.setTop { g with pc := g.pc + 1, stack := w :: rest }) target) : Steps p.tables e below (T.setTop g) target := by
  obtain ⟨q, cl, A, r1, r2⟩ := A
  exact X.laload hx (by rw [eT]; exact A.1) (State.isArrayOf_alike hZ.alike A.2.1) A.2.2 (own_inb r1 hj hk hkn) (by rw [hk, (r2 k hkn).1, hv]) hg hs hd _ hr
theorem own_ldB (X : Stand p l e R s m args below meth c T locs cells slots) (hx : p.tables.exec = Jvm.exec) (hZ : Z.Warmed39 s.vm) (eT : T.heap = h) (A : Af Z h a .byte n f) {j : Int32} {k : Nat} (hj : ¬ j < 0) (hk : j.toNatClampNeg = k) (hkn : k < n) {w : Value} (hv : f k = w) {g : JFrame} (hg : g.method = m) {rest : List Value} (hs : g.stack = .int j :: .ref a :: rest) (hd : decode c.code g.pc = .ok (.baload, 1)) {target : State}
    (hr : Steps p.tables e below (T.setTop { g with pc := g.pc + 1, stack := w :: rest }) target) : Steps p.tables e below (T.setTop g) target := by
  obtain ⟨q, cl, A, r1, r2⟩ := A
  exact X.baloadBytes hx (by rw [eT]; exact A.1) (State.isArrayOf_alike hZ.alike A.2.1) A.2.2 (own_inb r1 hj hk hkn) (by rw [hk, (r2 k hkn).1, hv]) hg hs hd _ hr
theorem own_ldZ (X : Stand p l e R s m args below meth c T locs cells slots) (hx : p.tables.exec = Jvm.exec) (hZ : Z.Warmed39 s.vm) (eT : T.heap = h) (A : Af Z h a .boolean n f) {j : Int32} {k : Nat} (hj : ¬ j < 0) (hk : j.toNatClampNeg = k) (hkn : k < n) {w : Value} (hv : f k = w) {g : JFrame} (hg : g.method = m) {rest : List Value} (hs : g.stack = .int j :: .ref a :: rest) (hd : decode c.code g.pc = .ok (.baload, 1)) {target : State}
    (hr : Steps p.tables e below (T.setTop { g with pc := g.pc + 1, stack := w :: rest }) target) : Steps p.tables e below (T.setTop g) target := by
  obtain ⟨q, cl, A, r1, r2⟩ := A
  exact X.baloadBooleans hx (by rw [eT]; exact A.1) (State.isArrayOf_alike hZ.alike A.2.1) A.2.2 (own_inb r1 hj hk hkn) (by rw [hk, (r2 k hkn).1, hv]) hg hs hd _ hr
theorem own_stI (X : Stand p l e R s m args below meth c T locs cells slots) (hx : p.tables.exec = Jvm.exec) (hZ : Z.Warmed39 s.vm) (eT : T.heap = h) (A : Af Z h a .int n f) {j x : Int32} {k : Nat} (hj : ¬ j < 0) (hk : j.toNatClampNeg = k) (hkn : k < n) {g : JFrame} (hg : g.method = m) {rest : List Value} (hs : g.stack = .int x :: .int j :: .ref a :: rest) (hd : decode c.code g.pc = .ok (.iastore, 1)) :
    ∃ T' h', Stand p l e R s m args below meth c T' (locs ++ [⟨a, k⟩]) cells slots ∧ T'.heap = h' ∧ Wr h h' a k (.int x) ∧ Af Z h' a .int n (fun i => if i = k then .int x else f i) ∧ ∀ target, Steps p.tables e below (T'.setTop { g with pc := g.pc + 1, stack := rest }) target → Steps p.tables e below (T.setTop g) target := by
  obtain ⟨q, cl, B, r1, r2⟩ := id A
  obtain ⟨T', h', X', e', W, st⟩ := stI X hx hZ eT B (own_inb r1 hj hk hkn) hg hs hd
  rw [hk] at X' W
  exact ⟨T', h', X', e', W, A.set W rfl, st⟩
theorem own_stJ (X : Stand p l e R s m args below meth c T locs cells slots) (hx : p.tables.exec = Jvm.exec) (hZ : Z.Warmed39 s.vm) (eT : T.heap = h) (A : Af Z h a .long n f) {j : Int32} {x : Int64} {k : Nat} (hj : ¬ j < 0) (hk : j.toNatClampNeg = k) (hkn : k < n) {g : JFrame} (hg : g.method = m) {rest : List Value} (hs : g.stack = .long x :: .int j :: .ref a :: rest) (hd : decode c.code g.pc = .ok (.lastore, 1)) :
    ∃ T' h', Stand p l e R s m args below meth c T' (locs ++ [⟨a, k⟩]) cells slots ∧ T'.heap = h' ∧ Wr h h' a k (.long x) ∧ Af Z h' a .long n (fun i => if i = k then .long x else f i) ∧ ∀ target, Steps p.tables e below (T'.setTop { g with pc := g.pc + 1, stack := rest }) target → Steps p.tables e below (T.setTop g) target := by
  obtain ⟨q, cl, B, r1, r2⟩ := id A
  obtain ⟨T', h', X', e', W, st⟩ := stJ X hx hZ eT B (own_inb r1 hj hk hkn) hg hs hd
  rw [hk] at X' W
  exact ⟨T', h', X', e', W, A.set W rfl, st⟩
theorem own_stD (X : Stand p l e R s m args below meth c T locs cells slots) (hx : p.tables.exec = Jvm.exec) (hZ : Z.Warmed39 s.vm) (eT : T.heap = h) (A : Af Z h a .double n f) {j : Int32} {x : UInt64} {k : Nat} (hj : ¬ j < 0) (hk : j.toNatClampNeg = k) (hkn : k < n) {g : JFrame} (hg : g.method = m) {rest : List Value} (hs : g.stack = .double x :: .int j :: .ref a :: rest) (hd : decode c.code g.pc = .ok (.dastore, 1)) :
    ∃ T' h', Stand p l e R s m args below meth c T' (locs ++ [⟨a, k⟩]) cells slots ∧ T'.heap = h' ∧ Wr h h' a k (.double x) ∧ Af Z h' a .double n (fun i => if i = k then .double x else f i) ∧ ∀ target, Steps p.tables e below (T'.setTop { g with pc := g.pc + 1, stack := rest }) target → Steps p.tables e below (T.setTop g) target := by
  obtain ⟨q, cl, B, r1, r2⟩ := id A
  obtain ⟨T', h', X', e', W, st⟩ := stD X hx hZ eT B (own_inb r1 hj hk hkn) hg hs hd
  rw [hk] at X' W
  exact ⟨T', h', X', e', W, A.set W rfl, st⟩
theorem own_stZ (X : Stand p l e R s m args below meth c T locs cells slots) (hx : p.tables.exec = Jvm.exec) (hZ : Z.Warmed39 s.vm) (eT : T.heap = h) (A : Af Z h a .boolean n f) {j x y : Int32} {k : Nat} (hj : ¬ j < 0) (hk : j.toNatClampNeg = k) (hkn : k < n) (hy : nar .boolean x = y) {g : JFrame} (hg : g.method = m) {rest : List Value} (hs : g.stack = .int x :: .int j :: .ref a :: rest) (hd : decode c.code g.pc = .ok (.bastore, 1)) :
    ∃ T' h', Stand p l e R s m args below meth c T' (locs ++ [⟨a, k⟩]) cells slots ∧ T'.heap = h' ∧ Wr h h' a k (.int y) ∧ Af Z h' a .boolean n (fun i => if i = k then .int y else f i) ∧ ∀ target, Steps p.tables e below (T'.setTop { g with pc := g.pc + 1, stack := rest }) target → Steps p.tables e below (T.setTop g) target := by
  obtain ⟨q, cl, B, r1, r2⟩ := id A
  obtain ⟨T', h', X', e', W, st⟩ := stZ X hx hZ eT B (own_inb r1 hj hk hkn) hg hs hd
  subst hk hy
  exact ⟨T', h', X', e', W, A.set W (fits_nar_bool x), st⟩
theorem own_stB (X : Stand p l e R s m args below meth c T locs cells slots) (hx : p.tables.exec = Jvm.exec) (hZ : Z.Warmed39 s.vm) (eT : T.heap = h) (A : Af Z h a .byte n f) {j x y : Int32} {k : Nat} (hj : ¬ j < 0) (hk : j.toNatClampNeg = k) (hkn : k < n) (hy : nar .byte x = y) {g : JFrame} (hg : g.method = m) {rest : List Value} (hs : g.stack = .int x :: .int j :: .ref a :: rest) (hd : decode c.code g.pc = .ok (.bastore, 1)) :
    ∃ T' h', Stand p l e R s m args below meth c T' (locs ++ [⟨a, k⟩]) cells slots ∧ T'.heap = h' ∧ Wr h h' a k (.int y) ∧ Af Z h' a .byte n (fun i => if i = k then .int y else f i) ∧ ∀ target, Steps p.tables e below (T'.setTop { g with pc := g.pc + 1, stack := rest }) target → Steps p.tables e below (T.setTop g) target := by
  obtain ⟨q, cl, B, r1, r2⟩ := id A
  obtain ⟨T', h', X', e', W, st⟩ := stB X hx hZ eT B (own_inb r1 hj hk hkn) hg hs hd
  subst hk hy
  exact ⟨T', h', X', e', W, A.set W (fits_nar_byte x), st⟩
end AfX

section CpX
variable {p : Program} {l : Launch} {e : Env} {R : Room} {s : State} {m : MethodId} {args : Array Value} {below : List Frame} {meth : Method} {c : Code} {T : State} {locs : List Loc} {cells slots : Nat} {Z : State} {a0 : Array Value} {h : Heap} {a b : Addr} {ty : FieldType} {n n' : Nat} {f f' : Nat → Value}
theorem own_cp (X : Stand p l e R s m args below meth c T locs cells slots) (hx : p.tables.exec = Jvm.exec) (hZ : Z.Warmed39 s.vm) {own : String} {index : Nat} (hown : s.vm.findClass own = some m.cls)
    (w1 : (Jvm.Cond.methodLink own index Jvm.Stand.acN).before a0 Z = true) (w2 : (Jvm.Cond.native Jvm.Stand.acN).before a0 Z = true) (w3 : (Jvm.Cond.static Jvm.Stand.acN).before a0 Z = true) (w4 : (Jvm.Cond.initialized "java/lang/System").before a0 Z = true) (eT : T.heap = h)
    {sp dp nn : Int32} {ks kd kn : Nat} (A : Af Z h a ty n f) (B : Af Z h b ty n' f') (hty : refKind ty = false)
    (h1 : ¬ sp < 0) (h2 : ¬ dp < 0) (h3 : ¬ nn < 0) (e1 : sp.toNatClampNeg = ks) (e2 : dp.toNatClampNeg = kd) (e3 : nn.toNatClampNeg = kn) (h4 : ks + kn ≤ n) (h5 : kd + kn ≤ n') {n0 : Nat} (N : Fr n0 locs) (ge : n0 ≤ b)
    {g : JFrame} (hg : g.method = m) (hsize : g.locals.size = c.maxLocals) {rest : List Value} (hs : g.stack = .int nn :: .int dp :: .ref b :: .int sp :: .ref a :: rest) (hd : decode c.code g.pc = .ok (.invokestatic index, 3))
    (hf : 1 ≤ R.frames) {W : Nat} (hW : 2 * g.monitorRoom + (rest.map fun v => v.category).sum ≤ W) (hlo : W + (nativeFrameWords "java/lang/System" "arraycopy" 5 + 11) ≤ R.locals) :
    ∃ T' h' L, Stand p l e R s m args below meth c T' L cells slots ∧ T'.heap = h' ∧ Fr n0 L ∧ Keep h h' [b] ∧ Af Z h' b ty n' (fun i => if kd ≤ i ∧ i < kd + kn then f (ks + (i - kd)) else f' i) ∧
      ∀ target, Steps p.tables e below (T'.setTop { g with pc := g.pc + 3, stack := rest }) target → Steps p.tables e below (T.setTop g) target := by
  obtain ⟨k1, A1⟩ := A.arv .null
  obtain ⟨k2, B1⟩ := B.arv .null
  subst e1 e2 e3
  have z1 := nat32 A.1
  have z2 := nat32 B.1
  obtain ⟨T', h', L, X', e', N', K, V, st⟩ := cpA X hx hZ hown w1 w2 w3 w4 eT A1 B1 (Or.inl ⟨rfl, hty⟩) h1 h2 h3 (by rw [z1]; exact h4) (by rw [z2]; exact h5) rfl (by simpa using h5) N ge hg hsize hs hd hf hW hlo
  refine ⟨T', h', L, X', e', N', K, Af.ofArv V z2 fun i hi => ?_, st⟩
  rw [List.getD_eq_getElem?_getD]
  have lt : (((List.range n').map f').take dp.toNatClampNeg).length = dp.toNatClampNeg := by simp; omega
  by_cases c1 : i < dp.toNatClampNeg
  · rw [if_neg (by omega), List.append_assoc, List.getElem?_append_left (by omega), List.getElem?_take_of_lt c1]; simp [hi]
  · by_cases c2 : i < dp.toNatClampNeg + nn.toNatClampNeg
    · rw [if_pos ⟨by omega, c2⟩, List.getElem?_append_left (by rw [List.length_append, lt]; simp; omega), List.getElem?_append_right (by omega), lt]
      have : i - dp.toNatClampNeg < nn.toNatClampNeg := by omega
      have : sp.toNatClampNeg + (i - dp.toNatClampNeg) < n := by omega
      rw [List.getElem?_map, List.getElem?_range (by omega)]
      simp [*]
    · rw [if_neg (by omega), List.getElem?_append_right (by rw [List.length_append, lt]; simp; omega), List.length_append, lt, List.getElem?_drop]
      simp [show dp.toNatClampNeg + nn.toNatClampNeg + (i - (dp.toNatClampNeg + nn.toNatClampNeg)) = i by omega, hi]
end CpX

theorem own_self {Z s : State} {a0 args : Array Value} {y : MethodName} {k : Nat} (hZ : Z.Warmed39 s.vm) (wi : (Jvm.Cond.instantiable y.cls k).before a0 Z = true) (wp : (Jvm.Cond.privateMethod y).before a0 Z = true) (wm : (Jvm.Cond.instanceMethod y).before a0 Z = true) (hy : y.cls ≠ "java/lang/invoke/MethodHandle" ∧ y.cls ≠ "java/lang/invoke/VarHandle") : (Jvm.Cond.selects y.cls y y).before args s = true := by
  obtain ⟨c, kk, h1, h2, -, h4, -, -⟩ := Cond.instantiable_spec (mvT (args := args) hZ wi)
  exact selects_self_of_private h1 h2 (by simp at h4; exact h4.1) (Cond.privateMethod_at (mvP hZ wp (args := args))) (mvT hZ wm) hy

abbrev Ent := Int64 × Int64
def LL (Z : State) (h : Heap) (n0 : Nat) (r : Addr) (N s : Nat) (xs : List Ent) (P : Int64) : Prop :=
  ∃ (ta ca : Addr) (ft fc : Nat → Value), Exa Z h r "com/example/libbrake/libbrake/AdmissionLog" ∧ Fld Z h r "com/example/libbrake/libbrake/AdmissionLog" "times" "[J" (.ref ta) ∧ Fld Z h r "com/example/libbrake/libbrake/AdmissionLog" "counts" "[J" (.ref ca) ∧ Fld Z h r "com/example/libbrake/libbrake/AdmissionLog" "start" "I" (.int s.toInt32) ∧ Fld Z h r "com/example/libbrake/libbrake/AdmissionLog" "end" "I" (.int (s + xs.length).toInt32) ∧ Fld Z h r "com/example/libbrake/libbrake/AdmissionLog" "permits" "J" (.long P) ∧ Af Z h ta .long N ft ∧ Af Z h ca .long N fc ∧ r ≠ ta ∧ r ≠ ca ∧ ta ≠ ca ∧ n0 ≤ ta ∧ n0 ≤ ca ∧ s + xs.length ≤ N ∧ ∀ i a k, xs[i]? = some (a, k) → ft (s + i) = .long a ∧ fc (s + i) = .long k
def ins (t c : Int64) : List Ent → List Ent
  | [] => [(t, c)]
  | (a, k) :: r => if t < a then (t, c) :: (a, k) :: r else if a = t then (a, k + c) :: r else (a, k) :: ins t c r
def dr (cut : Int64) : List Ent → List Ent
  | [] => []
  | (a, k) :: r => if cut < a then (a, k) :: r else dr cut r
def pr (cut : Int64) : List Ent → Int64 → Int64
  | [], P => P
  | (a, k) :: r, P => if cut < a then P else pr cut r (P - k)
def tB (a p : Int64) (i : Int64) : List Ent → Int64
  | [] => a
  | (b, j) :: r => if i < p then a else tB b (p + j) i r
def tot (p : Int64) : List Ent → Int64
  | [] => p
  | (_, j) :: r => tot (p + j) r
theorem own_hx1 {s : Nat} {ft fc : Nat → Value} {a k : Int64} (h1 : ft s = .long a) (g1 : fc s = .long k) : ∀ i x y, [((a, k) : Ent)][i]? = some (x, y) → ft (s + i) = .long x ∧ fc (s + i) = .long y := by
  intro i x y h
  rcases i with _ | i
  · simp at h; obtain ⟨rfl, rfl⟩ := h; exact ⟨h1, g1⟩
  · simp at h
theorem own_hx2 {s : Nat} {ft fc : Nat → Value} {a k a2 k2 : Int64} (h1 : ft s = .long a) (g1 : fc s = .long k) (h2 : ft (s + 1) = .long a2) (g2 : fc (s + 1) = .long k2) : ∀ i x y, [((a, k) : Ent), (a2, k2)][i]? = some (x, y) → ft (s + i) = .long x ∧ fc (s + i) = .long y := by
  intro i x y h
  rcases i with _ | _ | i
  · simp at h; obtain ⟨rfl, rfl⟩ := h; exact ⟨h1, g1⟩
  · simp at h; obtain ⟨rfl, rfl⟩ := h; exact ⟨h2, g2⟩
  · simp at h
theorem own_hx3 {s : Nat} {ft fc : Nat → Value} {a k a2 k2 a3 k3 : Int64} (h1 : ft s = .long a) (g1 : fc s = .long k) (h2 : ft (s + 1) = .long a2) (g2 : fc (s + 1) = .long k2) (h3 : ft (s + 2) = .long a3) (g3 : fc (s + 2) = .long k3) : ∀ i x y, [((a, k) : Ent), (a2, k2), (a3, k3)][i]? = some (x, y) → ft (s + i) = .long x ∧ fc (s + i) = .long y := by
  intro i x y h
  rcases i with _ | _ | _ | i
  · simp at h; obtain ⟨rfl, rfl⟩ := h; exact ⟨h1, g1⟩
  · simp at h; obtain ⟨rfl, rfl⟩ := h; exact ⟨h2, g2⟩
  · simp at h; obtain ⟨rfl, rfl⟩ := h; exact ⟨h3, g3⟩
  · simp at h
theorem own_hx0 {s : Nat} {ft fc : Nat → Value} : ∀ (i : Nat) (x y : Int64), ([] : List Ent)[i]? = some (x, y) → ft (s + i) = .long x ∧ fc (s + i) = .long y := by
  intro i x y h; simp at h
theorem ins1a {t c a k : Int64} (h : t < a) : ins t c [(a, k)] = [(t, c), (a, k)] := by simp only [ins]; rw [if_pos h]
theorem ins1b {t c a k : Int64} (h : ¬ t < a) (q : a = t) : ins t c [(a, k)] = [(a, k + c)] := by simp only [ins]; rw [if_neg h, if_pos q]
theorem ins1c {t c a k : Int64} (h : ¬ t < a) (q : ¬ a = t) : ins t c [(a, k)] = [(a, k), (t, c)] := by simp only [ins]; rw [if_neg h, if_neg q]
theorem ins2a {t c a k b j : Int64} (h : t < a) : ins t c [(a, k), (b, j)] = [(t, c), (a, k), (b, j)] := by simp only [ins]; rw [if_pos h]
theorem ins2b {t c a k b j : Int64} (h : ¬ t < a) (q : a = t) : ins t c [(a, k), (b, j)] = [(a, k + c), (b, j)] := by simp only [ins]; rw [if_neg h, if_pos q]
theorem ins2c {t c a k b j : Int64} (h : ¬ t < a) (q : ¬ a = t) (g : t < b) : ins t c [(a, k), (b, j)] = [(a, k), (t, c), (b, j)] := by simp only [ins]; rw [if_neg h, if_neg q, if_pos g]
theorem lt_no {t a b : Int64} (hab : a < b) (g : ¬ t < b) : ¬ t < a ∧ ¬ a = t := by
  rw [Int64.lt_iff_toInt_lt] at hab g ⊢
  exact ⟨by omega, fun q => by rw [q] at hab; omega⟩
theorem ins2d {t c a k b j : Int64} (hab : a < b) (g : ¬ t < b) (q : b = t) : ins t c [(a, k), (b, j)] = [(a, k), (b, j + c)] := by simp only [ins]; rw [if_neg (lt_no hab g).1, if_neg (lt_no hab g).2, if_neg g, if_pos q]
theorem ins2e {t c a k b j : Int64} (hab : a < b) (g : ¬ t < b) (q : ¬ b = t) : ins t c [(a, k), (b, j)] = [(a, k), (b, j), (t, c)] := by simp only [ins]; rw [if_neg (lt_no hab g).1, if_neg (lt_no hab g).2, if_neg g, if_neg q]
theorem d1_0 : decode prog_1_method_1_code 0 = .ok (.aload_n 0, 1) := by decide +kernel
theorem d1_1 : decode prog_1_method_1_code 1 = .ok (.invokespecial 1, 3) := by decide +kernel
theorem d1_4 : decode prog_1_method_1_code 4 = .ok (.aload_n 0, 1) := by decide +kernel
theorem d1_5 : decode prog_1_method_1_code 5 = .ok (.iconst 2, 1) := by decide +kernel
theorem d1_6 : decode prog_1_method_1_code 6 = .ok (.newarray .long, 2) := by decide +kernel
theorem d1_8 : decode prog_1_method_1_code 8 = .ok (.putfield 9, 3) := by decide +kernel
theorem d1_11 : decode prog_1_method_1_code 11 = .ok (.aload_n 0, 1) := by decide +kernel
theorem d1_12 : decode prog_1_method_1_code 12 = .ok (.iconst 2, 1) := by decide +kernel
theorem d1_13 : decode prog_1_method_1_code 13 = .ok (.newarray .long, 2) := by decide +kernel
theorem d1_15 : decode prog_1_method_1_code 15 = .ok (.putfield 13, 3) := by decide +kernel
theorem d1_18 : decode prog_1_method_1_code 18 = .ok (.return_, 1) := by decide +kernel
theorem own_pn_rm1 : plainName "com/example/libbrake/libbrake/AdmissionLog" = true := by first | (simp [plainName, overriddenIn]; done) | decide +kernel
theorem own_ef_rm1 (m : MethodId) (r0 : Addr) : entryFrame m #[(.ref r0)] 1 = mkF m 0 #[.val (.ref r0)] [] := by first | (simp [entryFrame, mkF, argsToLocals, Value.category]; done) | rfl
def Q1 (Z : State) (r0 : Addr) (h0 : Heap) (n0 : Nat) (v : Option Value) (h : Heap) (L : List Loc) : Prop := v = none ∧ Fr n0 L ∧ h0.size ≤ h.size ∧ LL Z h n0 r0 2 0 [] 0
set_option maxRecDepth 65536 in
set_option maxHeartbeats 40000000 in
theorem rm1 (l : Launch) (Z : State) (a0 : Array Value) (hw : ∀ d ∈ tables_1, d.before a0 Z = true) (ws : List Jvm.Cond) (r0 : Addr) (h0 : Heap) (n0 : Nat) (Z0 : n0 ≤ h0.size) (E_r0 : Exa Z h0 r0 "com/example/libbrake/libbrake/AdmissionLog") (F_times : Fld Z h0 r0 "com/example/libbrake/libbrake/AdmissionLog" "times" "[J" .null) (F_counts : Fld Z h0 r0 "com/example/libbrake/libbrake/AdmissionLog" "counts" "[J" .null) (F_start : Fld Z h0 r0 "com/example/libbrake/libbrake/AdmissionLog" "start" "I" (.int (0 : Int32))) (F_end : Fld Z h0 r0 "com/example/libbrake/libbrake/AdmissionLog" "end" "I" (.int (0 : Int32))) (F_permits : Fld Z h0 r0 "com/example/libbrake/libbrake/AdmissionLog" "permits" "J" (.long (0 : Int64))) (g_r0 : n0 ≤ r0) :
    MetFree l (⟨"com/example/libbrake/libbrake/AdmissionLog", "<init>", "()V"⟩ : MethodName) (head1 (Jvm.Cond.code (⟨"com/example/libbrake/libbrake/AdmissionLog", "<init>", "()V"⟩ : MethodName) prog_1_method_1_code 1 none :: ws) ({ frames := 1, cells := 2, slots := 4, locals := 12 } : Room)) (fun a U => a = #[(.ref r0)] ∧ Z.Warmed39 U.vm ∧ U.heap = h0) (fun _ _ _ _ _ => True) (fun _ U o U' => ∃ v L, o = .returned v ∧ Q1 Z r0 h0 n0 v U'.heap L ∧ FrameEnd U o U' L ({ frames := 1, cells := 2, slots := 4, locals := 12 } : Room).cells ({ frames := 1, cells := 2, slots := 4, locals := 12 } : Room).slots) := by
  refine MetFree.of_bodySF (plainFor_of_name own_pn_rm1) hisR ?_
  intro p e s m args below meth cO s₁ Bd hml0 hP hK
  obtain ⟨rfl, hZ, hh⟩ := hP
  have hx := Bd.exec
  have hby := Bd.bytes
  have hml : cO.maxLocals = 1 := hml0
  have hown : s.vm.findClass "com/example/libbrake/libbrake/AdmissionLog" = some m.cls := findClass_of_methodNamed Bd.named
  have hnm := (name_of_methodNamed Bd.named Bd.method).1
  have hlk : meth.locks = false := BodyLoose.notSynchronized Bd
  have X0 : Stand p l e ({ frames := 1, cells := 2, slots := 4, locals := 12 } : Room) s m #[(.ref r0)] below meth cO s₁ [] 0 0 := Stand.of_body Bd
  have e0 : s₁.heap = h0 := by rw [← hh, Bd.state]; rfl
  have N0 := Fr.nil n0
  refine own_in (own_ef_rm1 m r0) ?_
  show Gm p e below s₁ m 0 #[rv r0] [] _
  refine own_go (fun t₀ k₀ => XS.aloadN X0.here hx rfl (Jvm.hb hby d1_0) rfl rfl k₀) ?_
  show Gm p e below s₁ m 1 #[rv r0] [(.ref r0)] _
  obtain ⟨T1, X1, e1, st1⟩ := initO X0 hx hZ hown (hw _ (List.mem_of_getElem? (i := 6) rfl)) (hw _ (List.mem_of_getElem? (i := 7) rfl)) (hw _ (List.mem_of_getElem? (i := 8) rfl)) e0 (g := (mkF m 1 #[rv r0] [(.ref r0)])) rfl (by rw [hml]; rfl) rfl (Jvm.hb hby d1_1) (by decide) (W := 0) (by show 2 * 0 + _ ≤ _; exact Nat.le_of_eq rfl) (by decide)
  refine own_go st1 ?_
  show Gm p e below T1 m 4 #[rv r0] [] _
  refine own_go (fun t₀ k₀ => XS.aloadN X1.here hx rfl (Jvm.hb hby d1_4) rfl rfl k₀) ?_
  show Gm p e below T1 m 5 #[rv r0] [(.ref r0)] _
  refine own_go (fun t₀ k₀ => XS.iconst X1.here hx rfl (Jvm.hb hby d1_5) k₀) ?_
  show Gm p e below T1 m 6 #[rv r0] [(.int (2 : Int32)), (.ref r0)] _
  obtain ⟨T2, h2, k2, X2, e2, E2, A2, st2⟩ := newP X1 hx hZ (hw _ (List.mem_of_getElem? (i := 9) rfl)) e1 (g := (mkF m 6 #[rv r0] [(.int (2 : Int32)), (.ref r0)])) rfl (Jvm.hb hby d1_6) rfl (by decide) (cap := 2) (by decide) (by decide) (by decide) (by decide)
  obtain ⟨b2, g2⟩ : ∃ z, z = h0.size := ⟨_, rfl⟩
  rw [← g2] at A2 st2
  have g_b2 : n0 ≤ b2 := Nat.le_trans Z0 (Nat.le_of_eq g2.symm)
  have ne_r0_b2 : r0 ≠ b2 := Nat.ne_of_lt (Nat.lt_of_lt_of_le E_r0.lt (Nat.le_of_eq g2.symm))
  have sz_b2 : h0.size ≤ b2 := Nat.le_trans (Keep.refl h0 [r0]).1 (Nat.le_of_eq g2.symm)
  have K2 : Keep h0 h2 [r0] := Keep.ext (Keep.refl h0 [r0]) E2
  have Z2 : n0 ≤ h2.size := Nat.le_trans Z0 E2.1
  have V2 : Af Z h2 b2 .long 2 (fun _ => defaultValue .long) := Af.new A2 (by decide) rfl rfl
  refine own_go st2 ?_
  show Gm p e below T2 m 8 #[rv r0] [(.ref b2), (.ref r0)] _
  have f3 := (E_r0.ext E2)
  have f4 := (F_times.ext E2)
  obtain ⟨T5, h5, X5, e5, W5, st5⟩ := putF X2 hx hZ hown (host := "") (Or.inl (hw _ (List.mem_of_getElem? (i := 10) rfl))) Via.refl e2 f4 f3 (Or.inl (hw _ (List.mem_of_getElem? (i := 11) rfl))) (hw _ (List.mem_of_getElem? (i := 1) rfl)) (ty := (.array .long)) (by decide) rfl rfl (g := (mkF m 8 #[rv r0] [(.ref b2), (.ref r0)])) rfl rfl (Jvm.hb hby d1_8)
  have Fw5 := Fld.same W5 f4
  have N5 := Fr.snoc X5 N0 g_r0
  have Z5 : n0 ≤ h5.size := W5.size ▸ Z2
  have K5 : Keep h0 h5 [r0] := Keep.wr K2 W5 (Or.inl (List.mem_of_getElem? (i := 0) rfl))
  refine own_go st5 ?_
  show Gm p e below T5 m 11 #[rv r0] [] _
  refine own_go (fun t₀ k₀ => XS.aloadN X5.here hx rfl (Jvm.hb hby d1_11) rfl rfl k₀) ?_
  show Gm p e below T5 m 12 #[rv r0] [(.ref r0)] _
  refine own_go (fun t₀ k₀ => XS.iconst X5.here hx rfl (Jvm.hb hby d1_12) k₀) ?_
  show Gm p e below T5 m 13 #[rv r0] [(.int (2 : Int32)), (.ref r0)] _
  obtain ⟨T6, h6, k6, X6, e6, E6, A6, st6⟩ := newP X5 hx hZ (hw _ (List.mem_of_getElem? (i := 9) rfl)) e5 (g := (mkF m 13 #[rv r0] [(.int (2 : Int32)), (.ref r0)])) rfl (Jvm.hb hby d1_13) rfl (by decide) (cap := 2) (by decide) (by decide) (by decide) (by decide)
  obtain ⟨b6, g6⟩ : ∃ z, z = h5.size := ⟨_, rfl⟩
  rw [← g6] at A6 st6
  have g_b6 : n0 ≤ b6 := Nat.le_trans Z5 (Nat.le_of_eq g6.symm)
  have f7 := (f3.wr W5)
  have ne_r0_b6 : r0 ≠ b6 := Nat.ne_of_lt (Nat.lt_of_lt_of_le f7.lt (Nat.le_of_eq g6.symm))
  have f8 := (V2.other W5 (Ne.symm ne_r0_b2))
  have ne_b2_b6 : b2 ≠ b6 := Nat.ne_of_lt (Nat.lt_of_lt_of_le f8.lt (Nat.le_of_eq g6.symm))
  have sz_b6 : h0.size ≤ b6 := Nat.le_trans K5.1 (Nat.le_of_eq g6.symm)
  have K6 : Keep h0 h6 [r0] := Keep.ext K5 E6
  have Z6 : n0 ≤ h6.size := Nat.le_trans Z5 E6.1
  have V6 : Af Z h6 b6 .long 2 (fun _ => defaultValue .long) := Af.new A6 (by decide) rfl rfl
  refine own_go st6 ?_
  show Gm p e below T6 m 15 #[rv r0] [(.ref b6), (.ref r0)] _
  have f9 := (f7.ext E6)
  have f10 := ((Fld.other W5 (F_counts.ext E2) (Or.inr (slot_ne (Or.inl (hw _ (List.mem_of_getElem? (i := 13) rfl))) (Or.inl (hw _ (List.mem_of_getElem? (i := 11) rfl))) (by decide) (t := (.array .long)) (t' := (.array .long)) (by decide) (by decide)))).ext E6)
  obtain ⟨T11, h11, X11, e11, W11, st11⟩ := putF X6 hx hZ hown (host := "") (Or.inl (hw _ (List.mem_of_getElem? (i := 12) rfl))) Via.refl e6 f10 f9 (Or.inl (hw _ (List.mem_of_getElem? (i := 13) rfl))) (hw _ (List.mem_of_getElem? (i := 1) rfl)) (ty := (.array .long)) (by decide) rfl rfl (g := (mkF m 15 #[rv r0] [(.ref b6), (.ref r0)])) rfl rfl (Jvm.hb hby d1_15)
  have Fw11 := Fld.same W11 f10
  have N11 := Fr.snoc X11 N5 g_r0
  have Z11 : n0 ≤ h11.size := W11.size ▸ Z6
  have K11 : Keep h0 h11 [r0] := Keep.wr K6 W11 (Or.inl (List.mem_of_getElem? (i := 0) rfl))
  refine own_go st11 ?_
  show Gm p e below T11 m 18 #[rv r0] [] _
  have f12 := ((f8.ext E6).other W11 (Ne.symm ne_r0_b2))
  have f13 := (V6.other W11 (Ne.symm ne_r0_b6))
  have f14 := (f9.wr W11)
  have f15 := (Fld.other W11 (Fw5.ext E6) (Or.inr (slot_ne (Or.inl (hw _ (List.mem_of_getElem? (i := 11) rfl))) (Or.inl (hw _ (List.mem_of_getElem? (i := 13) rfl))) (by decide) (t := (.array .long)) (t' := (.array .long)) (by decide) (by decide))))
  have f16 := (Fld.other W11 ((Fld.other W5 (F_start.ext E2) (Or.inr (slot_ne (Or.inl (hw _ (List.mem_of_getElem? (i := 22) rfl))) (Or.inl (hw _ (List.mem_of_getElem? (i := 11) rfl))) (by decide) (t := .int) (t' := (.array .long)) (by decide) (by decide)))).ext E6) (Or.inr (slot_ne (Or.inl (hw _ (List.mem_of_getElem? (i := 22) rfl))) (Or.inl (hw _ (List.mem_of_getElem? (i := 13) rfl))) (by decide) (t := .int) (t' := (.array .long)) (by decide) (by decide))))
  have f17 := (Fld.other W11 ((Fld.other W5 (F_end.ext E2) (Or.inr (slot_ne (Or.inl (hw _ (List.mem_of_getElem? (i := 20) rfl))) (Or.inl (hw _ (List.mem_of_getElem? (i := 11) rfl))) (by decide) (t := .int) (t' := (.array .long)) (by decide) (by decide)))).ext E6) (Or.inr (slot_ne (Or.inl (hw _ (List.mem_of_getElem? (i := 20) rfl))) (Or.inl (hw _ (List.mem_of_getElem? (i := 13) rfl))) (by decide) (t := .int) (t' := (.array .long)) (by decide) (by decide))))
  have f18 := (Fld.other W11 ((Fld.other W5 (F_permits.ext E2) (Or.inr (slot_ne (Or.inl (hw _ (List.mem_of_getElem? (i := 28) rfl))) (Or.inl (hw _ (List.mem_of_getElem? (i := 11) rfl))) (by decide) (t := .long) (t' := (.array .long)) (by decide) (by decide)))).ext E6) (Or.inr (slot_ne (Or.inl (hw _ (List.mem_of_getElem? (i := 28) rfl))) (Or.inl (hw _ (List.mem_of_getElem? (i := 13) rfl))) (by decide) (t := .long) (t' := (.array .long)) (by decide) (by decide))))
  exact own_retV X11 hx hlk Bd.returns (Jvm.hb hby d1_18) e11 ⟨rfl, N11, K11.1, ⟨b2, b6, _, _, f14, f15, Fw11, f16, f17, f18, f12, f13, ne_r0_b2, ne_r0_b6, ne_b2_b6, g_b2, g_b6, (Nat.le_of_ble_eq_true rfl), (own_hx0 (s := 0) (ft := (fun _ => defaultValue .long)) (fc := (fun _ => defaultValue .long)) )⟩⟩ (by decide) (by decide)
theorem d4_0 : decode jdk_29_method_65_code 0 = .ok (.iload_n 0, 1) := by decide +kernel
theorem d4_1 : decode jdk_29_method_65_code 1 = .ok (.iload_n 1, 1) := by decide +kernel
theorem d4_2 : decode jdk_29_method_65_code 2 = .ok (.if_icmp .lt 7, 3) := by decide +kernel
theorem d4_5 : decode jdk_29_method_65_code 5 = .ok (.iload_n 0, 1) := by decide +kernel
theorem d4_6 : decode jdk_29_method_65_code 6 = .ok (.goto 4, 3) := by decide +kernel
theorem d4_9 : decode jdk_29_method_65_code 9 = .ok (.iload_n 1, 1) := by decide +kernel
theorem d4_10 : decode jdk_29_method_65_code 10 = .ok (.ireturn, 1) := by decide +kernel
theorem own_ef_rm4 (m : MethodId) (p0 : Int32) (p1 : Int32) : entryFrame m #[(.int p0), (.int p1)] 2 = mkF m 0 #[.val (.int p0), .val (.int p1)] [] := by first | (simp [entryFrame, mkF, argsToLocals, Value.category]; done) | rfl
def fMx (p0 : Int32) (p1 : Int32) : Int32 := if p0 < p1 then p1 else (p0)
def Q4 (Z : State) (p0 : Int32) (p1 : Int32) (h0 : Heap) (n0 : Nat) (v : Option Value) (h : Heap) (L : List Loc) : Prop := v = some (.int (fMx p0 p1)) ∧ Fr n0 L ∧ h = h0
set_option maxRecDepth 65536 in
set_option maxHeartbeats 40000000 in
theorem rm4 (l : Launch) (Z : State) (a0 : Array Value) (hw : ∀ d ∈ tables_1, d.before a0 Z = true) (ws : List Jvm.Cond) (p0 : Int32) (p1 : Int32) (h0 : Heap) (n0 : Nat) (Z0 : n0 ≤ h0.size) :
    MetFree l (⟨"java/lang/Math", "max", "(II)I"⟩ : MethodName) (head1 (Jvm.Cond.code (⟨"java/lang/Math", "max", "(II)I"⟩ : MethodName) jdk_29_method_65_code 2 (some .int) :: ws) ({ frames := 0, cells := 0, slots := 0, locals := 0 } : Room)) (fun a U => a = #[(.int p0), (.int p1)] ∧ Z.Warmed39 U.vm ∧ U.heap = h0) (fun _ _ _ _ _ => True) (fun _ U o U' => ∃ v L, o = .returned v ∧ Q4 Z p0 p1 h0 n0 v U'.heap L ∧ FrameEnd U o U' L ({ frames := 0, cells := 0, slots := 0, locals := 0 } : Room).cells ({ frames := 0, cells := 0, slots := 0, locals := 0 } : Room).slots) := by
  refine MetFree.of_bodySF (Jvm.Free.JP.mathPlain rfl (by decide +kernel)) hisR ?_
  intro p e s m args below meth cO s₁ Bd hml0 hP hK
  obtain ⟨rfl, hZ, hh⟩ := hP
  have hx := Bd.exec
  have hby := Bd.bytes
  have hml : cO.maxLocals = 2 := hml0
  have hown : s.vm.findClass "java/lang/Math" = some m.cls := findClass_of_methodNamed Bd.named
  have hnm := (name_of_methodNamed Bd.named Bd.method).1
  have hlk : meth.locks = false := BodyLoose.notSynchronized Bd
  have X0 : Stand p l e ({ frames := 0, cells := 0, slots := 0, locals := 0 } : Room) s m #[(.int p0), (.int p1)] below meth cO s₁ [] 0 0 := Stand.of_body Bd
  have e0 : s₁.heap = h0 := by rw [← hh, Bd.state]; rfl
  have N0 := Fr.nil n0
  refine own_in (own_ef_rm4 m p0 p1) ?_
  show Gm p e below s₁ m 0 #[iv p0, iv p1] [] _
  refine own_go (fun t₀ k₀ => XS.iloadN X0.here hx rfl (Jvm.hb hby d4_0) rfl k₀) ?_
  show Gm p e below s₁ m 1 #[iv p0, iv p1] [(.int p0)] _
  refine own_go (fun t₀ k₀ => XS.iloadN X0.here hx rfl (Jvm.hb hby d4_1) rfl k₀) ?_
  show Gm p e below s₁ m 2 #[iv p0, iv p1] [(.int p1), (.int p0)] _
  by_cases c1 : p0 < p1
  · have hfork := trivial
    refine own_go (fun t₀ k₀ => XS.icmpYes X0.here hx rfl (pc0 := 2) (pc' := 9) rfl (Jvm.hb hby d4_2) rfl (XT.ii_lt_t c1) (by decide) (by decide) k₀) ?_
    show Gm p e below s₁ m 9 #[iv p0, iv p1] [] _
    refine own_go (fun t₀ k₀ => XS.iloadN X0.here hx rfl (Jvm.hb hby d4_9) rfl k₀) ?_
    show Gm p e below s₁ m 10 #[iv p0, iv p1] [(.int p1)] _
    exact own_retI X0 hx hlk (t := .int) Bd.returns rfl (by simp) (Jvm.hb hby d4_10) e0 ⟨(by unfold fMx; rw [if_pos c1]), N0, rfl⟩ (by decide) (by decide)
  · have hfork := trivial
    refine own_go (fun t₀ k₀ => XS.icmpNo X0.here hx rfl (Jvm.hb hby d4_2) rfl (XT.ii_lt_f c1) k₀) ?_
    show Gm p e below s₁ m 5 #[iv p0, iv p1] [] _
    refine own_go (fun t₀ k₀ => XS.iloadN X0.here hx rfl (Jvm.hb hby d4_5) rfl k₀) ?_
    show Gm p e below s₁ m 6 #[iv p0, iv p1] [(.int p0)] _
    refine own_go (fun t₀ k₀ => XS.goto X0.here hx rfl (pc0 := 6) (pc' := 10) rfl (Jvm.hb hby d4_6) (by decide) (by decide) k₀) ?_
    show Gm p e below s₁ m 10 #[iv p0, iv p1] [(.int p0)] _
    exact own_retI X0 hx hlk (t := .int) Bd.returns rfl (by simp) (Jvm.hb hby d4_10) e0 ⟨(by unfold fMx; rw [if_neg c1]), N0, rfl⟩ (by decide) (by decide)
theorem d5_0 : decode prog_1_method_6_code 0 = .ok (.iload_n 1, 1) := by decide +kernel
theorem d5_1 : decode prog_1_method_6_code 1 = .ok (.newarray .long, 2) := by decide +kernel
theorem d5_3 : decode prog_1_method_6_code 3 = .ok (.astore_n 2, 1) := by decide +kernel
theorem d5_4 : decode prog_1_method_6_code 4 = .ok (.iload_n 1, 1) := by decide +kernel
theorem d5_5 : decode prog_1_method_6_code 5 = .ok (.newarray .long, 2) := by decide +kernel
theorem d5_7 : decode prog_1_method_6_code 7 = .ok (.astore_n 3, 1) := by decide +kernel
theorem d5_8 : decode prog_1_method_6_code 8 = .ok (.aload_n 0, 1) := by decide +kernel
theorem d5_9 : decode prog_1_method_6_code 9 = .ok (.getfield 9, 3) := by decide +kernel
theorem d5_12 : decode prog_1_method_6_code 12 = .ok (.aload_n 0, 1) := by decide +kernel
theorem d5_13 : decode prog_1_method_6_code 13 = .ok (.getfield 20, 3) := by decide +kernel
theorem d5_16 : decode prog_1_method_6_code 16 = .ok (.aload_n 2, 1) := by decide +kernel
theorem d5_17 : decode prog_1_method_6_code 17 = .ok (.iconst 0, 1) := by decide +kernel
theorem d5_18 : decode prog_1_method_6_code 18 = .ok (.aload_n 0, 1) := by decide +kernel
theorem d5_19 : decode prog_1_method_6_code 19 = .ok (.getfield 24, 3) := by decide +kernel
theorem d5_22 : decode prog_1_method_6_code 22 = .ok (.aload_n 0, 1) := by decide +kernel
theorem d5_23 : decode prog_1_method_6_code 23 = .ok (.getfield 20, 3) := by decide +kernel
theorem d5_26 : decode prog_1_method_6_code 26 = .ok (.isub, 1) := by decide +kernel
theorem d5_27 : decode prog_1_method_6_code 27 = .ok (.invokestatic 37, 3) := by decide +kernel
theorem d5_30 : decode prog_1_method_6_code 30 = .ok (.aload_n 0, 1) := by decide +kernel
theorem d5_31 : decode prog_1_method_6_code 31 = .ok (.getfield 13, 3) := by decide +kernel
theorem d5_34 : decode prog_1_method_6_code 34 = .ok (.aload_n 0, 1) := by decide +kernel
theorem d5_35 : decode prog_1_method_6_code 35 = .ok (.getfield 20, 3) := by decide +kernel
theorem d5_38 : decode prog_1_method_6_code 38 = .ok (.aload_n 3, 1) := by decide +kernel
theorem d5_39 : decode prog_1_method_6_code 39 = .ok (.iconst 0, 1) := by decide +kernel
theorem d5_40 : decode prog_1_method_6_code 40 = .ok (.aload_n 0, 1) := by decide +kernel
theorem d5_41 : decode prog_1_method_6_code 41 = .ok (.getfield 24, 3) := by decide +kernel
theorem d5_44 : decode prog_1_method_6_code 44 = .ok (.aload_n 0, 1) := by decide +kernel
theorem d5_45 : decode prog_1_method_6_code 45 = .ok (.getfield 20, 3) := by decide +kernel
theorem d5_48 : decode prog_1_method_6_code 48 = .ok (.isub, 1) := by decide +kernel
theorem d5_49 : decode prog_1_method_6_code 49 = .ok (.invokestatic 37, 3) := by decide +kernel
theorem d5_52 : decode prog_1_method_6_code 52 = .ok (.aload_n 0, 1) := by decide +kernel
theorem d5_53 : decode prog_1_method_6_code 53 = .ok (.aload_n 2, 1) := by decide +kernel
theorem d5_54 : decode prog_1_method_6_code 54 = .ok (.putfield 9, 3) := by decide +kernel
theorem d5_57 : decode prog_1_method_6_code 57 = .ok (.aload_n 0, 1) := by decide +kernel
theorem d5_58 : decode prog_1_method_6_code 58 = .ok (.aload_n 3, 1) := by decide +kernel
theorem d5_59 : decode prog_1_method_6_code 59 = .ok (.putfield 13, 3) := by decide +kernel
theorem d5_62 : decode prog_1_method_6_code 62 = .ok (.aload_n 0, 1) := by decide +kernel
theorem d5_63 : decode prog_1_method_6_code 63 = .ok (.dup, 1) := by decide +kernel
theorem d5_64 : decode prog_1_method_6_code 64 = .ok (.getfield 24, 3) := by decide +kernel
theorem d5_67 : decode prog_1_method_6_code 67 = .ok (.aload_n 0, 1) := by decide +kernel
theorem d5_68 : decode prog_1_method_6_code 68 = .ok (.getfield 20, 3) := by decide +kernel
theorem d5_71 : decode prog_1_method_6_code 71 = .ok (.isub, 1) := by decide +kernel
theorem d5_72 : decode prog_1_method_6_code 72 = .ok (.putfield 24, 3) := by decide +kernel
theorem d5_75 : decode prog_1_method_6_code 75 = .ok (.aload_n 0, 1) := by decide +kernel
theorem d5_76 : decode prog_1_method_6_code 76 = .ok (.iconst 0, 1) := by decide +kernel
theorem d5_77 : decode prog_1_method_6_code 77 = .ok (.putfield 20, 3) := by decide +kernel
theorem d5_80 : decode prog_1_method_6_code 80 = .ok (.return_, 1) := by decide +kernel
theorem own_pn_rm5 : plainName "com/example/libbrake/libbrake/AdmissionLog" = true := by first | (simp [plainName, overriddenIn]; done) | decide +kernel
theorem own_ef_rm5 (m : MethodId) (r0 : Addr) : entryFrame m #[(.ref r0), (.int (4 : Int32))] 4 = mkF m 0 #[.val (.ref r0), .val (.int (4 : Int32)), .unset, .unset] [] := by first | (simp [entryFrame, mkF, argsToLocals, Value.category]; done) | rfl
def Q5 (Z : State) (r0 : Addr) (a : Int64) (k : Int64) (b : Int64) (j : Int64) (P : Int64) (h0 : Heap) (n0 : Nat) (v : Option Value) (h : Heap) (L : List Loc) : Prop := v = none ∧ Fr n0 L ∧ h0.size ≤ h.size ∧ LL Z h n0 r0 4 0 [(a, k), (b, j)] P
set_option maxRecDepth 65536 in
set_option maxHeartbeats 40000000 in
theorem rm5 (l : Launch) (Z : State) (a0 : Array Value) (hw : ∀ d ∈ tables_1, d.before a0 Z = true) (ws : List Jvm.Cond) (r0 : Addr) (a : Int64) (k : Int64) (b : Int64) (j : Int64) (P : Int64) (h0 : Heap) (n0 : Nat) (Z0 : n0 ≤ h0.size) (H : LL Z h0 n0 r0 2 0 [(a, k), (b, j)] P) (g_r0 : n0 ≤ r0) :
    MetFree l (⟨"com/example/libbrake/libbrake/AdmissionLog", "moveTo", "(I)V"⟩ : MethodName) (head1 (Jvm.Cond.code (⟨"com/example/libbrake/libbrake/AdmissionLog", "moveTo", "(I)V"⟩ : MethodName) prog_1_method_6_code 4 none :: ws) ({ frames := 1, cells := 2, slots := 8, locals := 40 } : Room)) (fun a U => a = #[(.ref r0), (.int (4 : Int32))] ∧ Z.Warmed39 U.vm ∧ U.heap = h0) (fun _ _ _ _ _ => True) (fun _ U o U' => ∃ v L, o = .returned v ∧ Q5 Z r0 a k b j P h0 n0 v U'.heap L ∧ FrameEnd U o U' L ({ frames := 1, cells := 2, slots := 8, locals := 40 } : Room).cells ({ frames := 1, cells := 2, slots := 8, locals := 40 } : Room).slots) := by
  refine MetFree.of_bodySF (plainFor_of_name own_pn_rm5) hisR ?_
  intro p e s m args below meth cO s₁ Bd hml0 hP hK
  obtain ⟨rfl, hZ, hh⟩ := hP
  have hx := Bd.exec
  have hby := Bd.bytes
  have hml : cO.maxLocals = 4 := hml0
  have hown : s.vm.findClass "com/example/libbrake/libbrake/AdmissionLog" = some m.cls := findClass_of_methodNamed Bd.named
  have hnm := (name_of_methodNamed Bd.named Bd.method).1
  have hlk : meth.locks = false := BodyLoose.notSynchronized Bd
  have X0 : Stand p l e ({ frames := 1, cells := 2, slots := 8, locals := 40 } : Room) s m #[(.ref r0), (.int (4 : Int32))] below meth cO s₁ [] 0 0 := Stand.of_body Bd
  have e0 : s₁.heap = h0 := by rw [← hh, Bd.state]; rfl
  have N0 := Fr.nil n0
  obtain ⟨ta, ca, ft, fc, E_r0, F_times, F_counts, F_start, F_end, F_permits, At, Ac, ne_rt, ne_rc, ne_tc, g_ta, g_ca, hN, hxs⟩ := H
  refine own_in (own_ef_rm5 m r0) ?_
  show Gm p e below s₁ m 0 #[rv r0, iv (4 : Int32), .unset, .unset] [] _
  refine own_go (fun t₀ k₀ => XS.iloadN X0.here hx rfl (Jvm.hb hby d5_0) rfl k₀) ?_
  show Gm p e below s₁ m 1 #[rv r0, iv (4 : Int32), .unset, .unset] [(.int (4 : Int32))] _
  obtain ⟨T1, h1, k1, X1, e1, E1, A1, st1⟩ := newP X0 hx hZ (hw _ (List.mem_of_getElem? (i := 9) rfl)) e0 (g := (mkF m 1 #[rv r0, iv (4 : Int32), .unset, .unset] [(.int (4 : Int32))])) rfl (Jvm.hb hby d5_1) rfl (by decide) (cap := 4) (by decide) (by decide) (by decide) (by decide)
  obtain ⟨b1, g1⟩ : ∃ z, z = h0.size := ⟨_, rfl⟩
  rw [← g1] at A1 st1
  have g_b1 : n0 ≤ b1 := Nat.le_trans Z0 (Nat.le_of_eq g1.symm)
  have ne_r0_b1 : r0 ≠ b1 := Nat.ne_of_lt (Nat.lt_of_lt_of_le E_r0.lt (Nat.le_of_eq g1.symm))
  have ne_ta_b1 : ta ≠ b1 := Nat.ne_of_lt (Nat.lt_of_lt_of_le At.lt (Nat.le_of_eq g1.symm))
  have ne_ca_b1 : ca ≠ b1 := Nat.ne_of_lt (Nat.lt_of_lt_of_le Ac.lt (Nat.le_of_eq g1.symm))
  have sz_b1 : h0.size ≤ b1 := Nat.le_trans (Keep.refl h0 [r0]).1 (Nat.le_of_eq g1.symm)
  have K1 : Keep h0 h1 [r0] := Keep.ext (Keep.refl h0 [r0]) E1
  have Z1 : n0 ≤ h1.size := Nat.le_trans Z0 E1.1
  have V1 : Af Z h1 b1 .long 4 (fun _ => defaultValue .long) := Af.new A1 (by decide) rfl rfl
  refine own_go st1 ?_
  show Gm p e below T1 m 3 #[rv r0, iv (4 : Int32), .unset, .unset] [(.ref b1)] _
  refine own_go (fun t₀ k₀ => XS.astoreN X1.here hx rfl (Jvm.hb hby d5_3) rfl rfl (l' := #[rv r0, iv (4 : Int32), rv b1, .unset]) rfl k₀) ?_
  show Gm p e below T1 m 4 #[rv r0, iv (4 : Int32), rv b1, .unset] [] _
  refine own_go (fun t₀ k₀ => XS.iloadN X1.here hx rfl (Jvm.hb hby d5_4) rfl k₀) ?_
  show Gm p e below T1 m 5 #[rv r0, iv (4 : Int32), rv b1, .unset] [(.int (4 : Int32))] _
  obtain ⟨T2, h2, k2, X2, e2, E2, A2, st2⟩ := newP X1 hx hZ (hw _ (List.mem_of_getElem? (i := 9) rfl)) e1 (g := (mkF m 5 #[rv r0, iv (4 : Int32), rv b1, .unset] [(.int (4 : Int32))])) rfl (Jvm.hb hby d5_5) rfl (by decide) (cap := 4) (by decide) (by decide) (by decide) (by decide)
  obtain ⟨b2, g2⟩ : ∃ z, z = h1.size := ⟨_, rfl⟩
  rw [← g2] at A2 st2
  have g_b2 : n0 ≤ b2 := Nat.le_trans Z1 (Nat.le_of_eq g2.symm)
  have f3 := (E_r0.ext E1)
  have ne_r0_b2 : r0 ≠ b2 := Nat.ne_of_lt (Nat.lt_of_lt_of_le f3.lt (Nat.le_of_eq g2.symm))
  have f4 := (At.ext E1)
  have ne_ta_b2 : ta ≠ b2 := Nat.ne_of_lt (Nat.lt_of_lt_of_le f4.lt (Nat.le_of_eq g2.symm))
  have f5 := (Ac.ext E1)
  have ne_ca_b2 : ca ≠ b2 := Nat.ne_of_lt (Nat.lt_of_lt_of_le f5.lt (Nat.le_of_eq g2.symm))
  have ne_b1_b2 : b1 ≠ b2 := Nat.ne_of_lt (Nat.lt_of_lt_of_le V1.lt (Nat.le_of_eq g2.symm))
  have sz_b2 : h0.size ≤ b2 := Nat.le_trans K1.1 (Nat.le_of_eq g2.symm)
  have K2 : Keep h0 h2 [r0] := Keep.ext K1 E2
  have Z2 : n0 ≤ h2.size := Nat.le_trans Z1 E2.1
  have V2 : Af Z h2 b2 .long 4 (fun _ => defaultValue .long) := Af.new A2 (by decide) rfl rfl
  refine own_go st2 ?_
  show Gm p e below T2 m 7 #[rv r0, iv (4 : Int32), rv b1, .unset] [(.ref b2)] _
  refine own_go (fun t₀ k₀ => XS.astoreN X2.here hx rfl (Jvm.hb hby d5_7) rfl rfl (l' := #[rv r0, iv (4 : Int32), rv b1, rv b2]) rfl k₀) ?_
  show Gm p e below T2 m 8 #[rv r0, iv (4 : Int32), rv b1, rv b2] [] _
  refine own_go (fun t₀ k₀ => XS.aloadN X2.here hx rfl (Jvm.hb hby d5_8) rfl rfl k₀) ?_
  show Gm p e below T2 m 9 #[rv r0, iv (4 : Int32), rv b1, rv b2] [(.ref r0)] _
  have f6 := ((F_times.ext E1).ext E2)
  obtain ⟨T7, X7, e7, st7⟩ := getF X2 hx hZ hown (host := "") (Or.inl (hw _ (List.mem_of_getElem? (i := 10) rfl))) Via.refl e2 f6 (g := (mkF m 9 #[rv r0, iv (4 : Int32), rv b1, rv b2] [(.ref r0)])) rfl rfl (Jvm.hb hby d5_9)
  refine own_go st7 ?_
  show Gm p e below T7 m 12 #[rv r0, iv (4 : Int32), rv b1, rv b2] [(.ref ta)] _
  refine own_go (fun t₀ k₀ => XS.aloadN X7.here hx rfl (Jvm.hb hby d5_12) rfl rfl k₀) ?_
  show Gm p e below T7 m 13 #[rv r0, iv (4 : Int32), rv b1, rv b2] [(.ref r0), (.ref ta)] _
  have f8 := ((F_start.ext E1).ext E2)
  obtain ⟨T9, X9, e9, st9⟩ := getF X7 hx hZ hown (host := "") (Or.inl (hw _ (List.mem_of_getElem? (i := 21) rfl))) Via.refl e7 f8 (g := (mkF m 13 #[rv r0, iv (4 : Int32), rv b1, rv b2] [(.ref r0), (.ref ta)])) rfl rfl (Jvm.hb hby d5_13)
  refine own_go st9 ?_
  show Gm p e below T9 m 16 #[rv r0, iv (4 : Int32), rv b1, rv b2] [(.int (0 : Int32)), (.ref ta)] _
  refine own_go (fun t₀ k₀ => XS.aloadN X9.here hx rfl (Jvm.hb hby d5_16) rfl rfl k₀) ?_
  show Gm p e below T9 m 17 #[rv r0, iv (4 : Int32), rv b1, rv b2] [(.ref b1), (.int (0 : Int32)), (.ref ta)] _
  refine own_go (fun t₀ k₀ => XS.iconst X9.here hx rfl (Jvm.hb hby d5_17) k₀) ?_
  show Gm p e below T9 m 18 #[rv r0, iv (4 : Int32), rv b1, rv b2] [(.int (0 : Int32)), (.ref b1), (.int (0 : Int32)), (.ref ta)] _
  refine own_go (fun t₀ k₀ => XS.aloadN X9.here hx rfl (Jvm.hb hby d5_18) rfl rfl k₀) ?_
  show Gm p e below T9 m 19 #[rv r0, iv (4 : Int32), rv b1, rv b2] [(.ref r0), (.int (0 : Int32)), (.ref b1), (.int (0 : Int32)), (.ref ta)] _
  have f10 := ((F_end.ext E1).ext E2)
  obtain ⟨T11, X11, e11, st11⟩ := getF X9 hx hZ hown (host := "") (Or.inl (hw _ (List.mem_of_getElem? (i := 19) rfl))) Via.refl e9 f10 (g := (mkF m 19 #[rv r0, iv (4 : Int32), rv b1, rv b2] [(.ref r0), (.int (0 : Int32)), (.ref b1), (.int (0 : Int32)), (.ref ta)])) rfl rfl (Jvm.hb hby d5_19)
  refine own_go st11 ?_
  show Gm p e below T11 m 22 #[rv r0, iv (4 : Int32), rv b1, rv b2] [(.int (2 : Int32)), (.int (0 : Int32)), (.ref b1), (.int (0 : Int32)), (.ref ta)] _
  refine own_go (fun t₀ k₀ => XS.aloadN X11.here hx rfl (Jvm.hb hby d5_22) rfl rfl k₀) ?_
  show Gm p e below T11 m 23 #[rv r0, iv (4 : Int32), rv b1, rv b2] [(.ref r0), (.int (2 : Int32)), (.int (0 : Int32)), (.ref b1), (.int (0 : Int32)), (.ref ta)] _
  obtain ⟨T12, X12, e12, st12⟩ := getF X11 hx hZ hown (host := "") (Or.inl (hw _ (List.mem_of_getElem? (i := 21) rfl))) Via.refl e11 f8 (g := (mkF m 23 #[rv r0, iv (4 : Int32), rv b1, rv b2] [(.ref r0), (.int (2 : Int32)), (.int (0 : Int32)), (.ref b1), (.int (0 : Int32)), (.ref ta)])) rfl rfl (Jvm.hb hby d5_23)
  refine own_go st12 ?_
  show Gm p e below T12 m 26 #[rv r0, iv (4 : Int32), rv b1, rv b2] [(.int (0 : Int32)), (.int (2 : Int32)), (.int (0 : Int32)), (.ref b1), (.int (0 : Int32)), (.ref ta)] _
  refine own_go (fun t₀ k₀ => XS.isub X12.here hx rfl (Jvm.hb hby d5_26) rfl k₀) ?_
  show Gm p e below T12 m 27 #[rv r0, iv (4 : Int32), rv b1, rv b2] [(.int (2 : Int32)), (.int (0 : Int32)), (.ref b1), (.int (0 : Int32)), (.ref ta)] _
  have f13 := (f4.ext E2)
  have f14 := (V1.ext E2)
  obtain ⟨T15, h15, L15, X15, e15, N15, Kc15, Ac15, st15⟩ := own_cp X12 hx hZ hown (hw _ (List.mem_of_getElem? (i := 23) rfl)) (hw _ (List.mem_of_getElem? (i := 26) rfl)) (hw _ (List.mem_of_getElem? (i := 24) rfl)) (hw _ (List.mem_of_getElem? (i := 25) rfl)) e12 (ks := 0) (kd := 0) (kn := 2) f13 f14 rfl (by decide) (by decide) (by decide) rfl rfl rfl (by decide) (by decide) N0 g_b1 (g := (mkF m 27 #[rv r0, iv (4 : Int32), rv b1, rv b2] [(.int (2 : Int32)), (.int (0 : Int32)), (.ref b1), (.int (0 : Int32)), (.ref ta)])) rfl (by rw [hml]; rfl) rfl (Jvm.hb hby d5_27) (by decide) (W := 0) (by show 2 * 0 + _ ≤ _; exact Nat.le_of_eq rfl) (by decide)
  have Z15 : n0 ≤ h15.size := Nat.le_trans Z2 Kc15.1
  have K15 : Keep h0 h15 [r0] := Keep.trans K2 Kc15 (allS (Or.inr sz_b1) all0)
  refine own_go st15 ?_
  show Gm p e below T15 m 30 #[rv r0, iv (4 : Int32), rv b1, rv b2] [] _
  refine own_go (fun t₀ k₀ => XS.aloadN X15.here hx rfl (Jvm.hb hby d5_30) rfl rfl k₀) ?_
  show Gm p e below T15 m 31 #[rv r0, iv (4 : Int32), rv b1, rv b2] [(.ref r0)] _
  have f16 := (((F_counts.ext E1).ext E2).keep Kc15 (ninS ne_r0_b1 nin0))
  obtain ⟨T17, X17, e17, st17⟩ := getF X15 hx hZ hown (host := "") (Or.inl (hw _ (List.mem_of_getElem? (i := 12) rfl))) Via.refl e15 f16 (g := (mkF m 31 #[rv r0, iv (4 : Int32), rv b1, rv b2] [(.ref r0)])) rfl rfl (Jvm.hb hby d5_31)
  refine own_go st17 ?_
  show Gm p e below T17 m 34 #[rv r0, iv (4 : Int32), rv b1, rv b2] [(.ref ca)] _
  refine own_go (fun t₀ k₀ => XS.aloadN X17.here hx rfl (Jvm.hb hby d5_34) rfl rfl k₀) ?_
  show Gm p e below T17 m 35 #[rv r0, iv (4 : Int32), rv b1, rv b2] [(.ref r0), (.ref ca)] _
  have f18 := (f8.keep Kc15 (ninS ne_r0_b1 nin0))
  obtain ⟨T19, X19, e19, st19⟩ := getF X17 hx hZ hown (host := "") (Or.inl (hw _ (List.mem_of_getElem? (i := 21) rfl))) Via.refl e17 f18 (g := (mkF m 35 #[rv r0, iv (4 : Int32), rv b1, rv b2] [(.ref r0), (.ref ca)])) rfl rfl (Jvm.hb hby d5_35)
  refine own_go st19 ?_
  show Gm p e below T19 m 38 #[rv r0, iv (4 : Int32), rv b1, rv b2] [(.int (0 : Int32)), (.ref ca)] _
  refine own_go (fun t₀ k₀ => XS.aloadN X19.here hx rfl (Jvm.hb hby d5_38) rfl rfl k₀) ?_
  show Gm p e below T19 m 39 #[rv r0, iv (4 : Int32), rv b1, rv b2] [(.ref b2), (.int (0 : Int32)), (.ref ca)] _
  refine own_go (fun t₀ k₀ => XS.iconst X19.here hx rfl (Jvm.hb hby d5_39) k₀) ?_
  show Gm p e below T19 m 40 #[rv r0, iv (4 : Int32), rv b1, rv b2] [(.int (0 : Int32)), (.ref b2), (.int (0 : Int32)), (.ref ca)] _
  refine own_go (fun t₀ k₀ => XS.aloadN X19.here hx rfl (Jvm.hb hby d5_40) rfl rfl k₀) ?_
  show Gm p e below T19 m 41 #[rv r0, iv (4 : Int32), rv b1, rv b2] [(.ref r0), (.int (0 : Int32)), (.ref b2), (.int (0 : Int32)), (.ref ca)] _
  have f20 := (f10.keep Kc15 (ninS ne_r0_b1 nin0))
  obtain ⟨T21, X21, e21, st21⟩ := getF X19 hx hZ hown (host := "") (Or.inl (hw _ (List.mem_of_getElem? (i := 19) rfl))) Via.refl e19 f20 (g := (mkF m 41 #[rv r0, iv (4 : Int32), rv b1, rv b2] [(.ref r0), (.int (0 : Int32)), (.ref b2), (.int (0 : Int32)), (.ref ca)])) rfl rfl (Jvm.hb hby d5_41)
  refine own_go st21 ?_
  show Gm p e below T21 m 44 #[rv r0, iv (4 : Int32), rv b1, rv b2] [(.int (2 : Int32)), (.int (0 : Int32)), (.ref b2), (.int (0 : Int32)), (.ref ca)] _
  refine own_go (fun t₀ k₀ => XS.aloadN X21.here hx rfl (Jvm.hb hby d5_44) rfl rfl k₀) ?_
  show Gm p e below T21 m 45 #[rv r0, iv (4 : Int32), rv b1, rv b2] [(.ref r0), (.int (2 : Int32)), (.int (0 : Int32)), (.ref b2), (.int (0 : Int32)), (.ref ca)] _
  obtain ⟨T22, X22, e22, st22⟩ := getF X21 hx hZ hown (host := "") (Or.inl (hw _ (List.mem_of_getElem? (i := 21) rfl))) Via.refl e21 f18 (g := (mkF m 45 #[rv r0, iv (4 : Int32), rv b1, rv b2] [(.ref r0), (.int (2 : Int32)), (.int (0 : Int32)), (.ref b2), (.int (0 : Int32)), (.ref ca)])) rfl rfl (Jvm.hb hby d5_45)
  refine own_go st22 ?_
  show Gm p e below T22 m 48 #[rv r0, iv (4 : Int32), rv b1, rv b2] [(.int (0 : Int32)), (.int (2 : Int32)), (.int (0 : Int32)), (.ref b2), (.int (0 : Int32)), (.ref ca)] _
  refine own_go (fun t₀ k₀ => XS.isub X22.here hx rfl (Jvm.hb hby d5_48) rfl k₀) ?_
  show Gm p e below T22 m 49 #[rv r0, iv (4 : Int32), rv b1, rv b2] [(.int (2 : Int32)), (.int (0 : Int32)), (.ref b2), (.int (0 : Int32)), (.ref ca)] _
  have f23 := ((f5.ext E2).keep Kc15 (ninS ne_ca_b1 nin0))
  have f24 := (V2.keep Kc15 (ninS (Ne.symm ne_b1_b2) nin0))
  obtain ⟨T25, h25, L25, X25, e25, N25, Kc25, Ac25, st25⟩ := own_cp X22 hx hZ hown (hw _ (List.mem_of_getElem? (i := 23) rfl)) (hw _ (List.mem_of_getElem? (i := 26) rfl)) (hw _ (List.mem_of_getElem? (i := 24) rfl)) (hw _ (List.mem_of_getElem? (i := 25) rfl)) e22 (ks := 0) (kd := 0) (kn := 2) f23 f24 rfl (by decide) (by decide) (by decide) rfl rfl rfl (by decide) (by decide) N15 g_b2 (g := (mkF m 49 #[rv r0, iv (4 : Int32), rv b1, rv b2] [(.int (2 : Int32)), (.int (0 : Int32)), (.ref b2), (.int (0 : Int32)), (.ref ca)])) rfl (by rw [hml]; rfl) rfl (Jvm.hb hby d5_49) (by decide) (W := 0) (by show 2 * 0 + _ ≤ _; exact Nat.le_of_eq rfl) (by decide)
  have Z25 : n0 ≤ h25.size := Nat.le_trans Z15 Kc25.1
  have K25 : Keep h0 h25 [r0] := Keep.trans K15 Kc25 (allS (Or.inr sz_b2) all0)
  refine own_go st25 ?_
  show Gm p e below T25 m 52 #[rv r0, iv (4 : Int32), rv b1, rv b2] [] _
  refine own_go (fun t₀ k₀ => XS.aloadN X25.here hx rfl (Jvm.hb hby d5_52) rfl rfl k₀) ?_
  show Gm p e below T25 m 53 #[rv r0, iv (4 : Int32), rv b1, rv b2] [(.ref r0)] _
  refine own_go (fun t₀ k₀ => XS.aloadN X25.here hx rfl (Jvm.hb hby d5_53) rfl rfl k₀) ?_
  show Gm p e below T25 m 54 #[rv r0, iv (4 : Int32), rv b1, rv b2] [(.ref b1), (.ref r0)] _
  have f26 := (((f3.ext E2).keep Kc15).keep Kc25)
  have f27 := ((f6.keep Kc15 (ninS ne_r0_b1 nin0)).keep Kc25 (ninS ne_r0_b2 nin0))
  obtain ⟨T28, h28, X28, e28, W28, st28⟩ := putF X25 hx hZ hown (host := "") (Or.inl (hw _ (List.mem_of_getElem? (i := 10) rfl))) Via.refl e25 f27 f26 (Or.inl (hw _ (List.mem_of_getElem? (i := 11) rfl))) (hw _ (List.mem_of_getElem? (i := 1) rfl)) (ty := (.array .long)) (by decide) rfl rfl (g := (mkF m 54 #[rv r0, iv (4 : Int32), rv b1, rv b2] [(.ref b1), (.ref r0)])) rfl rfl (Jvm.hb hby d5_54)
  have Fw28 := Fld.same W28 f27
  have N28 := Fr.snoc X28 N25 g_r0
  have Z28 : n0 ≤ h28.size := W28.size ▸ Z25
  have K28 : Keep h0 h28 [r0] := Keep.wr K25 W28 (Or.inl (List.mem_of_getElem? (i := 0) rfl))
  refine own_go st28 ?_
  show Gm p e below T28 m 57 #[rv r0, iv (4 : Int32), rv b1, rv b2] [] _
  refine own_go (fun t₀ k₀ => XS.aloadN X28.here hx rfl (Jvm.hb hby d5_57) rfl rfl k₀) ?_
  show Gm p e below T28 m 58 #[rv r0, iv (4 : Int32), rv b1, rv b2] [(.ref r0)] _
  refine own_go (fun t₀ k₀ => XS.aloadN X28.here hx rfl (Jvm.hb hby d5_58) rfl rfl k₀) ?_
  show Gm p e below T28 m 59 #[rv r0, iv (4 : Int32), rv b1, rv b2] [(.ref b2), (.ref r0)] _
  have f29 := (f26.wr W28)
  have f30 := (Fld.other W28 (f16.keep Kc25 (ninS ne_r0_b2 nin0)) (Or.inr (slot_ne (Or.inl (hw _ (List.mem_of_getElem? (i := 13) rfl))) (Or.inl (hw _ (List.mem_of_getElem? (i := 11) rfl))) (by decide) (t := (.array .long)) (t' := (.array .long)) (by decide) (by decide))))
  obtain ⟨T31, h31, X31, e31, W31, st31⟩ := putF X28 hx hZ hown (host := "") (Or.inl (hw _ (List.mem_of_getElem? (i := 12) rfl))) Via.refl e28 f30 f29 (Or.inl (hw _ (List.mem_of_getElem? (i := 13) rfl))) (hw _ (List.mem_of_getElem? (i := 1) rfl)) (ty := (.array .long)) (by decide) rfl rfl (g := (mkF m 59 #[rv r0, iv (4 : Int32), rv b1, rv b2] [(.ref b2), (.ref r0)])) rfl rfl (Jvm.hb hby d5_59)
  have Fw31 := Fld.same W31 f30
  have N31 := Fr.snoc X31 N28 g_r0
  have Z31 : n0 ≤ h31.size := W31.size ▸ Z28
  have K31 : Keep h0 h31 [r0] := Keep.wr K28 W31 (Or.inl (List.mem_of_getElem? (i := 0) rfl))
  refine own_go st31 ?_
  show Gm p e below T31 m 62 #[rv r0, iv (4 : Int32), rv b1, rv b2] [] _
  refine own_go (fun t₀ k₀ => XS.aloadN X31.here hx rfl (Jvm.hb hby d5_62) rfl rfl k₀) ?_
  show Gm p e below T31 m 63 #[rv r0, iv (4 : Int32), rv b1, rv b2] [(.ref r0)] _
  refine own_go (fun t₀ k₀ => XS.dup X31.here hx rfl (Jvm.hb hby d5_63) rfl rfl k₀) ?_
  show Gm p e below T31 m 64 #[rv r0, iv (4 : Int32), rv b1, rv b2] [(.ref r0), (.ref r0)] _
  have f32 := (Fld.other W31 (Fld.other W28 (f20.keep Kc25 (ninS ne_r0_b2 nin0)) (Or.inr (slot_ne (Or.inl (hw _ (List.mem_of_getElem? (i := 20) rfl))) (Or.inl (hw _ (List.mem_of_getElem? (i := 11) rfl))) (by decide) (t := .int) (t' := (.array .long)) (by decide) (by decide)))) (Or.inr (slot_ne (Or.inl (hw _ (List.mem_of_getElem? (i := 20) rfl))) (Or.inl (hw _ (List.mem_of_getElem? (i := 13) rfl))) (by decide) (t := .int) (t' := (.array .long)) (by decide) (by decide))))
  obtain ⟨T33, X33, e33, st33⟩ := getF X31 hx hZ hown (host := "") (Or.inl (hw _ (List.mem_of_getElem? (i := 19) rfl))) Via.refl e31 f32 (g := (mkF m 64 #[rv r0, iv (4 : Int32), rv b1, rv b2] [(.ref r0), (.ref r0)])) rfl rfl (Jvm.hb hby d5_64)
  refine own_go st33 ?_
  show Gm p e below T33 m 67 #[rv r0, iv (4 : Int32), rv b1, rv b2] [(.int (2 : Int32)), (.ref r0)] _
  refine own_go (fun t₀ k₀ => XS.aloadN X33.here hx rfl (Jvm.hb hby d5_67) rfl rfl k₀) ?_
  show Gm p e below T33 m 68 #[rv r0, iv (4 : Int32), rv b1, rv b2] [(.ref r0), (.int (2 : Int32)), (.ref r0)] _
  have f34 := (Fld.other W31 (Fld.other W28 (f18.keep Kc25 (ninS ne_r0_b2 nin0)) (Or.inr (slot_ne (Or.inl (hw _ (List.mem_of_getElem? (i := 22) rfl))) (Or.inl (hw _ (List.mem_of_getElem? (i := 11) rfl))) (by decide) (t := .int) (t' := (.array .long)) (by decide) (by decide)))) (Or.inr (slot_ne (Or.inl (hw _ (List.mem_of_getElem? (i := 22) rfl))) (Or.inl (hw _ (List.mem_of_getElem? (i := 13) rfl))) (by decide) (t := .int) (t' := (.array .long)) (by decide) (by decide))))
  obtain ⟨T35, X35, e35, st35⟩ := getF X33 hx hZ hown (host := "") (Or.inl (hw _ (List.mem_of_getElem? (i := 21) rfl))) Via.refl e33 f34 (g := (mkF m 68 #[rv r0, iv (4 : Int32), rv b1, rv b2] [(.ref r0), (.int (2 : Int32)), (.ref r0)])) rfl rfl (Jvm.hb hby d5_68)
  refine own_go st35 ?_
  show Gm p e below T35 m 71 #[rv r0, iv (4 : Int32), rv b1, rv b2] [(.int (0 : Int32)), (.int (2 : Int32)), (.ref r0)] _
  refine own_go (fun t₀ k₀ => XS.isub X35.here hx rfl (Jvm.hb hby d5_71) rfl k₀) ?_
  show Gm p e below T35 m 72 #[rv r0, iv (4 : Int32), rv b1, rv b2] [(.int (2 : Int32)), (.ref r0)] _
  have f36 := (f29.wr W31)
  obtain ⟨T37, h37, X37, e37, W37, st37⟩ := putF X35 hx hZ hown (host := "") (Or.inl (hw _ (List.mem_of_getElem? (i := 19) rfl))) Via.refl e35 f32 f36 (Or.inl (hw _ (List.mem_of_getElem? (i := 20) rfl))) (hw _ (List.mem_of_getElem? (i := 1) rfl)) (ty := .int) (by decide) rfl rfl (g := (mkF m 72 #[rv r0, iv (4 : Int32), rv b1, rv b2] [(.int (2 : Int32)), (.ref r0)])) rfl rfl (Jvm.hb hby d5_72)
  have Fw37 := Fld.same W37 f32
  have N37 := Fr.snoc X37 N31 g_r0
  have Z37 : n0 ≤ h37.size := W37.size ▸ Z31
  have K37 : Keep h0 h37 [r0] := Keep.wr K31 W37 (Or.inl (List.mem_of_getElem? (i := 0) rfl))
  refine own_go st37 ?_
  show Gm p e below T37 m 75 #[rv r0, iv (4 : Int32), rv b1, rv b2] [] _
  refine own_go (fun t₀ k₀ => XS.aloadN X37.here hx rfl (Jvm.hb hby d5_75) rfl rfl k₀) ?_
  show Gm p e below T37 m 76 #[rv r0, iv (4 : Int32), rv b1, rv b2] [(.ref r0)] _
  refine own_go (fun t₀ k₀ => XS.iconst X37.here hx rfl (Jvm.hb hby d5_76) k₀) ?_
  show Gm p e below T37 m 77 #[rv r0, iv (4 : Int32), rv b1, rv b2] [(.int (0 : Int32)), (.ref r0)] _
  have f38 := (f36.wr W37)
  have f39 := (Fld.other W37 f34 (Or.inr (slot_ne (Or.inl (hw _ (List.mem_of_getElem? (i := 22) rfl))) (Or.inl (hw _ (List.mem_of_getElem? (i := 20) rfl))) (by decide) (t := .int) (t' := .int) (by decide) (by decide))))
  obtain ⟨T40, h40, X40, e40, W40, st40⟩ := putF X37 hx hZ hown (host := "") (Or.inl (hw _ (List.mem_of_getElem? (i := 21) rfl))) Via.refl e37 f39 f38 (Or.inl (hw _ (List.mem_of_getElem? (i := 22) rfl))) (hw _ (List.mem_of_getElem? (i := 1) rfl)) (ty := .int) (by decide) rfl rfl (g := (mkF m 77 #[rv r0, iv (4 : Int32), rv b1, rv b2] [(.int (0 : Int32)), (.ref r0)])) rfl rfl (Jvm.hb hby d5_77)
  have Fw40 := Fld.same W40 f39
  have N40 := Fr.snoc X40 N37 g_r0
  have Z40 : n0 ≤ h40.size := W40.size ▸ Z37
  have K40 : Keep h0 h40 [r0] := Keep.wr K37 W40 (Or.inl (List.mem_of_getElem? (i := 0) rfl))
  refine own_go st40 ?_
  show Gm p e below T40 m 80 #[rv r0, iv (4 : Int32), rv b1, rv b2] [] _
  have f41 := (((((Ac15.keep Kc25 (ninS ne_b1_b2 nin0)).other W28 (Ne.symm ne_r0_b1)).other W31 (Ne.symm ne_r0_b1)).other W37 (Ne.symm ne_r0_b1)).other W40 (Ne.symm ne_r0_b1))
  have f42 := ((((Ac25.other W28 (Ne.symm ne_r0_b2)).other W31 (Ne.symm ne_r0_b2)).other W37 (Ne.symm ne_r0_b2)).other W40 (Ne.symm ne_r0_b2))
  have f43 := (f38.wr W40)
  have f44 := (Fld.other W40 (Fld.other W37 (Fld.other W31 Fw28 (Or.inr (slot_ne (Or.inl (hw _ (List.mem_of_getElem? (i := 11) rfl))) (Or.inl (hw _ (List.mem_of_getElem? (i := 13) rfl))) (by decide) (t := (.array .long)) (t' := (.array .long)) (by decide) (by decide)))) (Or.inr (slot_ne (Or.inl (hw _ (List.mem_of_getElem? (i := 11) rfl))) (Or.inl (hw _ (List.mem_of_getElem? (i := 20) rfl))) (by decide) (t := (.array .long)) (t' := .int) (by decide) (by decide)))) (Or.inr (slot_ne (Or.inl (hw _ (List.mem_of_getElem? (i := 11) rfl))) (Or.inl (hw _ (List.mem_of_getElem? (i := 22) rfl))) (by decide) (t := (.array .long)) (t' := .int) (by decide) (by decide))))
  have f45 := (Fld.other W40 (Fld.other W37 Fw31 (Or.inr (slot_ne (Or.inl (hw _ (List.mem_of_getElem? (i := 13) rfl))) (Or.inl (hw _ (List.mem_of_getElem? (i := 20) rfl))) (by decide) (t := (.array .long)) (t' := .int) (by decide) (by decide)))) (Or.inr (slot_ne (Or.inl (hw _ (List.mem_of_getElem? (i := 13) rfl))) (Or.inl (hw _ (List.mem_of_getElem? (i := 22) rfl))) (by decide) (t := (.array .long)) (t' := .int) (by decide) (by decide))))
  have f46 := (Fld.other W40 Fw37 (Or.inr (slot_ne (Or.inl (hw _ (List.mem_of_getElem? (i := 20) rfl))) (Or.inl (hw _ (List.mem_of_getElem? (i := 22) rfl))) (by decide) (t := .int) (t' := .int) (by decide) (by decide))))
  have f47 := (Fld.other W40 (Fld.other W37 (Fld.other W31 (Fld.other W28 ((((F_permits.ext E1).ext E2).keep Kc15 (ninS ne_r0_b1 nin0)).keep Kc25 (ninS ne_r0_b2 nin0)) (Or.inr (slot_ne (Or.inl (hw _ (List.mem_of_getElem? (i := 28) rfl))) (Or.inl (hw _ (List.mem_of_getElem? (i := 11) rfl))) (by decide) (t := .long) (t' := (.array .long)) (by decide) (by decide)))) (Or.inr (slot_ne (Or.inl (hw _ (List.mem_of_getElem? (i := 28) rfl))) (Or.inl (hw _ (List.mem_of_getElem? (i := 13) rfl))) (by decide) (t := .long) (t' := (.array .long)) (by decide) (by decide)))) (Or.inr (slot_ne (Or.inl (hw _ (List.mem_of_getElem? (i := 28) rfl))) (Or.inl (hw _ (List.mem_of_getElem? (i := 20) rfl))) (by decide) (t := .long) (t' := .int) (by decide) (by decide)))) (Or.inr (slot_ne (Or.inl (hw _ (List.mem_of_getElem? (i := 28) rfl))) (Or.inl (hw _ (List.mem_of_getElem? (i := 22) rfl))) (by decide) (t := .long) (t' := .int) (by decide) (by decide))))
  exact own_retV X40 hx hlk Bd.returns (Jvm.hb hby d5_80) e40 ⟨rfl, N40, K40.1, ⟨b1, b2, _, _, f43, f44, f45, Fw40, f46, f47, f41, f42, ne_r0_b1, ne_r0_b2, ne_b1_b2, g_b1, g_b2, (Nat.le_of_ble_eq_true rfl), (own_hx2 (s := 0) (ft := (fun i => if 0 ≤ i ∧ i < 0 + 2 then ft (0 + (i - 0)) else (fun _ => defaultValue .long) i)) (fc := (fun i => if 0 ≤ i ∧ i < 0 + 2 then fc (0 + (i - 0)) else (fun _ => defaultValue .long) i)) (hxs 0 _ _ rfl).1 (hxs 0 _ _ rfl).2 (hxs 1 _ _ rfl).1 (hxs 1 _ _ rfl).2)⟩⟩ (by decide) (by decide)

def QA (Z : State) (r0 : Addr) (q1 q2 : Int64) (xs : List Ent) (P : Int64) (h0 : Heap) (n0 : Nat) (v : Option Value) (h : Heap) (L : List Loc) : Prop := v = none ∧ Fr n0 L ∧ h0.size ≤ h.size ∧ ∃ N', LL Z h n0 r0 N' 0 (ins q1 q2 xs) (P + q2) ∧ (xs.length ≤ 1 → N' = 2)
def QR (Z : State) (r0 : Addr) (q1 : Int64) (N : Nat) (xs : List Ent) (P : Int64) (h0 : Heap) (n0 : Nat) (v : Option Value) (h : Heap) (L : List Loc) : Prop := v = none ∧ Fr n0 L ∧ h0.size ≤ h.size ∧ ∃ s', LL Z h n0 r0 N s' (dr q1 xs) (pr q1 xs P) ∧ s' + (dr q1 xs).length = xs.length
def tOf (i : Int64) : List Ent → Int64
  | [] => 0
  | (a, k) :: r => tB a k i r
def tX : List Ent → Int64
  | [] => 0
  | (_, k) :: r => tot k r
def QT (q1 : Int64) (xs : List Ent) (h0 : Heap) (n0 : Nat) (v : Option Value) (h : Heap) (L : List Loc) : Prop := v = some (.long (tOf q1 xs)) ∧ Fr n0 L ∧ h = h0
theorem d3_0 : decode prog_1_method_4_code 0 = .ok (.aload_n 0, 1) := by decide +kernel
theorem d3_1 : decode prog_1_method_4_code 1 = .ok (.getfield 24, 3) := by decide +kernel
theorem d3_4 : decode prog_1_method_4_code 4 = .ok (.istore 5, 2) := by decide +kernel
theorem d3_6 : decode prog_1_method_4_code 6 = .ok (.iload 5, 2) := by decide +kernel
theorem d3_8 : decode prog_1_method_4_code 8 = .ok (.aload_n 0, 1) := by decide +kernel
theorem d3_9 : decode prog_1_method_4_code 9 = .ok (.getfield 20, 3) := by decide +kernel
theorem d3_12 : decode prog_1_method_4_code 12 = .ok (.if_icmp .le 23, 3) := by decide +kernel
theorem d3_35 : decode prog_1_method_4_code 35 = .ok (.iload 5, 2) := by decide +kernel
theorem d3_37 : decode prog_1_method_4_code 37 = .ok (.aload_n 0, 1) := by decide +kernel
theorem d3_38 : decode prog_1_method_4_code 38 = .ok (.getfield 20, 3) := by decide +kernel
theorem d3_41 : decode prog_1_method_4_code 41 = .ok (.if_icmp .le 33, 3) := by decide +kernel
theorem d3_74 : decode prog_1_method_4_code 74 = .ok (.aload_n 0, 1) := by decide +kernel
theorem d3_75 : decode prog_1_method_4_code 75 = .ok (.getfield 24, 3) := by decide +kernel
theorem d3_78 : decode prog_1_method_4_code 78 = .ok (.aload_n 0, 1) := by decide +kernel
theorem d3_79 : decode prog_1_method_4_code 79 = .ok (.getfield 9, 3) := by decide +kernel
theorem d3_82 : decode prog_1_method_4_code 82 = .ok (.arraylength, 1) := by decide +kernel
theorem d3_83 : decode prog_1_method_4_code 83 = .ok (.if_icmp .ne 35, 3) := by decide +kernel
theorem d3_118 : decode prog_1_method_4_code 118 = .ok (.aload_n 0, 1) := by decide +kernel
theorem d3_119 : decode prog_1_method_4_code 119 = .ok (.getfield 9, 3) := by decide +kernel
theorem d3_122 : decode prog_1_method_4_code 122 = .ok (.iload 5, 2) := by decide +kernel
theorem d3_124 : decode prog_1_method_4_code 124 = .ok (.aload_n 0, 1) := by decide +kernel
theorem d3_125 : decode prog_1_method_4_code 125 = .ok (.getfield 9, 3) := by decide +kernel
theorem d3_128 : decode prog_1_method_4_code 128 = .ok (.iload 5, 2) := by decide +kernel
theorem d3_130 : decode prog_1_method_4_code 130 = .ok (.iconst 1, 1) := by decide +kernel
theorem d3_131 : decode prog_1_method_4_code 131 = .ok (.iadd, 1) := by decide +kernel
theorem d3_132 : decode prog_1_method_4_code 132 = .ok (.aload_n 0, 1) := by decide +kernel
theorem d3_133 : decode prog_1_method_4_code 133 = .ok (.getfield 24, 3) := by decide +kernel
theorem d3_136 : decode prog_1_method_4_code 136 = .ok (.iload 5, 2) := by decide +kernel
theorem d3_138 : decode prog_1_method_4_code 138 = .ok (.isub, 1) := by decide +kernel
theorem d3_139 : decode prog_1_method_4_code 139 = .ok (.invokestatic 37, 3) := by decide +kernel
theorem d3_142 : decode prog_1_method_4_code 142 = .ok (.aload_n 0, 1) := by decide +kernel
theorem d3_143 : decode prog_1_method_4_code 143 = .ok (.getfield 13, 3) := by decide +kernel
theorem d3_146 : decode prog_1_method_4_code 146 = .ok (.iload 5, 2) := by decide +kernel
theorem d3_148 : decode prog_1_method_4_code 148 = .ok (.aload_n 0, 1) := by decide +kernel
theorem d3_149 : decode prog_1_method_4_code 149 = .ok (.getfield 13, 3) := by decide +kernel
theorem d3_152 : decode prog_1_method_4_code 152 = .ok (.iload 5, 2) := by decide +kernel
theorem d3_154 : decode prog_1_method_4_code 154 = .ok (.iconst 1, 1) := by decide +kernel
theorem d3_155 : decode prog_1_method_4_code 155 = .ok (.iadd, 1) := by decide +kernel
theorem d3_156 : decode prog_1_method_4_code 156 = .ok (.aload_n 0, 1) := by decide +kernel
theorem d3_157 : decode prog_1_method_4_code 157 = .ok (.getfield 24, 3) := by decide +kernel
theorem d3_160 : decode prog_1_method_4_code 160 = .ok (.iload 5, 2) := by decide +kernel
theorem d3_162 : decode prog_1_method_4_code 162 = .ok (.isub, 1) := by decide +kernel
theorem d3_163 : decode prog_1_method_4_code 163 = .ok (.invokestatic 37, 3) := by decide +kernel
theorem d3_166 : decode prog_1_method_4_code 166 = .ok (.aload_n 0, 1) := by decide +kernel
theorem d3_167 : decode prog_1_method_4_code 167 = .ok (.getfield 9, 3) := by decide +kernel
theorem d3_170 : decode prog_1_method_4_code 170 = .ok (.iload 5, 2) := by decide +kernel
theorem d3_172 : decode prog_1_method_4_code 172 = .ok (.lload_n 1, 1) := by decide +kernel
theorem d3_173 : decode prog_1_method_4_code 173 = .ok (.lastore, 1) := by decide +kernel
theorem d3_174 : decode prog_1_method_4_code 174 = .ok (.aload_n 0, 1) := by decide +kernel
theorem d3_175 : decode prog_1_method_4_code 175 = .ok (.getfield 13, 3) := by decide +kernel
theorem d3_178 : decode prog_1_method_4_code 178 = .ok (.iload 5, 2) := by decide +kernel
theorem d3_180 : decode prog_1_method_4_code 180 = .ok (.lload_n 3, 1) := by decide +kernel
theorem d3_181 : decode prog_1_method_4_code 181 = .ok (.lastore, 1) := by decide +kernel
theorem d3_182 : decode prog_1_method_4_code 182 = .ok (.aload_n 0, 1) := by decide +kernel
theorem d3_183 : decode prog_1_method_4_code 183 = .ok (.dup, 1) := by decide +kernel
theorem d3_184 : decode prog_1_method_4_code 184 = .ok (.getfield 24, 3) := by decide +kernel
theorem d3_187 : decode prog_1_method_4_code 187 = .ok (.iconst 1, 1) := by decide +kernel
theorem d3_188 : decode prog_1_method_4_code 188 = .ok (.iadd, 1) := by decide +kernel
theorem d3_189 : decode prog_1_method_4_code 189 = .ok (.putfield 24, 3) := by decide +kernel
theorem d3_192 : decode prog_1_method_4_code 192 = .ok (.aload_n 0, 1) := by decide +kernel
theorem d3_193 : decode prog_1_method_4_code 193 = .ok (.dup, 1) := by decide +kernel
theorem d3_194 : decode prog_1_method_4_code 194 = .ok (.getfield 16, 3) := by decide +kernel
theorem d3_197 : decode prog_1_method_4_code 197 = .ok (.lload_n 3, 1) := by decide +kernel
theorem d3_198 : decode prog_1_method_4_code 198 = .ok (.ladd, 1) := by decide +kernel
theorem d3_199 : decode prog_1_method_4_code 199 = .ok (.putfield 16, 3) := by decide +kernel
theorem d3_202 : decode prog_1_method_4_code 202 = .ok (.return_, 1) := by decide +kernel
theorem own_pn_rm3_0 : plainName "com/example/libbrake/libbrake/AdmissionLog" = true := by first | (simp [plainName, overriddenIn]; done) | decide +kernel
theorem own_ef_rm3_0 (m : MethodId) (r0 : Addr) (q1 : Int64) (q2 : Int64) : entryFrame m #[(.ref r0), (.long q1), (.long q2)] 7 = mkF m 0 #[.val (.ref r0), .val (.long q1), .second, .val (.long q2), .second, .unset, .unset] [] := by first | (simp [entryFrame, mkF, argsToLocals, Value.category]; done) | rfl
set_option maxRecDepth 65536 in
set_option maxHeartbeats 40000000 in
theorem rm3_0 (l : Launch) (Z : State) (a0 : Array Value) (hw : ∀ d ∈ tables_1, d.before a0 Z = true) (ws : List Jvm.Cond) (r0 : Addr) (q1 : Int64) (q2 : Int64) (P : Int64) (h0 : Heap) (n0 : Nat) (Z0 : n0 ≤ h0.size) (H : LL Z h0 n0 r0 2 0 [] P) (g_r0 : n0 ≤ r0) :
    MetFree l (⟨"com/example/libbrake/libbrake/AdmissionLog", "add", "(JJ)V"⟩ : MethodName) (head1 (Jvm.Cond.code (⟨"com/example/libbrake/libbrake/AdmissionLog", "add", "(JJ)V"⟩ : MethodName) prog_1_method_4_code 7 none :: ws) ({ frames := 2, cells := 2, slots := 8, locals := 64 } : Room)) (fun a U => a = #[(.ref r0), (.long q1), (.long q2)] ∧ Z.Warmed39 U.vm ∧ U.heap = h0) (fun _ _ _ _ _ => True) (fun _ U o U' => ∃ v L, o = .returned v ∧ QA Z r0 q1 q2 [] P h0 n0 v U'.heap L ∧ FrameEnd U o U' L ({ frames := 2, cells := 2, slots := 8, locals := 64 } : Room).cells ({ frames := 2, cells := 2, slots := 8, locals := 64 } : Room).slots) := by
  refine MetFree.of_bodySF (plainFor_of_name own_pn_rm3_0) hisR ?_
  intro p e s m args below meth cO s₁ Bd hml0 hP hK
  obtain ⟨rfl, hZ, hh⟩ := hP
  have hx := Bd.exec
  have hby := Bd.bytes
  have hml : cO.maxLocals = 7 := hml0
  have hown : s.vm.findClass "com/example/libbrake/libbrake/AdmissionLog" = some m.cls := findClass_of_methodNamed Bd.named
  have hnm := (name_of_methodNamed Bd.named Bd.method).1
  have hlk : meth.locks = false := BodyLoose.notSynchronized Bd
  have X0 : Stand p l e ({ frames := 2, cells := 2, slots := 8, locals := 64 } : Room) s m #[(.ref r0), (.long q1), (.long q2)] below meth cO s₁ [] 0 0 := Stand.of_body Bd
  have e0 : s₁.heap = h0 := by rw [← hh, Bd.state]; rfl
  have N0 := Fr.nil n0
  obtain ⟨ta, ca, ft, fc, E_r0, F_times, F_counts, F_start, F_end, F_permits, At, Ac, ne_rt, ne_rc, ne_tc, g_ta, g_ca, hN, hxs⟩ := H
  refine own_in (own_ef_rm3_0 m r0 q1 q2) ?_
  show Gm p e below s₁ m 0 #[rv r0, lv q1, .second, lv q2, .second, .unset, .unset] [] _
  refine own_go (fun t₀ k₀ => XS.aloadN X0.here hx rfl (Jvm.hb hby d3_0) rfl rfl k₀) ?_
  show Gm p e below s₁ m 1 #[rv r0, lv q1, .second, lv q2, .second, .unset, .unset] [(.ref r0)] _
  obtain ⟨T1, X1, e1, st1⟩ := getF X0 hx hZ hown (host := "") (Or.inl (hw _ (List.mem_of_getElem? (i := 19) rfl))) Via.refl e0 F_end (g := (mkF m 1 #[rv r0, lv q1, .second, lv q2, .second, .unset, .unset] [(.ref r0)])) rfl rfl (Jvm.hb hby d3_1)
  refine own_go st1 ?_
  show Gm p e below T1 m 4 #[rv r0, lv q1, .second, lv q2, .second, .unset, .unset] [(.int (0 : Int32))] _
  refine own_go (fun t₀ k₀ => XS.istore X1.here hx rfl (Jvm.hb hby d3_4) rfl (l' := #[rv r0, lv q1, .second, lv q2, .second, iv (0 : Int32), .unset]) rfl k₀) ?_
  show Gm p e below T1 m 6 #[rv r0, lv q1, .second, lv q2, .second, iv (0 : Int32), .unset] [] _
  refine own_go (fun t₀ k₀ => XS.iload X1.here hx rfl (Jvm.hb hby d3_6) rfl k₀) ?_
  show Gm p e below T1 m 8 #[rv r0, lv q1, .second, lv q2, .second, iv (0 : Int32), .unset] [(.int (0 : Int32))] _
  refine own_go (fun t₀ k₀ => XS.aloadN X1.here hx rfl (Jvm.hb hby d3_8) rfl rfl k₀) ?_
  show Gm p e below T1 m 9 #[rv r0, lv q1, .second, lv q2, .second, iv (0 : Int32), .unset] [(.ref r0), (.int (0 : Int32))] _
  obtain ⟨T2, X2, e2, st2⟩ := getF X1 hx hZ hown (host := "") (Or.inl (hw _ (List.mem_of_getElem? (i := 21) rfl))) Via.refl e1 F_start (g := (mkF m 9 #[rv r0, lv q1, .second, lv q2, .second, iv (0 : Int32), .unset] [(.ref r0), (.int (0 : Int32))])) rfl rfl (Jvm.hb hby d3_9)
  refine own_go st2 ?_
  show Gm p e below T2 m 12 #[rv r0, lv q1, .second, lv q2, .second, iv (0 : Int32), .unset] [(.int (0 : Int32)), (.int (0 : Int32))] _
  refine own_go (fun t₀ k₀ => XS.icmpYes X2.here hx rfl (pc0 := 12) (pc' := 35) rfl (Jvm.hb hby d3_12) rfl (XT.ii_le_t (by decide)) (by decide) (by decide) k₀) ?_
  show Gm p e below T2 m 35 #[rv r0, lv q1, .second, lv q2, .second, iv (0 : Int32), .unset] [] _
  refine own_go (fun t₀ k₀ => XS.iload X2.here hx rfl (Jvm.hb hby d3_35) rfl k₀) ?_
  show Gm p e below T2 m 37 #[rv r0, lv q1, .second, lv q2, .second, iv (0 : Int32), .unset] [(.int (0 : Int32))] _
  refine own_go (fun t₀ k₀ => XS.aloadN X2.here hx rfl (Jvm.hb hby d3_37) rfl rfl k₀) ?_
  show Gm p e below T2 m 38 #[rv r0, lv q1, .second, lv q2, .second, iv (0 : Int32), .unset] [(.ref r0), (.int (0 : Int32))] _
  obtain ⟨T3, X3, e3, st3⟩ := getF X2 hx hZ hown (host := "") (Or.inl (hw _ (List.mem_of_getElem? (i := 21) rfl))) Via.refl e2 F_start (g := (mkF m 38 #[rv r0, lv q1, .second, lv q2, .second, iv (0 : Int32), .unset] [(.ref r0), (.int (0 : Int32))])) rfl rfl (Jvm.hb hby d3_38)
  refine own_go st3 ?_
  show Gm p e below T3 m 41 #[rv r0, lv q1, .second, lv q2, .second, iv (0 : Int32), .unset] [(.int (0 : Int32)), (.int (0 : Int32))] _
  refine own_go (fun t₀ k₀ => XS.icmpYes X3.here hx rfl (pc0 := 41) (pc' := 74) rfl (Jvm.hb hby d3_41) rfl (XT.ii_le_t (by decide)) (by decide) (by decide) k₀) ?_
  show Gm p e below T3 m 74 #[rv r0, lv q1, .second, lv q2, .second, iv (0 : Int32), .unset] [] _
  refine own_go (fun t₀ k₀ => XS.aloadN X3.here hx rfl (Jvm.hb hby d3_74) rfl rfl k₀) ?_
  show Gm p e below T3 m 75 #[rv r0, lv q1, .second, lv q2, .second, iv (0 : Int32), .unset] [(.ref r0)] _
  obtain ⟨T4, X4, e4, st4⟩ := getF X3 hx hZ hown (host := "") (Or.inl (hw _ (List.mem_of_getElem? (i := 19) rfl))) Via.refl e3 F_end (g := (mkF m 75 #[rv r0, lv q1, .second, lv q2, .second, iv (0 : Int32), .unset] [(.ref r0)])) rfl rfl (Jvm.hb hby d3_75)
  refine own_go st4 ?_
  show Gm p e below T4 m 78 #[rv r0, lv q1, .second, lv q2, .second, iv (0 : Int32), .unset] [(.int (0 : Int32))] _
  refine own_go (fun t₀ k₀ => XS.aloadN X4.here hx rfl (Jvm.hb hby d3_78) rfl rfl k₀) ?_
  show Gm p e below T4 m 79 #[rv r0, lv q1, .second, lv q2, .second, iv (0 : Int32), .unset] [(.ref r0), (.int (0 : Int32))] _
  obtain ⟨T5, X5, e5, st5⟩ := getF X4 hx hZ hown (host := "") (Or.inl (hw _ (List.mem_of_getElem? (i := 10) rfl))) Via.refl e4 F_times (g := (mkF m 79 #[rv r0, lv q1, .second, lv q2, .second, iv (0 : Int32), .unset] [(.ref r0), (.int (0 : Int32))])) rfl rfl (Jvm.hb hby d3_79)
  refine own_go st5 ?_
  show Gm p e below T5 m 82 #[rv r0, lv q1, .second, lv q2, .second, iv (0 : Int32), .unset] [(.ref ta), (.int (0 : Int32))] _
  refine own_go (fun t₀ k₀ => own_len X5 hx hZ e5 At (z := (2 : Int32)) rfl (g := (mkF m 82 #[rv r0, lv q1, .second, lv q2, .second, iv (0 : Int32), .unset] [(.ref ta), (.int (0 : Int32))])) rfl rfl (Jvm.hb hby d3_82) k₀) ?_
  show Gm p e below T5 m 83 #[rv r0, lv q1, .second, lv q2, .second, iv (0 : Int32), .unset] [(.int (2 : Int32)), (.int (0 : Int32))] _
  refine own_go (fun t₀ k₀ => XS.icmpYes X5.here hx rfl (pc0 := 83) (pc' := 118) rfl (Jvm.hb hby d3_83) rfl (XT.ii_ne_t (by decide)) (by decide) (by decide) k₀) ?_
  show Gm p e below T5 m 118 #[rv r0, lv q1, .second, lv q2, .second, iv (0 : Int32), .unset] [] _
  refine own_go (fun t₀ k₀ => XS.aloadN X5.here hx rfl (Jvm.hb hby d3_118) rfl rfl k₀) ?_
  show Gm p e below T5 m 119 #[rv r0, lv q1, .second, lv q2, .second, iv (0 : Int32), .unset] [(.ref r0)] _
  obtain ⟨T6, X6, e6, st6⟩ := getF X5 hx hZ hown (host := "") (Or.inl (hw _ (List.mem_of_getElem? (i := 10) rfl))) Via.refl e5 F_times (g := (mkF m 119 #[rv r0, lv q1, .second, lv q2, .second, iv (0 : Int32), .unset] [(.ref r0)])) rfl rfl (Jvm.hb hby d3_119)
  refine own_go st6 ?_
  show Gm p e below T6 m 122 #[rv r0, lv q1, .second, lv q2, .second, iv (0 : Int32), .unset] [(.ref ta)] _
  refine own_go (fun t₀ k₀ => XS.iload X6.here hx rfl (Jvm.hb hby d3_122) rfl k₀) ?_
  show Gm p e below T6 m 124 #[rv r0, lv q1, .second, lv q2, .second, iv (0 : Int32), .unset] [(.int (0 : Int32)), (.ref ta)] _
  refine own_go (fun t₀ k₀ => XS.aloadN X6.here hx rfl (Jvm.hb hby d3_124) rfl rfl k₀) ?_
  show Gm p e below T6 m 125 #[rv r0, lv q1, .second, lv q2, .second, iv (0 : Int32), .unset] [(.ref r0), (.int (0 : Int32)), (.ref ta)] _
  obtain ⟨T7, X7, e7, st7⟩ := getF X6 hx hZ hown (host := "") (Or.inl (hw _ (List.mem_of_getElem? (i := 10) rfl))) Via.refl e6 F_times (g := (mkF m 125 #[rv r0, lv q1, .second, lv q2, .second, iv (0 : Int32), .unset] [(.ref r0), (.int (0 : Int32)), (.ref ta)])) rfl rfl (Jvm.hb hby d3_125)
  refine own_go st7 ?_
  show Gm p e below T7 m 128 #[rv r0, lv q1, .second, lv q2, .second, iv (0 : Int32), .unset] [(.ref ta), (.int (0 : Int32)), (.ref ta)] _
  refine own_go (fun t₀ k₀ => XS.iload X7.here hx rfl (Jvm.hb hby d3_128) rfl k₀) ?_
  show Gm p e below T7 m 130 #[rv r0, lv q1, .second, lv q2, .second, iv (0 : Int32), .unset] [(.int (0 : Int32)), (.ref ta), (.int (0 : Int32)), (.ref ta)] _
  refine own_go (fun t₀ k₀ => XS.iconst X7.here hx rfl (Jvm.hb hby d3_130) k₀) ?_
  show Gm p e below T7 m 131 #[rv r0, lv q1, .second, lv q2, .second, iv (0 : Int32), .unset] [(.int (1 : Int32)), (.int (0 : Int32)), (.ref ta), (.int (0 : Int32)), (.ref ta)] _
  refine own_go (fun t₀ k₀ => XS.iadd X7.here hx rfl (Jvm.hb hby d3_131) rfl k₀) ?_
  show Gm p e below T7 m 132 #[rv r0, lv q1, .second, lv q2, .second, iv (0 : Int32), .unset] [(.int (1 : Int32)), (.ref ta), (.int (0 : Int32)), (.ref ta)] _
  refine own_go (fun t₀ k₀ => XS.aloadN X7.here hx rfl (Jvm.hb hby d3_132) rfl rfl k₀) ?_
  show Gm p e below T7 m 133 #[rv r0, lv q1, .second, lv q2, .second, iv (0 : Int32), .unset] [(.ref r0), (.int (1 : Int32)), (.ref ta), (.int (0 : Int32)), (.ref ta)] _
  obtain ⟨T8, X8, e8, st8⟩ := getF X7 hx hZ hown (host := "") (Or.inl (hw _ (List.mem_of_getElem? (i := 19) rfl))) Via.refl e7 F_end (g := (mkF m 133 #[rv r0, lv q1, .second, lv q2, .second, iv (0 : Int32), .unset] [(.ref r0), (.int (1 : Int32)), (.ref ta), (.int (0 : Int32)), (.ref ta)])) rfl rfl (Jvm.hb hby d3_133)
  refine own_go st8 ?_
  show Gm p e below T8 m 136 #[rv r0, lv q1, .second, lv q2, .second, iv (0 : Int32), .unset] [(.int (0 : Int32)), (.int (1 : Int32)), (.ref ta), (.int (0 : Int32)), (.ref ta)] _
  refine own_go (fun t₀ k₀ => XS.iload X8.here hx rfl (Jvm.hb hby d3_136) rfl k₀) ?_
  show Gm p e below T8 m 138 #[rv r0, lv q1, .second, lv q2, .second, iv (0 : Int32), .unset] [(.int (0 : Int32)), (.int (0 : Int32)), (.int (1 : Int32)), (.ref ta), (.int (0 : Int32)), (.ref ta)] _
  refine own_go (fun t₀ k₀ => XS.isub X8.here hx rfl (Jvm.hb hby d3_138) rfl k₀) ?_
  show Gm p e below T8 m 139 #[rv r0, lv q1, .second, lv q2, .second, iv (0 : Int32), .unset] [(.int (0 : Int32)), (.int (1 : Int32)), (.ref ta), (.int (0 : Int32)), (.ref ta)] _
  obtain ⟨T9, h9, L9, X9, e9, N9, Kc9, Ac9, st9⟩ := own_cp X8 hx hZ hown (hw _ (List.mem_of_getElem? (i := 23) rfl)) (hw _ (List.mem_of_getElem? (i := 26) rfl)) (hw _ (List.mem_of_getElem? (i := 24) rfl)) (hw _ (List.mem_of_getElem? (i := 25) rfl)) e8 (ks := 0) (kd := 1) (kn := 0) At At rfl (by decide) (by decide) (by decide) rfl rfl rfl (by decide) (by decide) N0 g_ta (g := (mkF m 139 #[rv r0, lv q1, .second, lv q2, .second, iv (0 : Int32), .unset] [(.int (0 : Int32)), (.int (1 : Int32)), (.ref ta), (.int (0 : Int32)), (.ref ta)])) rfl (by rw [hml]; rfl) rfl (Jvm.hb hby d3_139) (by decide) (W := 0) (by show 2 * 0 + _ ≤ _; exact Nat.le_of_eq rfl) (by decide)
  have Z9 : n0 ≤ h9.size := Nat.le_trans Z0 Kc9.1
  have M9 : h0.size ≤ h9.size := Nat.le_trans (Nat.le_refl h0.size) Kc9.1
  refine own_go st9 ?_
  show Gm p e below T9 m 142 #[rv r0, lv q1, .second, lv q2, .second, iv (0 : Int32), .unset] [] _
  refine own_go (fun t₀ k₀ => XS.aloadN X9.here hx rfl (Jvm.hb hby d3_142) rfl rfl k₀) ?_
  show Gm p e below T9 m 143 #[rv r0, lv q1, .second, lv q2, .second, iv (0 : Int32), .unset] [(.ref r0)] _
  have f10 := (F_counts.keep Kc9 (ninS ne_rt nin0))
  obtain ⟨T11, X11, e11, st11⟩ := getF X9 hx hZ hown (host := "") (Or.inl (hw _ (List.mem_of_getElem? (i := 12) rfl))) Via.refl e9 f10 (g := (mkF m 143 #[rv r0, lv q1, .second, lv q2, .second, iv (0 : Int32), .unset] [(.ref r0)])) rfl rfl (Jvm.hb hby d3_143)
  refine own_go st11 ?_
  show Gm p e below T11 m 146 #[rv r0, lv q1, .second, lv q2, .second, iv (0 : Int32), .unset] [(.ref ca)] _
  refine own_go (fun t₀ k₀ => XS.iload X11.here hx rfl (Jvm.hb hby d3_146) rfl k₀) ?_
  show Gm p e below T11 m 148 #[rv r0, lv q1, .second, lv q2, .second, iv (0 : Int32), .unset] [(.int (0 : Int32)), (.ref ca)] _
  refine own_go (fun t₀ k₀ => XS.aloadN X11.here hx rfl (Jvm.hb hby d3_148) rfl rfl k₀) ?_
  show Gm p e below T11 m 149 #[rv r0, lv q1, .second, lv q2, .second, iv (0 : Int32), .unset] [(.ref r0), (.int (0 : Int32)), (.ref ca)] _
  obtain ⟨T12, X12, e12, st12⟩ := getF X11 hx hZ hown (host := "") (Or.inl (hw _ (List.mem_of_getElem? (i := 12) rfl))) Via.refl e11 f10 (g := (mkF m 149 #[rv r0, lv q1, .second, lv q2, .second, iv (0 : Int32), .unset] [(.ref r0), (.int (0 : Int32)), (.ref ca)])) rfl rfl (Jvm.hb hby d3_149)
  refine own_go st12 ?_
  show Gm p e below T12 m 152 #[rv r0, lv q1, .second, lv q2, .second, iv (0 : Int32), .unset] [(.ref ca), (.int (0 : Int32)), (.ref ca)] _
  refine own_go (fun t₀ k₀ => XS.iload X12.here hx rfl (Jvm.hb hby d3_152) rfl k₀) ?_
  show Gm p e below T12 m 154 #[rv r0, lv q1, .second, lv q2, .second, iv (0 : Int32), .unset] [(.int (0 : Int32)), (.ref ca), (.int (0 : Int32)), (.ref ca)] _
  refine own_go (fun t₀ k₀ => XS.iconst X12.here hx rfl (Jvm.hb hby d3_154) k₀) ?_
  show Gm p e below T12 m 155 #[rv r0, lv q1, .second, lv q2, .second, iv (0 : Int32), .unset] [(.int (1 : Int32)), (.int (0 : Int32)), (.ref ca), (.int (0 : Int32)), (.ref ca)] _
  refine own_go (fun t₀ k₀ => XS.iadd X12.here hx rfl (Jvm.hb hby d3_155) rfl k₀) ?_
  show Gm p e below T12 m 156 #[rv r0, lv q1, .second, lv q2, .second, iv (0 : Int32), .unset] [(.int (1 : Int32)), (.ref ca), (.int (0 : Int32)), (.ref ca)] _
  refine own_go (fun t₀ k₀ => XS.aloadN X12.here hx rfl (Jvm.hb hby d3_156) rfl rfl k₀) ?_
  show Gm p e below T12 m 157 #[rv r0, lv q1, .second, lv q2, .second, iv (0 : Int32), .unset] [(.ref r0), (.int (1 : Int32)), (.ref ca), (.int (0 : Int32)), (.ref ca)] _
  have f13 := (F_end.keep Kc9 (ninS ne_rt nin0))
  obtain ⟨T14, X14, e14, st14⟩ := getF X12 hx hZ hown (host := "") (Or.inl (hw _ (List.mem_of_getElem? (i := 19) rfl))) Via.refl e12 f13 (g := (mkF m 157 #[rv r0, lv q1, .second, lv q2, .second, iv (0 : Int32), .unset] [(.ref r0), (.int (1 : Int32)), (.ref ca), (.int (0 : Int32)), (.ref ca)])) rfl rfl (Jvm.hb hby d3_157)
  refine own_go st14 ?_
  show Gm p e below T14 m 160 #[rv r0, lv q1, .second, lv q2, .second, iv (0 : Int32), .unset] [(.int (0 : Int32)), (.int (1 : Int32)), (.ref ca), (.int (0 : Int32)), (.ref ca)] _
  refine own_go (fun t₀ k₀ => XS.iload X14.here hx rfl (Jvm.hb hby d3_160) rfl k₀) ?_
  show Gm p e below T14 m 162 #[rv r0, lv q1, .second, lv q2, .second, iv (0 : Int32), .unset] [(.int (0 : Int32)), (.int (0 : Int32)), (.int (1 : Int32)), (.ref ca), (.int (0 : Int32)), (.ref ca)] _
  refine own_go (fun t₀ k₀ => XS.isub X14.here hx rfl (Jvm.hb hby d3_162) rfl k₀) ?_
  show Gm p e below T14 m 163 #[rv r0, lv q1, .second, lv q2, .second, iv (0 : Int32), .unset] [(.int (0 : Int32)), (.int (1 : Int32)), (.ref ca), (.int (0 : Int32)), (.ref ca)] _
  have f15 := (Ac.keep Kc9 (ninS (Ne.symm ne_tc) nin0))
  obtain ⟨T16, h16, L16, X16, e16, N16, Kc16, Ac16, st16⟩ := own_cp X14 hx hZ hown (hw _ (List.mem_of_getElem? (i := 23) rfl)) (hw _ (List.mem_of_getElem? (i := 26) rfl)) (hw _ (List.mem_of_getElem? (i := 24) rfl)) (hw _ (List.mem_of_getElem? (i := 25) rfl)) e14 (ks := 0) (kd := 1) (kn := 0) f15 f15 rfl (by decide) (by decide) (by decide) rfl rfl rfl (by decide) (by decide) N9 g_ca (g := (mkF m 163 #[rv r0, lv q1, .second, lv q2, .second, iv (0 : Int32), .unset] [(.int (0 : Int32)), (.int (1 : Int32)), (.ref ca), (.int (0 : Int32)), (.ref ca)])) rfl (by rw [hml]; rfl) rfl (Jvm.hb hby d3_163) (by decide) (W := 0) (by show 2 * 0 + _ ≤ _; exact Nat.le_of_eq rfl) (by decide)
  have Z16 : n0 ≤ h16.size := Nat.le_trans Z9 Kc16.1
  have M16 : h0.size ≤ h16.size := Nat.le_trans M9 Kc16.1
  refine own_go st16 ?_
  show Gm p e below T16 m 166 #[rv r0, lv q1, .second, lv q2, .second, iv (0 : Int32), .unset] [] _
  refine own_go (fun t₀ k₀ => XS.aloadN X16.here hx rfl (Jvm.hb hby d3_166) rfl rfl k₀) ?_
  show Gm p e below T16 m 167 #[rv r0, lv q1, .second, lv q2, .second, iv (0 : Int32), .unset] [(.ref r0)] _
  have f17 := ((F_times.keep Kc9 (ninS ne_rt nin0)).keep Kc16 (ninS ne_rc nin0))
  obtain ⟨T18, X18, e18, st18⟩ := getF X16 hx hZ hown (host := "") (Or.inl (hw _ (List.mem_of_getElem? (i := 10) rfl))) Via.refl e16 f17 (g := (mkF m 167 #[rv r0, lv q1, .second, lv q2, .second, iv (0 : Int32), .unset] [(.ref r0)])) rfl rfl (Jvm.hb hby d3_167)
  refine own_go st18 ?_
  show Gm p e below T18 m 170 #[rv r0, lv q1, .second, lv q2, .second, iv (0 : Int32), .unset] [(.ref ta)] _
  refine own_go (fun t₀ k₀ => XS.iload X18.here hx rfl (Jvm.hb hby d3_170) rfl k₀) ?_
  show Gm p e below T18 m 172 #[rv r0, lv q1, .second, lv q2, .second, iv (0 : Int32), .unset] [(.int (0 : Int32)), (.ref ta)] _
  refine own_go (fun t₀ k₀ => XS.lloadN X18.here hx rfl (Jvm.hb hby d3_172) rfl k₀) ?_
  show Gm p e below T18 m 173 #[rv r0, lv q1, .second, lv q2, .second, iv (0 : Int32), .unset] [(.long q1), (.int (0 : Int32)), (.ref ta)] _
  have f19 := (Ac9.keep Kc16 (ninS ne_tc nin0))
  obtain ⟨T20, h20, X20, e20, W20, A20, st20⟩ := own_stJ X18 hx hZ e18 f19 (j := (0 : Int32)) (k := 0) (by decide) rfl (by decide) (g := (mkF m 173 #[rv r0, lv q1, .second, lv q2, .second, iv (0 : Int32), .unset] [(.long q1), (.int (0 : Int32)), (.ref ta)])) rfl rfl (Jvm.hb hby d3_173)
  have N20 := Fr.snoc X20 N16 g_ta
  have Z20 : n0 ≤ h20.size := W20.size ▸ Z16
  have M20 : h0.size ≤ h20.size := W20.size ▸ M16
  refine own_go st20 ?_
  show Gm p e below T20 m 174 #[rv r0, lv q1, .second, lv q2, .second, iv (0 : Int32), .unset] [] _
  refine own_go (fun t₀ k₀ => XS.aloadN X20.here hx rfl (Jvm.hb hby d3_174) rfl rfl k₀) ?_
  show Gm p e below T20 m 175 #[rv r0, lv q1, .second, lv q2, .second, iv (0 : Int32), .unset] [(.ref r0)] _
  have f21 := (Fld.other W20 (f10.keep Kc16 (ninS ne_rc nin0)) (Or.inl ne_rt))
  obtain ⟨T22, X22, e22, st22⟩ := getF X20 hx hZ hown (host := "") (Or.inl (hw _ (List.mem_of_getElem? (i := 12) rfl))) Via.refl e20 f21 (g := (mkF m 175 #[rv r0, lv q1, .second, lv q2, .second, iv (0 : Int32), .unset] [(.ref r0)])) rfl rfl (Jvm.hb hby d3_175)
  refine own_go st22 ?_
  show Gm p e below T22 m 178 #[rv r0, lv q1, .second, lv q2, .second, iv (0 : Int32), .unset] [(.ref ca)] _
  refine own_go (fun t₀ k₀ => XS.iload X22.here hx rfl (Jvm.hb hby d3_178) rfl k₀) ?_
  show Gm p e below T22 m 180 #[rv r0, lv q1, .second, lv q2, .second, iv (0 : Int32), .unset] [(.int (0 : Int32)), (.ref ca)] _
  refine own_go (fun t₀ k₀ => XS.lloadN X22.here hx rfl (Jvm.hb hby d3_180) rfl k₀) ?_
  show Gm p e below T22 m 181 #[rv r0, lv q1, .second, lv q2, .second, iv (0 : Int32), .unset] [(.long q2), (.int (0 : Int32)), (.ref ca)] _
  have f23 := (Ac16.other W20 (Ne.symm ne_tc))
  obtain ⟨T24, h24, X24, e24, W24, A24, st24⟩ := own_stJ X22 hx hZ e22 f23 (j := (0 : Int32)) (k := 0) (by decide) rfl (by decide) (g := (mkF m 181 #[rv r0, lv q1, .second, lv q2, .second, iv (0 : Int32), .unset] [(.long q2), (.int (0 : Int32)), (.ref ca)])) rfl rfl (Jvm.hb hby d3_181)
  have N24 := Fr.snoc X24 N20 g_ca
  have Z24 : n0 ≤ h24.size := W24.size ▸ Z20
  have M24 : h0.size ≤ h24.size := W24.size ▸ M20
  refine own_go st24 ?_
  show Gm p e below T24 m 182 #[rv r0, lv q1, .second, lv q2, .second, iv (0 : Int32), .unset] [] _
  refine own_go (fun t₀ k₀ => XS.aloadN X24.here hx rfl (Jvm.hb hby d3_182) rfl rfl k₀) ?_
  show Gm p e below T24 m 183 #[rv r0, lv q1, .second, lv q2, .second, iv (0 : Int32), .unset] [(.ref r0)] _
  refine own_go (fun t₀ k₀ => XS.dup X24.here hx rfl (Jvm.hb hby d3_183) rfl rfl k₀) ?_
  show Gm p e below T24 m 184 #[rv r0, lv q1, .second, lv q2, .second, iv (0 : Int32), .unset] [(.ref r0), (.ref r0)] _
  have f25 := (Fld.other W24 (Fld.other W20 (f13.keep Kc16 (ninS ne_rc nin0)) (Or.inl ne_rt)) (Or.inl ne_rc))
  obtain ⟨T26, X26, e26, st26⟩ := getF X24 hx hZ hown (host := "") (Or.inl (hw _ (List.mem_of_getElem? (i := 19) rfl))) Via.refl e24 f25 (g := (mkF m 184 #[rv r0, lv q1, .second, lv q2, .second, iv (0 : Int32), .unset] [(.ref r0), (.ref r0)])) rfl rfl (Jvm.hb hby d3_184)
  refine own_go st26 ?_
  show Gm p e below T26 m 187 #[rv r0, lv q1, .second, lv q2, .second, iv (0 : Int32), .unset] [(.int (0 : Int32)), (.ref r0)] _
  refine own_go (fun t₀ k₀ => XS.iconst X26.here hx rfl (Jvm.hb hby d3_187) k₀) ?_
  show Gm p e below T26 m 188 #[rv r0, lv q1, .second, lv q2, .second, iv (0 : Int32), .unset] [(.int (1 : Int32)), (.int (0 : Int32)), (.ref r0)] _
  refine own_go (fun t₀ k₀ => XS.iadd X26.here hx rfl (Jvm.hb hby d3_188) rfl k₀) ?_
  show Gm p e below T26 m 189 #[rv r0, lv q1, .second, lv q2, .second, iv (0 : Int32), .unset] [(.int (1 : Int32)), (.ref r0)] _
  have f27 := ((((E_r0.keep Kc9).keep Kc16).wr W20).wr W24)
  obtain ⟨T28, h28, X28, e28, W28, st28⟩ := putF X26 hx hZ hown (host := "") (Or.inl (hw _ (List.mem_of_getElem? (i := 19) rfl))) Via.refl e26 f25 f27 (Or.inl (hw _ (List.mem_of_getElem? (i := 20) rfl))) (hw _ (List.mem_of_getElem? (i := 1) rfl)) (ty := .int) (by decide) rfl rfl (g := (mkF m 189 #[rv r0, lv q1, .second, lv q2, .second, iv (0 : Int32), .unset] [(.int (1 : Int32)), (.ref r0)])) rfl rfl (Jvm.hb hby d3_189)
  have Fw28 := Fld.same W28 f25
  have N28 := Fr.snoc X28 N24 g_r0
  have Z28 : n0 ≤ h28.size := W28.size ▸ Z24
  have M28 : h0.size ≤ h28.size := W28.size ▸ M24
  refine own_go st28 ?_
  show Gm p e below T28 m 192 #[rv r0, lv q1, .second, lv q2, .second, iv (0 : Int32), .unset] [] _
  refine own_go (fun t₀ k₀ => XS.aloadN X28.here hx rfl (Jvm.hb hby d3_192) rfl rfl k₀) ?_
  show Gm p e below T28 m 193 #[rv r0, lv q1, .second, lv q2, .second, iv (0 : Int32), .unset] [(.ref r0)] _
  refine own_go (fun t₀ k₀ => XS.dup X28.here hx rfl (Jvm.hb hby d3_193) rfl rfl k₀) ?_
  show Gm p e below T28 m 194 #[rv r0, lv q1, .second, lv q2, .second, iv (0 : Int32), .unset] [(.ref r0), (.ref r0)] _
  have f29 := (Fld.other W28 (Fld.other W24 (Fld.other W20 ((F_permits.keep Kc9 (ninS ne_rt nin0)).keep Kc16 (ninS ne_rc nin0)) (Or.inl ne_rt)) (Or.inl ne_rc)) (Or.inr (slot_ne (Or.inl (hw _ (List.mem_of_getElem? (i := 28) rfl))) (Or.inl (hw _ (List.mem_of_getElem? (i := 20) rfl))) (by decide) (t := .long) (t' := .int) (by decide) (by decide))))
  obtain ⟨T30, X30, e30, st30⟩ := getF X28 hx hZ hown (host := "") (Or.inl (hw _ (List.mem_of_getElem? (i := 27) rfl))) Via.refl e28 f29 (g := (mkF m 194 #[rv r0, lv q1, .second, lv q2, .second, iv (0 : Int32), .unset] [(.ref r0), (.ref r0)])) rfl rfl (Jvm.hb hby d3_194)
  refine own_go st30 ?_
  show Gm p e below T30 m 197 #[rv r0, lv q1, .second, lv q2, .second, iv (0 : Int32), .unset] [(.long P), (.ref r0)] _
  refine own_go (fun t₀ k₀ => XS.lloadN X30.here hx rfl (Jvm.hb hby d3_197) rfl k₀) ?_
  show Gm p e below T30 m 198 #[rv r0, lv q1, .second, lv q2, .second, iv (0 : Int32), .unset] [(.long q2), (.long P), (.ref r0)] _
  refine own_go (fun t₀ k₀ => XS.ladd X30.here hx rfl (Jvm.hb hby d3_198) rfl k₀) ?_
  show Gm p e below T30 m 199 #[rv r0, lv q1, .second, lv q2, .second, iv (0 : Int32), .unset] [(.long (P + q2)), (.ref r0)] _
  have f31 := (f27.wr W28)
  obtain ⟨T32, h32, X32, e32, W32, st32⟩ := putF X30 hx hZ hown (host := "") (Or.inl (hw _ (List.mem_of_getElem? (i := 27) rfl))) Via.refl e30 f29 f31 (Or.inl (hw _ (List.mem_of_getElem? (i := 28) rfl))) (hw _ (List.mem_of_getElem? (i := 1) rfl)) (ty := .long) (by decide) rfl rfl (g := (mkF m 199 #[rv r0, lv q1, .second, lv q2, .second, iv (0 : Int32), .unset] [(.long (P + q2)), (.ref r0)])) rfl rfl (Jvm.hb hby d3_199)
  have Fw32 := Fld.same W32 f29
  have N32 := Fr.snoc X32 N28 g_r0
  have Z32 : n0 ≤ h32.size := W32.size ▸ Z28
  have M32 : h0.size ≤ h32.size := W32.size ▸ M28
  refine own_go st32 ?_
  show Gm p e below T32 m 202 #[rv r0, lv q1, .second, lv q2, .second, iv (0 : Int32), .unset] [] _
  have f33 := (((A20.other W24 ne_tc).other W28 (Ne.symm ne_rt)).other W32 (Ne.symm ne_rt))
  have f34 := ((A24.other W28 (Ne.symm ne_rc)).other W32 (Ne.symm ne_rc))
  have f35 := (f31.wr W32)
  have f36 := (Fld.other W32 (Fld.other W28 (Fld.other W24 (Fld.other W20 f17 (Or.inl ne_rt)) (Or.inl ne_rc)) (Or.inr (slot_ne (Or.inl (hw _ (List.mem_of_getElem? (i := 11) rfl))) (Or.inl (hw _ (List.mem_of_getElem? (i := 20) rfl))) (by decide) (t := (.array .long)) (t' := .int) (by decide) (by decide)))) (Or.inr (slot_ne (Or.inl (hw _ (List.mem_of_getElem? (i := 11) rfl))) (Or.inl (hw _ (List.mem_of_getElem? (i := 28) rfl))) (by decide) (t := (.array .long)) (t' := .long) (by decide) (by decide))))
  have f37 := (Fld.other W32 (Fld.other W28 (Fld.other W24 f21 (Or.inl ne_rc)) (Or.inr (slot_ne (Or.inl (hw _ (List.mem_of_getElem? (i := 13) rfl))) (Or.inl (hw _ (List.mem_of_getElem? (i := 20) rfl))) (by decide) (t := (.array .long)) (t' := .int) (by decide) (by decide)))) (Or.inr (slot_ne (Or.inl (hw _ (List.mem_of_getElem? (i := 13) rfl))) (Or.inl (hw _ (List.mem_of_getElem? (i := 28) rfl))) (by decide) (t := (.array .long)) (t' := .long) (by decide) (by decide))))
  have f38 := (Fld.other W32 (Fld.other W28 (Fld.other W24 (Fld.other W20 ((F_start.keep Kc9 (ninS ne_rt nin0)).keep Kc16 (ninS ne_rc nin0)) (Or.inl ne_rt)) (Or.inl ne_rc)) (Or.inr (slot_ne (Or.inl (hw _ (List.mem_of_getElem? (i := 22) rfl))) (Or.inl (hw _ (List.mem_of_getElem? (i := 20) rfl))) (by decide) (t := .int) (t' := .int) (by decide) (by decide)))) (Or.inr (slot_ne (Or.inl (hw _ (List.mem_of_getElem? (i := 22) rfl))) (Or.inl (hw _ (List.mem_of_getElem? (i := 28) rfl))) (by decide) (t := .int) (t' := .long) (by decide) (by decide))))
  have f39 := (Fld.other W32 Fw28 (Or.inr (slot_ne (Or.inl (hw _ (List.mem_of_getElem? (i := 20) rfl))) (Or.inl (hw _ (List.mem_of_getElem? (i := 28) rfl))) (by decide) (t := .int) (t' := .long) (by decide) (by decide))))
  have q40 : LL Z h32 n0 r0 2 0 [(q1, q2)] (P + q2) := ⟨ta, ca, _, _, f35, f36, f37, f38, f39, Fw32, f33, f34, ne_rt, ne_rc, ne_tc, g_ta, g_ca, (Nat.le_of_ble_eq_true rfl), (own_hx1 (s := 0) (ft := (fun i => if i = 0 then (.long q1) else (fun i => if 1 ≤ i ∧ i < 1 + 0 then ft (0 + (i - 1)) else ft i) i)) (fc := (fun i => if i = 0 then (.long q2) else (fun i => if 1 ≤ i ∧ i < 1 + 0 then fc (0 + (i - 1)) else fc i) i)) rfl rfl)⟩
  exact own_retV X32 hx hlk Bd.returns (Jvm.hb hby d3_202) e32 ⟨rfl, N32, M32, 2, q40, fun _ => rfl⟩ (by decide) (by decide)
theorem d3_15 : decode prog_1_method_4_code 15 = .ok (.aload_n 0, 1) := by decide +kernel
theorem d3_16 : decode prog_1_method_4_code 16 = .ok (.getfield 9, 3) := by decide +kernel
theorem d3_19 : decode prog_1_method_4_code 19 = .ok (.iload 5, 2) := by decide +kernel
theorem d3_21 : decode prog_1_method_4_code 21 = .ok (.iconst 1, 1) := by decide +kernel
theorem d3_22 : decode prog_1_method_4_code 22 = .ok (.isub, 1) := by decide +kernel
theorem d3_23 : decode prog_1_method_4_code 23 = .ok (.laload, 1) := by decide +kernel
theorem d3_24 : decode prog_1_method_4_code 24 = .ok (.lload_n 1, 1) := by decide +kernel
theorem d3_25 : decode prog_1_method_4_code 25 = .ok (.lcmp, 1) := by decide +kernel
theorem d3_26 : decode prog_1_method_4_code 26 = .ok (.ifCond .le 9, 3) := by decide +kernel
theorem d3_29 : decode prog_1_method_4_code 29 = .ok (.iinc 5 (-1), 3) := by decide +kernel
theorem d3_32 : decode prog_1_method_4_code 32 = .ok (.goto (-26), 3) := by decide +kernel
theorem d3_44 : decode prog_1_method_4_code 44 = .ok (.aload_n 0, 1) := by decide +kernel
theorem d3_45 : decode prog_1_method_4_code 45 = .ok (.getfield 9, 3) := by decide +kernel
theorem d3_48 : decode prog_1_method_4_code 48 = .ok (.iload 5, 2) := by decide +kernel
theorem d3_50 : decode prog_1_method_4_code 50 = .ok (.iconst 1, 1) := by decide +kernel
theorem d3_51 : decode prog_1_method_4_code 51 = .ok (.isub, 1) := by decide +kernel
theorem d3_52 : decode prog_1_method_4_code 52 = .ok (.laload, 1) := by decide +kernel
theorem d3_53 : decode prog_1_method_4_code 53 = .ok (.lload_n 1, 1) := by decide +kernel
theorem d3_54 : decode prog_1_method_4_code 54 = .ok (.lcmp, 1) := by decide +kernel
theorem d3_55 : decode prog_1_method_4_code 55 = .ok (.ifCond .ne 19, 3) := by decide +kernel
theorem d3_58 : decode prog_1_method_4_code 58 = .ok (.aload_n 0, 1) := by decide +kernel
theorem d3_59 : decode prog_1_method_4_code 59 = .ok (.getfield 13, 3) := by decide +kernel
theorem d3_62 : decode prog_1_method_4_code 62 = .ok (.iload 5, 2) := by decide +kernel
theorem d3_64 : decode prog_1_method_4_code 64 = .ok (.iconst 1, 1) := by decide +kernel
theorem d3_65 : decode prog_1_method_4_code 65 = .ok (.isub, 1) := by decide +kernel
theorem d3_66 : decode prog_1_method_4_code 66 = .ok (.dup2, 1) := by decide +kernel
theorem d3_67 : decode prog_1_method_4_code 67 = .ok (.laload, 1) := by decide +kernel
theorem d3_68 : decode prog_1_method_4_code 68 = .ok (.lload_n 3, 1) := by decide +kernel
theorem d3_69 : decode prog_1_method_4_code 69 = .ok (.ladd, 1) := by decide +kernel
theorem d3_70 : decode prog_1_method_4_code 70 = .ok (.lastore, 1) := by decide +kernel
theorem d3_71 : decode prog_1_method_4_code 71 = .ok (.goto 121, 3) := by decide +kernel
theorem own_pn_rm3_1 : plainName "com/example/libbrake/libbrake/AdmissionLog" = true := by first | (simp [plainName, overriddenIn]; done) | decide +kernel
theorem own_ef_rm3_1 (m : MethodId) (r0 : Addr) (q1 : Int64) (q2 : Int64) : entryFrame m #[(.ref r0), (.long q1), (.long q2)] 7 = mkF m 0 #[.val (.ref r0), .val (.long q1), .second, .val (.long q2), .second, .unset, .unset] [] := by first | (simp [entryFrame, mkF, argsToLocals, Value.category]; done) | rfl
set_option maxRecDepth 65536 in
set_option maxHeartbeats 40000000 in
theorem rm3_1 (l : Launch) (Z : State) (a0 : Array Value) (hw : ∀ d ∈ tables_1, d.before a0 Z = true) (ws : List Jvm.Cond) (r0 : Addr) (q1 : Int64) (q2 : Int64) (a : Int64) (k : Int64) (P : Int64) (h0 : Heap) (n0 : Nat) (Z0 : n0 ≤ h0.size) (H : LL Z h0 n0 r0 2 0 [(a, k)] P) (g_r0 : n0 ≤ r0) :
    MetFree l (⟨"com/example/libbrake/libbrake/AdmissionLog", "add", "(JJ)V"⟩ : MethodName) (head1 (Jvm.Cond.code (⟨"com/example/libbrake/libbrake/AdmissionLog", "add", "(JJ)V"⟩ : MethodName) prog_1_method_4_code 7 none :: ws) ({ frames := 2, cells := 2, slots := 8, locals := 64 } : Room)) (fun a U => a = #[(.ref r0), (.long q1), (.long q2)] ∧ Z.Warmed39 U.vm ∧ U.heap = h0) (fun _ _ _ _ _ => True) (fun _ U o U' => ∃ v L, o = .returned v ∧ QA Z r0 q1 q2 [(a, k)] P h0 n0 v U'.heap L ∧ FrameEnd U o U' L ({ frames := 2, cells := 2, slots := 8, locals := 64 } : Room).cells ({ frames := 2, cells := 2, slots := 8, locals := 64 } : Room).slots) := by
  refine MetFree.of_bodySF (plainFor_of_name own_pn_rm3_1) hisR ?_
  intro p e s m args below meth cO s₁ Bd hml0 hP hK
  obtain ⟨rfl, hZ, hh⟩ := hP
  have hx := Bd.exec
  have hby := Bd.bytes
  have hml : cO.maxLocals = 7 := hml0
  have hown : s.vm.findClass "com/example/libbrake/libbrake/AdmissionLog" = some m.cls := findClass_of_methodNamed Bd.named
  have hnm := (name_of_methodNamed Bd.named Bd.method).1
  have hlk : meth.locks = false := BodyLoose.notSynchronized Bd
  have X0 : Stand p l e ({ frames := 2, cells := 2, slots := 8, locals := 64 } : Room) s m #[(.ref r0), (.long q1), (.long q2)] below meth cO s₁ [] 0 0 := Stand.of_body Bd
  have e0 : s₁.heap = h0 := by rw [← hh, Bd.state]; rfl
  have N0 := Fr.nil n0
  obtain ⟨ta, ca, ft, fc, E_r0, F_times, F_counts, F_start, F_end, F_permits, At, Ac, ne_rt, ne_rc, ne_tc, g_ta, g_ca, hN, hxs⟩ := H
  refine own_in (own_ef_rm3_1 m r0 q1 q2) ?_
  show Gm p e below s₁ m 0 #[rv r0, lv q1, .second, lv q2, .second, .unset, .unset] [] _
  refine own_go (fun t₀ k₀ => XS.aloadN X0.here hx rfl (Jvm.hb hby d3_0) rfl rfl k₀) ?_
  show Gm p e below s₁ m 1 #[rv r0, lv q1, .second, lv q2, .second, .unset, .unset] [(.ref r0)] _
  obtain ⟨T1, X1, e1, st1⟩ := getF X0 hx hZ hown (host := "") (Or.inl (hw _ (List.mem_of_getElem? (i := 19) rfl))) Via.refl e0 F_end (g := (mkF m 1 #[rv r0, lv q1, .second, lv q2, .second, .unset, .unset] [(.ref r0)])) rfl rfl (Jvm.hb hby d3_1)
  refine own_go st1 ?_
  show Gm p e below T1 m 4 #[rv r0, lv q1, .second, lv q2, .second, .unset, .unset] [(.int (1 : Int32))] _
  refine own_go (fun t₀ k₀ => XS.istore X1.here hx rfl (Jvm.hb hby d3_4) rfl (l' := #[rv r0, lv q1, .second, lv q2, .second, iv (1 : Int32), .unset]) rfl k₀) ?_
  show Gm p e below T1 m 6 #[rv r0, lv q1, .second, lv q2, .second, iv (1 : Int32), .unset] [] _
  refine own_go (fun t₀ k₀ => XS.iload X1.here hx rfl (Jvm.hb hby d3_6) rfl k₀) ?_
  show Gm p e below T1 m 8 #[rv r0, lv q1, .second, lv q2, .second, iv (1 : Int32), .unset] [(.int (1 : Int32))] _
  refine own_go (fun t₀ k₀ => XS.aloadN X1.here hx rfl (Jvm.hb hby d3_8) rfl rfl k₀) ?_
  show Gm p e below T1 m 9 #[rv r0, lv q1, .second, lv q2, .second, iv (1 : Int32), .unset] [(.ref r0), (.int (1 : Int32))] _
  obtain ⟨T2, X2, e2, st2⟩ := getF X1 hx hZ hown (host := "") (Or.inl (hw _ (List.mem_of_getElem? (i := 21) rfl))) Via.refl e1 F_start (g := (mkF m 9 #[rv r0, lv q1, .second, lv q2, .second, iv (1 : Int32), .unset] [(.ref r0), (.int (1 : Int32))])) rfl rfl (Jvm.hb hby d3_9)
  refine own_go st2 ?_
  show Gm p e below T2 m 12 #[rv r0, lv q1, .second, lv q2, .second, iv (1 : Int32), .unset] [(.int (0 : Int32)), (.int (1 : Int32))] _
  refine own_go (fun t₀ k₀ => XS.icmpNo X2.here hx rfl (Jvm.hb hby d3_12) rfl (XT.ii_le_f (by decide)) k₀) ?_
  show Gm p e below T2 m 15 #[rv r0, lv q1, .second, lv q2, .second, iv (1 : Int32), .unset] [] _
  refine own_go (fun t₀ k₀ => XS.aloadN X2.here hx rfl (Jvm.hb hby d3_15) rfl rfl k₀) ?_
  show Gm p e below T2 m 16 #[rv r0, lv q1, .second, lv q2, .second, iv (1 : Int32), .unset] [(.ref r0)] _
  obtain ⟨T3, X3, e3, st3⟩ := getF X2 hx hZ hown (host := "") (Or.inl (hw _ (List.mem_of_getElem? (i := 10) rfl))) Via.refl e2 F_times (g := (mkF m 16 #[rv r0, lv q1, .second, lv q2, .second, iv (1 : Int32), .unset] [(.ref r0)])) rfl rfl (Jvm.hb hby d3_16)
  refine own_go st3 ?_
  show Gm p e below T3 m 19 #[rv r0, lv q1, .second, lv q2, .second, iv (1 : Int32), .unset] [(.ref ta)] _
  refine own_go (fun t₀ k₀ => XS.iload X3.here hx rfl (Jvm.hb hby d3_19) rfl k₀) ?_
  show Gm p e below T3 m 21 #[rv r0, lv q1, .second, lv q2, .second, iv (1 : Int32), .unset] [(.int (1 : Int32)), (.ref ta)] _
  refine own_go (fun t₀ k₀ => XS.iconst X3.here hx rfl (Jvm.hb hby d3_21) k₀) ?_
  show Gm p e below T3 m 22 #[rv r0, lv q1, .second, lv q2, .second, iv (1 : Int32), .unset] [(.int (1 : Int32)), (.int (1 : Int32)), (.ref ta)] _
  refine own_go (fun t₀ k₀ => XS.isub X3.here hx rfl (Jvm.hb hby d3_22) rfl k₀) ?_
  show Gm p e below T3 m 23 #[rv r0, lv q1, .second, lv q2, .second, iv (1 : Int32), .unset] [(.int (0 : Int32)), (.ref ta)] _
  refine own_go (fun t₀ k₀ => own_ldJ X3 hx hZ e3 At (j := (0 : Int32)) (k := 0) (by decide) rfl (by decide) (w := (.long a)) (hxs 0 _ _ rfl).1 (g := (mkF m 23 #[rv r0, lv q1, .second, lv q2, .second, iv (1 : Int32), .unset] [(.int (0 : Int32)), (.ref ta)])) rfl rfl (Jvm.hb hby d3_23) k₀) ?_
  show Gm p e below T3 m 24 #[rv r0, lv q1, .second, lv q2, .second, iv (1 : Int32), .unset] [(.long a)] _
  refine own_go (fun t₀ k₀ => XS.lloadN X3.here hx rfl (Jvm.hb hby d3_24) rfl k₀) ?_
  show Gm p e below T3 m 25 #[rv r0, lv q1, .second, lv q2, .second, iv (1 : Int32), .unset] [(.long q1), (.long a)] _
  refine own_go (fun t₀ k₀ => XT.lcmp X3.here hx rfl (Jvm.hb hby d3_25) rfl k₀) ?_
  show Gm p e below T3 m 26 #[rv r0, lv q1, .second, lv q2, .second, iv (1 : Int32), .unset] [(.int (XT.cmpL a q1))] _
  by_cases c4 : q1 < a
  · have hfork := trivial
    refine own_go (fun t₀ k₀ => XS.ifNo X3.here hx rfl (Jvm.hb hby d3_26) rfl (XT.ll_le_f c4) k₀) ?_
    show Gm p e below T3 m 29 #[rv r0, lv q1, .second, lv q2, .second, iv (1 : Int32), .unset] [] _
    refine own_go (fun t₀ k₀ => XS.iinc X3.here hx rfl (Jvm.hb hby d3_29) rfl (l' := #[rv r0, lv q1, .second, lv q2, .second, iv (0 : Int32), .unset]) rfl k₀) ?_
    show Gm p e below T3 m 32 #[rv r0, lv q1, .second, lv q2, .second, iv (0 : Int32), .unset] [] _
    refine own_go (fun t₀ k₀ => XS.goto X3.here hx rfl (pc0 := 32) (pc' := 6) rfl (Jvm.hb hby d3_32) (by decide) (by decide) k₀) ?_
    show Gm p e below T3 m 6 #[rv r0, lv q1, .second, lv q2, .second, iv (0 : Int32), .unset] [] _
    refine own_go (fun t₀ k₀ => XS.iload X3.here hx rfl (Jvm.hb hby d3_6) rfl k₀) ?_
    show Gm p e below T3 m 8 #[rv r0, lv q1, .second, lv q2, .second, iv (0 : Int32), .unset] [(.int (0 : Int32))] _
    refine own_go (fun t₀ k₀ => XS.aloadN X3.here hx rfl (Jvm.hb hby d3_8) rfl rfl k₀) ?_
    show Gm p e below T3 m 9 #[rv r0, lv q1, .second, lv q2, .second, iv (0 : Int32), .unset] [(.ref r0), (.int (0 : Int32))] _
    obtain ⟨T5, X5, e5, st5⟩ := getF X3 hx hZ hown (host := "") (Or.inl (hw _ (List.mem_of_getElem? (i := 21) rfl))) Via.refl e3 F_start (g := (mkF m 9 #[rv r0, lv q1, .second, lv q2, .second, iv (0 : Int32), .unset] [(.ref r0), (.int (0 : Int32))])) rfl rfl (Jvm.hb hby d3_9)
    refine own_go st5 ?_
    show Gm p e below T5 m 12 #[rv r0, lv q1, .second, lv q2, .second, iv (0 : Int32), .unset] [(.int (0 : Int32)), (.int (0 : Int32))] _
    refine own_go (fun t₀ k₀ => XS.icmpYes X5.here hx rfl (pc0 := 12) (pc' := 35) rfl (Jvm.hb hby d3_12) rfl (XT.ii_le_t (by decide)) (by decide) (by decide) k₀) ?_
    show Gm p e below T5 m 35 #[rv r0, lv q1, .second, lv q2, .second, iv (0 : Int32), .unset] [] _
    refine own_go (fun t₀ k₀ => XS.iload X5.here hx rfl (Jvm.hb hby d3_35) rfl k₀) ?_
    show Gm p e below T5 m 37 #[rv r0, lv q1, .second, lv q2, .second, iv (0 : Int32), .unset] [(.int (0 : Int32))] _
    refine own_go (fun t₀ k₀ => XS.aloadN X5.here hx rfl (Jvm.hb hby d3_37) rfl rfl k₀) ?_
    show Gm p e below T5 m 38 #[rv r0, lv q1, .second, lv q2, .second, iv (0 : Int32), .unset] [(.ref r0), (.int (0 : Int32))] _
    obtain ⟨T6, X6, e6, st6⟩ := getF X5 hx hZ hown (host := "") (Or.inl (hw _ (List.mem_of_getElem? (i := 21) rfl))) Via.refl e5 F_start (g := (mkF m 38 #[rv r0, lv q1, .second, lv q2, .second, iv (0 : Int32), .unset] [(.ref r0), (.int (0 : Int32))])) rfl rfl (Jvm.hb hby d3_38)
    refine own_go st6 ?_
    show Gm p e below T6 m 41 #[rv r0, lv q1, .second, lv q2, .second, iv (0 : Int32), .unset] [(.int (0 : Int32)), (.int (0 : Int32))] _
    refine own_go (fun t₀ k₀ => XS.icmpYes X6.here hx rfl (pc0 := 41) (pc' := 74) rfl (Jvm.hb hby d3_41) rfl (XT.ii_le_t (by decide)) (by decide) (by decide) k₀) ?_
    show Gm p e below T6 m 74 #[rv r0, lv q1, .second, lv q2, .second, iv (0 : Int32), .unset] [] _
    refine own_go (fun t₀ k₀ => XS.aloadN X6.here hx rfl (Jvm.hb hby d3_74) rfl rfl k₀) ?_
    show Gm p e below T6 m 75 #[rv r0, lv q1, .second, lv q2, .second, iv (0 : Int32), .unset] [(.ref r0)] _
    obtain ⟨T7, X7, e7, st7⟩ := getF X6 hx hZ hown (host := "") (Or.inl (hw _ (List.mem_of_getElem? (i := 19) rfl))) Via.refl e6 F_end (g := (mkF m 75 #[rv r0, lv q1, .second, lv q2, .second, iv (0 : Int32), .unset] [(.ref r0)])) rfl rfl (Jvm.hb hby d3_75)
    refine own_go st7 ?_
    show Gm p e below T7 m 78 #[rv r0, lv q1, .second, lv q2, .second, iv (0 : Int32), .unset] [(.int (1 : Int32))] _
    refine own_go (fun t₀ k₀ => XS.aloadN X7.here hx rfl (Jvm.hb hby d3_78) rfl rfl k₀) ?_
    show Gm p e below T7 m 79 #[rv r0, lv q1, .second, lv q2, .second, iv (0 : Int32), .unset] [(.ref r0), (.int (1 : Int32))] _
    obtain ⟨T8, X8, e8, st8⟩ := getF X7 hx hZ hown (host := "") (Or.inl (hw _ (List.mem_of_getElem? (i := 10) rfl))) Via.refl e7 F_times (g := (mkF m 79 #[rv r0, lv q1, .second, lv q2, .second, iv (0 : Int32), .unset] [(.ref r0), (.int (1 : Int32))])) rfl rfl (Jvm.hb hby d3_79)
    refine own_go st8 ?_
    show Gm p e below T8 m 82 #[rv r0, lv q1, .second, lv q2, .second, iv (0 : Int32), .unset] [(.ref ta), (.int (1 : Int32))] _
    refine own_go (fun t₀ k₀ => own_len X8 hx hZ e8 At (z := (2 : Int32)) rfl (g := (mkF m 82 #[rv r0, lv q1, .second, lv q2, .second, iv (0 : Int32), .unset] [(.ref ta), (.int (1 : Int32))])) rfl rfl (Jvm.hb hby d3_82) k₀) ?_
    show Gm p e below T8 m 83 #[rv r0, lv q1, .second, lv q2, .second, iv (0 : Int32), .unset] [(.int (2 : Int32)), (.int (1 : Int32))] _
    refine own_go (fun t₀ k₀ => XS.icmpYes X8.here hx rfl (pc0 := 83) (pc' := 118) rfl (Jvm.hb hby d3_83) rfl (XT.ii_ne_t (by decide)) (by decide) (by decide) k₀) ?_
    show Gm p e below T8 m 118 #[rv r0, lv q1, .second, lv q2, .second, iv (0 : Int32), .unset] [] _
    refine own_go (fun t₀ k₀ => XS.aloadN X8.here hx rfl (Jvm.hb hby d3_118) rfl rfl k₀) ?_
    show Gm p e below T8 m 119 #[rv r0, lv q1, .second, lv q2, .second, iv (0 : Int32), .unset] [(.ref r0)] _
    obtain ⟨T9, X9, e9, st9⟩ := getF X8 hx hZ hown (host := "") (Or.inl (hw _ (List.mem_of_getElem? (i := 10) rfl))) Via.refl e8 F_times (g := (mkF m 119 #[rv r0, lv q1, .second, lv q2, .second, iv (0 : Int32), .unset] [(.ref r0)])) rfl rfl (Jvm.hb hby d3_119)
    refine own_go st9 ?_
    show Gm p e below T9 m 122 #[rv r0, lv q1, .second, lv q2, .second, iv (0 : Int32), .unset] [(.ref ta)] _
    refine own_go (fun t₀ k₀ => XS.iload X9.here hx rfl (Jvm.hb hby d3_122) rfl k₀) ?_
    show Gm p e below T9 m 124 #[rv r0, lv q1, .second, lv q2, .second, iv (0 : Int32), .unset] [(.int (0 : Int32)), (.ref ta)] _
    refine own_go (fun t₀ k₀ => XS.aloadN X9.here hx rfl (Jvm.hb hby d3_124) rfl rfl k₀) ?_
    show Gm p e below T9 m 125 #[rv r0, lv q1, .second, lv q2, .second, iv (0 : Int32), .unset] [(.ref r0), (.int (0 : Int32)), (.ref ta)] _
    obtain ⟨T10, X10, e10, st10⟩ := getF X9 hx hZ hown (host := "") (Or.inl (hw _ (List.mem_of_getElem? (i := 10) rfl))) Via.refl e9 F_times (g := (mkF m 125 #[rv r0, lv q1, .second, lv q2, .second, iv (0 : Int32), .unset] [(.ref r0), (.int (0 : Int32)), (.ref ta)])) rfl rfl (Jvm.hb hby d3_125)
    refine own_go st10 ?_
    show Gm p e below T10 m 128 #[rv r0, lv q1, .second, lv q2, .second, iv (0 : Int32), .unset] [(.ref ta), (.int (0 : Int32)), (.ref ta)] _
    refine own_go (fun t₀ k₀ => XS.iload X10.here hx rfl (Jvm.hb hby d3_128) rfl k₀) ?_
    show Gm p e below T10 m 130 #[rv r0, lv q1, .second, lv q2, .second, iv (0 : Int32), .unset] [(.int (0 : Int32)), (.ref ta), (.int (0 : Int32)), (.ref ta)] _
    refine own_go (fun t₀ k₀ => XS.iconst X10.here hx rfl (Jvm.hb hby d3_130) k₀) ?_
    show Gm p e below T10 m 131 #[rv r0, lv q1, .second, lv q2, .second, iv (0 : Int32), .unset] [(.int (1 : Int32)), (.int (0 : Int32)), (.ref ta), (.int (0 : Int32)), (.ref ta)] _
    refine own_go (fun t₀ k₀ => XS.iadd X10.here hx rfl (Jvm.hb hby d3_131) rfl k₀) ?_
    show Gm p e below T10 m 132 #[rv r0, lv q1, .second, lv q2, .second, iv (0 : Int32), .unset] [(.int (1 : Int32)), (.ref ta), (.int (0 : Int32)), (.ref ta)] _
    refine own_go (fun t₀ k₀ => XS.aloadN X10.here hx rfl (Jvm.hb hby d3_132) rfl rfl k₀) ?_
    show Gm p e below T10 m 133 #[rv r0, lv q1, .second, lv q2, .second, iv (0 : Int32), .unset] [(.ref r0), (.int (1 : Int32)), (.ref ta), (.int (0 : Int32)), (.ref ta)] _
    obtain ⟨T11, X11, e11, st11⟩ := getF X10 hx hZ hown (host := "") (Or.inl (hw _ (List.mem_of_getElem? (i := 19) rfl))) Via.refl e10 F_end (g := (mkF m 133 #[rv r0, lv q1, .second, lv q2, .second, iv (0 : Int32), .unset] [(.ref r0), (.int (1 : Int32)), (.ref ta), (.int (0 : Int32)), (.ref ta)])) rfl rfl (Jvm.hb hby d3_133)
    refine own_go st11 ?_
    show Gm p e below T11 m 136 #[rv r0, lv q1, .second, lv q2, .second, iv (0 : Int32), .unset] [(.int (1 : Int32)), (.int (1 : Int32)), (.ref ta), (.int (0 : Int32)), (.ref ta)] _
    refine own_go (fun t₀ k₀ => XS.iload X11.here hx rfl (Jvm.hb hby d3_136) rfl k₀) ?_
    show Gm p e below T11 m 138 #[rv r0, lv q1, .second, lv q2, .second, iv (0 : Int32), .unset] [(.int (0 : Int32)), (.int (1 : Int32)), (.int (1 : Int32)), (.ref ta), (.int (0 : Int32)), (.ref ta)] _
    refine own_go (fun t₀ k₀ => XS.isub X11.here hx rfl (Jvm.hb hby d3_138) rfl k₀) ?_
    show Gm p e below T11 m 139 #[rv r0, lv q1, .second, lv q2, .second, iv (0 : Int32), .unset] [(.int (1 : Int32)), (.int (1 : Int32)), (.ref ta), (.int (0 : Int32)), (.ref ta)] _
    obtain ⟨T12, h12, L12, X12, e12, N12, Kc12, Ac12, st12⟩ := own_cp X11 hx hZ hown (hw _ (List.mem_of_getElem? (i := 23) rfl)) (hw _ (List.mem_of_getElem? (i := 26) rfl)) (hw _ (List.mem_of_getElem? (i := 24) rfl)) (hw _ (List.mem_of_getElem? (i := 25) rfl)) e11 (ks := 0) (kd := 1) (kn := 1) At At rfl (by decide) (by decide) (by decide) rfl rfl rfl (by decide) (by decide) N0 g_ta (g := (mkF m 139 #[rv r0, lv q1, .second, lv q2, .second, iv (0 : Int32), .unset] [(.int (1 : Int32)), (.int (1 : Int32)), (.ref ta), (.int (0 : Int32)), (.ref ta)])) rfl (by rw [hml]; rfl) rfl (Jvm.hb hby d3_139) (by decide) (W := 0) (by show 2 * 0 + _ ≤ _; exact Nat.le_of_eq rfl) (by decide)
    have Z12 : n0 ≤ h12.size := Nat.le_trans Z0 Kc12.1
    have M12 : h0.size ≤ h12.size := Nat.le_trans (Nat.le_refl h0.size) Kc12.1
    refine own_go st12 ?_
    show Gm p e below T12 m 142 #[rv r0, lv q1, .second, lv q2, .second, iv (0 : Int32), .unset] [] _
    refine own_go (fun t₀ k₀ => XS.aloadN X12.here hx rfl (Jvm.hb hby d3_142) rfl rfl k₀) ?_
    show Gm p e below T12 m 143 #[rv r0, lv q1, .second, lv q2, .second, iv (0 : Int32), .unset] [(.ref r0)] _
    have f13 := (F_counts.keep Kc12 (ninS ne_rt nin0))
    obtain ⟨T14, X14, e14, st14⟩ := getF X12 hx hZ hown (host := "") (Or.inl (hw _ (List.mem_of_getElem? (i := 12) rfl))) Via.refl e12 f13 (g := (mkF m 143 #[rv r0, lv q1, .second, lv q2, .second, iv (0 : Int32), .unset] [(.ref r0)])) rfl rfl (Jvm.hb hby d3_143)
    refine own_go st14 ?_
    show Gm p e below T14 m 146 #[rv r0, lv q1, .second, lv q2, .second, iv (0 : Int32), .unset] [(.ref ca)] _
    refine own_go (fun t₀ k₀ => XS.iload X14.here hx rfl (Jvm.hb hby d3_146) rfl k₀) ?_
    show Gm p e below T14 m 148 #[rv r0, lv q1, .second, lv q2, .second, iv (0 : Int32), .unset] [(.int (0 : Int32)), (.ref ca)] _
    refine own_go (fun t₀ k₀ => XS.aloadN X14.here hx rfl (Jvm.hb hby d3_148) rfl rfl k₀) ?_
    show Gm p e below T14 m 149 #[rv r0, lv q1, .second, lv q2, .second, iv (0 : Int32), .unset] [(.ref r0), (.int (0 : Int32)), (.ref ca)] _
    obtain ⟨T15, X15, e15, st15⟩ := getF X14 hx hZ hown (host := "") (Or.inl (hw _ (List.mem_of_getElem? (i := 12) rfl))) Via.refl e14 f13 (g := (mkF m 149 #[rv r0, lv q1, .second, lv q2, .second, iv (0 : Int32), .unset] [(.ref r0), (.int (0 : Int32)), (.ref ca)])) rfl rfl (Jvm.hb hby d3_149)
    refine own_go st15 ?_
    show Gm p e below T15 m 152 #[rv r0, lv q1, .second, lv q2, .second, iv (0 : Int32), .unset] [(.ref ca), (.int (0 : Int32)), (.ref ca)] _
    refine own_go (fun t₀ k₀ => XS.iload X15.here hx rfl (Jvm.hb hby d3_152) rfl k₀) ?_
    show Gm p e below T15 m 154 #[rv r0, lv q1, .second, lv q2, .second, iv (0 : Int32), .unset] [(.int (0 : Int32)), (.ref ca), (.int (0 : Int32)), (.ref ca)] _
    refine own_go (fun t₀ k₀ => XS.iconst X15.here hx rfl (Jvm.hb hby d3_154) k₀) ?_
    show Gm p e below T15 m 155 #[rv r0, lv q1, .second, lv q2, .second, iv (0 : Int32), .unset] [(.int (1 : Int32)), (.int (0 : Int32)), (.ref ca), (.int (0 : Int32)), (.ref ca)] _
    refine own_go (fun t₀ k₀ => XS.iadd X15.here hx rfl (Jvm.hb hby d3_155) rfl k₀) ?_
    show Gm p e below T15 m 156 #[rv r0, lv q1, .second, lv q2, .second, iv (0 : Int32), .unset] [(.int (1 : Int32)), (.ref ca), (.int (0 : Int32)), (.ref ca)] _
    refine own_go (fun t₀ k₀ => XS.aloadN X15.here hx rfl (Jvm.hb hby d3_156) rfl rfl k₀) ?_
    show Gm p e below T15 m 157 #[rv r0, lv q1, .second, lv q2, .second, iv (0 : Int32), .unset] [(.ref r0), (.int (1 : Int32)), (.ref ca), (.int (0 : Int32)), (.ref ca)] _
    have f16 := (F_end.keep Kc12 (ninS ne_rt nin0))
    obtain ⟨T17, X17, e17, st17⟩ := getF X15 hx hZ hown (host := "") (Or.inl (hw _ (List.mem_of_getElem? (i := 19) rfl))) Via.refl e15 f16 (g := (mkF m 157 #[rv r0, lv q1, .second, lv q2, .second, iv (0 : Int32), .unset] [(.ref r0), (.int (1 : Int32)), (.ref ca), (.int (0 : Int32)), (.ref ca)])) rfl rfl (Jvm.hb hby d3_157)
    refine own_go st17 ?_
    show Gm p e below T17 m 160 #[rv r0, lv q1, .second, lv q2, .second, iv (0 : Int32), .unset] [(.int (1 : Int32)), (.int (1 : Int32)), (.ref ca), (.int (0 : Int32)), (.ref ca)] _
    refine own_go (fun t₀ k₀ => XS.iload X17.here hx rfl (Jvm.hb hby d3_160) rfl k₀) ?_
    show Gm p e below T17 m 162 #[rv r0, lv q1, .second, lv q2, .second, iv (0 : Int32), .unset] [(.int (0 : Int32)), (.int (1 : Int32)), (.int (1 : Int32)), (.ref ca), (.int (0 : Int32)), (.ref ca)] _
    refine own_go (fun t₀ k₀ => XS.isub X17.here hx rfl (Jvm.hb hby d3_162) rfl k₀) ?_
    show Gm p e below T17 m 163 #[rv r0, lv q1, .second, lv q2, .second, iv (0 : Int32), .unset] [(.int (1 : Int32)), (.int (1 : Int32)), (.ref ca), (.int (0 : Int32)), (.ref ca)] _
    have f18 := (Ac.keep Kc12 (ninS (Ne.symm ne_tc) nin0))
    obtain ⟨T19, h19, L19, X19, e19, N19, Kc19, Ac19, st19⟩ := own_cp X17 hx hZ hown (hw _ (List.mem_of_getElem? (i := 23) rfl)) (hw _ (List.mem_of_getElem? (i := 26) rfl)) (hw _ (List.mem_of_getElem? (i := 24) rfl)) (hw _ (List.mem_of_getElem? (i := 25) rfl)) e17 (ks := 0) (kd := 1) (kn := 1) f18 f18 rfl (by decide) (by decide) (by decide) rfl rfl rfl (by decide) (by decide) N12 g_ca (g := (mkF m 163 #[rv r0, lv q1, .second, lv q2, .second, iv (0 : Int32), .unset] [(.int (1 : Int32)), (.int (1 : Int32)), (.ref ca), (.int (0 : Int32)), (.ref ca)])) rfl (by rw [hml]; rfl) rfl (Jvm.hb hby d3_163) (by decide) (W := 0) (by show 2 * 0 + _ ≤ _; exact Nat.le_of_eq rfl) (by decide)
    have Z19 : n0 ≤ h19.size := Nat.le_trans Z12 Kc19.1
    have M19 : h0.size ≤ h19.size := Nat.le_trans M12 Kc19.1
    refine own_go st19 ?_
    show Gm p e below T19 m 166 #[rv r0, lv q1, .second, lv q2, .second, iv (0 : Int32), .unset] [] _
    refine own_go (fun t₀ k₀ => XS.aloadN X19.here hx rfl (Jvm.hb hby d3_166) rfl rfl k₀) ?_
    show Gm p e below T19 m 167 #[rv r0, lv q1, .second, lv q2, .second, iv (0 : Int32), .unset] [(.ref r0)] _
    have f20 := ((F_times.keep Kc12 (ninS ne_rt nin0)).keep Kc19 (ninS ne_rc nin0))
    obtain ⟨T21, X21, e21, st21⟩ := getF X19 hx hZ hown (host := "") (Or.inl (hw _ (List.mem_of_getElem? (i := 10) rfl))) Via.refl e19 f20 (g := (mkF m 167 #[rv r0, lv q1, .second, lv q2, .second, iv (0 : Int32), .unset] [(.ref r0)])) rfl rfl (Jvm.hb hby d3_167)
    refine own_go st21 ?_
    show Gm p e below T21 m 170 #[rv r0, lv q1, .second, lv q2, .second, iv (0 : Int32), .unset] [(.ref ta)] _
    refine own_go (fun t₀ k₀ => XS.iload X21.here hx rfl (Jvm.hb hby d3_170) rfl k₀) ?_
    show Gm p e below T21 m 172 #[rv r0, lv q1, .second, lv q2, .second, iv (0 : Int32), .unset] [(.int (0 : Int32)), (.ref ta)] _
    refine own_go (fun t₀ k₀ => XS.lloadN X21.here hx rfl (Jvm.hb hby d3_172) rfl k₀) ?_
    show Gm p e below T21 m 173 #[rv r0, lv q1, .second, lv q2, .second, iv (0 : Int32), .unset] [(.long q1), (.int (0 : Int32)), (.ref ta)] _
    have f22 := (Ac12.keep Kc19 (ninS ne_tc nin0))
    obtain ⟨T23, h23, X23, e23, W23, A23, st23⟩ := own_stJ X21 hx hZ e21 f22 (j := (0 : Int32)) (k := 0) (by decide) rfl (by decide) (g := (mkF m 173 #[rv r0, lv q1, .second, lv q2, .second, iv (0 : Int32), .unset] [(.long q1), (.int (0 : Int32)), (.ref ta)])) rfl rfl (Jvm.hb hby d3_173)
    have N23 := Fr.snoc X23 N19 g_ta
    have Z23 : n0 ≤ h23.size := W23.size ▸ Z19
    have M23 : h0.size ≤ h23.size := W23.size ▸ M19
    refine own_go st23 ?_
    show Gm p e below T23 m 174 #[rv r0, lv q1, .second, lv q2, .second, iv (0 : Int32), .unset] [] _
    refine own_go (fun t₀ k₀ => XS.aloadN X23.here hx rfl (Jvm.hb hby d3_174) rfl rfl k₀) ?_
    show Gm p e below T23 m 175 #[rv r0, lv q1, .second, lv q2, .second, iv (0 : Int32), .unset] [(.ref r0)] _
    have f24 := (Fld.other W23 (f13.keep Kc19 (ninS ne_rc nin0)) (Or.inl ne_rt))
    obtain ⟨T25, X25, e25, st25⟩ := getF X23 hx hZ hown (host := "") (Or.inl (hw _ (List.mem_of_getElem? (i := 12) rfl))) Via.refl e23 f24 (g := (mkF m 175 #[rv r0, lv q1, .second, lv q2, .second, iv (0 : Int32), .unset] [(.ref r0)])) rfl rfl (Jvm.hb hby d3_175)
    refine own_go st25 ?_
    show Gm p e below T25 m 178 #[rv r0, lv q1, .second, lv q2, .second, iv (0 : Int32), .unset] [(.ref ca)] _
    refine own_go (fun t₀ k₀ => XS.iload X25.here hx rfl (Jvm.hb hby d3_178) rfl k₀) ?_
    show Gm p e below T25 m 180 #[rv r0, lv q1, .second, lv q2, .second, iv (0 : Int32), .unset] [(.int (0 : Int32)), (.ref ca)] _
    refine own_go (fun t₀ k₀ => XS.lloadN X25.here hx rfl (Jvm.hb hby d3_180) rfl k₀) ?_
    show Gm p e below T25 m 181 #[rv r0, lv q1, .second, lv q2, .second, iv (0 : Int32), .unset] [(.long q2), (.int (0 : Int32)), (.ref ca)] _
    have f26 := (Ac19.other W23 (Ne.symm ne_tc))
    obtain ⟨T27, h27, X27, e27, W27, A27, st27⟩ := own_stJ X25 hx hZ e25 f26 (j := (0 : Int32)) (k := 0) (by decide) rfl (by decide) (g := (mkF m 181 #[rv r0, lv q1, .second, lv q2, .second, iv (0 : Int32), .unset] [(.long q2), (.int (0 : Int32)), (.ref ca)])) rfl rfl (Jvm.hb hby d3_181)
    have N27 := Fr.snoc X27 N23 g_ca
    have Z27 : n0 ≤ h27.size := W27.size ▸ Z23
    have M27 : h0.size ≤ h27.size := W27.size ▸ M23
    refine own_go st27 ?_
    show Gm p e below T27 m 182 #[rv r0, lv q1, .second, lv q2, .second, iv (0 : Int32), .unset] [] _
    refine own_go (fun t₀ k₀ => XS.aloadN X27.here hx rfl (Jvm.hb hby d3_182) rfl rfl k₀) ?_
    show Gm p e below T27 m 183 #[rv r0, lv q1, .second, lv q2, .second, iv (0 : Int32), .unset] [(.ref r0)] _
    refine own_go (fun t₀ k₀ => XS.dup X27.here hx rfl (Jvm.hb hby d3_183) rfl rfl k₀) ?_
    show Gm p e below T27 m 184 #[rv r0, lv q1, .second, lv q2, .second, iv (0 : Int32), .unset] [(.ref r0), (.ref r0)] _
    have f28 := (Fld.other W27 (Fld.other W23 (f16.keep Kc19 (ninS ne_rc nin0)) (Or.inl ne_rt)) (Or.inl ne_rc))
    obtain ⟨T29, X29, e29, st29⟩ := getF X27 hx hZ hown (host := "") (Or.inl (hw _ (List.mem_of_getElem? (i := 19) rfl))) Via.refl e27 f28 (g := (mkF m 184 #[rv r0, lv q1, .second, lv q2, .second, iv (0 : Int32), .unset] [(.ref r0), (.ref r0)])) rfl rfl (Jvm.hb hby d3_184)
    refine own_go st29 ?_
    show Gm p e below T29 m 187 #[rv r0, lv q1, .second, lv q2, .second, iv (0 : Int32), .unset] [(.int (1 : Int32)), (.ref r0)] _
    refine own_go (fun t₀ k₀ => XS.iconst X29.here hx rfl (Jvm.hb hby d3_187) k₀) ?_
    show Gm p e below T29 m 188 #[rv r0, lv q1, .second, lv q2, .second, iv (0 : Int32), .unset] [(.int (1 : Int32)), (.int (1 : Int32)), (.ref r0)] _
    refine own_go (fun t₀ k₀ => XS.iadd X29.here hx rfl (Jvm.hb hby d3_188) rfl k₀) ?_
    show Gm p e below T29 m 189 #[rv r0, lv q1, .second, lv q2, .second, iv (0 : Int32), .unset] [(.int (2 : Int32)), (.ref r0)] _
    have f30 := ((((E_r0.keep Kc12).keep Kc19).wr W23).wr W27)
    obtain ⟨T31, h31, X31, e31, W31, st31⟩ := putF X29 hx hZ hown (host := "") (Or.inl (hw _ (List.mem_of_getElem? (i := 19) rfl))) Via.refl e29 f28 f30 (Or.inl (hw _ (List.mem_of_getElem? (i := 20) rfl))) (hw _ (List.mem_of_getElem? (i := 1) rfl)) (ty := .int) (by decide) rfl rfl (g := (mkF m 189 #[rv r0, lv q1, .second, lv q2, .second, iv (0 : Int32), .unset] [(.int (2 : Int32)), (.ref r0)])) rfl rfl (Jvm.hb hby d3_189)
    have Fw31 := Fld.same W31 f28
    have N31 := Fr.snoc X31 N27 g_r0
    have Z31 : n0 ≤ h31.size := W31.size ▸ Z27
    have M31 : h0.size ≤ h31.size := W31.size ▸ M27
    refine own_go st31 ?_
    show Gm p e below T31 m 192 #[rv r0, lv q1, .second, lv q2, .second, iv (0 : Int32), .unset] [] _
    refine own_go (fun t₀ k₀ => XS.aloadN X31.here hx rfl (Jvm.hb hby d3_192) rfl rfl k₀) ?_
    show Gm p e below T31 m 193 #[rv r0, lv q1, .second, lv q2, .second, iv (0 : Int32), .unset] [(.ref r0)] _
    refine own_go (fun t₀ k₀ => XS.dup X31.here hx rfl (Jvm.hb hby d3_193) rfl rfl k₀) ?_
    show Gm p e below T31 m 194 #[rv r0, lv q1, .second, lv q2, .second, iv (0 : Int32), .unset] [(.ref r0), (.ref r0)] _
    have f32 := (Fld.other W31 (Fld.other W27 (Fld.other W23 ((F_permits.keep Kc12 (ninS ne_rt nin0)).keep Kc19 (ninS ne_rc nin0)) (Or.inl ne_rt)) (Or.inl ne_rc)) (Or.inr (slot_ne (Or.inl (hw _ (List.mem_of_getElem? (i := 28) rfl))) (Or.inl (hw _ (List.mem_of_getElem? (i := 20) rfl))) (by decide) (t := .long) (t' := .int) (by decide) (by decide))))
    obtain ⟨T33, X33, e33, st33⟩ := getF X31 hx hZ hown (host := "") (Or.inl (hw _ (List.mem_of_getElem? (i := 27) rfl))) Via.refl e31 f32 (g := (mkF m 194 #[rv r0, lv q1, .second, lv q2, .second, iv (0 : Int32), .unset] [(.ref r0), (.ref r0)])) rfl rfl (Jvm.hb hby d3_194)
    refine own_go st33 ?_
    show Gm p e below T33 m 197 #[rv r0, lv q1, .second, lv q2, .second, iv (0 : Int32), .unset] [(.long P), (.ref r0)] _
    refine own_go (fun t₀ k₀ => XS.lloadN X33.here hx rfl (Jvm.hb hby d3_197) rfl k₀) ?_
    show Gm p e below T33 m 198 #[rv r0, lv q1, .second, lv q2, .second, iv (0 : Int32), .unset] [(.long q2), (.long P), (.ref r0)] _
    refine own_go (fun t₀ k₀ => XS.ladd X33.here hx rfl (Jvm.hb hby d3_198) rfl k₀) ?_
    show Gm p e below T33 m 199 #[rv r0, lv q1, .second, lv q2, .second, iv (0 : Int32), .unset] [(.long (P + q2)), (.ref r0)] _
    have f34 := (f30.wr W31)
    obtain ⟨T35, h35, X35, e35, W35, st35⟩ := putF X33 hx hZ hown (host := "") (Or.inl (hw _ (List.mem_of_getElem? (i := 27) rfl))) Via.refl e33 f32 f34 (Or.inl (hw _ (List.mem_of_getElem? (i := 28) rfl))) (hw _ (List.mem_of_getElem? (i := 1) rfl)) (ty := .long) (by decide) rfl rfl (g := (mkF m 199 #[rv r0, lv q1, .second, lv q2, .second, iv (0 : Int32), .unset] [(.long (P + q2)), (.ref r0)])) rfl rfl (Jvm.hb hby d3_199)
    have Fw35 := Fld.same W35 f32
    have N35 := Fr.snoc X35 N31 g_r0
    have Z35 : n0 ≤ h35.size := W35.size ▸ Z31
    have M35 : h0.size ≤ h35.size := W35.size ▸ M31
    refine own_go st35 ?_
    show Gm p e below T35 m 202 #[rv r0, lv q1, .second, lv q2, .second, iv (0 : Int32), .unset] [] _
    have f36 := (((A23.other W27 ne_tc).other W31 (Ne.symm ne_rt)).other W35 (Ne.symm ne_rt))
    have f37 := ((A27.other W31 (Ne.symm ne_rc)).other W35 (Ne.symm ne_rc))
    have f38 := (f34.wr W35)
    have f39 := (Fld.other W35 (Fld.other W31 (Fld.other W27 (Fld.other W23 f20 (Or.inl ne_rt)) (Or.inl ne_rc)) (Or.inr (slot_ne (Or.inl (hw _ (List.mem_of_getElem? (i := 11) rfl))) (Or.inl (hw _ (List.mem_of_getElem? (i := 20) rfl))) (by decide) (t := (.array .long)) (t' := .int) (by decide) (by decide)))) (Or.inr (slot_ne (Or.inl (hw _ (List.mem_of_getElem? (i := 11) rfl))) (Or.inl (hw _ (List.mem_of_getElem? (i := 28) rfl))) (by decide) (t := (.array .long)) (t' := .long) (by decide) (by decide))))
    have f40 := (Fld.other W35 (Fld.other W31 (Fld.other W27 f24 (Or.inl ne_rc)) (Or.inr (slot_ne (Or.inl (hw _ (List.mem_of_getElem? (i := 13) rfl))) (Or.inl (hw _ (List.mem_of_getElem? (i := 20) rfl))) (by decide) (t := (.array .long)) (t' := .int) (by decide) (by decide)))) (Or.inr (slot_ne (Or.inl (hw _ (List.mem_of_getElem? (i := 13) rfl))) (Or.inl (hw _ (List.mem_of_getElem? (i := 28) rfl))) (by decide) (t := (.array .long)) (t' := .long) (by decide) (by decide))))
    have f41 := (Fld.other W35 (Fld.other W31 (Fld.other W27 (Fld.other W23 ((F_start.keep Kc12 (ninS ne_rt nin0)).keep Kc19 (ninS ne_rc nin0)) (Or.inl ne_rt)) (Or.inl ne_rc)) (Or.inr (slot_ne (Or.inl (hw _ (List.mem_of_getElem? (i := 22) rfl))) (Or.inl (hw _ (List.mem_of_getElem? (i := 20) rfl))) (by decide) (t := .int) (t' := .int) (by decide) (by decide)))) (Or.inr (slot_ne (Or.inl (hw _ (List.mem_of_getElem? (i := 22) rfl))) (Or.inl (hw _ (List.mem_of_getElem? (i := 28) rfl))) (by decide) (t := .int) (t' := .long) (by decide) (by decide))))
    have f42 := (Fld.other W35 Fw31 (Or.inr (slot_ne (Or.inl (hw _ (List.mem_of_getElem? (i := 20) rfl))) (Or.inl (hw _ (List.mem_of_getElem? (i := 28) rfl))) (by decide) (t := .int) (t' := .long) (by decide) (by decide))))
    have q43 : LL Z h35 n0 r0 2 0 [(q1, q2), (a, k)] (P + q2) := ⟨ta, ca, _, _, f38, f39, f40, f41, f42, Fw35, f36, f37, ne_rt, ne_rc, ne_tc, g_ta, g_ca, (Nat.le_of_ble_eq_true rfl), (own_hx2 (s := 0) (ft := (fun i => if i = 0 then (.long q1) else (fun i => if 1 ≤ i ∧ i < 1 + 1 then ft (0 + (i - 1)) else ft i) i)) (fc := (fun i => if i = 0 then (.long q2) else (fun i => if 1 ≤ i ∧ i < 1 + 1 then fc (0 + (i - 1)) else fc i) i)) rfl rfl (hxs 0 _ _ rfl).1 (hxs 0 _ _ rfl).2)⟩
    rw [← ins1a c4] at q43
    exact own_retV X35 hx hlk Bd.returns (Jvm.hb hby d3_202) e35 ⟨rfl, N35, M35, 2, q43, fun _ => rfl⟩ (by decide) (by decide)
  · have hfork := trivial
    refine own_go (fun t₀ k₀ => XS.ifYes X3.here hx rfl (pc0 := 26) (pc' := 35) rfl (Jvm.hb hby d3_26) rfl (XT.ll_le_t c4) (by decide) (by decide) k₀) ?_
    show Gm p e below T3 m 35 #[rv r0, lv q1, .second, lv q2, .second, iv (1 : Int32), .unset] [] _
    refine own_go (fun t₀ k₀ => XS.iload X3.here hx rfl (Jvm.hb hby d3_35) rfl k₀) ?_
    show Gm p e below T3 m 37 #[rv r0, lv q1, .second, lv q2, .second, iv (1 : Int32), .unset] [(.int (1 : Int32))] _
    refine own_go (fun t₀ k₀ => XS.aloadN X3.here hx rfl (Jvm.hb hby d3_37) rfl rfl k₀) ?_
    show Gm p e below T3 m 38 #[rv r0, lv q1, .second, lv q2, .second, iv (1 : Int32), .unset] [(.ref r0), (.int (1 : Int32))] _
    obtain ⟨T44, X44, e44, st44⟩ := getF X3 hx hZ hown (host := "") (Or.inl (hw _ (List.mem_of_getElem? (i := 21) rfl))) Via.refl e3 F_start (g := (mkF m 38 #[rv r0, lv q1, .second, lv q2, .second, iv (1 : Int32), .unset] [(.ref r0), (.int (1 : Int32))])) rfl rfl (Jvm.hb hby d3_38)
    refine own_go st44 ?_
    show Gm p e below T44 m 41 #[rv r0, lv q1, .second, lv q2, .second, iv (1 : Int32), .unset] [(.int (0 : Int32)), (.int (1 : Int32))] _
    refine own_go (fun t₀ k₀ => XS.icmpNo X44.here hx rfl (Jvm.hb hby d3_41) rfl (XT.ii_le_f (by decide)) k₀) ?_
    show Gm p e below T44 m 44 #[rv r0, lv q1, .second, lv q2, .second, iv (1 : Int32), .unset] [] _
    refine own_go (fun t₀ k₀ => XS.aloadN X44.here hx rfl (Jvm.hb hby d3_44) rfl rfl k₀) ?_
    show Gm p e below T44 m 45 #[rv r0, lv q1, .second, lv q2, .second, iv (1 : Int32), .unset] [(.ref r0)] _
    obtain ⟨T45, X45, e45, st45⟩ := getF X44 hx hZ hown (host := "") (Or.inl (hw _ (List.mem_of_getElem? (i := 10) rfl))) Via.refl e44 F_times (g := (mkF m 45 #[rv r0, lv q1, .second, lv q2, .second, iv (1 : Int32), .unset] [(.ref r0)])) rfl rfl (Jvm.hb hby d3_45)
    refine own_go st45 ?_
    show Gm p e below T45 m 48 #[rv r0, lv q1, .second, lv q2, .second, iv (1 : Int32), .unset] [(.ref ta)] _
    refine own_go (fun t₀ k₀ => XS.iload X45.here hx rfl (Jvm.hb hby d3_48) rfl k₀) ?_
    show Gm p e below T45 m 50 #[rv r0, lv q1, .second, lv q2, .second, iv (1 : Int32), .unset] [(.int (1 : Int32)), (.ref ta)] _
    refine own_go (fun t₀ k₀ => XS.iconst X45.here hx rfl (Jvm.hb hby d3_50) k₀) ?_
    show Gm p e below T45 m 51 #[rv r0, lv q1, .second, lv q2, .second, iv (1 : Int32), .unset] [(.int (1 : Int32)), (.int (1 : Int32)), (.ref ta)] _
    refine own_go (fun t₀ k₀ => XS.isub X45.here hx rfl (Jvm.hb hby d3_51) rfl k₀) ?_
    show Gm p e below T45 m 52 #[rv r0, lv q1, .second, lv q2, .second, iv (1 : Int32), .unset] [(.int (0 : Int32)), (.ref ta)] _
    refine own_go (fun t₀ k₀ => own_ldJ X45 hx hZ e45 At (j := (0 : Int32)) (k := 0) (by decide) rfl (by decide) (w := (.long a)) (hxs 0 _ _ rfl).1 (g := (mkF m 52 #[rv r0, lv q1, .second, lv q2, .second, iv (1 : Int32), .unset] [(.int (0 : Int32)), (.ref ta)])) rfl rfl (Jvm.hb hby d3_52) k₀) ?_
    show Gm p e below T45 m 53 #[rv r0, lv q1, .second, lv q2, .second, iv (1 : Int32), .unset] [(.long a)] _
    refine own_go (fun t₀ k₀ => XS.lloadN X45.here hx rfl (Jvm.hb hby d3_53) rfl k₀) ?_
    show Gm p e below T45 m 54 #[rv r0, lv q1, .second, lv q2, .second, iv (1 : Int32), .unset] [(.long q1), (.long a)] _
    refine own_go (fun t₀ k₀ => XT.lcmp X45.here hx rfl (Jvm.hb hby d3_54) rfl k₀) ?_
    show Gm p e below T45 m 55 #[rv r0, lv q1, .second, lv q2, .second, iv (1 : Int32), .unset] [(.int (XT.cmpL a q1))] _
    by_cases c46 : a = q1
    · have hfork := trivial
      refine own_go (fun t₀ k₀ => XS.ifNo X45.here hx rfl (Jvm.hb hby d3_55) rfl (XT.ll_ne_f c46) k₀) ?_
      show Gm p e below T45 m 58 #[rv r0, lv q1, .second, lv q2, .second, iv (1 : Int32), .unset] [] _
      refine own_go (fun t₀ k₀ => XS.aloadN X45.here hx rfl (Jvm.hb hby d3_58) rfl rfl k₀) ?_
      show Gm p e below T45 m 59 #[rv r0, lv q1, .second, lv q2, .second, iv (1 : Int32), .unset] [(.ref r0)] _
      obtain ⟨T47, X47, e47, st47⟩ := getF X45 hx hZ hown (host := "") (Or.inl (hw _ (List.mem_of_getElem? (i := 12) rfl))) Via.refl e45 F_counts (g := (mkF m 59 #[rv r0, lv q1, .second, lv q2, .second, iv (1 : Int32), .unset] [(.ref r0)])) rfl rfl (Jvm.hb hby d3_59)
      refine own_go st47 ?_
      show Gm p e below T47 m 62 #[rv r0, lv q1, .second, lv q2, .second, iv (1 : Int32), .unset] [(.ref ca)] _
      refine own_go (fun t₀ k₀ => XS.iload X47.here hx rfl (Jvm.hb hby d3_62) rfl k₀) ?_
      show Gm p e below T47 m 64 #[rv r0, lv q1, .second, lv q2, .second, iv (1 : Int32), .unset] [(.int (1 : Int32)), (.ref ca)] _
      refine own_go (fun t₀ k₀ => XS.iconst X47.here hx rfl (Jvm.hb hby d3_64) k₀) ?_
      show Gm p e below T47 m 65 #[rv r0, lv q1, .second, lv q2, .second, iv (1 : Int32), .unset] [(.int (1 : Int32)), (.int (1 : Int32)), (.ref ca)] _
      refine own_go (fun t₀ k₀ => XS.isub X47.here hx rfl (Jvm.hb hby d3_65) rfl k₀) ?_
      show Gm p e below T47 m 66 #[rv r0, lv q1, .second, lv q2, .second, iv (1 : Int32), .unset] [(.int (0 : Int32)), (.ref ca)] _
      refine own_go (fun t₀ k₀ => XT.dup2 X47.here hx rfl (Jvm.hb hby d3_66) rfl rfl rfl k₀) ?_
      show Gm p e below T47 m 67 #[rv r0, lv q1, .second, lv q2, .second, iv (1 : Int32), .unset] [(.int (0 : Int32)), (.ref ca), (.int (0 : Int32)), (.ref ca)] _
      refine own_go (fun t₀ k₀ => own_ldJ X47 hx hZ e47 Ac (j := (0 : Int32)) (k := 0) (by decide) rfl (by decide) (w := (.long k)) (hxs 0 _ _ rfl).2 (g := (mkF m 67 #[rv r0, lv q1, .second, lv q2, .second, iv (1 : Int32), .unset] [(.int (0 : Int32)), (.ref ca), (.int (0 : Int32)), (.ref ca)])) rfl rfl (Jvm.hb hby d3_67) k₀) ?_
      show Gm p e below T47 m 68 #[rv r0, lv q1, .second, lv q2, .second, iv (1 : Int32), .unset] [(.long k), (.int (0 : Int32)), (.ref ca)] _
      refine own_go (fun t₀ k₀ => XS.lloadN X47.here hx rfl (Jvm.hb hby d3_68) rfl k₀) ?_
      show Gm p e below T47 m 69 #[rv r0, lv q1, .second, lv q2, .second, iv (1 : Int32), .unset] [(.long q2), (.long k), (.int (0 : Int32)), (.ref ca)] _
      refine own_go (fun t₀ k₀ => XS.ladd X47.here hx rfl (Jvm.hb hby d3_69) rfl k₀) ?_
      show Gm p e below T47 m 70 #[rv r0, lv q1, .second, lv q2, .second, iv (1 : Int32), .unset] [(.long (k + q2)), (.int (0 : Int32)), (.ref ca)] _
      obtain ⟨T48, h48, X48, e48, W48, A48, st48⟩ := own_stJ X47 hx hZ e47 Ac (j := (0 : Int32)) (k := 0) (by decide) rfl (by decide) (g := (mkF m 70 #[rv r0, lv q1, .second, lv q2, .second, iv (1 : Int32), .unset] [(.long (k + q2)), (.int (0 : Int32)), (.ref ca)])) rfl rfl (Jvm.hb hby d3_70)
      have N48 := Fr.snoc X48 N0 g_ca
      have Z48 : n0 ≤ h48.size := W48.size ▸ Z0
      have M48 : h0.size ≤ h48.size := W48.size ▸ (Nat.le_refl h0.size)
      refine own_go st48 ?_
      show Gm p e below T48 m 71 #[rv r0, lv q1, .second, lv q2, .second, iv (1 : Int32), .unset] [] _
      refine own_go (fun t₀ k₀ => XS.goto X48.here hx rfl (pc0 := 71) (pc' := 192) rfl (Jvm.hb hby d3_71) (by decide) (by decide) k₀) ?_
      show Gm p e below T48 m 192 #[rv r0, lv q1, .second, lv q2, .second, iv (1 : Int32), .unset] [] _
      refine own_go (fun t₀ k₀ => XS.aloadN X48.here hx rfl (Jvm.hb hby d3_192) rfl rfl k₀) ?_
      show Gm p e below T48 m 193 #[rv r0, lv q1, .second, lv q2, .second, iv (1 : Int32), .unset] [(.ref r0)] _
      refine own_go (fun t₀ k₀ => XS.dup X48.here hx rfl (Jvm.hb hby d3_193) rfl rfl k₀) ?_
      show Gm p e below T48 m 194 #[rv r0, lv q1, .second, lv q2, .second, iv (1 : Int32), .unset] [(.ref r0), (.ref r0)] _
      have f49 := (Fld.other W48 F_permits (Or.inl ne_rc))
      obtain ⟨T50, X50, e50, st50⟩ := getF X48 hx hZ hown (host := "") (Or.inl (hw _ (List.mem_of_getElem? (i := 27) rfl))) Via.refl e48 f49 (g := (mkF m 194 #[rv r0, lv q1, .second, lv q2, .second, iv (1 : Int32), .unset] [(.ref r0), (.ref r0)])) rfl rfl (Jvm.hb hby d3_194)
      refine own_go st50 ?_
      show Gm p e below T50 m 197 #[rv r0, lv q1, .second, lv q2, .second, iv (1 : Int32), .unset] [(.long P), (.ref r0)] _
      refine own_go (fun t₀ k₀ => XS.lloadN X50.here hx rfl (Jvm.hb hby d3_197) rfl k₀) ?_
      show Gm p e below T50 m 198 #[rv r0, lv q1, .second, lv q2, .second, iv (1 : Int32), .unset] [(.long q2), (.long P), (.ref r0)] _
      refine own_go (fun t₀ k₀ => XS.ladd X50.here hx rfl (Jvm.hb hby d3_198) rfl k₀) ?_
      show Gm p e below T50 m 199 #[rv r0, lv q1, .second, lv q2, .second, iv (1 : Int32), .unset] [(.long (P + q2)), (.ref r0)] _
      have f51 := (E_r0.wr W48)
      obtain ⟨T52, h52, X52, e52, W52, st52⟩ := putF X50 hx hZ hown (host := "") (Or.inl (hw _ (List.mem_of_getElem? (i := 27) rfl))) Via.refl e50 f49 f51 (Or.inl (hw _ (List.mem_of_getElem? (i := 28) rfl))) (hw _ (List.mem_of_getElem? (i := 1) rfl)) (ty := .long) (by decide) rfl rfl (g := (mkF m 199 #[rv r0, lv q1, .second, lv q2, .second, iv (1 : Int32), .unset] [(.long (P + q2)), (.ref r0)])) rfl rfl (Jvm.hb hby d3_199)
      have Fw52 := Fld.same W52 f49
      have N52 := Fr.snoc X52 N48 g_r0
      have Z52 : n0 ≤ h52.size := W52.size ▸ Z48
      have M52 : h0.size ≤ h52.size := W52.size ▸ M48
      refine own_go st52 ?_
      show Gm p e below T52 m 202 #[rv r0, lv q1, .second, lv q2, .second, iv (1 : Int32), .unset] [] _
      have f53 := ((At.other W48 ne_tc).other W52 (Ne.symm ne_rt))
      have f54 := (A48.other W52 (Ne.symm ne_rc))
      have f55 := (f51.wr W52)
      have f56 := (Fld.other W52 (Fld.other W48 F_times (Or.inl ne_rc)) (Or.inr (slot_ne (Or.inl (hw _ (List.mem_of_getElem? (i := 11) rfl))) (Or.inl (hw _ (List.mem_of_getElem? (i := 28) rfl))) (by decide) (t := (.array .long)) (t' := .long) (by decide) (by decide))))
      have f57 := (Fld.other W52 (Fld.other W48 F_counts (Or.inl ne_rc)) (Or.inr (slot_ne (Or.inl (hw _ (List.mem_of_getElem? (i := 13) rfl))) (Or.inl (hw _ (List.mem_of_getElem? (i := 28) rfl))) (by decide) (t := (.array .long)) (t' := .long) (by decide) (by decide))))
      have f58 := (Fld.other W52 (Fld.other W48 F_start (Or.inl ne_rc)) (Or.inr (slot_ne (Or.inl (hw _ (List.mem_of_getElem? (i := 22) rfl))) (Or.inl (hw _ (List.mem_of_getElem? (i := 28) rfl))) (by decide) (t := .int) (t' := .long) (by decide) (by decide))))
      have f59 := (Fld.other W52 (Fld.other W48 F_end (Or.inl ne_rc)) (Or.inr (slot_ne (Or.inl (hw _ (List.mem_of_getElem? (i := 20) rfl))) (Or.inl (hw _ (List.mem_of_getElem? (i := 28) rfl))) (by decide) (t := .int) (t' := .long) (by decide) (by decide))))
      have q60 : LL Z h52 n0 r0 2 0 [(a, (k + q2))] (P + q2) := ⟨ta, ca, _, _, f55, f56, f57, f58, f59, Fw52, f53, f54, ne_rt, ne_rc, ne_tc, g_ta, g_ca, (Nat.le_of_ble_eq_true rfl), (own_hx1 (s := 0) (ft := ft) (fc := (fun i => if i = 0 then (.long (k + q2)) else fc i)) (hxs 0 _ _ rfl).1 rfl)⟩
      rw [← ins1b c4 c46] at q60
      exact own_retV X52 hx hlk Bd.returns (Jvm.hb hby d3_202) e52 ⟨rfl, N52, M52, 2, q60, fun _ => rfl⟩ (by decide) (by decide)
    · have hfork := trivial
      refine own_go (fun t₀ k₀ => XS.ifYes X45.here hx rfl (pc0 := 55) (pc' := 74) rfl (Jvm.hb hby d3_55) rfl (XT.ll_ne_t c46) (by decide) (by decide) k₀) ?_
      show Gm p e below T45 m 74 #[rv r0, lv q1, .second, lv q2, .second, iv (1 : Int32), .unset] [] _
      refine own_go (fun t₀ k₀ => XS.aloadN X45.here hx rfl (Jvm.hb hby d3_74) rfl rfl k₀) ?_
      show Gm p e below T45 m 75 #[rv r0, lv q1, .second, lv q2, .second, iv (1 : Int32), .unset] [(.ref r0)] _
      obtain ⟨T61, X61, e61, st61⟩ := getF X45 hx hZ hown (host := "") (Or.inl (hw _ (List.mem_of_getElem? (i := 19) rfl))) Via.refl e45 F_end (g := (mkF m 75 #[rv r0, lv q1, .second, lv q2, .second, iv (1 : Int32), .unset] [(.ref r0)])) rfl rfl (Jvm.hb hby d3_75)
      refine own_go st61 ?_
      show Gm p e below T61 m 78 #[rv r0, lv q1, .second, lv q2, .second, iv (1 : Int32), .unset] [(.int (1 : Int32))] _
      refine own_go (fun t₀ k₀ => XS.aloadN X61.here hx rfl (Jvm.hb hby d3_78) rfl rfl k₀) ?_
      show Gm p e below T61 m 79 #[rv r0, lv q1, .second, lv q2, .second, iv (1 : Int32), .unset] [(.ref r0), (.int (1 : Int32))] _
      obtain ⟨T62, X62, e62, st62⟩ := getF X61 hx hZ hown (host := "") (Or.inl (hw _ (List.mem_of_getElem? (i := 10) rfl))) Via.refl e61 F_times (g := (mkF m 79 #[rv r0, lv q1, .second, lv q2, .second, iv (1 : Int32), .unset] [(.ref r0), (.int (1 : Int32))])) rfl rfl (Jvm.hb hby d3_79)
      refine own_go st62 ?_
      show Gm p e below T62 m 82 #[rv r0, lv q1, .second, lv q2, .second, iv (1 : Int32), .unset] [(.ref ta), (.int (1 : Int32))] _
      refine own_go (fun t₀ k₀ => own_len X62 hx hZ e62 At (z := (2 : Int32)) rfl (g := (mkF m 82 #[rv r0, lv q1, .second, lv q2, .second, iv (1 : Int32), .unset] [(.ref ta), (.int (1 : Int32))])) rfl rfl (Jvm.hb hby d3_82) k₀) ?_
      show Gm p e below T62 m 83 #[rv r0, lv q1, .second, lv q2, .second, iv (1 : Int32), .unset] [(.int (2 : Int32)), (.int (1 : Int32))] _
      refine own_go (fun t₀ k₀ => XS.icmpYes X62.here hx rfl (pc0 := 83) (pc' := 118) rfl (Jvm.hb hby d3_83) rfl (XT.ii_ne_t (by decide)) (by decide) (by decide) k₀) ?_
      show Gm p e below T62 m 118 #[rv r0, lv q1, .second, lv q2, .second, iv (1 : Int32), .unset] [] _
      refine own_go (fun t₀ k₀ => XS.aloadN X62.here hx rfl (Jvm.hb hby d3_118) rfl rfl k₀) ?_
      show Gm p e below T62 m 119 #[rv r0, lv q1, .second, lv q2, .second, iv (1 : Int32), .unset] [(.ref r0)] _
      obtain ⟨T63, X63, e63, st63⟩ := getF X62 hx hZ hown (host := "") (Or.inl (hw _ (List.mem_of_getElem? (i := 10) rfl))) Via.refl e62 F_times (g := (mkF m 119 #[rv r0, lv q1, .second, lv q2, .second, iv (1 : Int32), .unset] [(.ref r0)])) rfl rfl (Jvm.hb hby d3_119)
      refine own_go st63 ?_
      show Gm p e below T63 m 122 #[rv r0, lv q1, .second, lv q2, .second, iv (1 : Int32), .unset] [(.ref ta)] _
      refine own_go (fun t₀ k₀ => XS.iload X63.here hx rfl (Jvm.hb hby d3_122) rfl k₀) ?_
      show Gm p e below T63 m 124 #[rv r0, lv q1, .second, lv q2, .second, iv (1 : Int32), .unset] [(.int (1 : Int32)), (.ref ta)] _
      refine own_go (fun t₀ k₀ => XS.aloadN X63.here hx rfl (Jvm.hb hby d3_124) rfl rfl k₀) ?_
      show Gm p e below T63 m 125 #[rv r0, lv q1, .second, lv q2, .second, iv (1 : Int32), .unset] [(.ref r0), (.int (1 : Int32)), (.ref ta)] _
      obtain ⟨T64, X64, e64, st64⟩ := getF X63 hx hZ hown (host := "") (Or.inl (hw _ (List.mem_of_getElem? (i := 10) rfl))) Via.refl e63 F_times (g := (mkF m 125 #[rv r0, lv q1, .second, lv q2, .second, iv (1 : Int32), .unset] [(.ref r0), (.int (1 : Int32)), (.ref ta)])) rfl rfl (Jvm.hb hby d3_125)
      refine own_go st64 ?_
      show Gm p e below T64 m 128 #[rv r0, lv q1, .second, lv q2, .second, iv (1 : Int32), .unset] [(.ref ta), (.int (1 : Int32)), (.ref ta)] _
      refine own_go (fun t₀ k₀ => XS.iload X64.here hx rfl (Jvm.hb hby d3_128) rfl k₀) ?_
      show Gm p e below T64 m 130 #[rv r0, lv q1, .second, lv q2, .second, iv (1 : Int32), .unset] [(.int (1 : Int32)), (.ref ta), (.int (1 : Int32)), (.ref ta)] _
      refine own_go (fun t₀ k₀ => XS.iconst X64.here hx rfl (Jvm.hb hby d3_130) k₀) ?_
      show Gm p e below T64 m 131 #[rv r0, lv q1, .second, lv q2, .second, iv (1 : Int32), .unset] [(.int (1 : Int32)), (.int (1 : Int32)), (.ref ta), (.int (1 : Int32)), (.ref ta)] _
      refine own_go (fun t₀ k₀ => XS.iadd X64.here hx rfl (Jvm.hb hby d3_131) rfl k₀) ?_
      show Gm p e below T64 m 132 #[rv r0, lv q1, .second, lv q2, .second, iv (1 : Int32), .unset] [(.int (2 : Int32)), (.ref ta), (.int (1 : Int32)), (.ref ta)] _
      refine own_go (fun t₀ k₀ => XS.aloadN X64.here hx rfl (Jvm.hb hby d3_132) rfl rfl k₀) ?_
      show Gm p e below T64 m 133 #[rv r0, lv q1, .second, lv q2, .second, iv (1 : Int32), .unset] [(.ref r0), (.int (2 : Int32)), (.ref ta), (.int (1 : Int32)), (.ref ta)] _
      obtain ⟨T65, X65, e65, st65⟩ := getF X64 hx hZ hown (host := "") (Or.inl (hw _ (List.mem_of_getElem? (i := 19) rfl))) Via.refl e64 F_end (g := (mkF m 133 #[rv r0, lv q1, .second, lv q2, .second, iv (1 : Int32), .unset] [(.ref r0), (.int (2 : Int32)), (.ref ta), (.int (1 : Int32)), (.ref ta)])) rfl rfl (Jvm.hb hby d3_133)
      refine own_go st65 ?_
      show Gm p e below T65 m 136 #[rv r0, lv q1, .second, lv q2, .second, iv (1 : Int32), .unset] [(.int (1 : Int32)), (.int (2 : Int32)), (.ref ta), (.int (1 : Int32)), (.ref ta)] _
      refine own_go (fun t₀ k₀ => XS.iload X65.here hx rfl (Jvm.hb hby d3_136) rfl k₀) ?_
      show Gm p e below T65 m 138 #[rv r0, lv q1, .second, lv q2, .second, iv (1 : Int32), .unset] [(.int (1 : Int32)), (.int (1 : Int32)), (.int (2 : Int32)), (.ref ta), (.int (1 : Int32)), (.ref ta)] _
      refine own_go (fun t₀ k₀ => XS.isub X65.here hx rfl (Jvm.hb hby d3_138) rfl k₀) ?_
      show Gm p e below T65 m 139 #[rv r0, lv q1, .second, lv q2, .second, iv (1 : Int32), .unset] [(.int (0 : Int32)), (.int (2 : Int32)), (.ref ta), (.int (1 : Int32)), (.ref ta)] _
      obtain ⟨T66, h66, L66, X66, e66, N66, Kc66, Ac66, st66⟩ := own_cp X65 hx hZ hown (hw _ (List.mem_of_getElem? (i := 23) rfl)) (hw _ (List.mem_of_getElem? (i := 26) rfl)) (hw _ (List.mem_of_getElem? (i := 24) rfl)) (hw _ (List.mem_of_getElem? (i := 25) rfl)) e65 (ks := 1) (kd := 2) (kn := 0) At At rfl (by decide) (by decide) (by decide) rfl rfl rfl (by decide) (by decide) N0 g_ta (g := (mkF m 139 #[rv r0, lv q1, .second, lv q2, .second, iv (1 : Int32), .unset] [(.int (0 : Int32)), (.int (2 : Int32)), (.ref ta), (.int (1 : Int32)), (.ref ta)])) rfl (by rw [hml]; rfl) rfl (Jvm.hb hby d3_139) (by decide) (W := 0) (by show 2 * 0 + _ ≤ _; exact Nat.le_of_eq rfl) (by decide)
      have Z66 : n0 ≤ h66.size := Nat.le_trans Z0 Kc66.1
      have M66 : h0.size ≤ h66.size := Nat.le_trans (Nat.le_refl h0.size) Kc66.1
      refine own_go st66 ?_
      show Gm p e below T66 m 142 #[rv r0, lv q1, .second, lv q2, .second, iv (1 : Int32), .unset] [] _
      refine own_go (fun t₀ k₀ => XS.aloadN X66.here hx rfl (Jvm.hb hby d3_142) rfl rfl k₀) ?_
      show Gm p e below T66 m 143 #[rv r0, lv q1, .second, lv q2, .second, iv (1 : Int32), .unset] [(.ref r0)] _
      have f67 := (F_counts.keep Kc66 (ninS ne_rt nin0))
      obtain ⟨T68, X68, e68, st68⟩ := getF X66 hx hZ hown (host := "") (Or.inl (hw _ (List.mem_of_getElem? (i := 12) rfl))) Via.refl e66 f67 (g := (mkF m 143 #[rv r0, lv q1, .second, lv q2, .second, iv (1 : Int32), .unset] [(.ref r0)])) rfl rfl (Jvm.hb hby d3_143)
      refine own_go st68 ?_
      show Gm p e below T68 m 146 #[rv r0, lv q1, .second, lv q2, .second, iv (1 : Int32), .unset] [(.ref ca)] _
      refine own_go (fun t₀ k₀ => XS.iload X68.here hx rfl (Jvm.hb hby d3_146) rfl k₀) ?_
      show Gm p e below T68 m 148 #[rv r0, lv q1, .second, lv q2, .second, iv (1 : Int32), .unset] [(.int (1 : Int32)), (.ref ca)] _
      refine own_go (fun t₀ k₀ => XS.aloadN X68.here hx rfl (Jvm.hb hby d3_148) rfl rfl k₀) ?_
      show Gm p e below T68 m 149 #[rv r0, lv q1, .second, lv q2, .second, iv (1 : Int32), .unset] [(.ref r0), (.int (1 : Int32)), (.ref ca)] _
      obtain ⟨T69, X69, e69, st69⟩ := getF X68 hx hZ hown (host := "") (Or.inl (hw _ (List.mem_of_getElem? (i := 12) rfl))) Via.refl e68 f67 (g := (mkF m 149 #[rv r0, lv q1, .second, lv q2, .second, iv (1 : Int32), .unset] [(.ref r0), (.int (1 : Int32)), (.ref ca)])) rfl rfl (Jvm.hb hby d3_149)
      refine own_go st69 ?_
      show Gm p e below T69 m 152 #[rv r0, lv q1, .second, lv q2, .second, iv (1 : Int32), .unset] [(.ref ca), (.int (1 : Int32)), (.ref ca)] _
      refine own_go (fun t₀ k₀ => XS.iload X69.here hx rfl (Jvm.hb hby d3_152) rfl k₀) ?_
      show Gm p e below T69 m 154 #[rv r0, lv q1, .second, lv q2, .second, iv (1 : Int32), .unset] [(.int (1 : Int32)), (.ref ca), (.int (1 : Int32)), (.ref ca)] _
      refine own_go (fun t₀ k₀ => XS.iconst X69.here hx rfl (Jvm.hb hby d3_154) k₀) ?_
      show Gm p e below T69 m 155 #[rv r0, lv q1, .second, lv q2, .second, iv (1 : Int32), .unset] [(.int (1 : Int32)), (.int (1 : Int32)), (.ref ca), (.int (1 : Int32)), (.ref ca)] _
      refine own_go (fun t₀ k₀ => XS.iadd X69.here hx rfl (Jvm.hb hby d3_155) rfl k₀) ?_
      show Gm p e below T69 m 156 #[rv r0, lv q1, .second, lv q2, .second, iv (1 : Int32), .unset] [(.int (2 : Int32)), (.ref ca), (.int (1 : Int32)), (.ref ca)] _
      refine own_go (fun t₀ k₀ => XS.aloadN X69.here hx rfl (Jvm.hb hby d3_156) rfl rfl k₀) ?_
      show Gm p e below T69 m 157 #[rv r0, lv q1, .second, lv q2, .second, iv (1 : Int32), .unset] [(.ref r0), (.int (2 : Int32)), (.ref ca), (.int (1 : Int32)), (.ref ca)] _
      have f70 := (F_end.keep Kc66 (ninS ne_rt nin0))
      obtain ⟨T71, X71, e71, st71⟩ := getF X69 hx hZ hown (host := "") (Or.inl (hw _ (List.mem_of_getElem? (i := 19) rfl))) Via.refl e69 f70 (g := (mkF m 157 #[rv r0, lv q1, .second, lv q2, .second, iv (1 : Int32), .unset] [(.ref r0), (.int (2 : Int32)), (.ref ca), (.int (1 : Int32)), (.ref ca)])) rfl rfl (Jvm.hb hby d3_157)
      refine own_go st71 ?_
      show Gm p e below T71 m 160 #[rv r0, lv q1, .second, lv q2, .second, iv (1 : Int32), .unset] [(.int (1 : Int32)), (.int (2 : Int32)), (.ref ca), (.int (1 : Int32)), (.ref ca)] _
      refine own_go (fun t₀ k₀ => XS.iload X71.here hx rfl (Jvm.hb hby d3_160) rfl k₀) ?_
      show Gm p e below T71 m 162 #[rv r0, lv q1, .second, lv q2, .second, iv (1 : Int32), .unset] [(.int (1 : Int32)), (.int (1 : Int32)), (.int (2 : Int32)), (.ref ca), (.int (1 : Int32)), (.ref ca)] _
      refine own_go (fun t₀ k₀ => XS.isub X71.here hx rfl (Jvm.hb hby d3_162) rfl k₀) ?_
      show Gm p e below T71 m 163 #[rv r0, lv q1, .second, lv q2, .second, iv (1 : Int32), .unset] [(.int (0 : Int32)), (.int (2 : Int32)), (.ref ca), (.int (1 : Int32)), (.ref ca)] _
      have f72 := (Ac.keep Kc66 (ninS (Ne.symm ne_tc) nin0))
      obtain ⟨T73, h73, L73, X73, e73, N73, Kc73, Ac73, st73⟩ := own_cp X71 hx hZ hown (hw _ (List.mem_of_getElem? (i := 23) rfl)) (hw _ (List.mem_of_getElem? (i := 26) rfl)) (hw _ (List.mem_of_getElem? (i := 24) rfl)) (hw _ (List.mem_of_getElem? (i := 25) rfl)) e71 (ks := 1) (kd := 2) (kn := 0) f72 f72 rfl (by decide) (by decide) (by decide) rfl rfl rfl (by decide) (by decide) N66 g_ca (g := (mkF m 163 #[rv r0, lv q1, .second, lv q2, .second, iv (1 : Int32), .unset] [(.int (0 : Int32)), (.int (2 : Int32)), (.ref ca), (.int (1 : Int32)), (.ref ca)])) rfl (by rw [hml]; rfl) rfl (Jvm.hb hby d3_163) (by decide) (W := 0) (by show 2 * 0 + _ ≤ _; exact Nat.le_of_eq rfl) (by decide)
      have Z73 : n0 ≤ h73.size := Nat.le_trans Z66 Kc73.1
      have M73 : h0.size ≤ h73.size := Nat.le_trans M66 Kc73.1
      refine own_go st73 ?_
      show Gm p e below T73 m 166 #[rv r0, lv q1, .second, lv q2, .second, iv (1 : Int32), .unset] [] _
      refine own_go (fun t₀ k₀ => XS.aloadN X73.here hx rfl (Jvm.hb hby d3_166) rfl rfl k₀) ?_
      show Gm p e below T73 m 167 #[rv r0, lv q1, .second, lv q2, .second, iv (1 : Int32), .unset] [(.ref r0)] _
      have f74 := ((F_times.keep Kc66 (ninS ne_rt nin0)).keep Kc73 (ninS ne_rc nin0))
      obtain ⟨T75, X75, e75, st75⟩ := getF X73 hx hZ hown (host := "") (Or.inl (hw _ (List.mem_of_getElem? (i := 10) rfl))) Via.refl e73 f74 (g := (mkF m 167 #[rv r0, lv q1, .second, lv q2, .second, iv (1 : Int32), .unset] [(.ref r0)])) rfl rfl (Jvm.hb hby d3_167)
      refine own_go st75 ?_
      show Gm p e below T75 m 170 #[rv r0, lv q1, .second, lv q2, .second, iv (1 : Int32), .unset] [(.ref ta)] _
      refine own_go (fun t₀ k₀ => XS.iload X75.here hx rfl (Jvm.hb hby d3_170) rfl k₀) ?_
      show Gm p e below T75 m 172 #[rv r0, lv q1, .second, lv q2, .second, iv (1 : Int32), .unset] [(.int (1 : Int32)), (.ref ta)] _
      refine own_go (fun t₀ k₀ => XS.lloadN X75.here hx rfl (Jvm.hb hby d3_172) rfl k₀) ?_
      show Gm p e below T75 m 173 #[rv r0, lv q1, .second, lv q2, .second, iv (1 : Int32), .unset] [(.long q1), (.int (1 : Int32)), (.ref ta)] _
      have f76 := (Ac66.keep Kc73 (ninS ne_tc nin0))
      obtain ⟨T77, h77, X77, e77, W77, A77, st77⟩ := own_stJ X75 hx hZ e75 f76 (j := (1 : Int32)) (k := 1) (by decide) rfl (by decide) (g := (mkF m 173 #[rv r0, lv q1, .second, lv q2, .second, iv (1 : Int32), .unset] [(.long q1), (.int (1 : Int32)), (.ref ta)])) rfl rfl (Jvm.hb hby d3_173)
      have N77 := Fr.snoc X77 N73 g_ta
      have Z77 : n0 ≤ h77.size := W77.size ▸ Z73
      have M77 : h0.size ≤ h77.size := W77.size ▸ M73
      refine own_go st77 ?_
      show Gm p e below T77 m 174 #[rv r0, lv q1, .second, lv q2, .second, iv (1 : Int32), .unset] [] _
      refine own_go (fun t₀ k₀ => XS.aloadN X77.here hx rfl (Jvm.hb hby d3_174) rfl rfl k₀) ?_
      show Gm p e below T77 m 175 #[rv r0, lv q1, .second, lv q2, .second, iv (1 : Int32), .unset] [(.ref r0)] _
      have f78 := (Fld.other W77 (f67.keep Kc73 (ninS ne_rc nin0)) (Or.inl ne_rt))
      obtain ⟨T79, X79, e79, st79⟩ := getF X77 hx hZ hown (host := "") (Or.inl (hw _ (List.mem_of_getElem? (i := 12) rfl))) Via.refl e77 f78 (g := (mkF m 175 #[rv r0, lv q1, .second, lv q2, .second, iv (1 : Int32), .unset] [(.ref r0)])) rfl rfl (Jvm.hb hby d3_175)
      refine own_go st79 ?_
      show Gm p e below T79 m 178 #[rv r0, lv q1, .second, lv q2, .second, iv (1 : Int32), .unset] [(.ref ca)] _
      refine own_go (fun t₀ k₀ => XS.iload X79.here hx rfl (Jvm.hb hby d3_178) rfl k₀) ?_
      show Gm p e below T79 m 180 #[rv r0, lv q1, .second, lv q2, .second, iv (1 : Int32), .unset] [(.int (1 : Int32)), (.ref ca)] _
      refine own_go (fun t₀ k₀ => XS.lloadN X79.here hx rfl (Jvm.hb hby d3_180) rfl k₀) ?_
      show Gm p e below T79 m 181 #[rv r0, lv q1, .second, lv q2, .second, iv (1 : Int32), .unset] [(.long q2), (.int (1 : Int32)), (.ref ca)] _
      have f80 := (Ac73.other W77 (Ne.symm ne_tc))
      obtain ⟨T81, h81, X81, e81, W81, A81, st81⟩ := own_stJ X79 hx hZ e79 f80 (j := (1 : Int32)) (k := 1) (by decide) rfl (by decide) (g := (mkF m 181 #[rv r0, lv q1, .second, lv q2, .second, iv (1 : Int32), .unset] [(.long q2), (.int (1 : Int32)), (.ref ca)])) rfl rfl (Jvm.hb hby d3_181)
      have N81 := Fr.snoc X81 N77 g_ca
      have Z81 : n0 ≤ h81.size := W81.size ▸ Z77
      have M81 : h0.size ≤ h81.size := W81.size ▸ M77
      refine own_go st81 ?_
      show Gm p e below T81 m 182 #[rv r0, lv q1, .second, lv q2, .second, iv (1 : Int32), .unset] [] _
      refine own_go (fun t₀ k₀ => XS.aloadN X81.here hx rfl (Jvm.hb hby d3_182) rfl rfl k₀) ?_
      show Gm p e below T81 m 183 #[rv r0, lv q1, .second, lv q2, .second, iv (1 : Int32), .unset] [(.ref r0)] _
      refine own_go (fun t₀ k₀ => XS.dup X81.here hx rfl (Jvm.hb hby d3_183) rfl rfl k₀) ?_
      show Gm p e below T81 m 184 #[rv r0, lv q1, .second, lv q2, .second, iv (1 : Int32), .unset] [(.ref r0), (.ref r0)] _
      have f82 := (Fld.other W81 (Fld.other W77 (f70.keep Kc73 (ninS ne_rc nin0)) (Or.inl ne_rt)) (Or.inl ne_rc))
      obtain ⟨T83, X83, e83, st83⟩ := getF X81 hx hZ hown (host := "") (Or.inl (hw _ (List.mem_of_getElem? (i := 19) rfl))) Via.refl e81 f82 (g := (mkF m 184 #[rv r0, lv q1, .second, lv q2, .second, iv (1 : Int32), .unset] [(.ref r0), (.ref r0)])) rfl rfl (Jvm.hb hby d3_184)
      refine own_go st83 ?_
      show Gm p e below T83 m 187 #[rv r0, lv q1, .second, lv q2, .second, iv (1 : Int32), .unset] [(.int (1 : Int32)), (.ref r0)] _
      refine own_go (fun t₀ k₀ => XS.iconst X83.here hx rfl (Jvm.hb hby d3_187) k₀) ?_
      show Gm p e below T83 m 188 #[rv r0, lv q1, .second, lv q2, .second, iv (1 : Int32), .unset] [(.int (1 : Int32)), (.int (1 : Int32)), (.ref r0)] _
      refine own_go (fun t₀ k₀ => XS.iadd X83.here hx rfl (Jvm.hb hby d3_188) rfl k₀) ?_
      show Gm p e below T83 m 189 #[rv r0, lv q1, .second, lv q2, .second, iv (1 : Int32), .unset] [(.int (2 : Int32)), (.ref r0)] _
      have f84 := ((((E_r0.keep Kc66).keep Kc73).wr W77).wr W81)
      obtain ⟨T85, h85, X85, e85, W85, st85⟩ := putF X83 hx hZ hown (host := "") (Or.inl (hw _ (List.mem_of_getElem? (i := 19) rfl))) Via.refl e83 f82 f84 (Or.inl (hw _ (List.mem_of_getElem? (i := 20) rfl))) (hw _ (List.mem_of_getElem? (i := 1) rfl)) (ty := .int) (by decide) rfl rfl (g := (mkF m 189 #[rv r0, lv q1, .second, lv q2, .second, iv (1 : Int32), .unset] [(.int (2 : Int32)), (.ref r0)])) rfl rfl (Jvm.hb hby d3_189)
      have Fw85 := Fld.same W85 f82
      have N85 := Fr.snoc X85 N81 g_r0
      have Z85 : n0 ≤ h85.size := W85.size ▸ Z81
      have M85 : h0.size ≤ h85.size := W85.size ▸ M81
      refine own_go st85 ?_
      show Gm p e below T85 m 192 #[rv r0, lv q1, .second, lv q2, .second, iv (1 : Int32), .unset] [] _
      refine own_go (fun t₀ k₀ => XS.aloadN X85.here hx rfl (Jvm.hb hby d3_192) rfl rfl k₀) ?_
      show Gm p e below T85 m 193 #[rv r0, lv q1, .second, lv q2, .second, iv (1 : Int32), .unset] [(.ref r0)] _
      refine own_go (fun t₀ k₀ => XS.dup X85.here hx rfl (Jvm.hb hby d3_193) rfl rfl k₀) ?_
      show Gm p e below T85 m 194 #[rv r0, lv q1, .second, lv q2, .second, iv (1 : Int32), .unset] [(.ref r0), (.ref r0)] _
      have f86 := (Fld.other W85 (Fld.other W81 (Fld.other W77 ((F_permits.keep Kc66 (ninS ne_rt nin0)).keep Kc73 (ninS ne_rc nin0)) (Or.inl ne_rt)) (Or.inl ne_rc)) (Or.inr (slot_ne (Or.inl (hw _ (List.mem_of_getElem? (i := 28) rfl))) (Or.inl (hw _ (List.mem_of_getElem? (i := 20) rfl))) (by decide) (t := .long) (t' := .int) (by decide) (by decide))))
      obtain ⟨T87, X87, e87, st87⟩ := getF X85 hx hZ hown (host := "") (Or.inl (hw _ (List.mem_of_getElem? (i := 27) rfl))) Via.refl e85 f86 (g := (mkF m 194 #[rv r0, lv q1, .second, lv q2, .second, iv (1 : Int32), .unset] [(.ref r0), (.ref r0)])) rfl rfl (Jvm.hb hby d3_194)
      refine own_go st87 ?_
      show Gm p e below T87 m 197 #[rv r0, lv q1, .second, lv q2, .second, iv (1 : Int32), .unset] [(.long P), (.ref r0)] _
      refine own_go (fun t₀ k₀ => XS.lloadN X87.here hx rfl (Jvm.hb hby d3_197) rfl k₀) ?_
      show Gm p e below T87 m 198 #[rv r0, lv q1, .second, lv q2, .second, iv (1 : Int32), .unset] [(.long q2), (.long P), (.ref r0)] _
      refine own_go (fun t₀ k₀ => XS.ladd X87.here hx rfl (Jvm.hb hby d3_198) rfl k₀) ?_
      show Gm p e below T87 m 199 #[rv r0, lv q1, .second, lv q2, .second, iv (1 : Int32), .unset] [(.long (P + q2)), (.ref r0)] _
      have f88 := (f84.wr W85)
      obtain ⟨T89, h89, X89, e89, W89, st89⟩ := putF X87 hx hZ hown (host := "") (Or.inl (hw _ (List.mem_of_getElem? (i := 27) rfl))) Via.refl e87 f86 f88 (Or.inl (hw _ (List.mem_of_getElem? (i := 28) rfl))) (hw _ (List.mem_of_getElem? (i := 1) rfl)) (ty := .long) (by decide) rfl rfl (g := (mkF m 199 #[rv r0, lv q1, .second, lv q2, .second, iv (1 : Int32), .unset] [(.long (P + q2)), (.ref r0)])) rfl rfl (Jvm.hb hby d3_199)
      have Fw89 := Fld.same W89 f86
      have N89 := Fr.snoc X89 N85 g_r0
      have Z89 : n0 ≤ h89.size := W89.size ▸ Z85
      have M89 : h0.size ≤ h89.size := W89.size ▸ M85
      refine own_go st89 ?_
      show Gm p e below T89 m 202 #[rv r0, lv q1, .second, lv q2, .second, iv (1 : Int32), .unset] [] _
      have f90 := (((A77.other W81 ne_tc).other W85 (Ne.symm ne_rt)).other W89 (Ne.symm ne_rt))
      have f91 := ((A81.other W85 (Ne.symm ne_rc)).other W89 (Ne.symm ne_rc))
      have f92 := (f88.wr W89)
      have f93 := (Fld.other W89 (Fld.other W85 (Fld.other W81 (Fld.other W77 f74 (Or.inl ne_rt)) (Or.inl ne_rc)) (Or.inr (slot_ne (Or.inl (hw _ (List.mem_of_getElem? (i := 11) rfl))) (Or.inl (hw _ (List.mem_of_getElem? (i := 20) rfl))) (by decide) (t := (.array .long)) (t' := .int) (by decide) (by decide)))) (Or.inr (slot_ne (Or.inl (hw _ (List.mem_of_getElem? (i := 11) rfl))) (Or.inl (hw _ (List.mem_of_getElem? (i := 28) rfl))) (by decide) (t := (.array .long)) (t' := .long) (by decide) (by decide))))
      have f94 := (Fld.other W89 (Fld.other W85 (Fld.other W81 f78 (Or.inl ne_rc)) (Or.inr (slot_ne (Or.inl (hw _ (List.mem_of_getElem? (i := 13) rfl))) (Or.inl (hw _ (List.mem_of_getElem? (i := 20) rfl))) (by decide) (t := (.array .long)) (t' := .int) (by decide) (by decide)))) (Or.inr (slot_ne (Or.inl (hw _ (List.mem_of_getElem? (i := 13) rfl))) (Or.inl (hw _ (List.mem_of_getElem? (i := 28) rfl))) (by decide) (t := (.array .long)) (t' := .long) (by decide) (by decide))))
      have f95 := (Fld.other W89 (Fld.other W85 (Fld.other W81 (Fld.other W77 ((F_start.keep Kc66 (ninS ne_rt nin0)).keep Kc73 (ninS ne_rc nin0)) (Or.inl ne_rt)) (Or.inl ne_rc)) (Or.inr (slot_ne (Or.inl (hw _ (List.mem_of_getElem? (i := 22) rfl))) (Or.inl (hw _ (List.mem_of_getElem? (i := 20) rfl))) (by decide) (t := .int) (t' := .int) (by decide) (by decide)))) (Or.inr (slot_ne (Or.inl (hw _ (List.mem_of_getElem? (i := 22) rfl))) (Or.inl (hw _ (List.mem_of_getElem? (i := 28) rfl))) (by decide) (t := .int) (t' := .long) (by decide) (by decide))))
      have f96 := (Fld.other W89 Fw85 (Or.inr (slot_ne (Or.inl (hw _ (List.mem_of_getElem? (i := 20) rfl))) (Or.inl (hw _ (List.mem_of_getElem? (i := 28) rfl))) (by decide) (t := .int) (t' := .long) (by decide) (by decide))))
      have q97 : LL Z h89 n0 r0 2 0 [(a, k), (q1, q2)] (P + q2) := ⟨ta, ca, _, _, f92, f93, f94, f95, f96, Fw89, f90, f91, ne_rt, ne_rc, ne_tc, g_ta, g_ca, (Nat.le_of_ble_eq_true rfl), (own_hx2 (s := 0) (ft := (fun i => if i = 1 then (.long q1) else (fun i => if 2 ≤ i ∧ i < 2 + 0 then ft (1 + (i - 2)) else ft i) i)) (fc := (fun i => if i = 1 then (.long q2) else (fun i => if 2 ≤ i ∧ i < 2 + 0 then fc (1 + (i - 2)) else fc i) i)) (hxs 0 _ _ rfl).1 (hxs 0 _ _ rfl).2 rfl rfl)⟩
      rw [← ins1c c4 c46] at q97
      exact own_retV X89 hx hlk Bd.returns (Jvm.hb hby d3_202) e89 ⟨rfl, N89, M89, 2, q97, fun _ => rfl⟩ (by decide) (by decide)
theorem d3_86 : decode prog_1_method_4_code 86 = .ok (.iload 5, 2) := by decide +kernel
theorem d3_88 : decode prog_1_method_4_code 88 = .ok (.aload_n 0, 1) := by decide +kernel
theorem d3_89 : decode prog_1_method_4_code 89 = .ok (.getfield 20, 3) := by decide +kernel
theorem d3_92 : decode prog_1_method_4_code 92 = .ok (.isub, 1) := by decide +kernel
theorem d3_93 : decode prog_1_method_4_code 93 = .ok (.istore 6, 2) := by decide +kernel
theorem d3_95 : decode prog_1_method_4_code 95 = .ok (.aload_n 0, 1) := by decide +kernel
theorem d3_96 : decode prog_1_method_4_code 96 = .ok (.iconst 2, 1) := by decide +kernel
theorem d3_97 : decode prog_1_method_4_code 97 = .ok (.iconst 2, 1) := by decide +kernel
theorem d3_98 : decode prog_1_method_4_code 98 = .ok (.aload_n 0, 1) := by decide +kernel
theorem d3_99 : decode prog_1_method_4_code 99 = .ok (.getfield 24, 3) := by decide +kernel
theorem d3_102 : decode prog_1_method_4_code 102 = .ok (.aload_n 0, 1) := by decide +kernel
theorem d3_103 : decode prog_1_method_4_code 103 = .ok (.getfield 20, 3) := by decide +kernel
theorem d3_106 : decode prog_1_method_4_code 106 = .ok (.isub, 1) := by decide +kernel
theorem d3_107 : decode prog_1_method_4_code 107 = .ok (.imul, 1) := by decide +kernel
theorem d3_108 : decode prog_1_method_4_code 108 = .ok (.invokestatic 27, 3) := by decide +kernel
theorem d3_111 : decode prog_1_method_4_code 111 = .ok (.invokevirtual 33, 3) := by decide +kernel
theorem d3_114 : decode prog_1_method_4_code 114 = .ok (.iload 6, 2) := by decide +kernel
theorem d3_116 : decode prog_1_method_4_code 116 = .ok (.istore 5, 2) := by decide +kernel
theorem own_pd0 : parseMethodDescriptor "(II)I" = some ⟨[.int, .int], some .int⟩ := by decide +kernel
theorem own_pd1 : parseMethodDescriptor "(I)V" = some ⟨[.int], none⟩ := by decide +kernel
theorem own_pn_rm3_2 : plainName "com/example/libbrake/libbrake/AdmissionLog" = true := by first | (simp [plainName, overriddenIn]; done) | decide +kernel
theorem own_ef_rm3_2 (m : MethodId) (r0 : Addr) (q1 : Int64) (q2 : Int64) : entryFrame m #[(.ref r0), (.long q1), (.long q2)] 7 = mkF m 0 #[.val (.ref r0), .val (.long q1), .second, .val (.long q2), .second, .unset, .unset] [] := by first | (simp [entryFrame, mkF, argsToLocals, Value.category]; done) | rfl
set_option maxRecDepth 65536 in
set_option maxHeartbeats 40000000 in
theorem rm3_2 (l : Launch) (Z : State) (a0 : Array Value) (hw : ∀ d ∈ tables_1, d.before a0 Z = true) (ws : List Jvm.Cond) (r0 : Addr) (q1 : Int64) (q2 : Int64) (a : Int64) (k : Int64) (b : Int64) (j : Int64) (P : Int64) (h0 : Heap) (n0 : Nat) (Z0 : n0 ≤ h0.size) (H : LL Z h0 n0 r0 2 0 [(a, k), (b, j)] P) (g_r0 : n0 ≤ r0) (hab : a < b) :
    MetFree l (⟨"com/example/libbrake/libbrake/AdmissionLog", "add", "(JJ)V"⟩ : MethodName) (head1 (Jvm.Cond.code (⟨"com/example/libbrake/libbrake/AdmissionLog", "add", "(JJ)V"⟩ : MethodName) prog_1_method_4_code 7 none :: ws) ({ frames := 2, cells := 2, slots := 8, locals := 64 } : Room)) (fun a U => a = #[(.ref r0), (.long q1), (.long q2)] ∧ Z.Warmed39 U.vm ∧ U.heap = h0) (fun _ _ _ _ _ => True) (fun _ U o U' => ∃ v L, o = .returned v ∧ QA Z r0 q1 q2 [(a, k), (b, j)] P h0 n0 v U'.heap L ∧ FrameEnd U o U' L ({ frames := 2, cells := 2, slots := 8, locals := 64 } : Room).cells ({ frames := 2, cells := 2, slots := 8, locals := 64 } : Room).slots) := by
  refine MetFree.of_bodySF (plainFor_of_name own_pn_rm3_2) hisR ?_
  intro p e s m args below meth cO s₁ Bd hml0 hP hK
  obtain ⟨rfl, hZ, hh⟩ := hP
  have hx := Bd.exec
  have hby := Bd.bytes
  have hml : cO.maxLocals = 7 := hml0
  have hown : s.vm.findClass "com/example/libbrake/libbrake/AdmissionLog" = some m.cls := findClass_of_methodNamed Bd.named
  have hnm := (name_of_methodNamed Bd.named Bd.method).1
  have hlk : meth.locks = false := BodyLoose.notSynchronized Bd
  have X0 : Stand p l e ({ frames := 2, cells := 2, slots := 8, locals := 64 } : Room) s m #[(.ref r0), (.long q1), (.long q2)] below meth cO s₁ [] 0 0 := Stand.of_body Bd
  have e0 : s₁.heap = h0 := by rw [← hh, Bd.state]; rfl
  have N0 := Fr.nil n0
  obtain ⟨ta, ca, ft, fc, E_r0, F_times, F_counts, F_start, F_end, F_permits, At, Ac, ne_rt, ne_rc, ne_tc, g_ta, g_ca, hN, hxs⟩ := H
  refine own_in (own_ef_rm3_2 m r0 q1 q2) ?_
  show Gm p e below s₁ m 0 #[rv r0, lv q1, .second, lv q2, .second, .unset, .unset] [] _
  refine own_go (fun t₀ k₀ => XS.aloadN X0.here hx rfl (Jvm.hb hby d3_0) rfl rfl k₀) ?_
  show Gm p e below s₁ m 1 #[rv r0, lv q1, .second, lv q2, .second, .unset, .unset] [(.ref r0)] _
  obtain ⟨T1, X1, e1, st1⟩ := getF X0 hx hZ hown (host := "") (Or.inl (hw _ (List.mem_of_getElem? (i := 19) rfl))) Via.refl e0 F_end (g := (mkF m 1 #[rv r0, lv q1, .second, lv q2, .second, .unset, .unset] [(.ref r0)])) rfl rfl (Jvm.hb hby d3_1)
  refine own_go st1 ?_
  show Gm p e below T1 m 4 #[rv r0, lv q1, .second, lv q2, .second, .unset, .unset] [(.int (2 : Int32))] _
  refine own_go (fun t₀ k₀ => XS.istore X1.here hx rfl (Jvm.hb hby d3_4) rfl (l' := #[rv r0, lv q1, .second, lv q2, .second, iv (2 : Int32), .unset]) rfl k₀) ?_
  show Gm p e below T1 m 6 #[rv r0, lv q1, .second, lv q2, .second, iv (2 : Int32), .unset] [] _
  refine own_go (fun t₀ k₀ => XS.iload X1.here hx rfl (Jvm.hb hby d3_6) rfl k₀) ?_
  show Gm p e below T1 m 8 #[rv r0, lv q1, .second, lv q2, .second, iv (2 : Int32), .unset] [(.int (2 : Int32))] _
  refine own_go (fun t₀ k₀ => XS.aloadN X1.here hx rfl (Jvm.hb hby d3_8) rfl rfl k₀) ?_
  show Gm p e below T1 m 9 #[rv r0, lv q1, .second, lv q2, .second, iv (2 : Int32), .unset] [(.ref r0), (.int (2 : Int32))] _
  obtain ⟨T2, X2, e2, st2⟩ := getF X1 hx hZ hown (host := "") (Or.inl (hw _ (List.mem_of_getElem? (i := 21) rfl))) Via.refl e1 F_start (g := (mkF m 9 #[rv r0, lv q1, .second, lv q2, .second, iv (2 : Int32), .unset] [(.ref r0), (.int (2 : Int32))])) rfl rfl (Jvm.hb hby d3_9)
  refine own_go st2 ?_
  show Gm p e below T2 m 12 #[rv r0, lv q1, .second, lv q2, .second, iv (2 : Int32), .unset] [(.int (0 : Int32)), (.int (2 : Int32))] _
  refine own_go (fun t₀ k₀ => XS.icmpNo X2.here hx rfl (Jvm.hb hby d3_12) rfl (XT.ii_le_f (by decide)) k₀) ?_
  show Gm p e below T2 m 15 #[rv r0, lv q1, .second, lv q2, .second, iv (2 : Int32), .unset] [] _
  refine own_go (fun t₀ k₀ => XS.aloadN X2.here hx rfl (Jvm.hb hby d3_15) rfl rfl k₀) ?_
  show Gm p e below T2 m 16 #[rv r0, lv q1, .second, lv q2, .second, iv (2 : Int32), .unset] [(.ref r0)] _
  obtain ⟨T3, X3, e3, st3⟩ := getF X2 hx hZ hown (host := "") (Or.inl (hw _ (List.mem_of_getElem? (i := 10) rfl))) Via.refl e2 F_times (g := (mkF m 16 #[rv r0, lv q1, .second, lv q2, .second, iv (2 : Int32), .unset] [(.ref r0)])) rfl rfl (Jvm.hb hby d3_16)
  refine own_go st3 ?_
  show Gm p e below T3 m 19 #[rv r0, lv q1, .second, lv q2, .second, iv (2 : Int32), .unset] [(.ref ta)] _
  refine own_go (fun t₀ k₀ => XS.iload X3.here hx rfl (Jvm.hb hby d3_19) rfl k₀) ?_
  show Gm p e below T3 m 21 #[rv r0, lv q1, .second, lv q2, .second, iv (2 : Int32), .unset] [(.int (2 : Int32)), (.ref ta)] _
  refine own_go (fun t₀ k₀ => XS.iconst X3.here hx rfl (Jvm.hb hby d3_21) k₀) ?_
  show Gm p e below T3 m 22 #[rv r0, lv q1, .second, lv q2, .second, iv (2 : Int32), .unset] [(.int (1 : Int32)), (.int (2 : Int32)), (.ref ta)] _
  refine own_go (fun t₀ k₀ => XS.isub X3.here hx rfl (Jvm.hb hby d3_22) rfl k₀) ?_
  show Gm p e below T3 m 23 #[rv r0, lv q1, .second, lv q2, .second, iv (2 : Int32), .unset] [(.int (1 : Int32)), (.ref ta)] _
  refine own_go (fun t₀ k₀ => own_ldJ X3 hx hZ e3 At (j := (1 : Int32)) (k := 1) (by decide) rfl (by decide) (w := (.long b)) (hxs 1 _ _ rfl).1 (g := (mkF m 23 #[rv r0, lv q1, .second, lv q2, .second, iv (2 : Int32), .unset] [(.int (1 : Int32)), (.ref ta)])) rfl rfl (Jvm.hb hby d3_23) k₀) ?_
  show Gm p e below T3 m 24 #[rv r0, lv q1, .second, lv q2, .second, iv (2 : Int32), .unset] [(.long b)] _
  refine own_go (fun t₀ k₀ => XS.lloadN X3.here hx rfl (Jvm.hb hby d3_24) rfl k₀) ?_
  show Gm p e below T3 m 25 #[rv r0, lv q1, .second, lv q2, .second, iv (2 : Int32), .unset] [(.long q1), (.long b)] _
  refine own_go (fun t₀ k₀ => XT.lcmp X3.here hx rfl (Jvm.hb hby d3_25) rfl k₀) ?_
  show Gm p e below T3 m 26 #[rv r0, lv q1, .second, lv q2, .second, iv (2 : Int32), .unset] [(.int (XT.cmpL b q1))] _
  by_cases c4 : q1 < b
  · have hfork := trivial
    refine own_go (fun t₀ k₀ => XS.ifNo X3.here hx rfl (Jvm.hb hby d3_26) rfl (XT.ll_le_f c4) k₀) ?_
    show Gm p e below T3 m 29 #[rv r0, lv q1, .second, lv q2, .second, iv (2 : Int32), .unset] [] _
    refine own_go (fun t₀ k₀ => XS.iinc X3.here hx rfl (Jvm.hb hby d3_29) rfl (l' := #[rv r0, lv q1, .second, lv q2, .second, iv (1 : Int32), .unset]) rfl k₀) ?_
    show Gm p e below T3 m 32 #[rv r0, lv q1, .second, lv q2, .second, iv (1 : Int32), .unset] [] _
    refine own_go (fun t₀ k₀ => XS.goto X3.here hx rfl (pc0 := 32) (pc' := 6) rfl (Jvm.hb hby d3_32) (by decide) (by decide) k₀) ?_
    show Gm p e below T3 m 6 #[rv r0, lv q1, .second, lv q2, .second, iv (1 : Int32), .unset] [] _
    refine own_go (fun t₀ k₀ => XS.iload X3.here hx rfl (Jvm.hb hby d3_6) rfl k₀) ?_
    show Gm p e below T3 m 8 #[rv r0, lv q1, .second, lv q2, .second, iv (1 : Int32), .unset] [(.int (1 : Int32))] _
    refine own_go (fun t₀ k₀ => XS.aloadN X3.here hx rfl (Jvm.hb hby d3_8) rfl rfl k₀) ?_
    show Gm p e below T3 m 9 #[rv r0, lv q1, .second, lv q2, .second, iv (1 : Int32), .unset] [(.ref r0), (.int (1 : Int32))] _
    obtain ⟨T5, X5, e5, st5⟩ := getF X3 hx hZ hown (host := "") (Or.inl (hw _ (List.mem_of_getElem? (i := 21) rfl))) Via.refl e3 F_start (g := (mkF m 9 #[rv r0, lv q1, .second, lv q2, .second, iv (1 : Int32), .unset] [(.ref r0), (.int (1 : Int32))])) rfl rfl (Jvm.hb hby d3_9)
    refine own_go st5 ?_
    show Gm p e below T5 m 12 #[rv r0, lv q1, .second, lv q2, .second, iv (1 : Int32), .unset] [(.int (0 : Int32)), (.int (1 : Int32))] _
    refine own_go (fun t₀ k₀ => XS.icmpNo X5.here hx rfl (Jvm.hb hby d3_12) rfl (XT.ii_le_f (by decide)) k₀) ?_
    show Gm p e below T5 m 15 #[rv r0, lv q1, .second, lv q2, .second, iv (1 : Int32), .unset] [] _
    refine own_go (fun t₀ k₀ => XS.aloadN X5.here hx rfl (Jvm.hb hby d3_15) rfl rfl k₀) ?_
    show Gm p e below T5 m 16 #[rv r0, lv q1, .second, lv q2, .second, iv (1 : Int32), .unset] [(.ref r0)] _
    obtain ⟨T6, X6, e6, st6⟩ := getF X5 hx hZ hown (host := "") (Or.inl (hw _ (List.mem_of_getElem? (i := 10) rfl))) Via.refl e5 F_times (g := (mkF m 16 #[rv r0, lv q1, .second, lv q2, .second, iv (1 : Int32), .unset] [(.ref r0)])) rfl rfl (Jvm.hb hby d3_16)
    refine own_go st6 ?_
    show Gm p e below T6 m 19 #[rv r0, lv q1, .second, lv q2, .second, iv (1 : Int32), .unset] [(.ref ta)] _
    refine own_go (fun t₀ k₀ => XS.iload X6.here hx rfl (Jvm.hb hby d3_19) rfl k₀) ?_
    show Gm p e below T6 m 21 #[rv r0, lv q1, .second, lv q2, .second, iv (1 : Int32), .unset] [(.int (1 : Int32)), (.ref ta)] _
    refine own_go (fun t₀ k₀ => XS.iconst X6.here hx rfl (Jvm.hb hby d3_21) k₀) ?_
    show Gm p e below T6 m 22 #[rv r0, lv q1, .second, lv q2, .second, iv (1 : Int32), .unset] [(.int (1 : Int32)), (.int (1 : Int32)), (.ref ta)] _
    refine own_go (fun t₀ k₀ => XS.isub X6.here hx rfl (Jvm.hb hby d3_22) rfl k₀) ?_
    show Gm p e below T6 m 23 #[rv r0, lv q1, .second, lv q2, .second, iv (1 : Int32), .unset] [(.int (0 : Int32)), (.ref ta)] _
    refine own_go (fun t₀ k₀ => own_ldJ X6 hx hZ e6 At (j := (0 : Int32)) (k := 0) (by decide) rfl (by decide) (w := (.long a)) (hxs 0 _ _ rfl).1 (g := (mkF m 23 #[rv r0, lv q1, .second, lv q2, .second, iv (1 : Int32), .unset] [(.int (0 : Int32)), (.ref ta)])) rfl rfl (Jvm.hb hby d3_23) k₀) ?_
    show Gm p e below T6 m 24 #[rv r0, lv q1, .second, lv q2, .second, iv (1 : Int32), .unset] [(.long a)] _
    refine own_go (fun t₀ k₀ => XS.lloadN X6.here hx rfl (Jvm.hb hby d3_24) rfl k₀) ?_
    show Gm p e below T6 m 25 #[rv r0, lv q1, .second, lv q2, .second, iv (1 : Int32), .unset] [(.long q1), (.long a)] _
    refine own_go (fun t₀ k₀ => XT.lcmp X6.here hx rfl (Jvm.hb hby d3_25) rfl k₀) ?_
    show Gm p e below T6 m 26 #[rv r0, lv q1, .second, lv q2, .second, iv (1 : Int32), .unset] [(.int (XT.cmpL a q1))] _
    by_cases c7 : q1 < a
    · have hfork := trivial
      refine own_go (fun t₀ k₀ => XS.ifNo X6.here hx rfl (Jvm.hb hby d3_26) rfl (XT.ll_le_f c7) k₀) ?_
      show Gm p e below T6 m 29 #[rv r0, lv q1, .second, lv q2, .second, iv (1 : Int32), .unset] [] _
      refine own_go (fun t₀ k₀ => XS.iinc X6.here hx rfl (Jvm.hb hby d3_29) rfl (l' := #[rv r0, lv q1, .second, lv q2, .second, iv (0 : Int32), .unset]) rfl k₀) ?_
      show Gm p e below T6 m 32 #[rv r0, lv q1, .second, lv q2, .second, iv (0 : Int32), .unset] [] _
      refine own_go (fun t₀ k₀ => XS.goto X6.here hx rfl (pc0 := 32) (pc' := 6) rfl (Jvm.hb hby d3_32) (by decide) (by decide) k₀) ?_
      show Gm p e below T6 m 6 #[rv r0, lv q1, .second, lv q2, .second, iv (0 : Int32), .unset] [] _
      refine own_go (fun t₀ k₀ => XS.iload X6.here hx rfl (Jvm.hb hby d3_6) rfl k₀) ?_
      show Gm p e below T6 m 8 #[rv r0, lv q1, .second, lv q2, .second, iv (0 : Int32), .unset] [(.int (0 : Int32))] _
      refine own_go (fun t₀ k₀ => XS.aloadN X6.here hx rfl (Jvm.hb hby d3_8) rfl rfl k₀) ?_
      show Gm p e below T6 m 9 #[rv r0, lv q1, .second, lv q2, .second, iv (0 : Int32), .unset] [(.ref r0), (.int (0 : Int32))] _
      obtain ⟨T8, X8, e8, st8⟩ := getF X6 hx hZ hown (host := "") (Or.inl (hw _ (List.mem_of_getElem? (i := 21) rfl))) Via.refl e6 F_start (g := (mkF m 9 #[rv r0, lv q1, .second, lv q2, .second, iv (0 : Int32), .unset] [(.ref r0), (.int (0 : Int32))])) rfl rfl (Jvm.hb hby d3_9)
      refine own_go st8 ?_
      show Gm p e below T8 m 12 #[rv r0, lv q1, .second, lv q2, .second, iv (0 : Int32), .unset] [(.int (0 : Int32)), (.int (0 : Int32))] _
      refine own_go (fun t₀ k₀ => XS.icmpYes X8.here hx rfl (pc0 := 12) (pc' := 35) rfl (Jvm.hb hby d3_12) rfl (XT.ii_le_t (by decide)) (by decide) (by decide) k₀) ?_
      show Gm p e below T8 m 35 #[rv r0, lv q1, .second, lv q2, .second, iv (0 : Int32), .unset] [] _
      refine own_go (fun t₀ k₀ => XS.iload X8.here hx rfl (Jvm.hb hby d3_35) rfl k₀) ?_
      show Gm p e below T8 m 37 #[rv r0, lv q1, .second, lv q2, .second, iv (0 : Int32), .unset] [(.int (0 : Int32))] _
      refine own_go (fun t₀ k₀ => XS.aloadN X8.here hx rfl (Jvm.hb hby d3_37) rfl rfl k₀) ?_
      show Gm p e below T8 m 38 #[rv r0, lv q1, .second, lv q2, .second, iv (0 : Int32), .unset] [(.ref r0), (.int (0 : Int32))] _
      obtain ⟨T9, X9, e9, st9⟩ := getF X8 hx hZ hown (host := "") (Or.inl (hw _ (List.mem_of_getElem? (i := 21) rfl))) Via.refl e8 F_start (g := (mkF m 38 #[rv r0, lv q1, .second, lv q2, .second, iv (0 : Int32), .unset] [(.ref r0), (.int (0 : Int32))])) rfl rfl (Jvm.hb hby d3_38)
      refine own_go st9 ?_
      show Gm p e below T9 m 41 #[rv r0, lv q1, .second, lv q2, .second, iv (0 : Int32), .unset] [(.int (0 : Int32)), (.int (0 : Int32))] _
      refine own_go (fun t₀ k₀ => XS.icmpYes X9.here hx rfl (pc0 := 41) (pc' := 74) rfl (Jvm.hb hby d3_41) rfl (XT.ii_le_t (by decide)) (by decide) (by decide) k₀) ?_
      show Gm p e below T9 m 74 #[rv r0, lv q1, .second, lv q2, .second, iv (0 : Int32), .unset] [] _
      refine own_go (fun t₀ k₀ => XS.aloadN X9.here hx rfl (Jvm.hb hby d3_74) rfl rfl k₀) ?_
      show Gm p e below T9 m 75 #[rv r0, lv q1, .second, lv q2, .second, iv (0 : Int32), .unset] [(.ref r0)] _
      obtain ⟨T10, X10, e10, st10⟩ := getF X9 hx hZ hown (host := "") (Or.inl (hw _ (List.mem_of_getElem? (i := 19) rfl))) Via.refl e9 F_end (g := (mkF m 75 #[rv r0, lv q1, .second, lv q2, .second, iv (0 : Int32), .unset] [(.ref r0)])) rfl rfl (Jvm.hb hby d3_75)
      refine own_go st10 ?_
      show Gm p e below T10 m 78 #[rv r0, lv q1, .second, lv q2, .second, iv (0 : Int32), .unset] [(.int (2 : Int32))] _
      refine own_go (fun t₀ k₀ => XS.aloadN X10.here hx rfl (Jvm.hb hby d3_78) rfl rfl k₀) ?_
      show Gm p e below T10 m 79 #[rv r0, lv q1, .second, lv q2, .second, iv (0 : Int32), .unset] [(.ref r0), (.int (2 : Int32))] _
      obtain ⟨T11, X11, e11, st11⟩ := getF X10 hx hZ hown (host := "") (Or.inl (hw _ (List.mem_of_getElem? (i := 10) rfl))) Via.refl e10 F_times (g := (mkF m 79 #[rv r0, lv q1, .second, lv q2, .second, iv (0 : Int32), .unset] [(.ref r0), (.int (2 : Int32))])) rfl rfl (Jvm.hb hby d3_79)
      refine own_go st11 ?_
      show Gm p e below T11 m 82 #[rv r0, lv q1, .second, lv q2, .second, iv (0 : Int32), .unset] [(.ref ta), (.int (2 : Int32))] _
      refine own_go (fun t₀ k₀ => own_len X11 hx hZ e11 At (z := (2 : Int32)) rfl (g := (mkF m 82 #[rv r0, lv q1, .second, lv q2, .second, iv (0 : Int32), .unset] [(.ref ta), (.int (2 : Int32))])) rfl rfl (Jvm.hb hby d3_82) k₀) ?_
      show Gm p e below T11 m 83 #[rv r0, lv q1, .second, lv q2, .second, iv (0 : Int32), .unset] [(.int (2 : Int32)), (.int (2 : Int32))] _
      refine own_go (fun t₀ k₀ => XS.icmpNo X11.here hx rfl (Jvm.hb hby d3_83) rfl (XT.ii_ne_f (by decide)) k₀) ?_
      show Gm p e below T11 m 86 #[rv r0, lv q1, .second, lv q2, .second, iv (0 : Int32), .unset] [] _
      refine own_go (fun t₀ k₀ => XS.iload X11.here hx rfl (Jvm.hb hby d3_86) rfl k₀) ?_
      show Gm p e below T11 m 88 #[rv r0, lv q1, .second, lv q2, .second, iv (0 : Int32), .unset] [(.int (0 : Int32))] _
      refine own_go (fun t₀ k₀ => XS.aloadN X11.here hx rfl (Jvm.hb hby d3_88) rfl rfl k₀) ?_
      show Gm p e below T11 m 89 #[rv r0, lv q1, .second, lv q2, .second, iv (0 : Int32), .unset] [(.ref r0), (.int (0 : Int32))] _
      obtain ⟨T12, X12, e12, st12⟩ := getF X11 hx hZ hown (host := "") (Or.inl (hw _ (List.mem_of_getElem? (i := 21) rfl))) Via.refl e11 F_start (g := (mkF m 89 #[rv r0, lv q1, .second, lv q2, .second, iv (0 : Int32), .unset] [(.ref r0), (.int (0 : Int32))])) rfl rfl (Jvm.hb hby d3_89)
      refine own_go st12 ?_
      show Gm p e below T12 m 92 #[rv r0, lv q1, .second, lv q2, .second, iv (0 : Int32), .unset] [(.int (0 : Int32)), (.int (0 : Int32))] _
      refine own_go (fun t₀ k₀ => XS.isub X12.here hx rfl (Jvm.hb hby d3_92) rfl k₀) ?_
      show Gm p e below T12 m 93 #[rv r0, lv q1, .second, lv q2, .second, iv (0 : Int32), .unset] [(.int (0 : Int32))] _
      refine own_go (fun t₀ k₀ => XS.istore X12.here hx rfl (Jvm.hb hby d3_93) rfl (l' := #[rv r0, lv q1, .second, lv q2, .second, iv (0 : Int32), iv (0 : Int32)]) rfl k₀) ?_
      show Gm p e below T12 m 95 #[rv r0, lv q1, .second, lv q2, .second, iv (0 : Int32), iv (0 : Int32)] [] _
      refine own_go (fun t₀ k₀ => XS.aloadN X12.here hx rfl (Jvm.hb hby d3_95) rfl rfl k₀) ?_
      show Gm p e below T12 m 96 #[rv r0, lv q1, .second, lv q2, .second, iv (0 : Int32), iv (0 : Int32)] [(.ref r0)] _
      refine own_go (fun t₀ k₀ => XS.iconst X12.here hx rfl (Jvm.hb hby d3_96) k₀) ?_
      show Gm p e below T12 m 97 #[rv r0, lv q1, .second, lv q2, .second, iv (0 : Int32), iv (0 : Int32)] [(.int (2 : Int32)), (.ref r0)] _
      refine own_go (fun t₀ k₀ => XS.iconst X12.here hx rfl (Jvm.hb hby d3_97) k₀) ?_
      show Gm p e below T12 m 98 #[rv r0, lv q1, .second, lv q2, .second, iv (0 : Int32), iv (0 : Int32)] [(.int (2 : Int32)), (.int (2 : Int32)), (.ref r0)] _
      refine own_go (fun t₀ k₀ => XS.aloadN X12.here hx rfl (Jvm.hb hby d3_98) rfl rfl k₀) ?_
      show Gm p e below T12 m 99 #[rv r0, lv q1, .second, lv q2, .second, iv (0 : Int32), iv (0 : Int32)] [(.ref r0), (.int (2 : Int32)), (.int (2 : Int32)), (.ref r0)] _
      obtain ⟨T13, X13, e13, st13⟩ := getF X12 hx hZ hown (host := "") (Or.inl (hw _ (List.mem_of_getElem? (i := 19) rfl))) Via.refl e12 F_end (g := (mkF m 99 #[rv r0, lv q1, .second, lv q2, .second, iv (0 : Int32), iv (0 : Int32)] [(.ref r0), (.int (2 : Int32)), (.int (2 : Int32)), (.ref r0)])) rfl rfl (Jvm.hb hby d3_99)
      refine own_go st13 ?_
      show Gm p e below T13 m 102 #[rv r0, lv q1, .second, lv q2, .second, iv (0 : Int32), iv (0 : Int32)] [(.int (2 : Int32)), (.int (2 : Int32)), (.int (2 : Int32)), (.ref r0)] _
      refine own_go (fun t₀ k₀ => XS.aloadN X13.here hx rfl (Jvm.hb hby d3_102) rfl rfl k₀) ?_
      show Gm p e below T13 m 103 #[rv r0, lv q1, .second, lv q2, .second, iv (0 : Int32), iv (0 : Int32)] [(.ref r0), (.int (2 : Int32)), (.int (2 : Int32)), (.int (2 : Int32)), (.ref r0)] _
      obtain ⟨T14, X14, e14, st14⟩ := getF X13 hx hZ hown (host := "") (Or.inl (hw _ (List.mem_of_getElem? (i := 21) rfl))) Via.refl e13 F_start (g := (mkF m 103 #[rv r0, lv q1, .second, lv q2, .second, iv (0 : Int32), iv (0 : Int32)] [(.ref r0), (.int (2 : Int32)), (.int (2 : Int32)), (.int (2 : Int32)), (.ref r0)])) rfl rfl (Jvm.hb hby d3_103)
      refine own_go st14 ?_
      show Gm p e below T14 m 106 #[rv r0, lv q1, .second, lv q2, .second, iv (0 : Int32), iv (0 : Int32)] [(.int (0 : Int32)), (.int (2 : Int32)), (.int (2 : Int32)), (.int (2 : Int32)), (.ref r0)] _
      refine own_go (fun t₀ k₀ => XS.isub X14.here hx rfl (Jvm.hb hby d3_106) rfl k₀) ?_
      show Gm p e below T14 m 107 #[rv r0, lv q1, .second, lv q2, .second, iv (0 : Int32), iv (0 : Int32)] [(.int (2 : Int32)), (.int (2 : Int32)), (.int (2 : Int32)), (.ref r0)] _
      refine own_go (fun t₀ k₀ => XS.imul X14.here hx rfl (Jvm.hb hby d3_107) rfl k₀) ?_
      show Gm p e below T14 m 108 #[rv r0, lv q1, .second, lv q2, .second, iv (0 : Int32), iv (0 : Int32)] [(.int (4 : Int32)), (.int (2 : Int32)), (.ref r0)] _
      obtain ⟨_, _, ⟨T15, L15, k15, n15⟩, -, X15, ⟨Lc15, hQ15, l15, y15, z15⟩, st15⟩ := Jvm.LawKit.callS X14 hx (y := (⟨"java/lang/Math", "max", "(II)I"⟩ : MethodName)) hown (mvT hZ (hw _ (List.mem_of_getElem? (i := 29) rfl))) (mvT hZ (hw _ (List.mem_of_getElem? (i := 30) rfl))) (mvT hZ (hw _ (List.mem_of_getElem? (i := 31) rfl))) (mvT hZ (hw _ (List.mem_of_getElem? (i := 32) rfl))) (by decide) (backOf (W := 1) (rm4 l Z a0 hw [] (2 : Int32) (4 : Int32) h0 n0 Z0) hZ (hw _ (List.mem_of_getElem? (i := 32) rfl)) (hw _ (List.mem_of_getElem? (i := 31) rfl)) (by decide) (by decide)) (g := (mkF m 108 #[rv r0, lv q1, .second, lv q2, .second, iv (0 : Int32), iv (0 : Int32)] [(.int (4 : Int32)), (.int (2 : Int32)), (.ref r0)])) rfl (by rw [hml]; rfl) (argsL := [(.int (2 : Int32)), (.int (4 : Int32))]) (rest := [(.ref r0)]) (lenOf own_pd0 rfl) rfl (by show 2 * 0 + _ ≤ _; exact Nat.le_of_eq rfl) (Jvm.hb hby d3_108) (fun _ _ => ⟨rfl, e14, (by decide : 0 + 0 ≤ _), (by decide : 0 + 0 ≤ _)⟩)
      dsimp only [Pt.U, Pt.locs, Pt.cells, Pt.slots] at X15 l15 y15 z15 st15 hQ15
      subst l15 y15 z15
      obtain ⟨rfl, Nq15, eq15⟩ := hQ15
      have N15 := Fr.app N0 Nq15
      have e15 : T15.heap = h0 := eq15
      refine own_go st15 ?_
      show Gm p e below T15 m 111 #[rv r0, lv q1, .second, lv q2, .second, iv (0 : Int32), iv (0 : Int32)] [(.int (4 : Int32)), (.ref r0)] _
      obtain ⟨cq16, q16, q16'⟩ := E_r0.cell
      obtain ⟨_, _, ⟨T16, L16, k16, n16⟩, -, X16, ⟨Lc16, hQ16, l16, y16, z16⟩, st16⟩ := X15.privateBack hx (y := (⟨"com/example/libbrake/libbrake/AdmissionLog", "moveTo", "(I)V"⟩ : MethodName)) hown (mvT hZ (hw _ (List.mem_of_getElem? (i := 33) rfl))) (mvT hZ (hw _ (List.mem_of_getElem? (i := 34) rfl))) (own_self hZ (hw _ (List.mem_of_getElem? (i := 1) rfl)) (hw _ (List.mem_of_getElem? (i := 35) rfl)) (hw _ (List.mem_of_getElem? (i := 34) rfl)) (by decide)) (Cond.privateMethod_at (mvP hZ (hw _ (List.mem_of_getElem? (i := 35) rfl)) (args := #[]))) (mvT hZ (hw _ (List.mem_of_getElem? (i := 36) rfl))) (by decide) (backOf (W := 0) (rm5 l Z a0 hw [] r0 a k b j P h0 n0 Z0 ⟨ta, ca, _, _, E_r0, F_times, F_counts, F_start, F_end, F_permits, At, Ac, ne_rt, ne_rc, ne_tc, g_ta, g_ca, (Nat.le_of_ble_eq_true rfl), (own_hx2 (s := 0) (ft := ft) (fc := fc) (hxs 0 _ _ rfl).1 (hxs 0 _ _ rfl).2 (hxs 1 _ _ rfl).1 (hxs 1 _ _ rfl).2)⟩ g_r0) hZ (hw _ (List.mem_of_getElem? (i := 36) rfl)) (hw _ (List.mem_of_getElem? (i := 2) rfl)) (by decide) (by decide)) (g := (mkF m 111 #[rv r0, lv q1, .second, lv q2, .second, iv (0 : Int32), iv (0 : Int32)] [(.int (4 : Int32)), (.ref r0)])) rfl (by rw [hml]; rfl) (Steps.refl _) (a := r0) (by rw [e15]; exact q16) q16' (argsL := [(.int (4 : Int32))]) (rest := []) (lenOf own_pd1 rfl) rfl (by show 2 * 0 + _ ≤ _; exact Nat.le_of_eq rfl) (Jvm.hb hby d3_111) (fun _ _ => ⟨rfl, e15, (by decide : 0 + 2 ≤ _), (by decide : 0 + 8 ≤ _)⟩)
      dsimp only [Pt.U, Pt.locs, Pt.cells, Pt.slots] at X16 l16 y16 z16 st16 hQ16
      subst l16 y16 z16
      obtain ⟨rfl, Nq16, hsz16, HL16⟩ := hQ16
      have N16 := Fr.app N15 Nq16
      refine own_go (fun t k => st16.trans k) ?_
      obtain ⟨ta16, ca16, ft16, fc16, E16, Ft16, Fc16, Fs16, Fe16, Fp16, At16, Ac16, nrt16, nrc16, ntc16, g_ta16, g_ca16, hN16, hxs16⟩ := HL16
      have Z16 : n0 ≤ T16.heap.size := Nat.le_trans Z0 hsz16
      have M16 : h0.size ≤ T16.heap.size := Nat.le_trans (Nat.le_refl h0.size) hsz16
      show Gm p e below T16 m 114 #[rv r0, lv q1, .second, lv q2, .second, iv (0 : Int32), iv (0 : Int32)] [] _
      refine own_go (fun t₀ k₀ => XS.iload X16.here hx rfl (Jvm.hb hby d3_114) rfl k₀) ?_
      show Gm p e below T16 m 116 #[rv r0, lv q1, .second, lv q2, .second, iv (0 : Int32), iv (0 : Int32)] [(.int (0 : Int32))] _
      refine own_go (fun t₀ k₀ => XS.istore X16.here hx rfl (Jvm.hb hby d3_116) rfl (l' := #[rv r0, lv q1, .second, lv q2, .second, iv (0 : Int32), iv (0 : Int32)]) rfl k₀) ?_
      show Gm p e below T16 m 118 #[rv r0, lv q1, .second, lv q2, .second, iv (0 : Int32), iv (0 : Int32)] [] _
      refine own_go (fun t₀ k₀ => XS.aloadN X16.here hx rfl (Jvm.hb hby d3_118) rfl rfl k₀) ?_
      show Gm p e below T16 m 119 #[rv r0, lv q1, .second, lv q2, .second, iv (0 : Int32), iv (0 : Int32)] [(.ref r0)] _
      obtain ⟨T17, X17, e17, st17⟩ := getF X16 hx hZ hown (host := "") (Or.inl (hw _ (List.mem_of_getElem? (i := 10) rfl))) Via.refl rfl Ft16 (g := (mkF m 119 #[rv r0, lv q1, .second, lv q2, .second, iv (0 : Int32), iv (0 : Int32)] [(.ref r0)])) rfl rfl (Jvm.hb hby d3_119)
      refine own_go st17 ?_
      show Gm p e below T17 m 122 #[rv r0, lv q1, .second, lv q2, .second, iv (0 : Int32), iv (0 : Int32)] [(.ref ta16)] _
      refine own_go (fun t₀ k₀ => XS.iload X17.here hx rfl (Jvm.hb hby d3_122) rfl k₀) ?_
      show Gm p e below T17 m 124 #[rv r0, lv q1, .second, lv q2, .second, iv (0 : Int32), iv (0 : Int32)] [(.int (0 : Int32)), (.ref ta16)] _
      refine own_go (fun t₀ k₀ => XS.aloadN X17.here hx rfl (Jvm.hb hby d3_124) rfl rfl k₀) ?_
      show Gm p e below T17 m 125 #[rv r0, lv q1, .second, lv q2, .second, iv (0 : Int32), iv (0 : Int32)] [(.ref r0), (.int (0 : Int32)), (.ref ta16)] _
      obtain ⟨T18, X18, e18, st18⟩ := getF X17 hx hZ hown (host := "") (Or.inl (hw _ (List.mem_of_getElem? (i := 10) rfl))) Via.refl e17 Ft16 (g := (mkF m 125 #[rv r0, lv q1, .second, lv q2, .second, iv (0 : Int32), iv (0 : Int32)] [(.ref r0), (.int (0 : Int32)), (.ref ta16)])) rfl rfl (Jvm.hb hby d3_125)
      refine own_go st18 ?_
      show Gm p e below T18 m 128 #[rv r0, lv q1, .second, lv q2, .second, iv (0 : Int32), iv (0 : Int32)] [(.ref ta16), (.int (0 : Int32)), (.ref ta16)] _
      refine own_go (fun t₀ k₀ => XS.iload X18.here hx rfl (Jvm.hb hby d3_128) rfl k₀) ?_
      show Gm p e below T18 m 130 #[rv r0, lv q1, .second, lv q2, .second, iv (0 : Int32), iv (0 : Int32)] [(.int (0 : Int32)), (.ref ta16), (.int (0 : Int32)), (.ref ta16)] _
      refine own_go (fun t₀ k₀ => XS.iconst X18.here hx rfl (Jvm.hb hby d3_130) k₀) ?_
      show Gm p e below T18 m 131 #[rv r0, lv q1, .second, lv q2, .second, iv (0 : Int32), iv (0 : Int32)] [(.int (1 : Int32)), (.int (0 : Int32)), (.ref ta16), (.int (0 : Int32)), (.ref ta16)] _
      refine own_go (fun t₀ k₀ => XS.iadd X18.here hx rfl (Jvm.hb hby d3_131) rfl k₀) ?_
      show Gm p e below T18 m 132 #[rv r0, lv q1, .second, lv q2, .second, iv (0 : Int32), iv (0 : Int32)] [(.int (1 : Int32)), (.ref ta16), (.int (0 : Int32)), (.ref ta16)] _
      refine own_go (fun t₀ k₀ => XS.aloadN X18.here hx rfl (Jvm.hb hby d3_132) rfl rfl k₀) ?_
      show Gm p e below T18 m 133 #[rv r0, lv q1, .second, lv q2, .second, iv (0 : Int32), iv (0 : Int32)] [(.ref r0), (.int (1 : Int32)), (.ref ta16), (.int (0 : Int32)), (.ref ta16)] _
      obtain ⟨T19, X19, e19, st19⟩ := getF X18 hx hZ hown (host := "") (Or.inl (hw _ (List.mem_of_getElem? (i := 19) rfl))) Via.refl e18 Fe16 (g := (mkF m 133 #[rv r0, lv q1, .second, lv q2, .second, iv (0 : Int32), iv (0 : Int32)] [(.ref r0), (.int (1 : Int32)), (.ref ta16), (.int (0 : Int32)), (.ref ta16)])) rfl rfl (Jvm.hb hby d3_133)
      refine own_go st19 ?_
      show Gm p e below T19 m 136 #[rv r0, lv q1, .second, lv q2, .second, iv (0 : Int32), iv (0 : Int32)] [(.int (2 : Int32)), (.int (1 : Int32)), (.ref ta16), (.int (0 : Int32)), (.ref ta16)] _
      refine own_go (fun t₀ k₀ => XS.iload X19.here hx rfl (Jvm.hb hby d3_136) rfl k₀) ?_
      show Gm p e below T19 m 138 #[rv r0, lv q1, .second, lv q2, .second, iv (0 : Int32), iv (0 : Int32)] [(.int (0 : Int32)), (.int (2 : Int32)), (.int (1 : Int32)), (.ref ta16), (.int (0 : Int32)), (.ref ta16)] _
      refine own_go (fun t₀ k₀ => XS.isub X19.here hx rfl (Jvm.hb hby d3_138) rfl k₀) ?_
      show Gm p e below T19 m 139 #[rv r0, lv q1, .second, lv q2, .second, iv (0 : Int32), iv (0 : Int32)] [(.int (2 : Int32)), (.int (1 : Int32)), (.ref ta16), (.int (0 : Int32)), (.ref ta16)] _
      obtain ⟨T20, h20, L20, X20, e20, N20, Kc20, Ac20, st20⟩ := own_cp X19 hx hZ hown (hw _ (List.mem_of_getElem? (i := 23) rfl)) (hw _ (List.mem_of_getElem? (i := 26) rfl)) (hw _ (List.mem_of_getElem? (i := 24) rfl)) (hw _ (List.mem_of_getElem? (i := 25) rfl)) e19 (ks := 0) (kd := 1) (kn := 2) At16 At16 rfl (by decide) (by decide) (by decide) rfl rfl rfl (by decide) (by decide) N16 g_ta16 (g := (mkF m 139 #[rv r0, lv q1, .second, lv q2, .second, iv (0 : Int32), iv (0 : Int32)] [(.int (2 : Int32)), (.int (1 : Int32)), (.ref ta16), (.int (0 : Int32)), (.ref ta16)])) rfl (by rw [hml]; rfl) rfl (Jvm.hb hby d3_139) (by decide) (W := 0) (by show 2 * 0 + _ ≤ _; exact Nat.le_of_eq rfl) (by decide)
      have Z20 : n0 ≤ h20.size := Nat.le_trans Z16 Kc20.1
      have M20 : h0.size ≤ h20.size := Nat.le_trans M16 Kc20.1
      refine own_go st20 ?_
      show Gm p e below T20 m 142 #[rv r0, lv q1, .second, lv q2, .second, iv (0 : Int32), iv (0 : Int32)] [] _
      refine own_go (fun t₀ k₀ => XS.aloadN X20.here hx rfl (Jvm.hb hby d3_142) rfl rfl k₀) ?_
      show Gm p e below T20 m 143 #[rv r0, lv q1, .second, lv q2, .second, iv (0 : Int32), iv (0 : Int32)] [(.ref r0)] _
      have f21 := (Fc16.keep Kc20 (ninS nrt16 nin0))
      obtain ⟨T22, X22, e22, st22⟩ := getF X20 hx hZ hown (host := "") (Or.inl (hw _ (List.mem_of_getElem? (i := 12) rfl))) Via.refl e20 f21 (g := (mkF m 143 #[rv r0, lv q1, .second, lv q2, .second, iv (0 : Int32), iv (0 : Int32)] [(.ref r0)])) rfl rfl (Jvm.hb hby d3_143)
      refine own_go st22 ?_
      show Gm p e below T22 m 146 #[rv r0, lv q1, .second, lv q2, .second, iv (0 : Int32), iv (0 : Int32)] [(.ref ca16)] _
      refine own_go (fun t₀ k₀ => XS.iload X22.here hx rfl (Jvm.hb hby d3_146) rfl k₀) ?_
      show Gm p e below T22 m 148 #[rv r0, lv q1, .second, lv q2, .second, iv (0 : Int32), iv (0 : Int32)] [(.int (0 : Int32)), (.ref ca16)] _
      refine own_go (fun t₀ k₀ => XS.aloadN X22.here hx rfl (Jvm.hb hby d3_148) rfl rfl k₀) ?_
      show Gm p e below T22 m 149 #[rv r0, lv q1, .second, lv q2, .second, iv (0 : Int32), iv (0 : Int32)] [(.ref r0), (.int (0 : Int32)), (.ref ca16)] _
      obtain ⟨T23, X23, e23, st23⟩ := getF X22 hx hZ hown (host := "") (Or.inl (hw _ (List.mem_of_getElem? (i := 12) rfl))) Via.refl e22 f21 (g := (mkF m 149 #[rv r0, lv q1, .second, lv q2, .second, iv (0 : Int32), iv (0 : Int32)] [(.ref r0), (.int (0 : Int32)), (.ref ca16)])) rfl rfl (Jvm.hb hby d3_149)
      refine own_go st23 ?_
      show Gm p e below T23 m 152 #[rv r0, lv q1, .second, lv q2, .second, iv (0 : Int32), iv (0 : Int32)] [(.ref ca16), (.int (0 : Int32)), (.ref ca16)] _
      refine own_go (fun t₀ k₀ => XS.iload X23.here hx rfl (Jvm.hb hby d3_152) rfl k₀) ?_
      show Gm p e below T23 m 154 #[rv r0, lv q1, .second, lv q2, .second, iv (0 : Int32), iv (0 : Int32)] [(.int (0 : Int32)), (.ref ca16), (.int (0 : Int32)), (.ref ca16)] _
      refine own_go (fun t₀ k₀ => XS.iconst X23.here hx rfl (Jvm.hb hby d3_154) k₀) ?_
      show Gm p e below T23 m 155 #[rv r0, lv q1, .second, lv q2, .second, iv (0 : Int32), iv (0 : Int32)] [(.int (1 : Int32)), (.int (0 : Int32)), (.ref ca16), (.int (0 : Int32)), (.ref ca16)] _
      refine own_go (fun t₀ k₀ => XS.iadd X23.here hx rfl (Jvm.hb hby d3_155) rfl k₀) ?_
      show Gm p e below T23 m 156 #[rv r0, lv q1, .second, lv q2, .second, iv (0 : Int32), iv (0 : Int32)] [(.int (1 : Int32)), (.ref ca16), (.int (0 : Int32)), (.ref ca16)] _
      refine own_go (fun t₀ k₀ => XS.aloadN X23.here hx rfl (Jvm.hb hby d3_156) rfl rfl k₀) ?_
      show Gm p e below T23 m 157 #[rv r0, lv q1, .second, lv q2, .second, iv (0 : Int32), iv (0 : Int32)] [(.ref r0), (.int (1 : Int32)), (.ref ca16), (.int (0 : Int32)), (.ref ca16)] _
      have f24 := (Fe16.keep Kc20 (ninS nrt16 nin0))
      obtain ⟨T25, X25, e25, st25⟩ := getF X23 hx hZ hown (host := "") (Or.inl (hw _ (List.mem_of_getElem? (i := 19) rfl))) Via.refl e23 f24 (g := (mkF m 157 #[rv r0, lv q1, .second, lv q2, .second, iv (0 : Int32), iv (0 : Int32)] [(.ref r0), (.int (1 : Int32)), (.ref ca16), (.int (0 : Int32)), (.ref ca16)])) rfl rfl (Jvm.hb hby d3_157)
      refine own_go st25 ?_
      show Gm p e below T25 m 160 #[rv r0, lv q1, .second, lv q2, .second, iv (0 : Int32), iv (0 : Int32)] [(.int (2 : Int32)), (.int (1 : Int32)), (.ref ca16), (.int (0 : Int32)), (.ref ca16)] _
      refine own_go (fun t₀ k₀ => XS.iload X25.here hx rfl (Jvm.hb hby d3_160) rfl k₀) ?_
      show Gm p e below T25 m 162 #[rv r0, lv q1, .second, lv q2, .second, iv (0 : Int32), iv (0 : Int32)] [(.int (0 : Int32)), (.int (2 : Int32)), (.int (1 : Int32)), (.ref ca16), (.int (0 : Int32)), (.ref ca16)] _
      refine own_go (fun t₀ k₀ => XS.isub X25.here hx rfl (Jvm.hb hby d3_162) rfl k₀) ?_
      show Gm p e below T25 m 163 #[rv r0, lv q1, .second, lv q2, .second, iv (0 : Int32), iv (0 : Int32)] [(.int (2 : Int32)), (.int (1 : Int32)), (.ref ca16), (.int (0 : Int32)), (.ref ca16)] _
      have f26 := (Ac16.keep Kc20 (ninS (Ne.symm ntc16) nin0))
      obtain ⟨T27, h27, L27, X27, e27, N27, Kc27, Ac27, st27⟩ := own_cp X25 hx hZ hown (hw _ (List.mem_of_getElem? (i := 23) rfl)) (hw _ (List.mem_of_getElem? (i := 26) rfl)) (hw _ (List.mem_of_getElem? (i := 24) rfl)) (hw _ (List.mem_of_getElem? (i := 25) rfl)) e25 (ks := 0) (kd := 1) (kn := 2) f26 f26 rfl (by decide) (by decide) (by decide) rfl rfl rfl (by decide) (by decide) N20 g_ca16 (g := (mkF m 163 #[rv r0, lv q1, .second, lv q2, .second, iv (0 : Int32), iv (0 : Int32)] [(.int (2 : Int32)), (.int (1 : Int32)), (.ref ca16), (.int (0 : Int32)), (.ref ca16)])) rfl (by rw [hml]; rfl) rfl (Jvm.hb hby d3_163) (by decide) (W := 0) (by show 2 * 0 + _ ≤ _; exact Nat.le_of_eq rfl) (by decide)
      have Z27 : n0 ≤ h27.size := Nat.le_trans Z20 Kc27.1
      have M27 : h0.size ≤ h27.size := Nat.le_trans M20 Kc27.1
      refine own_go st27 ?_
      show Gm p e below T27 m 166 #[rv r0, lv q1, .second, lv q2, .second, iv (0 : Int32), iv (0 : Int32)] [] _
      refine own_go (fun t₀ k₀ => XS.aloadN X27.here hx rfl (Jvm.hb hby d3_166) rfl rfl k₀) ?_
      show Gm p e below T27 m 167 #[rv r0, lv q1, .second, lv q2, .second, iv (0 : Int32), iv (0 : Int32)] [(.ref r0)] _
      have f28 := ((Ft16.keep Kc20 (ninS nrt16 nin0)).keep Kc27 (ninS nrc16 nin0))
      obtain ⟨T29, X29, e29, st29⟩ := getF X27 hx hZ hown (host := "") (Or.inl (hw _ (List.mem_of_getElem? (i := 10) rfl))) Via.refl e27 f28 (g := (mkF m 167 #[rv r0, lv q1, .second, lv q2, .second, iv (0 : Int32), iv (0 : Int32)] [(.ref r0)])) rfl rfl (Jvm.hb hby d3_167)
      refine own_go st29 ?_
      show Gm p e below T29 m 170 #[rv r0, lv q1, .second, lv q2, .second, iv (0 : Int32), iv (0 : Int32)] [(.ref ta16)] _
      refine own_go (fun t₀ k₀ => XS.iload X29.here hx rfl (Jvm.hb hby d3_170) rfl k₀) ?_
      show Gm p e below T29 m 172 #[rv r0, lv q1, .second, lv q2, .second, iv (0 : Int32), iv (0 : Int32)] [(.int (0 : Int32)), (.ref ta16)] _
      refine own_go (fun t₀ k₀ => XS.lloadN X29.here hx rfl (Jvm.hb hby d3_172) rfl k₀) ?_
      show Gm p e below T29 m 173 #[rv r0, lv q1, .second, lv q2, .second, iv (0 : Int32), iv (0 : Int32)] [(.long q1), (.int (0 : Int32)), (.ref ta16)] _
      have f30 := (Ac20.keep Kc27 (ninS ntc16 nin0))
      obtain ⟨T31, h31, X31, e31, W31, A31, st31⟩ := own_stJ X29 hx hZ e29 f30 (j := (0 : Int32)) (k := 0) (by decide) rfl (by decide) (g := (mkF m 173 #[rv r0, lv q1, .second, lv q2, .second, iv (0 : Int32), iv (0 : Int32)] [(.long q1), (.int (0 : Int32)), (.ref ta16)])) rfl rfl (Jvm.hb hby d3_173)
      have N31 := Fr.snoc X31 N27 g_ta16
      have Z31 : n0 ≤ h31.size := W31.size ▸ Z27
      have M31 : h0.size ≤ h31.size := W31.size ▸ M27
      refine own_go st31 ?_
      show Gm p e below T31 m 174 #[rv r0, lv q1, .second, lv q2, .second, iv (0 : Int32), iv (0 : Int32)] [] _
      refine own_go (fun t₀ k₀ => XS.aloadN X31.here hx rfl (Jvm.hb hby d3_174) rfl rfl k₀) ?_
      show Gm p e below T31 m 175 #[rv r0, lv q1, .second, lv q2, .second, iv (0 : Int32), iv (0 : Int32)] [(.ref r0)] _
      have f32 := (Fld.other W31 (f21.keep Kc27 (ninS nrc16 nin0)) (Or.inl nrt16))
      obtain ⟨T33, X33, e33, st33⟩ := getF X31 hx hZ hown (host := "") (Or.inl (hw _ (List.mem_of_getElem? (i := 12) rfl))) Via.refl e31 f32 (g := (mkF m 175 #[rv r0, lv q1, .second, lv q2, .second, iv (0 : Int32), iv (0 : Int32)] [(.ref r0)])) rfl rfl (Jvm.hb hby d3_175)
      refine own_go st33 ?_
      show Gm p e below T33 m 178 #[rv r0, lv q1, .second, lv q2, .second, iv (0 : Int32), iv (0 : Int32)] [(.ref ca16)] _
      refine own_go (fun t₀ k₀ => XS.iload X33.here hx rfl (Jvm.hb hby d3_178) rfl k₀) ?_
      show Gm p e below T33 m 180 #[rv r0, lv q1, .second, lv q2, .second, iv (0 : Int32), iv (0 : Int32)] [(.int (0 : Int32)), (.ref ca16)] _
      refine own_go (fun t₀ k₀ => XS.lloadN X33.here hx rfl (Jvm.hb hby d3_180) rfl k₀) ?_
      show Gm p e below T33 m 181 #[rv r0, lv q1, .second, lv q2, .second, iv (0 : Int32), iv (0 : Int32)] [(.long q2), (.int (0 : Int32)), (.ref ca16)] _
      have f34 := (Ac27.other W31 (Ne.symm ntc16))
      obtain ⟨T35, h35, X35, e35, W35, A35, st35⟩ := own_stJ X33 hx hZ e33 f34 (j := (0 : Int32)) (k := 0) (by decide) rfl (by decide) (g := (mkF m 181 #[rv r0, lv q1, .second, lv q2, .second, iv (0 : Int32), iv (0 : Int32)] [(.long q2), (.int (0 : Int32)), (.ref ca16)])) rfl rfl (Jvm.hb hby d3_181)
      have N35 := Fr.snoc X35 N31 g_ca16
      have Z35 : n0 ≤ h35.size := W35.size ▸ Z31
      have M35 : h0.size ≤ h35.size := W35.size ▸ M31
      refine own_go st35 ?_
      show Gm p e below T35 m 182 #[rv r0, lv q1, .second, lv q2, .second, iv (0 : Int32), iv (0 : Int32)] [] _
      refine own_go (fun t₀ k₀ => XS.aloadN X35.here hx rfl (Jvm.hb hby d3_182) rfl rfl k₀) ?_
      show Gm p e below T35 m 183 #[rv r0, lv q1, .second, lv q2, .second, iv (0 : Int32), iv (0 : Int32)] [(.ref r0)] _
      refine own_go (fun t₀ k₀ => XS.dup X35.here hx rfl (Jvm.hb hby d3_183) rfl rfl k₀) ?_
      show Gm p e below T35 m 184 #[rv r0, lv q1, .second, lv q2, .second, iv (0 : Int32), iv (0 : Int32)] [(.ref r0), (.ref r0)] _
      have f36 := (Fld.other W35 (Fld.other W31 (f24.keep Kc27 (ninS nrc16 nin0)) (Or.inl nrt16)) (Or.inl nrc16))
      obtain ⟨T37, X37, e37, st37⟩ := getF X35 hx hZ hown (host := "") (Or.inl (hw _ (List.mem_of_getElem? (i := 19) rfl))) Via.refl e35 f36 (g := (mkF m 184 #[rv r0, lv q1, .second, lv q2, .second, iv (0 : Int32), iv (0 : Int32)] [(.ref r0), (.ref r0)])) rfl rfl (Jvm.hb hby d3_184)
      refine own_go st37 ?_
      show Gm p e below T37 m 187 #[rv r0, lv q1, .second, lv q2, .second, iv (0 : Int32), iv (0 : Int32)] [(.int (2 : Int32)), (.ref r0)] _
      refine own_go (fun t₀ k₀ => XS.iconst X37.here hx rfl (Jvm.hb hby d3_187) k₀) ?_
      show Gm p e below T37 m 188 #[rv r0, lv q1, .second, lv q2, .second, iv (0 : Int32), iv (0 : Int32)] [(.int (1 : Int32)), (.int (2 : Int32)), (.ref r0)] _
      refine own_go (fun t₀ k₀ => XS.iadd X37.here hx rfl (Jvm.hb hby d3_188) rfl k₀) ?_
      show Gm p e below T37 m 189 #[rv r0, lv q1, .second, lv q2, .second, iv (0 : Int32), iv (0 : Int32)] [(.int (3 : Int32)), (.ref r0)] _
      have f38 := ((((E16.keep Kc20).keep Kc27).wr W31).wr W35)
      obtain ⟨T39, h39, X39, e39, W39, st39⟩ := putF X37 hx hZ hown (host := "") (Or.inl (hw _ (List.mem_of_getElem? (i := 19) rfl))) Via.refl e37 f36 f38 (Or.inl (hw _ (List.mem_of_getElem? (i := 20) rfl))) (hw _ (List.mem_of_getElem? (i := 1) rfl)) (ty := .int) (by decide) rfl rfl (g := (mkF m 189 #[rv r0, lv q1, .second, lv q2, .second, iv (0 : Int32), iv (0 : Int32)] [(.int (3 : Int32)), (.ref r0)])) rfl rfl (Jvm.hb hby d3_189)
      have Fw39 := Fld.same W39 f36
      have N39 := Fr.snoc X39 N35 g_r0
      have Z39 : n0 ≤ h39.size := W39.size ▸ Z35
      have M39 : h0.size ≤ h39.size := W39.size ▸ M35
      refine own_go st39 ?_
      show Gm p e below T39 m 192 #[rv r0, lv q1, .second, lv q2, .second, iv (0 : Int32), iv (0 : Int32)] [] _
      refine own_go (fun t₀ k₀ => XS.aloadN X39.here hx rfl (Jvm.hb hby d3_192) rfl rfl k₀) ?_
      show Gm p e below T39 m 193 #[rv r0, lv q1, .second, lv q2, .second, iv (0 : Int32), iv (0 : Int32)] [(.ref r0)] _
      refine own_go (fun t₀ k₀ => XS.dup X39.here hx rfl (Jvm.hb hby d3_193) rfl rfl k₀) ?_
      show Gm p e below T39 m 194 #[rv r0, lv q1, .second, lv q2, .second, iv (0 : Int32), iv (0 : Int32)] [(.ref r0), (.ref r0)] _
      have f40 := (Fld.other W39 (Fld.other W35 (Fld.other W31 ((Fp16.keep Kc20 (ninS nrt16 nin0)).keep Kc27 (ninS nrc16 nin0)) (Or.inl nrt16)) (Or.inl nrc16)) (Or.inr (slot_ne (Or.inl (hw _ (List.mem_of_getElem? (i := 28) rfl))) (Or.inl (hw _ (List.mem_of_getElem? (i := 20) rfl))) (by decide) (t := .long) (t' := .int) (by decide) (by decide))))
      obtain ⟨T41, X41, e41, st41⟩ := getF X39 hx hZ hown (host := "") (Or.inl (hw _ (List.mem_of_getElem? (i := 27) rfl))) Via.refl e39 f40 (g := (mkF m 194 #[rv r0, lv q1, .second, lv q2, .second, iv (0 : Int32), iv (0 : Int32)] [(.ref r0), (.ref r0)])) rfl rfl (Jvm.hb hby d3_194)
      refine own_go st41 ?_
      show Gm p e below T41 m 197 #[rv r0, lv q1, .second, lv q2, .second, iv (0 : Int32), iv (0 : Int32)] [(.long P), (.ref r0)] _
      refine own_go (fun t₀ k₀ => XS.lloadN X41.here hx rfl (Jvm.hb hby d3_197) rfl k₀) ?_
      show Gm p e below T41 m 198 #[rv r0, lv q1, .second, lv q2, .second, iv (0 : Int32), iv (0 : Int32)] [(.long q2), (.long P), (.ref r0)] _
      refine own_go (fun t₀ k₀ => XS.ladd X41.here hx rfl (Jvm.hb hby d3_198) rfl k₀) ?_
      show Gm p e below T41 m 199 #[rv r0, lv q1, .second, lv q2, .second, iv (0 : Int32), iv (0 : Int32)] [(.long (P + q2)), (.ref r0)] _
      have f42 := (f38.wr W39)
      obtain ⟨T43, h43, X43, e43, W43, st43⟩ := putF X41 hx hZ hown (host := "") (Or.inl (hw _ (List.mem_of_getElem? (i := 27) rfl))) Via.refl e41 f40 f42 (Or.inl (hw _ (List.mem_of_getElem? (i := 28) rfl))) (hw _ (List.mem_of_getElem? (i := 1) rfl)) (ty := .long) (by decide) rfl rfl (g := (mkF m 199 #[rv r0, lv q1, .second, lv q2, .second, iv (0 : Int32), iv (0 : Int32)] [(.long (P + q2)), (.ref r0)])) rfl rfl (Jvm.hb hby d3_199)
      have Fw43 := Fld.same W43 f40
      have N43 := Fr.snoc X43 N39 g_r0
      have Z43 : n0 ≤ h43.size := W43.size ▸ Z39
      have M43 : h0.size ≤ h43.size := W43.size ▸ M39
      refine own_go st43 ?_
      show Gm p e below T43 m 202 #[rv r0, lv q1, .second, lv q2, .second, iv (0 : Int32), iv (0 : Int32)] [] _
      have f44 := (((A31.other W35 ntc16).other W39 (Ne.symm nrt16)).other W43 (Ne.symm nrt16))
      have f45 := ((A35.other W39 (Ne.symm nrc16)).other W43 (Ne.symm nrc16))
      have f46 := (f42.wr W43)
      have f47 := (Fld.other W43 (Fld.other W39 (Fld.other W35 (Fld.other W31 f28 (Or.inl nrt16)) (Or.inl nrc16)) (Or.inr (slot_ne (Or.inl (hw _ (List.mem_of_getElem? (i := 11) rfl))) (Or.inl (hw _ (List.mem_of_getElem? (i := 20) rfl))) (by decide) (t := (.array .long)) (t' := .int) (by decide) (by decide)))) (Or.inr (slot_ne (Or.inl (hw _ (List.mem_of_getElem? (i := 11) rfl))) (Or.inl (hw _ (List.mem_of_getElem? (i := 28) rfl))) (by decide) (t := (.array .long)) (t' := .long) (by decide) (by decide))))
      have f48 := (Fld.other W43 (Fld.other W39 (Fld.other W35 f32 (Or.inl nrc16)) (Or.inr (slot_ne (Or.inl (hw _ (List.mem_of_getElem? (i := 13) rfl))) (Or.inl (hw _ (List.mem_of_getElem? (i := 20) rfl))) (by decide) (t := (.array .long)) (t' := .int) (by decide) (by decide)))) (Or.inr (slot_ne (Or.inl (hw _ (List.mem_of_getElem? (i := 13) rfl))) (Or.inl (hw _ (List.mem_of_getElem? (i := 28) rfl))) (by decide) (t := (.array .long)) (t' := .long) (by decide) (by decide))))
      have f49 := (Fld.other W43 (Fld.other W39 (Fld.other W35 (Fld.other W31 ((Fs16.keep Kc20 (ninS nrt16 nin0)).keep Kc27 (ninS nrc16 nin0)) (Or.inl nrt16)) (Or.inl nrc16)) (Or.inr (slot_ne (Or.inl (hw _ (List.mem_of_getElem? (i := 22) rfl))) (Or.inl (hw _ (List.mem_of_getElem? (i := 20) rfl))) (by decide) (t := .int) (t' := .int) (by decide) (by decide)))) (Or.inr (slot_ne (Or.inl (hw _ (List.mem_of_getElem? (i := 22) rfl))) (Or.inl (hw _ (List.mem_of_getElem? (i := 28) rfl))) (by decide) (t := .int) (t' := .long) (by decide) (by decide))))
      have f50 := (Fld.other W43 Fw39 (Or.inr (slot_ne (Or.inl (hw _ (List.mem_of_getElem? (i := 20) rfl))) (Or.inl (hw _ (List.mem_of_getElem? (i := 28) rfl))) (by decide) (t := .int) (t' := .long) (by decide) (by decide))))
      have q51 : LL Z h43 n0 r0 4 0 [(q1, q2), (a, k), (b, j)] (P + q2) := ⟨ta16, ca16, _, _, f46, f47, f48, f49, f50, Fw43, f44, f45, nrt16, nrc16, ntc16, g_ta16, g_ca16, (Nat.le_of_ble_eq_true rfl), (own_hx3 (s := 0) (ft := (fun i => if i = 0 then (.long q1) else (fun i => if 1 ≤ i ∧ i < 1 + 2 then ft16 (0 + (i - 1)) else ft16 i) i)) (fc := (fun i => if i = 0 then (.long q2) else (fun i => if 1 ≤ i ∧ i < 1 + 2 then fc16 (0 + (i - 1)) else fc16 i) i)) rfl rfl (hxs16 0 _ _ rfl).1 (hxs16 0 _ _ rfl).2 (hxs16 1 _ _ rfl).1 (hxs16 1 _ _ rfl).2)⟩
      rw [← ins2a c7] at q51
      exact own_retV X43 hx hlk Bd.returns (Jvm.hb hby d3_202) e43 ⟨rfl, N43, M43, 4, q51, fun q => absurd q (by simp)⟩ (by decide) (by decide)
    · have hfork := trivial
      refine own_go (fun t₀ k₀ => XS.ifYes X6.here hx rfl (pc0 := 26) (pc' := 35) rfl (Jvm.hb hby d3_26) rfl (XT.ll_le_t c7) (by decide) (by decide) k₀) ?_
      show Gm p e below T6 m 35 #[rv r0, lv q1, .second, lv q2, .second, iv (1 : Int32), .unset] [] _
      refine own_go (fun t₀ k₀ => XS.iload X6.here hx rfl (Jvm.hb hby d3_35) rfl k₀) ?_
      show Gm p e below T6 m 37 #[rv r0, lv q1, .second, lv q2, .second, iv (1 : Int32), .unset] [(.int (1 : Int32))] _
      refine own_go (fun t₀ k₀ => XS.aloadN X6.here hx rfl (Jvm.hb hby d3_37) rfl rfl k₀) ?_
      show Gm p e below T6 m 38 #[rv r0, lv q1, .second, lv q2, .second, iv (1 : Int32), .unset] [(.ref r0), (.int (1 : Int32))] _
      obtain ⟨T52, X52, e52, st52⟩ := getF X6 hx hZ hown (host := "") (Or.inl (hw _ (List.mem_of_getElem? (i := 21) rfl))) Via.refl e6 F_start (g := (mkF m 38 #[rv r0, lv q1, .second, lv q2, .second, iv (1 : Int32), .unset] [(.ref r0), (.int (1 : Int32))])) rfl rfl (Jvm.hb hby d3_38)
      refine own_go st52 ?_
      show Gm p e below T52 m 41 #[rv r0, lv q1, .second, lv q2, .second, iv (1 : Int32), .unset] [(.int (0 : Int32)), (.int (1 : Int32))] _
      refine own_go (fun t₀ k₀ => XS.icmpNo X52.here hx rfl (Jvm.hb hby d3_41) rfl (XT.ii_le_f (by decide)) k₀) ?_
      show Gm p e below T52 m 44 #[rv r0, lv q1, .second, lv q2, .second, iv (1 : Int32), .unset] [] _
      refine own_go (fun t₀ k₀ => XS.aloadN X52.here hx rfl (Jvm.hb hby d3_44) rfl rfl k₀) ?_
      show Gm p e below T52 m 45 #[rv r0, lv q1, .second, lv q2, .second, iv (1 : Int32), .unset] [(.ref r0)] _
      obtain ⟨T53, X53, e53, st53⟩ := getF X52 hx hZ hown (host := "") (Or.inl (hw _ (List.mem_of_getElem? (i := 10) rfl))) Via.refl e52 F_times (g := (mkF m 45 #[rv r0, lv q1, .second, lv q2, .second, iv (1 : Int32), .unset] [(.ref r0)])) rfl rfl (Jvm.hb hby d3_45)
      refine own_go st53 ?_
      show Gm p e below T53 m 48 #[rv r0, lv q1, .second, lv q2, .second, iv (1 : Int32), .unset] [(.ref ta)] _
      refine own_go (fun t₀ k₀ => XS.iload X53.here hx rfl (Jvm.hb hby d3_48) rfl k₀) ?_
      show Gm p e below T53 m 50 #[rv r0, lv q1, .second, lv q2, .second, iv (1 : Int32), .unset] [(.int (1 : Int32)), (.ref ta)] _
      refine own_go (fun t₀ k₀ => XS.iconst X53.here hx rfl (Jvm.hb hby d3_50) k₀) ?_
      show Gm p e below T53 m 51 #[rv r0, lv q1, .second, lv q2, .second, iv (1 : Int32), .unset] [(.int (1 : Int32)), (.int (1 : Int32)), (.ref ta)] _
      refine own_go (fun t₀ k₀ => XS.isub X53.here hx rfl (Jvm.hb hby d3_51) rfl k₀) ?_
      show Gm p e below T53 m 52 #[rv r0, lv q1, .second, lv q2, .second, iv (1 : Int32), .unset] [(.int (0 : Int32)), (.ref ta)] _
      refine own_go (fun t₀ k₀ => own_ldJ X53 hx hZ e53 At (j := (0 : Int32)) (k := 0) (by decide) rfl (by decide) (w := (.long a)) (hxs 0 _ _ rfl).1 (g := (mkF m 52 #[rv r0, lv q1, .second, lv q2, .second, iv (1 : Int32), .unset] [(.int (0 : Int32)), (.ref ta)])) rfl rfl (Jvm.hb hby d3_52) k₀) ?_
      show Gm p e below T53 m 53 #[rv r0, lv q1, .second, lv q2, .second, iv (1 : Int32), .unset] [(.long a)] _
      refine own_go (fun t₀ k₀ => XS.lloadN X53.here hx rfl (Jvm.hb hby d3_53) rfl k₀) ?_
      show Gm p e below T53 m 54 #[rv r0, lv q1, .second, lv q2, .second, iv (1 : Int32), .unset] [(.long q1), (.long a)] _
      refine own_go (fun t₀ k₀ => XT.lcmp X53.here hx rfl (Jvm.hb hby d3_54) rfl k₀) ?_
      show Gm p e below T53 m 55 #[rv r0, lv q1, .second, lv q2, .second, iv (1 : Int32), .unset] [(.int (XT.cmpL a q1))] _
      by_cases c54 : a = q1
      · have hfork := trivial
        refine own_go (fun t₀ k₀ => XS.ifNo X53.here hx rfl (Jvm.hb hby d3_55) rfl (XT.ll_ne_f c54) k₀) ?_
        show Gm p e below T53 m 58 #[rv r0, lv q1, .second, lv q2, .second, iv (1 : Int32), .unset] [] _
        refine own_go (fun t₀ k₀ => XS.aloadN X53.here hx rfl (Jvm.hb hby d3_58) rfl rfl k₀) ?_
        show Gm p e below T53 m 59 #[rv r0, lv q1, .second, lv q2, .second, iv (1 : Int32), .unset] [(.ref r0)] _
        obtain ⟨T55, X55, e55, st55⟩ := getF X53 hx hZ hown (host := "") (Or.inl (hw _ (List.mem_of_getElem? (i := 12) rfl))) Via.refl e53 F_counts (g := (mkF m 59 #[rv r0, lv q1, .second, lv q2, .second, iv (1 : Int32), .unset] [(.ref r0)])) rfl rfl (Jvm.hb hby d3_59)
        refine own_go st55 ?_
        show Gm p e below T55 m 62 #[rv r0, lv q1, .second, lv q2, .second, iv (1 : Int32), .unset] [(.ref ca)] _
        refine own_go (fun t₀ k₀ => XS.iload X55.here hx rfl (Jvm.hb hby d3_62) rfl k₀) ?_
        show Gm p e below T55 m 64 #[rv r0, lv q1, .second, lv q2, .second, iv (1 : Int32), .unset] [(.int (1 : Int32)), (.ref ca)] _
        refine own_go (fun t₀ k₀ => XS.iconst X55.here hx rfl (Jvm.hb hby d3_64) k₀) ?_
        show Gm p e below T55 m 65 #[rv r0, lv q1, .second, lv q2, .second, iv (1 : Int32), .unset] [(.int (1 : Int32)), (.int (1 : Int32)), (.ref ca)] _
        refine own_go (fun t₀ k₀ => XS.isub X55.here hx rfl (Jvm.hb hby d3_65) rfl k₀) ?_
        show Gm p e below T55 m 66 #[rv r0, lv q1, .second, lv q2, .second, iv (1 : Int32), .unset] [(.int (0 : Int32)), (.ref ca)] _
        refine own_go (fun t₀ k₀ => XT.dup2 X55.here hx rfl (Jvm.hb hby d3_66) rfl rfl rfl k₀) ?_
        show Gm p e below T55 m 67 #[rv r0, lv q1, .second, lv q2, .second, iv (1 : Int32), .unset] [(.int (0 : Int32)), (.ref ca), (.int (0 : Int32)), (.ref ca)] _
        refine own_go (fun t₀ k₀ => own_ldJ X55 hx hZ e55 Ac (j := (0 : Int32)) (k := 0) (by decide) rfl (by decide) (w := (.long k)) (hxs 0 _ _ rfl).2 (g := (mkF m 67 #[rv r0, lv q1, .second, lv q2, .second, iv (1 : Int32), .unset] [(.int (0 : Int32)), (.ref ca), (.int (0 : Int32)), (.ref ca)])) rfl rfl (Jvm.hb hby d3_67) k₀) ?_
        show Gm p e below T55 m 68 #[rv r0, lv q1, .second, lv q2, .second, iv (1 : Int32), .unset] [(.long k), (.int (0 : Int32)), (.ref ca)] _
        refine own_go (fun t₀ k₀ => XS.lloadN X55.here hx rfl (Jvm.hb hby d3_68) rfl k₀) ?_
        show Gm p e below T55 m 69 #[rv r0, lv q1, .second, lv q2, .second, iv (1 : Int32), .unset] [(.long q2), (.long k), (.int (0 : Int32)), (.ref ca)] _
        refine own_go (fun t₀ k₀ => XS.ladd X55.here hx rfl (Jvm.hb hby d3_69) rfl k₀) ?_
        show Gm p e below T55 m 70 #[rv r0, lv q1, .second, lv q2, .second, iv (1 : Int32), .unset] [(.long (k + q2)), (.int (0 : Int32)), (.ref ca)] _
        obtain ⟨T56, h56, X56, e56, W56, A56, st56⟩ := own_stJ X55 hx hZ e55 Ac (j := (0 : Int32)) (k := 0) (by decide) rfl (by decide) (g := (mkF m 70 #[rv r0, lv q1, .second, lv q2, .second, iv (1 : Int32), .unset] [(.long (k + q2)), (.int (0 : Int32)), (.ref ca)])) rfl rfl (Jvm.hb hby d3_70)
        have N56 := Fr.snoc X56 N0 g_ca
        have Z56 : n0 ≤ h56.size := W56.size ▸ Z0
        have M56 : h0.size ≤ h56.size := W56.size ▸ (Nat.le_refl h0.size)
        refine own_go st56 ?_
        show Gm p e below T56 m 71 #[rv r0, lv q1, .second, lv q2, .second, iv (1 : Int32), .unset] [] _
        refine own_go (fun t₀ k₀ => XS.goto X56.here hx rfl (pc0 := 71) (pc' := 192) rfl (Jvm.hb hby d3_71) (by decide) (by decide) k₀) ?_
        show Gm p e below T56 m 192 #[rv r0, lv q1, .second, lv q2, .second, iv (1 : Int32), .unset] [] _
        refine own_go (fun t₀ k₀ => XS.aloadN X56.here hx rfl (Jvm.hb hby d3_192) rfl rfl k₀) ?_
        show Gm p e below T56 m 193 #[rv r0, lv q1, .second, lv q2, .second, iv (1 : Int32), .unset] [(.ref r0)] _
        refine own_go (fun t₀ k₀ => XS.dup X56.here hx rfl (Jvm.hb hby d3_193) rfl rfl k₀) ?_
        show Gm p e below T56 m 194 #[rv r0, lv q1, .second, lv q2, .second, iv (1 : Int32), .unset] [(.ref r0), (.ref r0)] _
        have f57 := (Fld.other W56 F_permits (Or.inl ne_rc))
        obtain ⟨T58, X58, e58, st58⟩ := getF X56 hx hZ hown (host := "") (Or.inl (hw _ (List.mem_of_getElem? (i := 27) rfl))) Via.refl e56 f57 (g := (mkF m 194 #[rv r0, lv q1, .second, lv q2, .second, iv (1 : Int32), .unset] [(.ref r0), (.ref r0)])) rfl rfl (Jvm.hb hby d3_194)
        refine own_go st58 ?_
        show Gm p e below T58 m 197 #[rv r0, lv q1, .second, lv q2, .second, iv (1 : Int32), .unset] [(.long P), (.ref r0)] _
        refine own_go (fun t₀ k₀ => XS.lloadN X58.here hx rfl (Jvm.hb hby d3_197) rfl k₀) ?_
        show Gm p e below T58 m 198 #[rv r0, lv q1, .second, lv q2, .second, iv (1 : Int32), .unset] [(.long q2), (.long P), (.ref r0)] _
        refine own_go (fun t₀ k₀ => XS.ladd X58.here hx rfl (Jvm.hb hby d3_198) rfl k₀) ?_
        show Gm p e below T58 m 199 #[rv r0, lv q1, .second, lv q2, .second, iv (1 : Int32), .unset] [(.long (P + q2)), (.ref r0)] _
        have f59 := (E_r0.wr W56)
        obtain ⟨T60, h60, X60, e60, W60, st60⟩ := putF X58 hx hZ hown (host := "") (Or.inl (hw _ (List.mem_of_getElem? (i := 27) rfl))) Via.refl e58 f57 f59 (Or.inl (hw _ (List.mem_of_getElem? (i := 28) rfl))) (hw _ (List.mem_of_getElem? (i := 1) rfl)) (ty := .long) (by decide) rfl rfl (g := (mkF m 199 #[rv r0, lv q1, .second, lv q2, .second, iv (1 : Int32), .unset] [(.long (P + q2)), (.ref r0)])) rfl rfl (Jvm.hb hby d3_199)
        have Fw60 := Fld.same W60 f57
        have N60 := Fr.snoc X60 N56 g_r0
        have Z60 : n0 ≤ h60.size := W60.size ▸ Z56
        have M60 : h0.size ≤ h60.size := W60.size ▸ M56
        refine own_go st60 ?_
        show Gm p e below T60 m 202 #[rv r0, lv q1, .second, lv q2, .second, iv (1 : Int32), .unset] [] _
        have f61 := ((At.other W56 ne_tc).other W60 (Ne.symm ne_rt))
        have f62 := (A56.other W60 (Ne.symm ne_rc))
        have f63 := (f59.wr W60)
        have f64 := (Fld.other W60 (Fld.other W56 F_times (Or.inl ne_rc)) (Or.inr (slot_ne (Or.inl (hw _ (List.mem_of_getElem? (i := 11) rfl))) (Or.inl (hw _ (List.mem_of_getElem? (i := 28) rfl))) (by decide) (t := (.array .long)) (t' := .long) (by decide) (by decide))))
        have f65 := (Fld.other W60 (Fld.other W56 F_counts (Or.inl ne_rc)) (Or.inr (slot_ne (Or.inl (hw _ (List.mem_of_getElem? (i := 13) rfl))) (Or.inl (hw _ (List.mem_of_getElem? (i := 28) rfl))) (by decide) (t := (.array .long)) (t' := .long) (by decide) (by decide))))
        have f66 := (Fld.other W60 (Fld.other W56 F_start (Or.inl ne_rc)) (Or.inr (slot_ne (Or.inl (hw _ (List.mem_of_getElem? (i := 22) rfl))) (Or.inl (hw _ (List.mem_of_getElem? (i := 28) rfl))) (by decide) (t := .int) (t' := .long) (by decide) (by decide))))
        have f67 := (Fld.other W60 (Fld.other W56 F_end (Or.inl ne_rc)) (Or.inr (slot_ne (Or.inl (hw _ (List.mem_of_getElem? (i := 20) rfl))) (Or.inl (hw _ (List.mem_of_getElem? (i := 28) rfl))) (by decide) (t := .int) (t' := .long) (by decide) (by decide))))
        have q68 : LL Z h60 n0 r0 2 0 [(a, (k + q2)), (b, j)] (P + q2) := ⟨ta, ca, _, _, f63, f64, f65, f66, f67, Fw60, f61, f62, ne_rt, ne_rc, ne_tc, g_ta, g_ca, (Nat.le_of_ble_eq_true rfl), (own_hx2 (s := 0) (ft := ft) (fc := (fun i => if i = 0 then (.long (k + q2)) else fc i)) (hxs 0 _ _ rfl).1 rfl (hxs 1 _ _ rfl).1 (hxs 1 _ _ rfl).2)⟩
        rw [← ins2b c7 c54] at q68
        exact own_retV X60 hx hlk Bd.returns (Jvm.hb hby d3_202) e60 ⟨rfl, N60, M60, 2, q68, fun _ => rfl⟩ (by decide) (by decide)
      · have hfork := trivial
        refine own_go (fun t₀ k₀ => XS.ifYes X53.here hx rfl (pc0 := 55) (pc' := 74) rfl (Jvm.hb hby d3_55) rfl (XT.ll_ne_t c54) (by decide) (by decide) k₀) ?_
        show Gm p e below T53 m 74 #[rv r0, lv q1, .second, lv q2, .second, iv (1 : Int32), .unset] [] _
        refine own_go (fun t₀ k₀ => XS.aloadN X53.here hx rfl (Jvm.hb hby d3_74) rfl rfl k₀) ?_
        show Gm p e below T53 m 75 #[rv r0, lv q1, .second, lv q2, .second, iv (1 : Int32), .unset] [(.ref r0)] _
        obtain ⟨T69, X69, e69, st69⟩ := getF X53 hx hZ hown (host := "") (Or.inl (hw _ (List.mem_of_getElem? (i := 19) rfl))) Via.refl e53 F_end (g := (mkF m 75 #[rv r0, lv q1, .second, lv q2, .second, iv (1 : Int32), .unset] [(.ref r0)])) rfl rfl (Jvm.hb hby d3_75)
        refine own_go st69 ?_
        show Gm p e below T69 m 78 #[rv r0, lv q1, .second, lv q2, .second, iv (1 : Int32), .unset] [(.int (2 : Int32))] _
        refine own_go (fun t₀ k₀ => XS.aloadN X69.here hx rfl (Jvm.hb hby d3_78) rfl rfl k₀) ?_
        show Gm p e below T69 m 79 #[rv r0, lv q1, .second, lv q2, .second, iv (1 : Int32), .unset] [(.ref r0), (.int (2 : Int32))] _
        obtain ⟨T70, X70, e70, st70⟩ := getF X69 hx hZ hown (host := "") (Or.inl (hw _ (List.mem_of_getElem? (i := 10) rfl))) Via.refl e69 F_times (g := (mkF m 79 #[rv r0, lv q1, .second, lv q2, .second, iv (1 : Int32), .unset] [(.ref r0), (.int (2 : Int32))])) rfl rfl (Jvm.hb hby d3_79)
        refine own_go st70 ?_
        show Gm p e below T70 m 82 #[rv r0, lv q1, .second, lv q2, .second, iv (1 : Int32), .unset] [(.ref ta), (.int (2 : Int32))] _
        refine own_go (fun t₀ k₀ => own_len X70 hx hZ e70 At (z := (2 : Int32)) rfl (g := (mkF m 82 #[rv r0, lv q1, .second, lv q2, .second, iv (1 : Int32), .unset] [(.ref ta), (.int (2 : Int32))])) rfl rfl (Jvm.hb hby d3_82) k₀) ?_
        show Gm p e below T70 m 83 #[rv r0, lv q1, .second, lv q2, .second, iv (1 : Int32), .unset] [(.int (2 : Int32)), (.int (2 : Int32))] _
        refine own_go (fun t₀ k₀ => XS.icmpNo X70.here hx rfl (Jvm.hb hby d3_83) rfl (XT.ii_ne_f (by decide)) k₀) ?_
        show Gm p e below T70 m 86 #[rv r0, lv q1, .second, lv q2, .second, iv (1 : Int32), .unset] [] _
        refine own_go (fun t₀ k₀ => XS.iload X70.here hx rfl (Jvm.hb hby d3_86) rfl k₀) ?_
        show Gm p e below T70 m 88 #[rv r0, lv q1, .second, lv q2, .second, iv (1 : Int32), .unset] [(.int (1 : Int32))] _
        refine own_go (fun t₀ k₀ => XS.aloadN X70.here hx rfl (Jvm.hb hby d3_88) rfl rfl k₀) ?_
        show Gm p e below T70 m 89 #[rv r0, lv q1, .second, lv q2, .second, iv (1 : Int32), .unset] [(.ref r0), (.int (1 : Int32))] _
        obtain ⟨T71, X71, e71, st71⟩ := getF X70 hx hZ hown (host := "") (Or.inl (hw _ (List.mem_of_getElem? (i := 21) rfl))) Via.refl e70 F_start (g := (mkF m 89 #[rv r0, lv q1, .second, lv q2, .second, iv (1 : Int32), .unset] [(.ref r0), (.int (1 : Int32))])) rfl rfl (Jvm.hb hby d3_89)
        refine own_go st71 ?_
        show Gm p e below T71 m 92 #[rv r0, lv q1, .second, lv q2, .second, iv (1 : Int32), .unset] [(.int (0 : Int32)), (.int (1 : Int32))] _
        refine own_go (fun t₀ k₀ => XS.isub X71.here hx rfl (Jvm.hb hby d3_92) rfl k₀) ?_
        show Gm p e below T71 m 93 #[rv r0, lv q1, .second, lv q2, .second, iv (1 : Int32), .unset] [(.int (1 : Int32))] _
        refine own_go (fun t₀ k₀ => XS.istore X71.here hx rfl (Jvm.hb hby d3_93) rfl (l' := #[rv r0, lv q1, .second, lv q2, .second, iv (1 : Int32), iv (1 : Int32)]) rfl k₀) ?_
        show Gm p e below T71 m 95 #[rv r0, lv q1, .second, lv q2, .second, iv (1 : Int32), iv (1 : Int32)] [] _
        refine own_go (fun t₀ k₀ => XS.aloadN X71.here hx rfl (Jvm.hb hby d3_95) rfl rfl k₀) ?_
        show Gm p e below T71 m 96 #[rv r0, lv q1, .second, lv q2, .second, iv (1 : Int32), iv (1 : Int32)] [(.ref r0)] _
        refine own_go (fun t₀ k₀ => XS.iconst X71.here hx rfl (Jvm.hb hby d3_96) k₀) ?_
        show Gm p e below T71 m 97 #[rv r0, lv q1, .second, lv q2, .second, iv (1 : Int32), iv (1 : Int32)] [(.int (2 : Int32)), (.ref r0)] _
        refine own_go (fun t₀ k₀ => XS.iconst X71.here hx rfl (Jvm.hb hby d3_97) k₀) ?_
        show Gm p e below T71 m 98 #[rv r0, lv q1, .second, lv q2, .second, iv (1 : Int32), iv (1 : Int32)] [(.int (2 : Int32)), (.int (2 : Int32)), (.ref r0)] _
        refine own_go (fun t₀ k₀ => XS.aloadN X71.here hx rfl (Jvm.hb hby d3_98) rfl rfl k₀) ?_
        show Gm p e below T71 m 99 #[rv r0, lv q1, .second, lv q2, .second, iv (1 : Int32), iv (1 : Int32)] [(.ref r0), (.int (2 : Int32)), (.int (2 : Int32)), (.ref r0)] _
        obtain ⟨T72, X72, e72, st72⟩ := getF X71 hx hZ hown (host := "") (Or.inl (hw _ (List.mem_of_getElem? (i := 19) rfl))) Via.refl e71 F_end (g := (mkF m 99 #[rv r0, lv q1, .second, lv q2, .second, iv (1 : Int32), iv (1 : Int32)] [(.ref r0), (.int (2 : Int32)), (.int (2 : Int32)), (.ref r0)])) rfl rfl (Jvm.hb hby d3_99)
        refine own_go st72 ?_
        show Gm p e below T72 m 102 #[rv r0, lv q1, .second, lv q2, .second, iv (1 : Int32), iv (1 : Int32)] [(.int (2 : Int32)), (.int (2 : Int32)), (.int (2 : Int32)), (.ref r0)] _
        refine own_go (fun t₀ k₀ => XS.aloadN X72.here hx rfl (Jvm.hb hby d3_102) rfl rfl k₀) ?_
        show Gm p e below T72 m 103 #[rv r0, lv q1, .second, lv q2, .second, iv (1 : Int32), iv (1 : Int32)] [(.ref r0), (.int (2 : Int32)), (.int (2 : Int32)), (.int (2 : Int32)), (.ref r0)] _
        obtain ⟨T73, X73, e73, st73⟩ := getF X72 hx hZ hown (host := "") (Or.inl (hw _ (List.mem_of_getElem? (i := 21) rfl))) Via.refl e72 F_start (g := (mkF m 103 #[rv r0, lv q1, .second, lv q2, .second, iv (1 : Int32), iv (1 : Int32)] [(.ref r0), (.int (2 : Int32)), (.int (2 : Int32)), (.int (2 : Int32)), (.ref r0)])) rfl rfl (Jvm.hb hby d3_103)
        refine own_go st73 ?_
        show Gm p e below T73 m 106 #[rv r0, lv q1, .second, lv q2, .second, iv (1 : Int32), iv (1 : Int32)] [(.int (0 : Int32)), (.int (2 : Int32)), (.int (2 : Int32)), (.int (2 : Int32)), (.ref r0)] _
        refine own_go (fun t₀ k₀ => XS.isub X73.here hx rfl (Jvm.hb hby d3_106) rfl k₀) ?_
        show Gm p e below T73 m 107 #[rv r0, lv q1, .second, lv q2, .second, iv (1 : Int32), iv (1 : Int32)] [(.int (2 : Int32)), (.int (2 : Int32)), (.int (2 : Int32)), (.ref r0)] _
        refine own_go (fun t₀ k₀ => XS.imul X73.here hx rfl (Jvm.hb hby d3_107) rfl k₀) ?_
        show Gm p e below T73 m 108 #[rv r0, lv q1, .second, lv q2, .second, iv (1 : Int32), iv (1 : Int32)] [(.int (4 : Int32)), (.int (2 : Int32)), (.ref r0)] _
        obtain ⟨_, _, ⟨T74, L74, k74, n74⟩, -, X74, ⟨Lc74, hQ74, l74, y74, z74⟩, st74⟩ := Jvm.LawKit.callS X73 hx (y := (⟨"java/lang/Math", "max", "(II)I"⟩ : MethodName)) hown (mvT hZ (hw _ (List.mem_of_getElem? (i := 29) rfl))) (mvT hZ (hw _ (List.mem_of_getElem? (i := 30) rfl))) (mvT hZ (hw _ (List.mem_of_getElem? (i := 31) rfl))) (mvT hZ (hw _ (List.mem_of_getElem? (i := 32) rfl))) (by decide) (backOf (W := 1) (rm4 l Z a0 hw [] (2 : Int32) (4 : Int32) h0 n0 Z0) hZ (hw _ (List.mem_of_getElem? (i := 32) rfl)) (hw _ (List.mem_of_getElem? (i := 31) rfl)) (by decide) (by decide)) (g := (mkF m 108 #[rv r0, lv q1, .second, lv q2, .second, iv (1 : Int32), iv (1 : Int32)] [(.int (4 : Int32)), (.int (2 : Int32)), (.ref r0)])) rfl (by rw [hml]; rfl) (argsL := [(.int (2 : Int32)), (.int (4 : Int32))]) (rest := [(.ref r0)]) (lenOf own_pd0 rfl) rfl (by show 2 * 0 + _ ≤ _; exact Nat.le_of_eq rfl) (Jvm.hb hby d3_108) (fun _ _ => ⟨rfl, e73, (by decide : 0 + 0 ≤ _), (by decide : 0 + 0 ≤ _)⟩)
        dsimp only [Pt.U, Pt.locs, Pt.cells, Pt.slots] at X74 l74 y74 z74 st74 hQ74
        subst l74 y74 z74
        obtain ⟨rfl, Nq74, eq74⟩ := hQ74
        have N74 := Fr.app N0 Nq74
        have e74 : T74.heap = h0 := eq74
        refine own_go st74 ?_
        show Gm p e below T74 m 111 #[rv r0, lv q1, .second, lv q2, .second, iv (1 : Int32), iv (1 : Int32)] [(.int (4 : Int32)), (.ref r0)] _
        obtain ⟨cq75, q75, q75'⟩ := E_r0.cell
        obtain ⟨_, _, ⟨T75, L75, k75, n75⟩, -, X75, ⟨Lc75, hQ75, l75, y75, z75⟩, st75⟩ := X74.privateBack hx (y := (⟨"com/example/libbrake/libbrake/AdmissionLog", "moveTo", "(I)V"⟩ : MethodName)) hown (mvT hZ (hw _ (List.mem_of_getElem? (i := 33) rfl))) (mvT hZ (hw _ (List.mem_of_getElem? (i := 34) rfl))) (own_self hZ (hw _ (List.mem_of_getElem? (i := 1) rfl)) (hw _ (List.mem_of_getElem? (i := 35) rfl)) (hw _ (List.mem_of_getElem? (i := 34) rfl)) (by decide)) (Cond.privateMethod_at (mvP hZ (hw _ (List.mem_of_getElem? (i := 35) rfl)) (args := #[]))) (mvT hZ (hw _ (List.mem_of_getElem? (i := 36) rfl))) (by decide) (backOf (W := 0) (rm5 l Z a0 hw [] r0 a k b j P h0 n0 Z0 ⟨ta, ca, _, _, E_r0, F_times, F_counts, F_start, F_end, F_permits, At, Ac, ne_rt, ne_rc, ne_tc, g_ta, g_ca, (Nat.le_of_ble_eq_true rfl), (own_hx2 (s := 0) (ft := ft) (fc := fc) (hxs 0 _ _ rfl).1 (hxs 0 _ _ rfl).2 (hxs 1 _ _ rfl).1 (hxs 1 _ _ rfl).2)⟩ g_r0) hZ (hw _ (List.mem_of_getElem? (i := 36) rfl)) (hw _ (List.mem_of_getElem? (i := 2) rfl)) (by decide) (by decide)) (g := (mkF m 111 #[rv r0, lv q1, .second, lv q2, .second, iv (1 : Int32), iv (1 : Int32)] [(.int (4 : Int32)), (.ref r0)])) rfl (by rw [hml]; rfl) (Steps.refl _) (a := r0) (by rw [e74]; exact q75) q75' (argsL := [(.int (4 : Int32))]) (rest := []) (lenOf own_pd1 rfl) rfl (by show 2 * 0 + _ ≤ _; exact Nat.le_of_eq rfl) (Jvm.hb hby d3_111) (fun _ _ => ⟨rfl, e74, (by decide : 0 + 2 ≤ _), (by decide : 0 + 8 ≤ _)⟩)
        dsimp only [Pt.U, Pt.locs, Pt.cells, Pt.slots] at X75 l75 y75 z75 st75 hQ75
        subst l75 y75 z75
        obtain ⟨rfl, Nq75, hsz75, HL75⟩ := hQ75
        have N75 := Fr.app N74 Nq75
        refine own_go (fun t k => st75.trans k) ?_
        obtain ⟨ta75, ca75, ft75, fc75, E75, Ft75, Fc75, Fs75, Fe75, Fp75, At75, Ac75, nrt75, nrc75, ntc75, g_ta75, g_ca75, hN75, hxs75⟩ := HL75
        have Z75 : n0 ≤ T75.heap.size := Nat.le_trans Z0 hsz75
        have M75 : h0.size ≤ T75.heap.size := Nat.le_trans (Nat.le_refl h0.size) hsz75
        show Gm p e below T75 m 114 #[rv r0, lv q1, .second, lv q2, .second, iv (1 : Int32), iv (1 : Int32)] [] _
        refine own_go (fun t₀ k₀ => XS.iload X75.here hx rfl (Jvm.hb hby d3_114) rfl k₀) ?_
        show Gm p e below T75 m 116 #[rv r0, lv q1, .second, lv q2, .second, iv (1 : Int32), iv (1 : Int32)] [(.int (1 : Int32))] _
        refine own_go (fun t₀ k₀ => XS.istore X75.here hx rfl (Jvm.hb hby d3_116) rfl (l' := #[rv r0, lv q1, .second, lv q2, .second, iv (1 : Int32), iv (1 : Int32)]) rfl k₀) ?_
        show Gm p e below T75 m 118 #[rv r0, lv q1, .second, lv q2, .second, iv (1 : Int32), iv (1 : Int32)] [] _
        refine own_go (fun t₀ k₀ => XS.aloadN X75.here hx rfl (Jvm.hb hby d3_118) rfl rfl k₀) ?_
        show Gm p e below T75 m 119 #[rv r0, lv q1, .second, lv q2, .second, iv (1 : Int32), iv (1 : Int32)] [(.ref r0)] _
        obtain ⟨T76, X76, e76, st76⟩ := getF X75 hx hZ hown (host := "") (Or.inl (hw _ (List.mem_of_getElem? (i := 10) rfl))) Via.refl rfl Ft75 (g := (mkF m 119 #[rv r0, lv q1, .second, lv q2, .second, iv (1 : Int32), iv (1 : Int32)] [(.ref r0)])) rfl rfl (Jvm.hb hby d3_119)
        refine own_go st76 ?_
        show Gm p e below T76 m 122 #[rv r0, lv q1, .second, lv q2, .second, iv (1 : Int32), iv (1 : Int32)] [(.ref ta75)] _
        refine own_go (fun t₀ k₀ => XS.iload X76.here hx rfl (Jvm.hb hby d3_122) rfl k₀) ?_
        show Gm p e below T76 m 124 #[rv r0, lv q1, .second, lv q2, .second, iv (1 : Int32), iv (1 : Int32)] [(.int (1 : Int32)), (.ref ta75)] _
        refine own_go (fun t₀ k₀ => XS.aloadN X76.here hx rfl (Jvm.hb hby d3_124) rfl rfl k₀) ?_
        show Gm p e below T76 m 125 #[rv r0, lv q1, .second, lv q2, .second, iv (1 : Int32), iv (1 : Int32)] [(.ref r0), (.int (1 : Int32)), (.ref ta75)] _
        obtain ⟨T77, X77, e77, st77⟩ := getF X76 hx hZ hown (host := "") (Or.inl (hw _ (List.mem_of_getElem? (i := 10) rfl))) Via.refl e76 Ft75 (g := (mkF m 125 #[rv r0, lv q1, .second, lv q2, .second, iv (1 : Int32), iv (1 : Int32)] [(.ref r0), (.int (1 : Int32)), (.ref ta75)])) rfl rfl (Jvm.hb hby d3_125)
        refine own_go st77 ?_
        show Gm p e below T77 m 128 #[rv r0, lv q1, .second, lv q2, .second, iv (1 : Int32), iv (1 : Int32)] [(.ref ta75), (.int (1 : Int32)), (.ref ta75)] _
        refine own_go (fun t₀ k₀ => XS.iload X77.here hx rfl (Jvm.hb hby d3_128) rfl k₀) ?_
        show Gm p e below T77 m 130 #[rv r0, lv q1, .second, lv q2, .second, iv (1 : Int32), iv (1 : Int32)] [(.int (1 : Int32)), (.ref ta75), (.int (1 : Int32)), (.ref ta75)] _
        refine own_go (fun t₀ k₀ => XS.iconst X77.here hx rfl (Jvm.hb hby d3_130) k₀) ?_
        show Gm p e below T77 m 131 #[rv r0, lv q1, .second, lv q2, .second, iv (1 : Int32), iv (1 : Int32)] [(.int (1 : Int32)), (.int (1 : Int32)), (.ref ta75), (.int (1 : Int32)), (.ref ta75)] _
        refine own_go (fun t₀ k₀ => XS.iadd X77.here hx rfl (Jvm.hb hby d3_131) rfl k₀) ?_
        show Gm p e below T77 m 132 #[rv r0, lv q1, .second, lv q2, .second, iv (1 : Int32), iv (1 : Int32)] [(.int (2 : Int32)), (.ref ta75), (.int (1 : Int32)), (.ref ta75)] _
        refine own_go (fun t₀ k₀ => XS.aloadN X77.here hx rfl (Jvm.hb hby d3_132) rfl rfl k₀) ?_
        show Gm p e below T77 m 133 #[rv r0, lv q1, .second, lv q2, .second, iv (1 : Int32), iv (1 : Int32)] [(.ref r0), (.int (2 : Int32)), (.ref ta75), (.int (1 : Int32)), (.ref ta75)] _
        obtain ⟨T78, X78, e78, st78⟩ := getF X77 hx hZ hown (host := "") (Or.inl (hw _ (List.mem_of_getElem? (i := 19) rfl))) Via.refl e77 Fe75 (g := (mkF m 133 #[rv r0, lv q1, .second, lv q2, .second, iv (1 : Int32), iv (1 : Int32)] [(.ref r0), (.int (2 : Int32)), (.ref ta75), (.int (1 : Int32)), (.ref ta75)])) rfl rfl (Jvm.hb hby d3_133)
        refine own_go st78 ?_
        show Gm p e below T78 m 136 #[rv r0, lv q1, .second, lv q2, .second, iv (1 : Int32), iv (1 : Int32)] [(.int (2 : Int32)), (.int (2 : Int32)), (.ref ta75), (.int (1 : Int32)), (.ref ta75)] _
        refine own_go (fun t₀ k₀ => XS.iload X78.here hx rfl (Jvm.hb hby d3_136) rfl k₀) ?_
        show Gm p e below T78 m 138 #[rv r0, lv q1, .second, lv q2, .second, iv (1 : Int32), iv (1 : Int32)] [(.int (1 : Int32)), (.int (2 : Int32)), (.int (2 : Int32)), (.ref ta75), (.int (1 : Int32)), (.ref ta75)] _
        refine own_go (fun t₀ k₀ => XS.isub X78.here hx rfl (Jvm.hb hby d3_138) rfl k₀) ?_
        show Gm p e below T78 m 139 #[rv r0, lv q1, .second, lv q2, .second, iv (1 : Int32), iv (1 : Int32)] [(.int (1 : Int32)), (.int (2 : Int32)), (.ref ta75), (.int (1 : Int32)), (.ref ta75)] _
        obtain ⟨T79, h79, L79, X79, e79, N79, Kc79, Ac79, st79⟩ := own_cp X78 hx hZ hown (hw _ (List.mem_of_getElem? (i := 23) rfl)) (hw _ (List.mem_of_getElem? (i := 26) rfl)) (hw _ (List.mem_of_getElem? (i := 24) rfl)) (hw _ (List.mem_of_getElem? (i := 25) rfl)) e78 (ks := 1) (kd := 2) (kn := 1) At75 At75 rfl (by decide) (by decide) (by decide) rfl rfl rfl (by decide) (by decide) N75 g_ta75 (g := (mkF m 139 #[rv r0, lv q1, .second, lv q2, .second, iv (1 : Int32), iv (1 : Int32)] [(.int (1 : Int32)), (.int (2 : Int32)), (.ref ta75), (.int (1 : Int32)), (.ref ta75)])) rfl (by rw [hml]; rfl) rfl (Jvm.hb hby d3_139) (by decide) (W := 0) (by show 2 * 0 + _ ≤ _; exact Nat.le_of_eq rfl) (by decide)
        have Z79 : n0 ≤ h79.size := Nat.le_trans Z75 Kc79.1
        have M79 : h0.size ≤ h79.size := Nat.le_trans M75 Kc79.1
        refine own_go st79 ?_
        show Gm p e below T79 m 142 #[rv r0, lv q1, .second, lv q2, .second, iv (1 : Int32), iv (1 : Int32)] [] _
        refine own_go (fun t₀ k₀ => XS.aloadN X79.here hx rfl (Jvm.hb hby d3_142) rfl rfl k₀) ?_
        show Gm p e below T79 m 143 #[rv r0, lv q1, .second, lv q2, .second, iv (1 : Int32), iv (1 : Int32)] [(.ref r0)] _
        have f80 := (Fc75.keep Kc79 (ninS nrt75 nin0))
        obtain ⟨T81, X81, e81, st81⟩ := getF X79 hx hZ hown (host := "") (Or.inl (hw _ (List.mem_of_getElem? (i := 12) rfl))) Via.refl e79 f80 (g := (mkF m 143 #[rv r0, lv q1, .second, lv q2, .second, iv (1 : Int32), iv (1 : Int32)] [(.ref r0)])) rfl rfl (Jvm.hb hby d3_143)
        refine own_go st81 ?_
        show Gm p e below T81 m 146 #[rv r0, lv q1, .second, lv q2, .second, iv (1 : Int32), iv (1 : Int32)] [(.ref ca75)] _
        refine own_go (fun t₀ k₀ => XS.iload X81.here hx rfl (Jvm.hb hby d3_146) rfl k₀) ?_
        show Gm p e below T81 m 148 #[rv r0, lv q1, .second, lv q2, .second, iv (1 : Int32), iv (1 : Int32)] [(.int (1 : Int32)), (.ref ca75)] _
        refine own_go (fun t₀ k₀ => XS.aloadN X81.here hx rfl (Jvm.hb hby d3_148) rfl rfl k₀) ?_
        show Gm p e below T81 m 149 #[rv r0, lv q1, .second, lv q2, .second, iv (1 : Int32), iv (1 : Int32)] [(.ref r0), (.int (1 : Int32)), (.ref ca75)] _
        obtain ⟨T82, X82, e82, st82⟩ := getF X81 hx hZ hown (host := "") (Or.inl (hw _ (List.mem_of_getElem? (i := 12) rfl))) Via.refl e81 f80 (g := (mkF m 149 #[rv r0, lv q1, .second, lv q2, .second, iv (1 : Int32), iv (1 : Int32)] [(.ref r0), (.int (1 : Int32)), (.ref ca75)])) rfl rfl (Jvm.hb hby d3_149)
        refine own_go st82 ?_
        show Gm p e below T82 m 152 #[rv r0, lv q1, .second, lv q2, .second, iv (1 : Int32), iv (1 : Int32)] [(.ref ca75), (.int (1 : Int32)), (.ref ca75)] _
        refine own_go (fun t₀ k₀ => XS.iload X82.here hx rfl (Jvm.hb hby d3_152) rfl k₀) ?_
        show Gm p e below T82 m 154 #[rv r0, lv q1, .second, lv q2, .second, iv (1 : Int32), iv (1 : Int32)] [(.int (1 : Int32)), (.ref ca75), (.int (1 : Int32)), (.ref ca75)] _
        refine own_go (fun t₀ k₀ => XS.iconst X82.here hx rfl (Jvm.hb hby d3_154) k₀) ?_
        show Gm p e below T82 m 155 #[rv r0, lv q1, .second, lv q2, .second, iv (1 : Int32), iv (1 : Int32)] [(.int (1 : Int32)), (.int (1 : Int32)), (.ref ca75), (.int (1 : Int32)), (.ref ca75)] _
        refine own_go (fun t₀ k₀ => XS.iadd X82.here hx rfl (Jvm.hb hby d3_155) rfl k₀) ?_
        show Gm p e below T82 m 156 #[rv r0, lv q1, .second, lv q2, .second, iv (1 : Int32), iv (1 : Int32)] [(.int (2 : Int32)), (.ref ca75), (.int (1 : Int32)), (.ref ca75)] _
        refine own_go (fun t₀ k₀ => XS.aloadN X82.here hx rfl (Jvm.hb hby d3_156) rfl rfl k₀) ?_
        show Gm p e below T82 m 157 #[rv r0, lv q1, .second, lv q2, .second, iv (1 : Int32), iv (1 : Int32)] [(.ref r0), (.int (2 : Int32)), (.ref ca75), (.int (1 : Int32)), (.ref ca75)] _
        have f83 := (Fe75.keep Kc79 (ninS nrt75 nin0))
        obtain ⟨T84, X84, e84, st84⟩ := getF X82 hx hZ hown (host := "") (Or.inl (hw _ (List.mem_of_getElem? (i := 19) rfl))) Via.refl e82 f83 (g := (mkF m 157 #[rv r0, lv q1, .second, lv q2, .second, iv (1 : Int32), iv (1 : Int32)] [(.ref r0), (.int (2 : Int32)), (.ref ca75), (.int (1 : Int32)), (.ref ca75)])) rfl rfl (Jvm.hb hby d3_157)
        refine own_go st84 ?_
        show Gm p e below T84 m 160 #[rv r0, lv q1, .second, lv q2, .second, iv (1 : Int32), iv (1 : Int32)] [(.int (2 : Int32)), (.int (2 : Int32)), (.ref ca75), (.int (1 : Int32)), (.ref ca75)] _
        refine own_go (fun t₀ k₀ => XS.iload X84.here hx rfl (Jvm.hb hby d3_160) rfl k₀) ?_
        show Gm p e below T84 m 162 #[rv r0, lv q1, .second, lv q2, .second, iv (1 : Int32), iv (1 : Int32)] [(.int (1 : Int32)), (.int (2 : Int32)), (.int (2 : Int32)), (.ref ca75), (.int (1 : Int32)), (.ref ca75)] _
        refine own_go (fun t₀ k₀ => XS.isub X84.here hx rfl (Jvm.hb hby d3_162) rfl k₀) ?_
        show Gm p e below T84 m 163 #[rv r0, lv q1, .second, lv q2, .second, iv (1 : Int32), iv (1 : Int32)] [(.int (1 : Int32)), (.int (2 : Int32)), (.ref ca75), (.int (1 : Int32)), (.ref ca75)] _
        have f85 := (Ac75.keep Kc79 (ninS (Ne.symm ntc75) nin0))
        obtain ⟨T86, h86, L86, X86, e86, N86, Kc86, Ac86, st86⟩ := own_cp X84 hx hZ hown (hw _ (List.mem_of_getElem? (i := 23) rfl)) (hw _ (List.mem_of_getElem? (i := 26) rfl)) (hw _ (List.mem_of_getElem? (i := 24) rfl)) (hw _ (List.mem_of_getElem? (i := 25) rfl)) e84 (ks := 1) (kd := 2) (kn := 1) f85 f85 rfl (by decide) (by decide) (by decide) rfl rfl rfl (by decide) (by decide) N79 g_ca75 (g := (mkF m 163 #[rv r0, lv q1, .second, lv q2, .second, iv (1 : Int32), iv (1 : Int32)] [(.int (1 : Int32)), (.int (2 : Int32)), (.ref ca75), (.int (1 : Int32)), (.ref ca75)])) rfl (by rw [hml]; rfl) rfl (Jvm.hb hby d3_163) (by decide) (W := 0) (by show 2 * 0 + _ ≤ _; exact Nat.le_of_eq rfl) (by decide)
        have Z86 : n0 ≤ h86.size := Nat.le_trans Z79 Kc86.1
        have M86 : h0.size ≤ h86.size := Nat.le_trans M79 Kc86.1
        refine own_go st86 ?_
        show Gm p e below T86 m 166 #[rv r0, lv q1, .second, lv q2, .second, iv (1 : Int32), iv (1 : Int32)] [] _
        refine own_go (fun t₀ k₀ => XS.aloadN X86.here hx rfl (Jvm.hb hby d3_166) rfl rfl k₀) ?_
        show Gm p e below T86 m 167 #[rv r0, lv q1, .second, lv q2, .second, iv (1 : Int32), iv (1 : Int32)] [(.ref r0)] _
        have f87 := ((Ft75.keep Kc79 (ninS nrt75 nin0)).keep Kc86 (ninS nrc75 nin0))
        obtain ⟨T88, X88, e88, st88⟩ := getF X86 hx hZ hown (host := "") (Or.inl (hw _ (List.mem_of_getElem? (i := 10) rfl))) Via.refl e86 f87 (g := (mkF m 167 #[rv r0, lv q1, .second, lv q2, .second, iv (1 : Int32), iv (1 : Int32)] [(.ref r0)])) rfl rfl (Jvm.hb hby d3_167)
        refine own_go st88 ?_
        show Gm p e below T88 m 170 #[rv r0, lv q1, .second, lv q2, .second, iv (1 : Int32), iv (1 : Int32)] [(.ref ta75)] _
        refine own_go (fun t₀ k₀ => XS.iload X88.here hx rfl (Jvm.hb hby d3_170) rfl k₀) ?_
        show Gm p e below T88 m 172 #[rv r0, lv q1, .second, lv q2, .second, iv (1 : Int32), iv (1 : Int32)] [(.int (1 : Int32)), (.ref ta75)] _
        refine own_go (fun t₀ k₀ => XS.lloadN X88.here hx rfl (Jvm.hb hby d3_172) rfl k₀) ?_
        show Gm p e below T88 m 173 #[rv r0, lv q1, .second, lv q2, .second, iv (1 : Int32), iv (1 : Int32)] [(.long q1), (.int (1 : Int32)), (.ref ta75)] _
        have f89 := (Ac79.keep Kc86 (ninS ntc75 nin0))
        obtain ⟨T90, h90, X90, e90, W90, A90, st90⟩ := own_stJ X88 hx hZ e88 f89 (j := (1 : Int32)) (k := 1) (by decide) rfl (by decide) (g := (mkF m 173 #[rv r0, lv q1, .second, lv q2, .second, iv (1 : Int32), iv (1 : Int32)] [(.long q1), (.int (1 : Int32)), (.ref ta75)])) rfl rfl (Jvm.hb hby d3_173)
        have N90 := Fr.snoc X90 N86 g_ta75
        have Z90 : n0 ≤ h90.size := W90.size ▸ Z86
        have M90 : h0.size ≤ h90.size := W90.size ▸ M86
        refine own_go st90 ?_
        show Gm p e below T90 m 174 #[rv r0, lv q1, .second, lv q2, .second, iv (1 : Int32), iv (1 : Int32)] [] _
        refine own_go (fun t₀ k₀ => XS.aloadN X90.here hx rfl (Jvm.hb hby d3_174) rfl rfl k₀) ?_
        show Gm p e below T90 m 175 #[rv r0, lv q1, .second, lv q2, .second, iv (1 : Int32), iv (1 : Int32)] [(.ref r0)] _
        have f91 := (Fld.other W90 (f80.keep Kc86 (ninS nrc75 nin0)) (Or.inl nrt75))
        obtain ⟨T92, X92, e92, st92⟩ := getF X90 hx hZ hown (host := "") (Or.inl (hw _ (List.mem_of_getElem? (i := 12) rfl))) Via.refl e90 f91 (g := (mkF m 175 #[rv r0, lv q1, .second, lv q2, .second, iv (1 : Int32), iv (1 : Int32)] [(.ref r0)])) rfl rfl (Jvm.hb hby d3_175)
        refine own_go st92 ?_
        show Gm p e below T92 m 178 #[rv r0, lv q1, .second, lv q2, .second, iv (1 : Int32), iv (1 : Int32)] [(.ref ca75)] _
        refine own_go (fun t₀ k₀ => XS.iload X92.here hx rfl (Jvm.hb hby d3_178) rfl k₀) ?_
        show Gm p e below T92 m 180 #[rv r0, lv q1, .second, lv q2, .second, iv (1 : Int32), iv (1 : Int32)] [(.int (1 : Int32)), (.ref ca75)] _
        refine own_go (fun t₀ k₀ => XS.lloadN X92.here hx rfl (Jvm.hb hby d3_180) rfl k₀) ?_
        show Gm p e below T92 m 181 #[rv r0, lv q1, .second, lv q2, .second, iv (1 : Int32), iv (1 : Int32)] [(.long q2), (.int (1 : Int32)), (.ref ca75)] _
        have f93 := (Ac86.other W90 (Ne.symm ntc75))
        obtain ⟨T94, h94, X94, e94, W94, A94, st94⟩ := own_stJ X92 hx hZ e92 f93 (j := (1 : Int32)) (k := 1) (by decide) rfl (by decide) (g := (mkF m 181 #[rv r0, lv q1, .second, lv q2, .second, iv (1 : Int32), iv (1 : Int32)] [(.long q2), (.int (1 : Int32)), (.ref ca75)])) rfl rfl (Jvm.hb hby d3_181)
        have N94 := Fr.snoc X94 N90 g_ca75
        have Z94 : n0 ≤ h94.size := W94.size ▸ Z90
        have M94 : h0.size ≤ h94.size := W94.size ▸ M90
        refine own_go st94 ?_
        show Gm p e below T94 m 182 #[rv r0, lv q1, .second, lv q2, .second, iv (1 : Int32), iv (1 : Int32)] [] _
        refine own_go (fun t₀ k₀ => XS.aloadN X94.here hx rfl (Jvm.hb hby d3_182) rfl rfl k₀) ?_
        show Gm p e below T94 m 183 #[rv r0, lv q1, .second, lv q2, .second, iv (1 : Int32), iv (1 : Int32)] [(.ref r0)] _
        refine own_go (fun t₀ k₀ => XS.dup X94.here hx rfl (Jvm.hb hby d3_183) rfl rfl k₀) ?_
        show Gm p e below T94 m 184 #[rv r0, lv q1, .second, lv q2, .second, iv (1 : Int32), iv (1 : Int32)] [(.ref r0), (.ref r0)] _
        have f95 := (Fld.other W94 (Fld.other W90 (f83.keep Kc86 (ninS nrc75 nin0)) (Or.inl nrt75)) (Or.inl nrc75))
        obtain ⟨T96, X96, e96, st96⟩ := getF X94 hx hZ hown (host := "") (Or.inl (hw _ (List.mem_of_getElem? (i := 19) rfl))) Via.refl e94 f95 (g := (mkF m 184 #[rv r0, lv q1, .second, lv q2, .second, iv (1 : Int32), iv (1 : Int32)] [(.ref r0), (.ref r0)])) rfl rfl (Jvm.hb hby d3_184)
        refine own_go st96 ?_
        show Gm p e below T96 m 187 #[rv r0, lv q1, .second, lv q2, .second, iv (1 : Int32), iv (1 : Int32)] [(.int (2 : Int32)), (.ref r0)] _
        refine own_go (fun t₀ k₀ => XS.iconst X96.here hx rfl (Jvm.hb hby d3_187) k₀) ?_
        show Gm p e below T96 m 188 #[rv r0, lv q1, .second, lv q2, .second, iv (1 : Int32), iv (1 : Int32)] [(.int (1 : Int32)), (.int (2 : Int32)), (.ref r0)] _
        refine own_go (fun t₀ k₀ => XS.iadd X96.here hx rfl (Jvm.hb hby d3_188) rfl k₀) ?_
        show Gm p e below T96 m 189 #[rv r0, lv q1, .second, lv q2, .second, iv (1 : Int32), iv (1 : Int32)] [(.int (3 : Int32)), (.ref r0)] _
        have f97 := ((((E75.keep Kc79).keep Kc86).wr W90).wr W94)
        obtain ⟨T98, h98, X98, e98, W98, st98⟩ := putF X96 hx hZ hown (host := "") (Or.inl (hw _ (List.mem_of_getElem? (i := 19) rfl))) Via.refl e96 f95 f97 (Or.inl (hw _ (List.mem_of_getElem? (i := 20) rfl))) (hw _ (List.mem_of_getElem? (i := 1) rfl)) (ty := .int) (by decide) rfl rfl (g := (mkF m 189 #[rv r0, lv q1, .second, lv q2, .second, iv (1 : Int32), iv (1 : Int32)] [(.int (3 : Int32)), (.ref r0)])) rfl rfl (Jvm.hb hby d3_189)
        have Fw98 := Fld.same W98 f95
        have N98 := Fr.snoc X98 N94 g_r0
        have Z98 : n0 ≤ h98.size := W98.size ▸ Z94
        have M98 : h0.size ≤ h98.size := W98.size ▸ M94
        refine own_go st98 ?_
        show Gm p e below T98 m 192 #[rv r0, lv q1, .second, lv q2, .second, iv (1 : Int32), iv (1 : Int32)] [] _
        refine own_go (fun t₀ k₀ => XS.aloadN X98.here hx rfl (Jvm.hb hby d3_192) rfl rfl k₀) ?_
        show Gm p e below T98 m 193 #[rv r0, lv q1, .second, lv q2, .second, iv (1 : Int32), iv (1 : Int32)] [(.ref r0)] _
        refine own_go (fun t₀ k₀ => XS.dup X98.here hx rfl (Jvm.hb hby d3_193) rfl rfl k₀) ?_
        show Gm p e below T98 m 194 #[rv r0, lv q1, .second, lv q2, .second, iv (1 : Int32), iv (1 : Int32)] [(.ref r0), (.ref r0)] _
        have f99 := (Fld.other W98 (Fld.other W94 (Fld.other W90 ((Fp75.keep Kc79 (ninS nrt75 nin0)).keep Kc86 (ninS nrc75 nin0)) (Or.inl nrt75)) (Or.inl nrc75)) (Or.inr (slot_ne (Or.inl (hw _ (List.mem_of_getElem? (i := 28) rfl))) (Or.inl (hw _ (List.mem_of_getElem? (i := 20) rfl))) (by decide) (t := .long) (t' := .int) (by decide) (by decide))))
        obtain ⟨T100, X100, e100, st100⟩ := getF X98 hx hZ hown (host := "") (Or.inl (hw _ (List.mem_of_getElem? (i := 27) rfl))) Via.refl e98 f99 (g := (mkF m 194 #[rv r0, lv q1, .second, lv q2, .second, iv (1 : Int32), iv (1 : Int32)] [(.ref r0), (.ref r0)])) rfl rfl (Jvm.hb hby d3_194)
        refine own_go st100 ?_
        show Gm p e below T100 m 197 #[rv r0, lv q1, .second, lv q2, .second, iv (1 : Int32), iv (1 : Int32)] [(.long P), (.ref r0)] _
        refine own_go (fun t₀ k₀ => XS.lloadN X100.here hx rfl (Jvm.hb hby d3_197) rfl k₀) ?_
        show Gm p e below T100 m 198 #[rv r0, lv q1, .second, lv q2, .second, iv (1 : Int32), iv (1 : Int32)] [(.long q2), (.long P), (.ref r0)] _
        refine own_go (fun t₀ k₀ => XS.ladd X100.here hx rfl (Jvm.hb hby d3_198) rfl k₀) ?_
        show Gm p e below T100 m 199 #[rv r0, lv q1, .second, lv q2, .second, iv (1 : Int32), iv (1 : Int32)] [(.long (P + q2)), (.ref r0)] _
        have f101 := (f97.wr W98)
        obtain ⟨T102, h102, X102, e102, W102, st102⟩ := putF X100 hx hZ hown (host := "") (Or.inl (hw _ (List.mem_of_getElem? (i := 27) rfl))) Via.refl e100 f99 f101 (Or.inl (hw _ (List.mem_of_getElem? (i := 28) rfl))) (hw _ (List.mem_of_getElem? (i := 1) rfl)) (ty := .long) (by decide) rfl rfl (g := (mkF m 199 #[rv r0, lv q1, .second, lv q2, .second, iv (1 : Int32), iv (1 : Int32)] [(.long (P + q2)), (.ref r0)])) rfl rfl (Jvm.hb hby d3_199)
        have Fw102 := Fld.same W102 f99
        have N102 := Fr.snoc X102 N98 g_r0
        have Z102 : n0 ≤ h102.size := W102.size ▸ Z98
        have M102 : h0.size ≤ h102.size := W102.size ▸ M98
        refine own_go st102 ?_
        show Gm p e below T102 m 202 #[rv r0, lv q1, .second, lv q2, .second, iv (1 : Int32), iv (1 : Int32)] [] _
        have f103 := (((A90.other W94 ntc75).other W98 (Ne.symm nrt75)).other W102 (Ne.symm nrt75))
        have f104 := ((A94.other W98 (Ne.symm nrc75)).other W102 (Ne.symm nrc75))
        have f105 := (f101.wr W102)
        have f106 := (Fld.other W102 (Fld.other W98 (Fld.other W94 (Fld.other W90 f87 (Or.inl nrt75)) (Or.inl nrc75)) (Or.inr (slot_ne (Or.inl (hw _ (List.mem_of_getElem? (i := 11) rfl))) (Or.inl (hw _ (List.mem_of_getElem? (i := 20) rfl))) (by decide) (t := (.array .long)) (t' := .int) (by decide) (by decide)))) (Or.inr (slot_ne (Or.inl (hw _ (List.mem_of_getElem? (i := 11) rfl))) (Or.inl (hw _ (List.mem_of_getElem? (i := 28) rfl))) (by decide) (t := (.array .long)) (t' := .long) (by decide) (by decide))))
        have f107 := (Fld.other W102 (Fld.other W98 (Fld.other W94 f91 (Or.inl nrc75)) (Or.inr (slot_ne (Or.inl (hw _ (List.mem_of_getElem? (i := 13) rfl))) (Or.inl (hw _ (List.mem_of_getElem? (i := 20) rfl))) (by decide) (t := (.array .long)) (t' := .int) (by decide) (by decide)))) (Or.inr (slot_ne (Or.inl (hw _ (List.mem_of_getElem? (i := 13) rfl))) (Or.inl (hw _ (List.mem_of_getElem? (i := 28) rfl))) (by decide) (t := (.array .long)) (t' := .long) (by decide) (by decide))))
        have f108 := (Fld.other W102 (Fld.other W98 (Fld.other W94 (Fld.other W90 ((Fs75.keep Kc79 (ninS nrt75 nin0)).keep Kc86 (ninS nrc75 nin0)) (Or.inl nrt75)) (Or.inl nrc75)) (Or.inr (slot_ne (Or.inl (hw _ (List.mem_of_getElem? (i := 22) rfl))) (Or.inl (hw _ (List.mem_of_getElem? (i := 20) rfl))) (by decide) (t := .int) (t' := .int) (by decide) (by decide)))) (Or.inr (slot_ne (Or.inl (hw _ (List.mem_of_getElem? (i := 22) rfl))) (Or.inl (hw _ (List.mem_of_getElem? (i := 28) rfl))) (by decide) (t := .int) (t' := .long) (by decide) (by decide))))
        have f109 := (Fld.other W102 Fw98 (Or.inr (slot_ne (Or.inl (hw _ (List.mem_of_getElem? (i := 20) rfl))) (Or.inl (hw _ (List.mem_of_getElem? (i := 28) rfl))) (by decide) (t := .int) (t' := .long) (by decide) (by decide))))
        have q110 : LL Z h102 n0 r0 4 0 [(a, k), (q1, q2), (b, j)] (P + q2) := ⟨ta75, ca75, _, _, f105, f106, f107, f108, f109, Fw102, f103, f104, nrt75, nrc75, ntc75, g_ta75, g_ca75, (Nat.le_of_ble_eq_true rfl), (own_hx3 (s := 0) (ft := (fun i => if i = 1 then (.long q1) else (fun i => if 2 ≤ i ∧ i < 2 + 1 then ft75 (1 + (i - 2)) else ft75 i) i)) (fc := (fun i => if i = 1 then (.long q2) else (fun i => if 2 ≤ i ∧ i < 2 + 1 then fc75 (1 + (i - 2)) else fc75 i) i)) (hxs75 0 _ _ rfl).1 (hxs75 0 _ _ rfl).2 rfl rfl (hxs75 1 _ _ rfl).1 (hxs75 1 _ _ rfl).2)⟩
        rw [← ins2c c7 c54 c4] at q110
        exact own_retV X102 hx hlk Bd.returns (Jvm.hb hby d3_202) e102 ⟨rfl, N102, M102, 4, q110, fun q => absurd q (by simp)⟩ (by decide) (by decide)
  · have hfork := trivial
    refine own_go (fun t₀ k₀ => XS.ifYes X3.here hx rfl (pc0 := 26) (pc' := 35) rfl (Jvm.hb hby d3_26) rfl (XT.ll_le_t c4) (by decide) (by decide) k₀) ?_
    show Gm p e below T3 m 35 #[rv r0, lv q1, .second, lv q2, .second, iv (2 : Int32), .unset] [] _
    refine own_go (fun t₀ k₀ => XS.iload X3.here hx rfl (Jvm.hb hby d3_35) rfl k₀) ?_
    show Gm p e below T3 m 37 #[rv r0, lv q1, .second, lv q2, .second, iv (2 : Int32), .unset] [(.int (2 : Int32))] _
    refine own_go (fun t₀ k₀ => XS.aloadN X3.here hx rfl (Jvm.hb hby d3_37) rfl rfl k₀) ?_
    show Gm p e below T3 m 38 #[rv r0, lv q1, .second, lv q2, .second, iv (2 : Int32), .unset] [(.ref r0), (.int (2 : Int32))] _
    obtain ⟨T111, X111, e111, st111⟩ := getF X3 hx hZ hown (host := "") (Or.inl (hw _ (List.mem_of_getElem? (i := 21) rfl))) Via.refl e3 F_start (g := (mkF m 38 #[rv r0, lv q1, .second, lv q2, .second, iv (2 : Int32), .unset] [(.ref r0), (.int (2 : Int32))])) rfl rfl (Jvm.hb hby d3_38)
    refine own_go st111 ?_
    show Gm p e below T111 m 41 #[rv r0, lv q1, .second, lv q2, .second, iv (2 : Int32), .unset] [(.int (0 : Int32)), (.int (2 : Int32))] _
    refine own_go (fun t₀ k₀ => XS.icmpNo X111.here hx rfl (Jvm.hb hby d3_41) rfl (XT.ii_le_f (by decide)) k₀) ?_
    show Gm p e below T111 m 44 #[rv r0, lv q1, .second, lv q2, .second, iv (2 : Int32), .unset] [] _
    refine own_go (fun t₀ k₀ => XS.aloadN X111.here hx rfl (Jvm.hb hby d3_44) rfl rfl k₀) ?_
    show Gm p e below T111 m 45 #[rv r0, lv q1, .second, lv q2, .second, iv (2 : Int32), .unset] [(.ref r0)] _
    obtain ⟨T112, X112, e112, st112⟩ := getF X111 hx hZ hown (host := "") (Or.inl (hw _ (List.mem_of_getElem? (i := 10) rfl))) Via.refl e111 F_times (g := (mkF m 45 #[rv r0, lv q1, .second, lv q2, .second, iv (2 : Int32), .unset] [(.ref r0)])) rfl rfl (Jvm.hb hby d3_45)
    refine own_go st112 ?_
    show Gm p e below T112 m 48 #[rv r0, lv q1, .second, lv q2, .second, iv (2 : Int32), .unset] [(.ref ta)] _
    refine own_go (fun t₀ k₀ => XS.iload X112.here hx rfl (Jvm.hb hby d3_48) rfl k₀) ?_
    show Gm p e below T112 m 50 #[rv r0, lv q1, .second, lv q2, .second, iv (2 : Int32), .unset] [(.int (2 : Int32)), (.ref ta)] _
    refine own_go (fun t₀ k₀ => XS.iconst X112.here hx rfl (Jvm.hb hby d3_50) k₀) ?_
    show Gm p e below T112 m 51 #[rv r0, lv q1, .second, lv q2, .second, iv (2 : Int32), .unset] [(.int (1 : Int32)), (.int (2 : Int32)), (.ref ta)] _
    refine own_go (fun t₀ k₀ => XS.isub X112.here hx rfl (Jvm.hb hby d3_51) rfl k₀) ?_
    show Gm p e below T112 m 52 #[rv r0, lv q1, .second, lv q2, .second, iv (2 : Int32), .unset] [(.int (1 : Int32)), (.ref ta)] _
    refine own_go (fun t₀ k₀ => own_ldJ X112 hx hZ e112 At (j := (1 : Int32)) (k := 1) (by decide) rfl (by decide) (w := (.long b)) (hxs 1 _ _ rfl).1 (g := (mkF m 52 #[rv r0, lv q1, .second, lv q2, .second, iv (2 : Int32), .unset] [(.int (1 : Int32)), (.ref ta)])) rfl rfl (Jvm.hb hby d3_52) k₀) ?_
    show Gm p e below T112 m 53 #[rv r0, lv q1, .second, lv q2, .second, iv (2 : Int32), .unset] [(.long b)] _
    refine own_go (fun t₀ k₀ => XS.lloadN X112.here hx rfl (Jvm.hb hby d3_53) rfl k₀) ?_
    show Gm p e below T112 m 54 #[rv r0, lv q1, .second, lv q2, .second, iv (2 : Int32), .unset] [(.long q1), (.long b)] _
    refine own_go (fun t₀ k₀ => XT.lcmp X112.here hx rfl (Jvm.hb hby d3_54) rfl k₀) ?_
    show Gm p e below T112 m 55 #[rv r0, lv q1, .second, lv q2, .second, iv (2 : Int32), .unset] [(.int (XT.cmpL b q1))] _
    by_cases c113 : b = q1
    · have hfork := trivial
      refine own_go (fun t₀ k₀ => XS.ifNo X112.here hx rfl (Jvm.hb hby d3_55) rfl (XT.ll_ne_f c113) k₀) ?_
      show Gm p e below T112 m 58 #[rv r0, lv q1, .second, lv q2, .second, iv (2 : Int32), .unset] [] _
      refine own_go (fun t₀ k₀ => XS.aloadN X112.here hx rfl (Jvm.hb hby d3_58) rfl rfl k₀) ?_
      show Gm p e below T112 m 59 #[rv r0, lv q1, .second, lv q2, .second, iv (2 : Int32), .unset] [(.ref r0)] _
      obtain ⟨T114, X114, e114, st114⟩ := getF X112 hx hZ hown (host := "") (Or.inl (hw _ (List.mem_of_getElem? (i := 12) rfl))) Via.refl e112 F_counts (g := (mkF m 59 #[rv r0, lv q1, .second, lv q2, .second, iv (2 : Int32), .unset] [(.ref r0)])) rfl rfl (Jvm.hb hby d3_59)
      refine own_go st114 ?_
      show Gm p e below T114 m 62 #[rv r0, lv q1, .second, lv q2, .second, iv (2 : Int32), .unset] [(.ref ca)] _
      refine own_go (fun t₀ k₀ => XS.iload X114.here hx rfl (Jvm.hb hby d3_62) rfl k₀) ?_
      show Gm p e below T114 m 64 #[rv r0, lv q1, .second, lv q2, .second, iv (2 : Int32), .unset] [(.int (2 : Int32)), (.ref ca)] _
      refine own_go (fun t₀ k₀ => XS.iconst X114.here hx rfl (Jvm.hb hby d3_64) k₀) ?_
      show Gm p e below T114 m 65 #[rv r0, lv q1, .second, lv q2, .second, iv (2 : Int32), .unset] [(.int (1 : Int32)), (.int (2 : Int32)), (.ref ca)] _
      refine own_go (fun t₀ k₀ => XS.isub X114.here hx rfl (Jvm.hb hby d3_65) rfl k₀) ?_
      show Gm p e below T114 m 66 #[rv r0, lv q1, .second, lv q2, .second, iv (2 : Int32), .unset] [(.int (1 : Int32)), (.ref ca)] _
      refine own_go (fun t₀ k₀ => XT.dup2 X114.here hx rfl (Jvm.hb hby d3_66) rfl rfl rfl k₀) ?_
      show Gm p e below T114 m 67 #[rv r0, lv q1, .second, lv q2, .second, iv (2 : Int32), .unset] [(.int (1 : Int32)), (.ref ca), (.int (1 : Int32)), (.ref ca)] _
      refine own_go (fun t₀ k₀ => own_ldJ X114 hx hZ e114 Ac (j := (1 : Int32)) (k := 1) (by decide) rfl (by decide) (w := (.long j)) (hxs 1 _ _ rfl).2 (g := (mkF m 67 #[rv r0, lv q1, .second, lv q2, .second, iv (2 : Int32), .unset] [(.int (1 : Int32)), (.ref ca), (.int (1 : Int32)), (.ref ca)])) rfl rfl (Jvm.hb hby d3_67) k₀) ?_
      show Gm p e below T114 m 68 #[rv r0, lv q1, .second, lv q2, .second, iv (2 : Int32), .unset] [(.long j), (.int (1 : Int32)), (.ref ca)] _
      refine own_go (fun t₀ k₀ => XS.lloadN X114.here hx rfl (Jvm.hb hby d3_68) rfl k₀) ?_
      show Gm p e below T114 m 69 #[rv r0, lv q1, .second, lv q2, .second, iv (2 : Int32), .unset] [(.long q2), (.long j), (.int (1 : Int32)), (.ref ca)] _
      refine own_go (fun t₀ k₀ => XS.ladd X114.here hx rfl (Jvm.hb hby d3_69) rfl k₀) ?_
      show Gm p e below T114 m 70 #[rv r0, lv q1, .second, lv q2, .second, iv (2 : Int32), .unset] [(.long (j + q2)), (.int (1 : Int32)), (.ref ca)] _
      obtain ⟨T115, h115, X115, e115, W115, A115, st115⟩ := own_stJ X114 hx hZ e114 Ac (j := (1 : Int32)) (k := 1) (by decide) rfl (by decide) (g := (mkF m 70 #[rv r0, lv q1, .second, lv q2, .second, iv (2 : Int32), .unset] [(.long (j + q2)), (.int (1 : Int32)), (.ref ca)])) rfl rfl (Jvm.hb hby d3_70)
      have N115 := Fr.snoc X115 N0 g_ca
      have Z115 : n0 ≤ h115.size := W115.size ▸ Z0
      have M115 : h0.size ≤ h115.size := W115.size ▸ (Nat.le_refl h0.size)
      refine own_go st115 ?_
      show Gm p e below T115 m 71 #[rv r0, lv q1, .second, lv q2, .second, iv (2 : Int32), .unset] [] _
      refine own_go (fun t₀ k₀ => XS.goto X115.here hx rfl (pc0 := 71) (pc' := 192) rfl (Jvm.hb hby d3_71) (by decide) (by decide) k₀) ?_
      show Gm p e below T115 m 192 #[rv r0, lv q1, .second, lv q2, .second, iv (2 : Int32), .unset] [] _
      refine own_go (fun t₀ k₀ => XS.aloadN X115.here hx rfl (Jvm.hb hby d3_192) rfl rfl k₀) ?_
      show Gm p e below T115 m 193 #[rv r0, lv q1, .second, lv q2, .second, iv (2 : Int32), .unset] [(.ref r0)] _
      refine own_go (fun t₀ k₀ => XS.dup X115.here hx rfl (Jvm.hb hby d3_193) rfl rfl k₀) ?_
      show Gm p e below T115 m 194 #[rv r0, lv q1, .second, lv q2, .second, iv (2 : Int32), .unset] [(.ref r0), (.ref r0)] _
      have f116 := (Fld.other W115 F_permits (Or.inl ne_rc))
      obtain ⟨T117, X117, e117, st117⟩ := getF X115 hx hZ hown (host := "") (Or.inl (hw _ (List.mem_of_getElem? (i := 27) rfl))) Via.refl e115 f116 (g := (mkF m 194 #[rv r0, lv q1, .second, lv q2, .second, iv (2 : Int32), .unset] [(.ref r0), (.ref r0)])) rfl rfl (Jvm.hb hby d3_194)
      refine own_go st117 ?_
      show Gm p e below T117 m 197 #[rv r0, lv q1, .second, lv q2, .second, iv (2 : Int32), .unset] [(.long P), (.ref r0)] _
      refine own_go (fun t₀ k₀ => XS.lloadN X117.here hx rfl (Jvm.hb hby d3_197) rfl k₀) ?_
      show Gm p e below T117 m 198 #[rv r0, lv q1, .second, lv q2, .second, iv (2 : Int32), .unset] [(.long q2), (.long P), (.ref r0)] _
      refine own_go (fun t₀ k₀ => XS.ladd X117.here hx rfl (Jvm.hb hby d3_198) rfl k₀) ?_
      show Gm p e below T117 m 199 #[rv r0, lv q1, .second, lv q2, .second, iv (2 : Int32), .unset] [(.long (P + q2)), (.ref r0)] _
      have f118 := (E_r0.wr W115)
      obtain ⟨T119, h119, X119, e119, W119, st119⟩ := putF X117 hx hZ hown (host := "") (Or.inl (hw _ (List.mem_of_getElem? (i := 27) rfl))) Via.refl e117 f116 f118 (Or.inl (hw _ (List.mem_of_getElem? (i := 28) rfl))) (hw _ (List.mem_of_getElem? (i := 1) rfl)) (ty := .long) (by decide) rfl rfl (g := (mkF m 199 #[rv r0, lv q1, .second, lv q2, .second, iv (2 : Int32), .unset] [(.long (P + q2)), (.ref r0)])) rfl rfl (Jvm.hb hby d3_199)
      have Fw119 := Fld.same W119 f116
      have N119 := Fr.snoc X119 N115 g_r0
      have Z119 : n0 ≤ h119.size := W119.size ▸ Z115
      have M119 : h0.size ≤ h119.size := W119.size ▸ M115
      refine own_go st119 ?_
      show Gm p e below T119 m 202 #[rv r0, lv q1, .second, lv q2, .second, iv (2 : Int32), .unset] [] _
      have f120 := ((At.other W115 ne_tc).other W119 (Ne.symm ne_rt))
      have f121 := (A115.other W119 (Ne.symm ne_rc))
      have f122 := (f118.wr W119)
      have f123 := (Fld.other W119 (Fld.other W115 F_times (Or.inl ne_rc)) (Or.inr (slot_ne (Or.inl (hw _ (List.mem_of_getElem? (i := 11) rfl))) (Or.inl (hw _ (List.mem_of_getElem? (i := 28) rfl))) (by decide) (t := (.array .long)) (t' := .long) (by decide) (by decide))))
      have f124 := (Fld.other W119 (Fld.other W115 F_counts (Or.inl ne_rc)) (Or.inr (slot_ne (Or.inl (hw _ (List.mem_of_getElem? (i := 13) rfl))) (Or.inl (hw _ (List.mem_of_getElem? (i := 28) rfl))) (by decide) (t := (.array .long)) (t' := .long) (by decide) (by decide))))
      have f125 := (Fld.other W119 (Fld.other W115 F_start (Or.inl ne_rc)) (Or.inr (slot_ne (Or.inl (hw _ (List.mem_of_getElem? (i := 22) rfl))) (Or.inl (hw _ (List.mem_of_getElem? (i := 28) rfl))) (by decide) (t := .int) (t' := .long) (by decide) (by decide))))
      have f126 := (Fld.other W119 (Fld.other W115 F_end (Or.inl ne_rc)) (Or.inr (slot_ne (Or.inl (hw _ (List.mem_of_getElem? (i := 20) rfl))) (Or.inl (hw _ (List.mem_of_getElem? (i := 28) rfl))) (by decide) (t := .int) (t' := .long) (by decide) (by decide))))
      have q127 : LL Z h119 n0 r0 2 0 [(a, k), (b, (j + q2))] (P + q2) := ⟨ta, ca, _, _, f122, f123, f124, f125, f126, Fw119, f120, f121, ne_rt, ne_rc, ne_tc, g_ta, g_ca, (Nat.le_of_ble_eq_true rfl), (own_hx2 (s := 0) (ft := ft) (fc := (fun i => if i = 1 then (.long (j + q2)) else fc i)) (hxs 0 _ _ rfl).1 (hxs 0 _ _ rfl).2 (hxs 1 _ _ rfl).1 rfl)⟩
      rw [← ins2d hab c4 c113] at q127
      exact own_retV X119 hx hlk Bd.returns (Jvm.hb hby d3_202) e119 ⟨rfl, N119, M119, 2, q127, fun _ => rfl⟩ (by decide) (by decide)
    · have hfork := trivial
      refine own_go (fun t₀ k₀ => XS.ifYes X112.here hx rfl (pc0 := 55) (pc' := 74) rfl (Jvm.hb hby d3_55) rfl (XT.ll_ne_t c113) (by decide) (by decide) k₀) ?_
      show Gm p e below T112 m 74 #[rv r0, lv q1, .second, lv q2, .second, iv (2 : Int32), .unset] [] _
      refine own_go (fun t₀ k₀ => XS.aloadN X112.here hx rfl (Jvm.hb hby d3_74) rfl rfl k₀) ?_
      show Gm p e below T112 m 75 #[rv r0, lv q1, .second, lv q2, .second, iv (2 : Int32), .unset] [(.ref r0)] _
      obtain ⟨T128, X128, e128, st128⟩ := getF X112 hx hZ hown (host := "") (Or.inl (hw _ (List.mem_of_getElem? (i := 19) rfl))) Via.refl e112 F_end (g := (mkF m 75 #[rv r0, lv q1, .second, lv q2, .second, iv (2 : Int32), .unset] [(.ref r0)])) rfl rfl (Jvm.hb hby d3_75)
      refine own_go st128 ?_
      show Gm p e below T128 m 78 #[rv r0, lv q1, .second, lv q2, .second, iv (2 : Int32), .unset] [(.int (2 : Int32))] _
      refine own_go (fun t₀ k₀ => XS.aloadN X128.here hx rfl (Jvm.hb hby d3_78) rfl rfl k₀) ?_
      show Gm p e below T128 m 79 #[rv r0, lv q1, .second, lv q2, .second, iv (2 : Int32), .unset] [(.ref r0), (.int (2 : Int32))] _
      obtain ⟨T129, X129, e129, st129⟩ := getF X128 hx hZ hown (host := "") (Or.inl (hw _ (List.mem_of_getElem? (i := 10) rfl))) Via.refl e128 F_times (g := (mkF m 79 #[rv r0, lv q1, .second, lv q2, .second, iv (2 : Int32), .unset] [(.ref r0), (.int (2 : Int32))])) rfl rfl (Jvm.hb hby d3_79)
      refine own_go st129 ?_
      show Gm p e below T129 m 82 #[rv r0, lv q1, .second, lv q2, .second, iv (2 : Int32), .unset] [(.ref ta), (.int (2 : Int32))] _
      refine own_go (fun t₀ k₀ => own_len X129 hx hZ e129 At (z := (2 : Int32)) rfl (g := (mkF m 82 #[rv r0, lv q1, .second, lv q2, .second, iv (2 : Int32), .unset] [(.ref ta), (.int (2 : Int32))])) rfl rfl (Jvm.hb hby d3_82) k₀) ?_
      show Gm p e below T129 m 83 #[rv r0, lv q1, .second, lv q2, .second, iv (2 : Int32), .unset] [(.int (2 : Int32)), (.int (2 : Int32))] _
      refine own_go (fun t₀ k₀ => XS.icmpNo X129.here hx rfl (Jvm.hb hby d3_83) rfl (XT.ii_ne_f (by decide)) k₀) ?_
      show Gm p e below T129 m 86 #[rv r0, lv q1, .second, lv q2, .second, iv (2 : Int32), .unset] [] _
      refine own_go (fun t₀ k₀ => XS.iload X129.here hx rfl (Jvm.hb hby d3_86) rfl k₀) ?_
      show Gm p e below T129 m 88 #[rv r0, lv q1, .second, lv q2, .second, iv (2 : Int32), .unset] [(.int (2 : Int32))] _
      refine own_go (fun t₀ k₀ => XS.aloadN X129.here hx rfl (Jvm.hb hby d3_88) rfl rfl k₀) ?_
      show Gm p e below T129 m 89 #[rv r0, lv q1, .second, lv q2, .second, iv (2 : Int32), .unset] [(.ref r0), (.int (2 : Int32))] _
      obtain ⟨T130, X130, e130, st130⟩ := getF X129 hx hZ hown (host := "") (Or.inl (hw _ (List.mem_of_getElem? (i := 21) rfl))) Via.refl e129 F_start (g := (mkF m 89 #[rv r0, lv q1, .second, lv q2, .second, iv (2 : Int32), .unset] [(.ref r0), (.int (2 : Int32))])) rfl rfl (Jvm.hb hby d3_89)
      refine own_go st130 ?_
      show Gm p e below T130 m 92 #[rv r0, lv q1, .second, lv q2, .second, iv (2 : Int32), .unset] [(.int (0 : Int32)), (.int (2 : Int32))] _
      refine own_go (fun t₀ k₀ => XS.isub X130.here hx rfl (Jvm.hb hby d3_92) rfl k₀) ?_
      show Gm p e below T130 m 93 #[rv r0, lv q1, .second, lv q2, .second, iv (2 : Int32), .unset] [(.int (2 : Int32))] _
      refine own_go (fun t₀ k₀ => XS.istore X130.here hx rfl (Jvm.hb hby d3_93) rfl (l' := #[rv r0, lv q1, .second, lv q2, .second, iv (2 : Int32), iv (2 : Int32)]) rfl k₀) ?_
      show Gm p e below T130 m 95 #[rv r0, lv q1, .second, lv q2, .second, iv (2 : Int32), iv (2 : Int32)] [] _
      refine own_go (fun t₀ k₀ => XS.aloadN X130.here hx rfl (Jvm.hb hby d3_95) rfl rfl k₀) ?_
      show Gm p e below T130 m 96 #[rv r0, lv q1, .second, lv q2, .second, iv (2 : Int32), iv (2 : Int32)] [(.ref r0)] _
      refine own_go (fun t₀ k₀ => XS.iconst X130.here hx rfl (Jvm.hb hby d3_96) k₀) ?_
      show Gm p e below T130 m 97 #[rv r0, lv q1, .second, lv q2, .second, iv (2 : Int32), iv (2 : Int32)] [(.int (2 : Int32)), (.ref r0)] _
      refine own_go (fun t₀ k₀ => XS.iconst X130.here hx rfl (Jvm.hb hby d3_97) k₀) ?_
      show Gm p e below T130 m 98 #[rv r0, lv q1, .second, lv q2, .second, iv (2 : Int32), iv (2 : Int32)] [(.int (2 : Int32)), (.int (2 : Int32)), (.ref r0)] _
      refine own_go (fun t₀ k₀ => XS.aloadN X130.here hx rfl (Jvm.hb hby d3_98) rfl rfl k₀) ?_
      show Gm p e below T130 m 99 #[rv r0, lv q1, .second, lv q2, .second, iv (2 : Int32), iv (2 : Int32)] [(.ref r0), (.int (2 : Int32)), (.int (2 : Int32)), (.ref r0)] _
      obtain ⟨T131, X131, e131, st131⟩ := getF X130 hx hZ hown (host := "") (Or.inl (hw _ (List.mem_of_getElem? (i := 19) rfl))) Via.refl e130 F_end (g := (mkF m 99 #[rv r0, lv q1, .second, lv q2, .second, iv (2 : Int32), iv (2 : Int32)] [(.ref r0), (.int (2 : Int32)), (.int (2 : Int32)), (.ref r0)])) rfl rfl (Jvm.hb hby d3_99)
      refine own_go st131 ?_
      show Gm p e below T131 m 102 #[rv r0, lv q1, .second, lv q2, .second, iv (2 : Int32), iv (2 : Int32)] [(.int (2 : Int32)), (.int (2 : Int32)), (.int (2 : Int32)), (.ref r0)] _
      refine own_go (fun t₀ k₀ => XS.aloadN X131.here hx rfl (Jvm.hb hby d3_102) rfl rfl k₀) ?_
      show Gm p e below T131 m 103 #[rv r0, lv q1, .second, lv q2, .second, iv (2 : Int32), iv (2 : Int32)] [(.ref r0), (.int (2 : Int32)), (.int (2 : Int32)), (.int (2 : Int32)), (.ref r0)] _
      obtain ⟨T132, X132, e132, st132⟩ := getF X131 hx hZ hown (host := "") (Or.inl (hw _ (List.mem_of_getElem? (i := 21) rfl))) Via.refl e131 F_start (g := (mkF m 103 #[rv r0, lv q1, .second, lv q2, .second, iv (2 : Int32), iv (2 : Int32)] [(.ref r0), (.int (2 : Int32)), (.int (2 : Int32)), (.int (2 : Int32)), (.ref r0)])) rfl rfl (Jvm.hb hby d3_103)
      refine own_go st132 ?_
      show Gm p e below T132 m 106 #[rv r0, lv q1, .second, lv q2, .second, iv (2 : Int32), iv (2 : Int32)] [(.int (0 : Int32)), (.int (2 : Int32)), (.int (2 : Int32)), (.int (2 : Int32)), (.ref r0)] _
      refine own_go (fun t₀ k₀ => XS.isub X132.here hx rfl (Jvm.hb hby d3_106) rfl k₀) ?_
      show Gm p e below T132 m 107 #[rv r0, lv q1, .second, lv q2, .second, iv (2 : Int32), iv (2 : Int32)] [(.int (2 : Int32)), (.int (2 : Int32)), (.int (2 : Int32)), (.ref r0)] _
      refine own_go (fun t₀ k₀ => XS.imul X132.here hx rfl (Jvm.hb hby d3_107) rfl k₀) ?_
      show Gm p e below T132 m 108 #[rv r0, lv q1, .second, lv q2, .second, iv (2 : Int32), iv (2 : Int32)] [(.int (4 : Int32)), (.int (2 : Int32)), (.ref r0)] _
      obtain ⟨_, _, ⟨T133, L133, k133, n133⟩, -, X133, ⟨Lc133, hQ133, l133, y133, z133⟩, st133⟩ := Jvm.LawKit.callS X132 hx (y := (⟨"java/lang/Math", "max", "(II)I"⟩ : MethodName)) hown (mvT hZ (hw _ (List.mem_of_getElem? (i := 29) rfl))) (mvT hZ (hw _ (List.mem_of_getElem? (i := 30) rfl))) (mvT hZ (hw _ (List.mem_of_getElem? (i := 31) rfl))) (mvT hZ (hw _ (List.mem_of_getElem? (i := 32) rfl))) (by decide) (backOf (W := 1) (rm4 l Z a0 hw [] (2 : Int32) (4 : Int32) h0 n0 Z0) hZ (hw _ (List.mem_of_getElem? (i := 32) rfl)) (hw _ (List.mem_of_getElem? (i := 31) rfl)) (by decide) (by decide)) (g := (mkF m 108 #[rv r0, lv q1, .second, lv q2, .second, iv (2 : Int32), iv (2 : Int32)] [(.int (4 : Int32)), (.int (2 : Int32)), (.ref r0)])) rfl (by rw [hml]; rfl) (argsL := [(.int (2 : Int32)), (.int (4 : Int32))]) (rest := [(.ref r0)]) (lenOf own_pd0 rfl) rfl (by show 2 * 0 + _ ≤ _; exact Nat.le_of_eq rfl) (Jvm.hb hby d3_108) (fun _ _ => ⟨rfl, e132, (by decide : 0 + 0 ≤ _), (by decide : 0 + 0 ≤ _)⟩)
      dsimp only [Pt.U, Pt.locs, Pt.cells, Pt.slots] at X133 l133 y133 z133 st133 hQ133
      subst l133 y133 z133
      obtain ⟨rfl, Nq133, eq133⟩ := hQ133
      have N133 := Fr.app N0 Nq133
      have e133 : T133.heap = h0 := eq133
      refine own_go st133 ?_
      show Gm p e below T133 m 111 #[rv r0, lv q1, .second, lv q2, .second, iv (2 : Int32), iv (2 : Int32)] [(.int (4 : Int32)), (.ref r0)] _
      obtain ⟨cq134, q134, q134'⟩ := E_r0.cell
      obtain ⟨_, _, ⟨T134, L134, k134, n134⟩, -, X134, ⟨Lc134, hQ134, l134, y134, z134⟩, st134⟩ := X133.privateBack hx (y := (⟨"com/example/libbrake/libbrake/AdmissionLog", "moveTo", "(I)V"⟩ : MethodName)) hown (mvT hZ (hw _ (List.mem_of_getElem? (i := 33) rfl))) (mvT hZ (hw _ (List.mem_of_getElem? (i := 34) rfl))) (own_self hZ (hw _ (List.mem_of_getElem? (i := 1) rfl)) (hw _ (List.mem_of_getElem? (i := 35) rfl)) (hw _ (List.mem_of_getElem? (i := 34) rfl)) (by decide)) (Cond.privateMethod_at (mvP hZ (hw _ (List.mem_of_getElem? (i := 35) rfl)) (args := #[]))) (mvT hZ (hw _ (List.mem_of_getElem? (i := 36) rfl))) (by decide) (backOf (W := 0) (rm5 l Z a0 hw [] r0 a k b j P h0 n0 Z0 ⟨ta, ca, _, _, E_r0, F_times, F_counts, F_start, F_end, F_permits, At, Ac, ne_rt, ne_rc, ne_tc, g_ta, g_ca, (Nat.le_of_ble_eq_true rfl), (own_hx2 (s := 0) (ft := ft) (fc := fc) (hxs 0 _ _ rfl).1 (hxs 0 _ _ rfl).2 (hxs 1 _ _ rfl).1 (hxs 1 _ _ rfl).2)⟩ g_r0) hZ (hw _ (List.mem_of_getElem? (i := 36) rfl)) (hw _ (List.mem_of_getElem? (i := 2) rfl)) (by decide) (by decide)) (g := (mkF m 111 #[rv r0, lv q1, .second, lv q2, .second, iv (2 : Int32), iv (2 : Int32)] [(.int (4 : Int32)), (.ref r0)])) rfl (by rw [hml]; rfl) (Steps.refl _) (a := r0) (by rw [e133]; exact q134) q134' (argsL := [(.int (4 : Int32))]) (rest := []) (lenOf own_pd1 rfl) rfl (by show 2 * 0 + _ ≤ _; exact Nat.le_of_eq rfl) (Jvm.hb hby d3_111) (fun _ _ => ⟨rfl, e133, (by decide : 0 + 2 ≤ _), (by decide : 0 + 8 ≤ _)⟩)
      dsimp only [Pt.U, Pt.locs, Pt.cells, Pt.slots] at X134 l134 y134 z134 st134 hQ134
      subst l134 y134 z134
      obtain ⟨rfl, Nq134, hsz134, HL134⟩ := hQ134
      have N134 := Fr.app N133 Nq134
      refine own_go (fun t k => st134.trans k) ?_
      obtain ⟨ta134, ca134, ft134, fc134, E134, Ft134, Fc134, Fs134, Fe134, Fp134, At134, Ac134, nrt134, nrc134, ntc134, g_ta134, g_ca134, hN134, hxs134⟩ := HL134
      have Z134 : n0 ≤ T134.heap.size := Nat.le_trans Z0 hsz134
      have M134 : h0.size ≤ T134.heap.size := Nat.le_trans (Nat.le_refl h0.size) hsz134
      show Gm p e below T134 m 114 #[rv r0, lv q1, .second, lv q2, .second, iv (2 : Int32), iv (2 : Int32)] [] _
      refine own_go (fun t₀ k₀ => XS.iload X134.here hx rfl (Jvm.hb hby d3_114) rfl k₀) ?_
      show Gm p e below T134 m 116 #[rv r0, lv q1, .second, lv q2, .second, iv (2 : Int32), iv (2 : Int32)] [(.int (2 : Int32))] _
      refine own_go (fun t₀ k₀ => XS.istore X134.here hx rfl (Jvm.hb hby d3_116) rfl (l' := #[rv r0, lv q1, .second, lv q2, .second, iv (2 : Int32), iv (2 : Int32)]) rfl k₀) ?_
      show Gm p e below T134 m 118 #[rv r0, lv q1, .second, lv q2, .second, iv (2 : Int32), iv (2 : Int32)] [] _
      refine own_go (fun t₀ k₀ => XS.aloadN X134.here hx rfl (Jvm.hb hby d3_118) rfl rfl k₀) ?_
      show Gm p e below T134 m 119 #[rv r0, lv q1, .second, lv q2, .second, iv (2 : Int32), iv (2 : Int32)] [(.ref r0)] _
      obtain ⟨T135, X135, e135, st135⟩ := getF X134 hx hZ hown (host := "") (Or.inl (hw _ (List.mem_of_getElem? (i := 10) rfl))) Via.refl rfl Ft134 (g := (mkF m 119 #[rv r0, lv q1, .second, lv q2, .second, iv (2 : Int32), iv (2 : Int32)] [(.ref r0)])) rfl rfl (Jvm.hb hby d3_119)
      refine own_go st135 ?_
      show Gm p e below T135 m 122 #[rv r0, lv q1, .second, lv q2, .second, iv (2 : Int32), iv (2 : Int32)] [(.ref ta134)] _
      refine own_go (fun t₀ k₀ => XS.iload X135.here hx rfl (Jvm.hb hby d3_122) rfl k₀) ?_
      show Gm p e below T135 m 124 #[rv r0, lv q1, .second, lv q2, .second, iv (2 : Int32), iv (2 : Int32)] [(.int (2 : Int32)), (.ref ta134)] _
      refine own_go (fun t₀ k₀ => XS.aloadN X135.here hx rfl (Jvm.hb hby d3_124) rfl rfl k₀) ?_
      show Gm p e below T135 m 125 #[rv r0, lv q1, .second, lv q2, .second, iv (2 : Int32), iv (2 : Int32)] [(.ref r0), (.int (2 : Int32)), (.ref ta134)] _
      obtain ⟨T136, X136, e136, st136⟩ := getF X135 hx hZ hown (host := "") (Or.inl (hw _ (List.mem_of_getElem? (i := 10) rfl))) Via.refl e135 Ft134 (g := (mkF m 125 #[rv r0, lv q1, .second, lv q2, .second, iv (2 : Int32), iv (2 : Int32)] [(.ref r0), (.int (2 : Int32)), (.ref ta134)])) rfl rfl (Jvm.hb hby d3_125)
      refine own_go st136 ?_
      show Gm p e below T136 m 128 #[rv r0, lv q1, .second, lv q2, .second, iv (2 : Int32), iv (2 : Int32)] [(.ref ta134), (.int (2 : Int32)), (.ref ta134)] _
      refine own_go (fun t₀ k₀ => XS.iload X136.here hx rfl (Jvm.hb hby d3_128) rfl k₀) ?_
      show Gm p e below T136 m 130 #[rv r0, lv q1, .second, lv q2, .second, iv (2 : Int32), iv (2 : Int32)] [(.int (2 : Int32)), (.ref ta134), (.int (2 : Int32)), (.ref ta134)] _
      refine own_go (fun t₀ k₀ => XS.iconst X136.here hx rfl (Jvm.hb hby d3_130) k₀) ?_
      show Gm p e below T136 m 131 #[rv r0, lv q1, .second, lv q2, .second, iv (2 : Int32), iv (2 : Int32)] [(.int (1 : Int32)), (.int (2 : Int32)), (.ref ta134), (.int (2 : Int32)), (.ref ta134)] _
      refine own_go (fun t₀ k₀ => XS.iadd X136.here hx rfl (Jvm.hb hby d3_131) rfl k₀) ?_
      show Gm p e below T136 m 132 #[rv r0, lv q1, .second, lv q2, .second, iv (2 : Int32), iv (2 : Int32)] [(.int (3 : Int32)), (.ref ta134), (.int (2 : Int32)), (.ref ta134)] _
      refine own_go (fun t₀ k₀ => XS.aloadN X136.here hx rfl (Jvm.hb hby d3_132) rfl rfl k₀) ?_
      show Gm p e below T136 m 133 #[rv r0, lv q1, .second, lv q2, .second, iv (2 : Int32), iv (2 : Int32)] [(.ref r0), (.int (3 : Int32)), (.ref ta134), (.int (2 : Int32)), (.ref ta134)] _
      obtain ⟨T137, X137, e137, st137⟩ := getF X136 hx hZ hown (host := "") (Or.inl (hw _ (List.mem_of_getElem? (i := 19) rfl))) Via.refl e136 Fe134 (g := (mkF m 133 #[rv r0, lv q1, .second, lv q2, .second, iv (2 : Int32), iv (2 : Int32)] [(.ref r0), (.int (3 : Int32)), (.ref ta134), (.int (2 : Int32)), (.ref ta134)])) rfl rfl (Jvm.hb hby d3_133)
      refine own_go st137 ?_
      show Gm p e below T137 m 136 #[rv r0, lv q1, .second, lv q2, .second, iv (2 : Int32), iv (2 : Int32)] [(.int (2 : Int32)), (.int (3 : Int32)), (.ref ta134), (.int (2 : Int32)), (.ref ta134)] _
      refine own_go (fun t₀ k₀ => XS.iload X137.here hx rfl (Jvm.hb hby d3_136) rfl k₀) ?_
      show Gm p e below T137 m 138 #[rv r0, lv q1, .second, lv q2, .second, iv (2 : Int32), iv (2 : Int32)] [(.int (2 : Int32)), (.int (2 : Int32)), (.int (3 : Int32)), (.ref ta134), (.int (2 : Int32)), (.ref ta134)] _
      refine own_go (fun t₀ k₀ => XS.isub X137.here hx rfl (Jvm.hb hby d3_138) rfl k₀) ?_
      show Gm p e below T137 m 139 #[rv r0, lv q1, .second, lv q2, .second, iv (2 : Int32), iv (2 : Int32)] [(.int (0 : Int32)), (.int (3 : Int32)), (.ref ta134), (.int (2 : Int32)), (.ref ta134)] _
      obtain ⟨T138, h138, L138, X138, e138, N138, Kc138, Ac138, st138⟩ := own_cp X137 hx hZ hown (hw _ (List.mem_of_getElem? (i := 23) rfl)) (hw _ (List.mem_of_getElem? (i := 26) rfl)) (hw _ (List.mem_of_getElem? (i := 24) rfl)) (hw _ (List.mem_of_getElem? (i := 25) rfl)) e137 (ks := 2) (kd := 3) (kn := 0) At134 At134 rfl (by decide) (by decide) (by decide) rfl rfl rfl (by decide) (by decide) N134 g_ta134 (g := (mkF m 139 #[rv r0, lv q1, .second, lv q2, .second, iv (2 : Int32), iv (2 : Int32)] [(.int (0 : Int32)), (.int (3 : Int32)), (.ref ta134), (.int (2 : Int32)), (.ref ta134)])) rfl (by rw [hml]; rfl) rfl (Jvm.hb hby d3_139) (by decide) (W := 0) (by show 2 * 0 + _ ≤ _; exact Nat.le_of_eq rfl) (by decide)
      have Z138 : n0 ≤ h138.size := Nat.le_trans Z134 Kc138.1
      have M138 : h0.size ≤ h138.size := Nat.le_trans M134 Kc138.1
      refine own_go st138 ?_
      show Gm p e below T138 m 142 #[rv r0, lv q1, .second, lv q2, .second, iv (2 : Int32), iv (2 : Int32)] [] _
      refine own_go (fun t₀ k₀ => XS.aloadN X138.here hx rfl (Jvm.hb hby d3_142) rfl rfl k₀) ?_
      show Gm p e below T138 m 143 #[rv r0, lv q1, .second, lv q2, .second, iv (2 : Int32), iv (2 : Int32)] [(.ref r0)] _
      have f139 := (Fc134.keep Kc138 (ninS nrt134 nin0))
      obtain ⟨T140, X140, e140, st140⟩ := getF X138 hx hZ hown (host := "") (Or.inl (hw _ (List.mem_of_getElem? (i := 12) rfl))) Via.refl e138 f139 (g := (mkF m 143 #[rv r0, lv q1, .second, lv q2, .second, iv (2 : Int32), iv (2 : Int32)] [(.ref r0)])) rfl rfl (Jvm.hb hby d3_143)
      refine own_go st140 ?_
      show Gm p e below T140 m 146 #[rv r0, lv q1, .second, lv q2, .second, iv (2 : Int32), iv (2 : Int32)] [(.ref ca134)] _
      refine own_go (fun t₀ k₀ => XS.iload X140.here hx rfl (Jvm.hb hby d3_146) rfl k₀) ?_
      show Gm p e below T140 m 148 #[rv r0, lv q1, .second, lv q2, .second, iv (2 : Int32), iv (2 : Int32)] [(.int (2 : Int32)), (.ref ca134)] _
      refine own_go (fun t₀ k₀ => XS.aloadN X140.here hx rfl (Jvm.hb hby d3_148) rfl rfl k₀) ?_
      show Gm p e below T140 m 149 #[rv r0, lv q1, .second, lv q2, .second, iv (2 : Int32), iv (2 : Int32)] [(.ref r0), (.int (2 : Int32)), (.ref ca134)] _
      obtain ⟨T141, X141, e141, st141⟩ := getF X140 hx hZ hown (host := "") (Or.inl (hw _ (List.mem_of_getElem? (i := 12) rfl))) Via.refl e140 f139 (g := (mkF m 149 #[rv r0, lv q1, .second, lv q2, .second, iv (2 : Int32), iv (2 : Int32)] [(.ref r0), (.int (2 : Int32)), (.ref ca134)])) rfl rfl (Jvm.hb hby d3_149)
      refine own_go st141 ?_
      show Gm p e below T141 m 152 #[rv r0, lv q1, .second, lv q2, .second, iv (2 : Int32), iv (2 : Int32)] [(.ref ca134), (.int (2 : Int32)), (.ref ca134)] _
      refine own_go (fun t₀ k₀ => XS.iload X141.here hx rfl (Jvm.hb hby d3_152) rfl k₀) ?_
      show Gm p e below T141 m 154 #[rv r0, lv q1, .second, lv q2, .second, iv (2 : Int32), iv (2 : Int32)] [(.int (2 : Int32)), (.ref ca134), (.int (2 : Int32)), (.ref ca134)] _
      refine own_go (fun t₀ k₀ => XS.iconst X141.here hx rfl (Jvm.hb hby d3_154) k₀) ?_
      show Gm p e below T141 m 155 #[rv r0, lv q1, .second, lv q2, .second, iv (2 : Int32), iv (2 : Int32)] [(.int (1 : Int32)), (.int (2 : Int32)), (.ref ca134), (.int (2 : Int32)), (.ref ca134)] _
      refine own_go (fun t₀ k₀ => XS.iadd X141.here hx rfl (Jvm.hb hby d3_155) rfl k₀) ?_
      show Gm p e below T141 m 156 #[rv r0, lv q1, .second, lv q2, .second, iv (2 : Int32), iv (2 : Int32)] [(.int (3 : Int32)), (.ref ca134), (.int (2 : Int32)), (.ref ca134)] _
      refine own_go (fun t₀ k₀ => XS.aloadN X141.here hx rfl (Jvm.hb hby d3_156) rfl rfl k₀) ?_
      show Gm p e below T141 m 157 #[rv r0, lv q1, .second, lv q2, .second, iv (2 : Int32), iv (2 : Int32)] [(.ref r0), (.int (3 : Int32)), (.ref ca134), (.int (2 : Int32)), (.ref ca134)] _
      have f142 := (Fe134.keep Kc138 (ninS nrt134 nin0))
      obtain ⟨T143, X143, e143, st143⟩ := getF X141 hx hZ hown (host := "") (Or.inl (hw _ (List.mem_of_getElem? (i := 19) rfl))) Via.refl e141 f142 (g := (mkF m 157 #[rv r0, lv q1, .second, lv q2, .second, iv (2 : Int32), iv (2 : Int32)] [(.ref r0), (.int (3 : Int32)), (.ref ca134), (.int (2 : Int32)), (.ref ca134)])) rfl rfl (Jvm.hb hby d3_157)
      refine own_go st143 ?_
      show Gm p e below T143 m 160 #[rv r0, lv q1, .second, lv q2, .second, iv (2 : Int32), iv (2 : Int32)] [(.int (2 : Int32)), (.int (3 : Int32)), (.ref ca134), (.int (2 : Int32)), (.ref ca134)] _
      refine own_go (fun t₀ k₀ => XS.iload X143.here hx rfl (Jvm.hb hby d3_160) rfl k₀) ?_
      show Gm p e below T143 m 162 #[rv r0, lv q1, .second, lv q2, .second, iv (2 : Int32), iv (2 : Int32)] [(.int (2 : Int32)), (.int (2 : Int32)), (.int (3 : Int32)), (.ref ca134), (.int (2 : Int32)), (.ref ca134)] _
      refine own_go (fun t₀ k₀ => XS.isub X143.here hx rfl (Jvm.hb hby d3_162) rfl k₀) ?_
      show Gm p e below T143 m 163 #[rv r0, lv q1, .second, lv q2, .second, iv (2 : Int32), iv (2 : Int32)] [(.int (0 : Int32)), (.int (3 : Int32)), (.ref ca134), (.int (2 : Int32)), (.ref ca134)] _
      have f144 := (Ac134.keep Kc138 (ninS (Ne.symm ntc134) nin0))
      obtain ⟨T145, h145, L145, X145, e145, N145, Kc145, Ac145, st145⟩ := own_cp X143 hx hZ hown (hw _ (List.mem_of_getElem? (i := 23) rfl)) (hw _ (List.mem_of_getElem? (i := 26) rfl)) (hw _ (List.mem_of_getElem? (i := 24) rfl)) (hw _ (List.mem_of_getElem? (i := 25) rfl)) e143 (ks := 2) (kd := 3) (kn := 0) f144 f144 rfl (by decide) (by decide) (by decide) rfl rfl rfl (by decide) (by decide) N138 g_ca134 (g := (mkF m 163 #[rv r0, lv q1, .second, lv q2, .second, iv (2 : Int32), iv (2 : Int32)] [(.int (0 : Int32)), (.int (3 : Int32)), (.ref ca134), (.int (2 : Int32)), (.ref ca134)])) rfl (by rw [hml]; rfl) rfl (Jvm.hb hby d3_163) (by decide) (W := 0) (by show 2 * 0 + _ ≤ _; exact Nat.le_of_eq rfl) (by decide)
      have Z145 : n0 ≤ h145.size := Nat.le_trans Z138 Kc145.1
      have M145 : h0.size ≤ h145.size := Nat.le_trans M138 Kc145.1
      refine own_go st145 ?_
      show Gm p e below T145 m 166 #[rv r0, lv q1, .second, lv q2, .second, iv (2 : Int32), iv (2 : Int32)] [] _
      refine own_go (fun t₀ k₀ => XS.aloadN X145.here hx rfl (Jvm.hb hby d3_166) rfl rfl k₀) ?_
      show Gm p e below T145 m 167 #[rv r0, lv q1, .second, lv q2, .second, iv (2 : Int32), iv (2 : Int32)] [(.ref r0)] _
      have f146 := ((Ft134.keep Kc138 (ninS nrt134 nin0)).keep Kc145 (ninS nrc134 nin0))
      obtain ⟨T147, X147, e147, st147⟩ := getF X145 hx hZ hown (host := "") (Or.inl (hw _ (List.mem_of_getElem? (i := 10) rfl))) Via.refl e145 f146 (g := (mkF m 167 #[rv r0, lv q1, .second, lv q2, .second, iv (2 : Int32), iv (2 : Int32)] [(.ref r0)])) rfl rfl (Jvm.hb hby d3_167)
      refine own_go st147 ?_
      show Gm p e below T147 m 170 #[rv r0, lv q1, .second, lv q2, .second, iv (2 : Int32), iv (2 : Int32)] [(.ref ta134)] _
      refine own_go (fun t₀ k₀ => XS.iload X147.here hx rfl (Jvm.hb hby d3_170) rfl k₀) ?_
      show Gm p e below T147 m 172 #[rv r0, lv q1, .second, lv q2, .second, iv (2 : Int32), iv (2 : Int32)] [(.int (2 : Int32)), (.ref ta134)] _
      refine own_go (fun t₀ k₀ => XS.lloadN X147.here hx rfl (Jvm.hb hby d3_172) rfl k₀) ?_
      show Gm p e below T147 m 173 #[rv r0, lv q1, .second, lv q2, .second, iv (2 : Int32), iv (2 : Int32)] [(.long q1), (.int (2 : Int32)), (.ref ta134)] _
      have f148 := (Ac138.keep Kc145 (ninS ntc134 nin0))
      obtain ⟨T149, h149, X149, e149, W149, A149, st149⟩ := own_stJ X147 hx hZ e147 f148 (j := (2 : Int32)) (k := 2) (by decide) rfl (by decide) (g := (mkF m 173 #[rv r0, lv q1, .second, lv q2, .second, iv (2 : Int32), iv (2 : Int32)] [(.long q1), (.int (2 : Int32)), (.ref ta134)])) rfl rfl (Jvm.hb hby d3_173)
      have N149 := Fr.snoc X149 N145 g_ta134
      have Z149 : n0 ≤ h149.size := W149.size ▸ Z145
      have M149 : h0.size ≤ h149.size := W149.size ▸ M145
      refine own_go st149 ?_
      show Gm p e below T149 m 174 #[rv r0, lv q1, .second, lv q2, .second, iv (2 : Int32), iv (2 : Int32)] [] _
      refine own_go (fun t₀ k₀ => XS.aloadN X149.here hx rfl (Jvm.hb hby d3_174) rfl rfl k₀) ?_
      show Gm p e below T149 m 175 #[rv r0, lv q1, .second, lv q2, .second, iv (2 : Int32), iv (2 : Int32)] [(.ref r0)] _
      have f150 := (Fld.other W149 (f139.keep Kc145 (ninS nrc134 nin0)) (Or.inl nrt134))
      obtain ⟨T151, X151, e151, st151⟩ := getF X149 hx hZ hown (host := "") (Or.inl (hw _ (List.mem_of_getElem? (i := 12) rfl))) Via.refl e149 f150 (g := (mkF m 175 #[rv r0, lv q1, .second, lv q2, .second, iv (2 : Int32), iv (2 : Int32)] [(.ref r0)])) rfl rfl (Jvm.hb hby d3_175)
      refine own_go st151 ?_
      show Gm p e below T151 m 178 #[rv r0, lv q1, .second, lv q2, .second, iv (2 : Int32), iv (2 : Int32)] [(.ref ca134)] _
      refine own_go (fun t₀ k₀ => XS.iload X151.here hx rfl (Jvm.hb hby d3_178) rfl k₀) ?_
      show Gm p e below T151 m 180 #[rv r0, lv q1, .second, lv q2, .second, iv (2 : Int32), iv (2 : Int32)] [(.int (2 : Int32)), (.ref ca134)] _
      refine own_go (fun t₀ k₀ => XS.lloadN X151.here hx rfl (Jvm.hb hby d3_180) rfl k₀) ?_
      show Gm p e below T151 m 181 #[rv r0, lv q1, .second, lv q2, .second, iv (2 : Int32), iv (2 : Int32)] [(.long q2), (.int (2 : Int32)), (.ref ca134)] _
      have f152 := (Ac145.other W149 (Ne.symm ntc134))
      obtain ⟨T153, h153, X153, e153, W153, A153, st153⟩ := own_stJ X151 hx hZ e151 f152 (j := (2 : Int32)) (k := 2) (by decide) rfl (by decide) (g := (mkF m 181 #[rv r0, lv q1, .second, lv q2, .second, iv (2 : Int32), iv (2 : Int32)] [(.long q2), (.int (2 : Int32)), (.ref ca134)])) rfl rfl (Jvm.hb hby d3_181)
      have N153 := Fr.snoc X153 N149 g_ca134
      have Z153 : n0 ≤ h153.size := W153.size ▸ Z149
      have M153 : h0.size ≤ h153.size := W153.size ▸ M149
      refine own_go st153 ?_
      show Gm p e below T153 m 182 #[rv r0, lv q1, .second, lv q2, .second, iv (2 : Int32), iv (2 : Int32)] [] _
      refine own_go (fun t₀ k₀ => XS.aloadN X153.here hx rfl (Jvm.hb hby d3_182) rfl rfl k₀) ?_
      show Gm p e below T153 m 183 #[rv r0, lv q1, .second, lv q2, .second, iv (2 : Int32), iv (2 : Int32)] [(.ref r0)] _
      refine own_go (fun t₀ k₀ => XS.dup X153.here hx rfl (Jvm.hb hby d3_183) rfl rfl k₀) ?_
      show Gm p e below T153 m 184 #[rv r0, lv q1, .second, lv q2, .second, iv (2 : Int32), iv (2 : Int32)] [(.ref r0), (.ref r0)] _
      have f154 := (Fld.other W153 (Fld.other W149 (f142.keep Kc145 (ninS nrc134 nin0)) (Or.inl nrt134)) (Or.inl nrc134))
      obtain ⟨T155, X155, e155, st155⟩ := getF X153 hx hZ hown (host := "") (Or.inl (hw _ (List.mem_of_getElem? (i := 19) rfl))) Via.refl e153 f154 (g := (mkF m 184 #[rv r0, lv q1, .second, lv q2, .second, iv (2 : Int32), iv (2 : Int32)] [(.ref r0), (.ref r0)])) rfl rfl (Jvm.hb hby d3_184)
      refine own_go st155 ?_
      show Gm p e below T155 m 187 #[rv r0, lv q1, .second, lv q2, .second, iv (2 : Int32), iv (2 : Int32)] [(.int (2 : Int32)), (.ref r0)] _
      refine own_go (fun t₀ k₀ => XS.iconst X155.here hx rfl (Jvm.hb hby d3_187) k₀) ?_
      show Gm p e below T155 m 188 #[rv r0, lv q1, .second, lv q2, .second, iv (2 : Int32), iv (2 : Int32)] [(.int (1 : Int32)), (.int (2 : Int32)), (.ref r0)] _
      refine own_go (fun t₀ k₀ => XS.iadd X155.here hx rfl (Jvm.hb hby d3_188) rfl k₀) ?_
      show Gm p e below T155 m 189 #[rv r0, lv q1, .second, lv q2, .second, iv (2 : Int32), iv (2 : Int32)] [(.int (3 : Int32)), (.ref r0)] _
      have f156 := ((((E134.keep Kc138).keep Kc145).wr W149).wr W153)
      obtain ⟨T157, h157, X157, e157, W157, st157⟩ := putF X155 hx hZ hown (host := "") (Or.inl (hw _ (List.mem_of_getElem? (i := 19) rfl))) Via.refl e155 f154 f156 (Or.inl (hw _ (List.mem_of_getElem? (i := 20) rfl))) (hw _ (List.mem_of_getElem? (i := 1) rfl)) (ty := .int) (by decide) rfl rfl (g := (mkF m 189 #[rv r0, lv q1, .second, lv q2, .second, iv (2 : Int32), iv (2 : Int32)] [(.int (3 : Int32)), (.ref r0)])) rfl rfl (Jvm.hb hby d3_189)
      have Fw157 := Fld.same W157 f154
      have N157 := Fr.snoc X157 N153 g_r0
      have Z157 : n0 ≤ h157.size := W157.size ▸ Z153
      have M157 : h0.size ≤ h157.size := W157.size ▸ M153
      refine own_go st157 ?_
      show Gm p e below T157 m 192 #[rv r0, lv q1, .second, lv q2, .second, iv (2 : Int32), iv (2 : Int32)] [] _
      refine own_go (fun t₀ k₀ => XS.aloadN X157.here hx rfl (Jvm.hb hby d3_192) rfl rfl k₀) ?_
      show Gm p e below T157 m 193 #[rv r0, lv q1, .second, lv q2, .second, iv (2 : Int32), iv (2 : Int32)] [(.ref r0)] _
      refine own_go (fun t₀ k₀ => XS.dup X157.here hx rfl (Jvm.hb hby d3_193) rfl rfl k₀) ?_
      show Gm p e below T157 m 194 #[rv r0, lv q1, .second, lv q2, .second, iv (2 : Int32), iv (2 : Int32)] [(.ref r0), (.ref r0)] _
      have f158 := (Fld.other W157 (Fld.other W153 (Fld.other W149 ((Fp134.keep Kc138 (ninS nrt134 nin0)).keep Kc145 (ninS nrc134 nin0)) (Or.inl nrt134)) (Or.inl nrc134)) (Or.inr (slot_ne (Or.inl (hw _ (List.mem_of_getElem? (i := 28) rfl))) (Or.inl (hw _ (List.mem_of_getElem? (i := 20) rfl))) (by decide) (t := .long) (t' := .int) (by decide) (by decide))))
      obtain ⟨T159, X159, e159, st159⟩ := getF X157 hx hZ hown (host := "") (Or.inl (hw _ (List.mem_of_getElem? (i := 27) rfl))) Via.refl e157 f158 (g := (mkF m 194 #[rv r0, lv q1, .second, lv q2, .second, iv (2 : Int32), iv (2 : Int32)] [(.ref r0), (.ref r0)])) rfl rfl (Jvm.hb hby d3_194)
      refine own_go st159 ?_
      show Gm p e below T159 m 197 #[rv r0, lv q1, .second, lv q2, .second, iv (2 : Int32), iv (2 : Int32)] [(.long P), (.ref r0)] _
      refine own_go (fun t₀ k₀ => XS.lloadN X159.here hx rfl (Jvm.hb hby d3_197) rfl k₀) ?_
      show Gm p e below T159 m 198 #[rv r0, lv q1, .second, lv q2, .second, iv (2 : Int32), iv (2 : Int32)] [(.long q2), (.long P), (.ref r0)] _
      refine own_go (fun t₀ k₀ => XS.ladd X159.here hx rfl (Jvm.hb hby d3_198) rfl k₀) ?_
      show Gm p e below T159 m 199 #[rv r0, lv q1, .second, lv q2, .second, iv (2 : Int32), iv (2 : Int32)] [(.long (P + q2)), (.ref r0)] _
      have f160 := (f156.wr W157)
      obtain ⟨T161, h161, X161, e161, W161, st161⟩ := putF X159 hx hZ hown (host := "") (Or.inl (hw _ (List.mem_of_getElem? (i := 27) rfl))) Via.refl e159 f158 f160 (Or.inl (hw _ (List.mem_of_getElem? (i := 28) rfl))) (hw _ (List.mem_of_getElem? (i := 1) rfl)) (ty := .long) (by decide) rfl rfl (g := (mkF m 199 #[rv r0, lv q1, .second, lv q2, .second, iv (2 : Int32), iv (2 : Int32)] [(.long (P + q2)), (.ref r0)])) rfl rfl (Jvm.hb hby d3_199)
      have Fw161 := Fld.same W161 f158
      have N161 := Fr.snoc X161 N157 g_r0
      have Z161 : n0 ≤ h161.size := W161.size ▸ Z157
      have M161 : h0.size ≤ h161.size := W161.size ▸ M157
      refine own_go st161 ?_
      show Gm p e below T161 m 202 #[rv r0, lv q1, .second, lv q2, .second, iv (2 : Int32), iv (2 : Int32)] [] _
      have f162 := (((A149.other W153 ntc134).other W157 (Ne.symm nrt134)).other W161 (Ne.symm nrt134))
      have f163 := ((A153.other W157 (Ne.symm nrc134)).other W161 (Ne.symm nrc134))
      have f164 := (f160.wr W161)
      have f165 := (Fld.other W161 (Fld.other W157 (Fld.other W153 (Fld.other W149 f146 (Or.inl nrt134)) (Or.inl nrc134)) (Or.inr (slot_ne (Or.inl (hw _ (List.mem_of_getElem? (i := 11) rfl))) (Or.inl (hw _ (List.mem_of_getElem? (i := 20) rfl))) (by decide) (t := (.array .long)) (t' := .int) (by decide) (by decide)))) (Or.inr (slot_ne (Or.inl (hw _ (List.mem_of_getElem? (i := 11) rfl))) (Or.inl (hw _ (List.mem_of_getElem? (i := 28) rfl))) (by decide) (t := (.array .long)) (t' := .long) (by decide) (by decide))))
      have f166 := (Fld.other W161 (Fld.other W157 (Fld.other W153 f150 (Or.inl nrc134)) (Or.inr (slot_ne (Or.inl (hw _ (List.mem_of_getElem? (i := 13) rfl))) (Or.inl (hw _ (List.mem_of_getElem? (i := 20) rfl))) (by decide) (t := (.array .long)) (t' := .int) (by decide) (by decide)))) (Or.inr (slot_ne (Or.inl (hw _ (List.mem_of_getElem? (i := 13) rfl))) (Or.inl (hw _ (List.mem_of_getElem? (i := 28) rfl))) (by decide) (t := (.array .long)) (t' := .long) (by decide) (by decide))))
      have f167 := (Fld.other W161 (Fld.other W157 (Fld.other W153 (Fld.other W149 ((Fs134.keep Kc138 (ninS nrt134 nin0)).keep Kc145 (ninS nrc134 nin0)) (Or.inl nrt134)) (Or.inl nrc134)) (Or.inr (slot_ne (Or.inl (hw _ (List.mem_of_getElem? (i := 22) rfl))) (Or.inl (hw _ (List.mem_of_getElem? (i := 20) rfl))) (by decide) (t := .int) (t' := .int) (by decide) (by decide)))) (Or.inr (slot_ne (Or.inl (hw _ (List.mem_of_getElem? (i := 22) rfl))) (Or.inl (hw _ (List.mem_of_getElem? (i := 28) rfl))) (by decide) (t := .int) (t' := .long) (by decide) (by decide))))
      have f168 := (Fld.other W161 Fw157 (Or.inr (slot_ne (Or.inl (hw _ (List.mem_of_getElem? (i := 20) rfl))) (Or.inl (hw _ (List.mem_of_getElem? (i := 28) rfl))) (by decide) (t := .int) (t' := .long) (by decide) (by decide))))
      have q169 : LL Z h161 n0 r0 4 0 [(a, k), (b, j), (q1, q2)] (P + q2) := ⟨ta134, ca134, _, _, f164, f165, f166, f167, f168, Fw161, f162, f163, nrt134, nrc134, ntc134, g_ta134, g_ca134, (Nat.le_of_ble_eq_true rfl), (own_hx3 (s := 0) (ft := (fun i => if i = 2 then (.long q1) else (fun i => if 3 ≤ i ∧ i < 3 + 0 then ft134 (2 + (i - 3)) else ft134 i) i)) (fc := (fun i => if i = 2 then (.long q2) else (fun i => if 3 ≤ i ∧ i < 3 + 0 then fc134 (2 + (i - 3)) else fc134 i) i)) (hxs134 0 _ _ rfl).1 (hxs134 0 _ _ rfl).2 (hxs134 1 _ _ rfl).1 (hxs134 1 _ _ rfl).2 rfl rfl)⟩
      rw [← ins2e hab c4 c113] at q169
      exact own_retV X161 hx hlk Bd.returns (Jvm.hb hby d3_202) e161 ⟨rfl, N161, M161, 4, q169, fun q => absurd q (by simp)⟩ (by decide) (by decide)
theorem d6_0 : decode prog_1_method_3_code 0 = .ok (.aload_n 0, 1) := by decide +kernel
theorem d6_1 : decode prog_1_method_3_code 1 = .ok (.getfield 20, 3) := by decide +kernel
theorem d6_4 : decode prog_1_method_3_code 4 = .ok (.aload_n 0, 1) := by decide +kernel
theorem d6_5 : decode prog_1_method_3_code 5 = .ok (.getfield 24, 3) := by decide +kernel
theorem d6_8 : decode prog_1_method_3_code 8 = .ok (.if_icmp .ge 48, 3) := by decide +kernel
theorem d6_11 : decode prog_1_method_3_code 11 = .ok (.aload_n 0, 1) := by decide +kernel
theorem d6_12 : decode prog_1_method_3_code 12 = .ok (.getfield 9, 3) := by decide +kernel
theorem d6_15 : decode prog_1_method_3_code 15 = .ok (.aload_n 0, 1) := by decide +kernel
theorem d6_16 : decode prog_1_method_3_code 16 = .ok (.getfield 20, 3) := by decide +kernel
theorem d6_19 : decode prog_1_method_3_code 19 = .ok (.laload, 1) := by decide +kernel
theorem d6_20 : decode prog_1_method_3_code 20 = .ok (.lload_n 1, 1) := by decide +kernel
theorem d6_21 : decode prog_1_method_3_code 21 = .ok (.lcmp, 1) := by decide +kernel
theorem d6_22 : decode prog_1_method_3_code 22 = .ok (.ifCond .gt 34, 3) := by decide +kernel
theorem d6_25 : decode prog_1_method_3_code 25 = .ok (.aload_n 0, 1) := by decide +kernel
theorem d6_26 : decode prog_1_method_3_code 26 = .ok (.dup, 1) := by decide +kernel
theorem d6_27 : decode prog_1_method_3_code 27 = .ok (.getfield 16, 3) := by decide +kernel
theorem d6_30 : decode prog_1_method_3_code 30 = .ok (.aload_n 0, 1) := by decide +kernel
theorem d6_31 : decode prog_1_method_3_code 31 = .ok (.getfield 13, 3) := by decide +kernel
theorem d6_34 : decode prog_1_method_3_code 34 = .ok (.aload_n 0, 1) := by decide +kernel
theorem d6_35 : decode prog_1_method_3_code 35 = .ok (.getfield 20, 3) := by decide +kernel
theorem d6_38 : decode prog_1_method_3_code 38 = .ok (.laload, 1) := by decide +kernel
theorem d6_39 : decode prog_1_method_3_code 39 = .ok (.lsub, 1) := by decide +kernel
theorem d6_40 : decode prog_1_method_3_code 40 = .ok (.putfield 16, 3) := by decide +kernel
theorem d6_43 : decode prog_1_method_3_code 43 = .ok (.aload_n 0, 1) := by decide +kernel
theorem d6_44 : decode prog_1_method_3_code 44 = .ok (.dup, 1) := by decide +kernel
theorem d6_45 : decode prog_1_method_3_code 45 = .ok (.getfield 20, 3) := by decide +kernel
theorem d6_48 : decode prog_1_method_3_code 48 = .ok (.iconst 1, 1) := by decide +kernel
theorem d6_49 : decode prog_1_method_3_code 49 = .ok (.iadd, 1) := by decide +kernel
theorem d6_50 : decode prog_1_method_3_code 50 = .ok (.putfield 20, 3) := by decide +kernel
theorem d6_53 : decode prog_1_method_3_code 53 = .ok (.goto (-53), 3) := by decide +kernel
theorem d6_56 : decode prog_1_method_3_code 56 = .ok (.return_, 1) := by decide +kernel
theorem own_pn_rm6_1 : plainName "com/example/libbrake/libbrake/AdmissionLog" = true := by first | (simp [plainName, overriddenIn]; done) | decide +kernel
theorem own_ef_rm6_1 (m : MethodId) (r0 : Addr) (q1 : Int64) : entryFrame m #[(.ref r0), (.long q1)] 3 = mkF m 0 #[.val (.ref r0), .val (.long q1), .second] [] := by first | (simp [entryFrame, mkF, argsToLocals, Value.category]; done) | rfl
set_option maxRecDepth 65536 in
set_option maxHeartbeats 40000000 in
theorem rm6_1 (l : Launch) (Z : State) (a0 : Array Value) (hw : ∀ d ∈ tables_1, d.before a0 Z = true) (ws : List Jvm.Cond) (r0 : Addr) (q1 : Int64) (N : Nat) (a : Int64) (k : Int64) (P : Int64) (h0 : Heap) (n0 : Nat) (Z0 : n0 ≤ h0.size) (H : LL Z h0 n0 r0 N 0 [(a, k)] P) (g_r0 : n0 ≤ r0) :
    MetFree l (⟨"com/example/libbrake/libbrake/AdmissionLog", "removeUpTo", "(J)V"⟩ : MethodName) (head1 (Jvm.Cond.code (⟨"com/example/libbrake/libbrake/AdmissionLog", "removeUpTo", "(J)V"⟩ : MethodName) prog_1_method_3_code 3 none :: ws) ({ frames := 0, cells := 0, slots := 0, locals := 0 } : Room)) (fun a U => a = #[(.ref r0), (.long q1)] ∧ Z.Warmed39 U.vm ∧ U.heap = h0) (fun _ _ _ _ _ => True) (fun _ U o U' => ∃ v L, o = .returned v ∧ QR Z r0 q1 N [(a, k)] P h0 n0 v U'.heap L ∧ FrameEnd U o U' L ({ frames := 0, cells := 0, slots := 0, locals := 0 } : Room).cells ({ frames := 0, cells := 0, slots := 0, locals := 0 } : Room).slots) := by
  refine MetFree.of_bodySF (plainFor_of_name own_pn_rm6_1) hisR ?_
  intro p e s m args below meth cO s₁ Bd hml0 hP hK
  obtain ⟨rfl, hZ, hh⟩ := hP
  have hx := Bd.exec
  have hby := Bd.bytes
  have hml : cO.maxLocals = 3 := hml0
  have hown : s.vm.findClass "com/example/libbrake/libbrake/AdmissionLog" = some m.cls := findClass_of_methodNamed Bd.named
  have hnm := (name_of_methodNamed Bd.named Bd.method).1
  have hlk : meth.locks = false := BodyLoose.notSynchronized Bd
  have X0 : Stand p l e ({ frames := 0, cells := 0, slots := 0, locals := 0 } : Room) s m #[(.ref r0), (.long q1)] below meth cO s₁ [] 0 0 := Stand.of_body Bd
  have e0 : s₁.heap = h0 := by rw [← hh, Bd.state]; rfl
  have N0 := Fr.nil n0
  obtain ⟨ta, ca, ft, fc, E_r0, F_times, F_counts, F_start, F_end, F_permits, At, Ac, ne_rt, ne_rc, ne_tc, g_ta, g_ca, hN, hxs⟩ := H
  have hN' : 1 ≤ N := hN
  refine own_in (own_ef_rm6_1 m r0 q1) ?_
  show Gm p e below s₁ m 0 #[rv r0, lv q1, .second] [] _
  refine own_go (fun t₀ k₀ => XS.aloadN X0.here hx rfl (Jvm.hb hby d6_0) rfl rfl k₀) ?_
  show Gm p e below s₁ m 1 #[rv r0, lv q1, .second] [(.ref r0)] _
  obtain ⟨T1, X1, e1, st1⟩ := getF X0 hx hZ hown (host := "") (Or.inl (hw _ (List.mem_of_getElem? (i := 21) rfl))) Via.refl e0 F_start (g := (mkF m 1 #[rv r0, lv q1, .second] [(.ref r0)])) rfl rfl (Jvm.hb hby d6_1)
  refine own_go st1 ?_
  show Gm p e below T1 m 4 #[rv r0, lv q1, .second] [(.int (0 : Int32))] _
  refine own_go (fun t₀ k₀ => XS.aloadN X1.here hx rfl (Jvm.hb hby d6_4) rfl rfl k₀) ?_
  show Gm p e below T1 m 5 #[rv r0, lv q1, .second] [(.ref r0), (.int (0 : Int32))] _
  obtain ⟨T2, X2, e2, st2⟩ := getF X1 hx hZ hown (host := "") (Or.inl (hw _ (List.mem_of_getElem? (i := 19) rfl))) Via.refl e1 F_end (g := (mkF m 5 #[rv r0, lv q1, .second] [(.ref r0), (.int (0 : Int32))])) rfl rfl (Jvm.hb hby d6_5)
  refine own_go st2 ?_
  show Gm p e below T2 m 8 #[rv r0, lv q1, .second] [(.int (1 : Int32)), (.int (0 : Int32))] _
  refine own_go (fun t₀ k₀ => XS.icmpNo X2.here hx rfl (Jvm.hb hby d6_8) rfl (XT.ii_ge_f (by decide)) k₀) ?_
  show Gm p e below T2 m 11 #[rv r0, lv q1, .second] [] _
  refine own_go (fun t₀ k₀ => XS.aloadN X2.here hx rfl (Jvm.hb hby d6_11) rfl rfl k₀) ?_
  show Gm p e below T2 m 12 #[rv r0, lv q1, .second] [(.ref r0)] _
  obtain ⟨T3, X3, e3, st3⟩ := getF X2 hx hZ hown (host := "") (Or.inl (hw _ (List.mem_of_getElem? (i := 10) rfl))) Via.refl e2 F_times (g := (mkF m 12 #[rv r0, lv q1, .second] [(.ref r0)])) rfl rfl (Jvm.hb hby d6_12)
  refine own_go st3 ?_
  show Gm p e below T3 m 15 #[rv r0, lv q1, .second] [(.ref ta)] _
  refine own_go (fun t₀ k₀ => XS.aloadN X3.here hx rfl (Jvm.hb hby d6_15) rfl rfl k₀) ?_
  show Gm p e below T3 m 16 #[rv r0, lv q1, .second] [(.ref r0), (.ref ta)] _
  obtain ⟨T4, X4, e4, st4⟩ := getF X3 hx hZ hown (host := "") (Or.inl (hw _ (List.mem_of_getElem? (i := 21) rfl))) Via.refl e3 F_start (g := (mkF m 16 #[rv r0, lv q1, .second] [(.ref r0), (.ref ta)])) rfl rfl (Jvm.hb hby d6_16)
  refine own_go st4 ?_
  show Gm p e below T4 m 19 #[rv r0, lv q1, .second] [(.int (0 : Int32)), (.ref ta)] _
  refine own_go (fun t₀ k₀ => own_ldJ X4 hx hZ e4 At (j := (0 : Int32)) (k := 0) (by decide) rfl (by omega) (w := (.long a)) (hxs 0 _ _ rfl).1 (g := (mkF m 19 #[rv r0, lv q1, .second] [(.int (0 : Int32)), (.ref ta)])) rfl rfl (Jvm.hb hby d6_19) k₀) ?_
  show Gm p e below T4 m 20 #[rv r0, lv q1, .second] [(.long a)] _
  refine own_go (fun t₀ k₀ => XS.lloadN X4.here hx rfl (Jvm.hb hby d6_20) rfl k₀) ?_
  show Gm p e below T4 m 21 #[rv r0, lv q1, .second] [(.long q1), (.long a)] _
  refine own_go (fun t₀ k₀ => XT.lcmp X4.here hx rfl (Jvm.hb hby d6_21) rfl k₀) ?_
  show Gm p e below T4 m 22 #[rv r0, lv q1, .second] [(.int (XT.cmpL a q1))] _
  by_cases c5 : q1 < a
  · have hfork := trivial
    refine own_go (fun t₀ k₀ => XS.ifYes X4.here hx rfl (pc0 := 22) (pc' := 56) rfl (Jvm.hb hby d6_22) rfl (XT.ll_gt_t c5) (by decide) (by decide) k₀) ?_
    show Gm p e below T4 m 56 #[rv r0, lv q1, .second] [] _
    have q6 : LL Z h0 n0 r0 N 0 [(a, k)] P := ⟨ta, ca, _, _, E_r0, F_times, F_counts, F_start, F_end, F_permits, At, Ac, ne_rt, ne_rc, ne_tc, g_ta, g_ca, (by simp; omega), (own_hx1 (s := 0) (ft := ft) (fc := fc) (hxs 0 _ _ rfl).1 (hxs 0 _ _ rfl).2)⟩
    have e1q6 : dr q1 [(a, k)] = [(a, k)] := by simp only [dr]; rw [if_pos c5]
    have e2q6 : pr q1 [(a, k)] P = P := by simp only [pr]; rw [if_pos c5]
    rw [← e1q6, ← e2q6] at q6
    exact own_retV X4 hx hlk Bd.returns (Jvm.hb hby d6_56) e4 ⟨rfl, N0, (Nat.le_refl h0.size), 0, q6, by rw [e1q6]; rfl⟩ (by decide) (by decide)
  · have hfork := trivial
    refine own_go (fun t₀ k₀ => XS.ifNo X4.here hx rfl (Jvm.hb hby d6_22) rfl (XT.ll_gt_f c5) k₀) ?_
    show Gm p e below T4 m 25 #[rv r0, lv q1, .second] [] _
    refine own_go (fun t₀ k₀ => XS.aloadN X4.here hx rfl (Jvm.hb hby d6_25) rfl rfl k₀) ?_
    show Gm p e below T4 m 26 #[rv r0, lv q1, .second] [(.ref r0)] _
    refine own_go (fun t₀ k₀ => XS.dup X4.here hx rfl (Jvm.hb hby d6_26) rfl rfl k₀) ?_
    show Gm p e below T4 m 27 #[rv r0, lv q1, .second] [(.ref r0), (.ref r0)] _
    obtain ⟨T7, X7, e7, st7⟩ := getF X4 hx hZ hown (host := "") (Or.inl (hw _ (List.mem_of_getElem? (i := 27) rfl))) Via.refl e4 F_permits (g := (mkF m 27 #[rv r0, lv q1, .second] [(.ref r0), (.ref r0)])) rfl rfl (Jvm.hb hby d6_27)
    refine own_go st7 ?_
    show Gm p e below T7 m 30 #[rv r0, lv q1, .second] [(.long P), (.ref r0)] _
    refine own_go (fun t₀ k₀ => XS.aloadN X7.here hx rfl (Jvm.hb hby d6_30) rfl rfl k₀) ?_
    show Gm p e below T7 m 31 #[rv r0, lv q1, .second] [(.ref r0), (.long P), (.ref r0)] _
    obtain ⟨T8, X8, e8, st8⟩ := getF X7 hx hZ hown (host := "") (Or.inl (hw _ (List.mem_of_getElem? (i := 12) rfl))) Via.refl e7 F_counts (g := (mkF m 31 #[rv r0, lv q1, .second] [(.ref r0), (.long P), (.ref r0)])) rfl rfl (Jvm.hb hby d6_31)
    refine own_go st8 ?_
    show Gm p e below T8 m 34 #[rv r0, lv q1, .second] [(.ref ca), (.long P), (.ref r0)] _
    refine own_go (fun t₀ k₀ => XS.aloadN X8.here hx rfl (Jvm.hb hby d6_34) rfl rfl k₀) ?_
    show Gm p e below T8 m 35 #[rv r0, lv q1, .second] [(.ref r0), (.ref ca), (.long P), (.ref r0)] _
    obtain ⟨T9, X9, e9, st9⟩ := getF X8 hx hZ hown (host := "") (Or.inl (hw _ (List.mem_of_getElem? (i := 21) rfl))) Via.refl e8 F_start (g := (mkF m 35 #[rv r0, lv q1, .second] [(.ref r0), (.ref ca), (.long P), (.ref r0)])) rfl rfl (Jvm.hb hby d6_35)
    refine own_go st9 ?_
    show Gm p e below T9 m 38 #[rv r0, lv q1, .second] [(.int (0 : Int32)), (.ref ca), (.long P), (.ref r0)] _
    refine own_go (fun t₀ k₀ => own_ldJ X9 hx hZ e9 Ac (j := (0 : Int32)) (k := 0) (by decide) rfl (by omega) (w := (.long k)) (hxs 0 _ _ rfl).2 (g := (mkF m 38 #[rv r0, lv q1, .second] [(.int (0 : Int32)), (.ref ca), (.long P), (.ref r0)])) rfl rfl (Jvm.hb hby d6_38) k₀) ?_
    show Gm p e below T9 m 39 #[rv r0, lv q1, .second] [(.long k), (.long P), (.ref r0)] _
    refine own_go (fun t₀ k₀ => XS.lsub X9.here hx rfl (Jvm.hb hby d6_39) rfl k₀) ?_
    show Gm p e below T9 m 40 #[rv r0, lv q1, .second] [(.long (P - k)), (.ref r0)] _
    obtain ⟨T10, h10, X10, e10, W10, st10⟩ := putF X9 hx hZ hown (host := "") (Or.inl (hw _ (List.mem_of_getElem? (i := 27) rfl))) Via.refl e9 F_permits E_r0 (Or.inl (hw _ (List.mem_of_getElem? (i := 28) rfl))) (hw _ (List.mem_of_getElem? (i := 1) rfl)) (ty := .long) (by decide) rfl rfl (g := (mkF m 40 #[rv r0, lv q1, .second] [(.long (P - k)), (.ref r0)])) rfl rfl (Jvm.hb hby d6_40)
    have Fw10 := Fld.same W10 F_permits
    have N10 := Fr.snoc X10 N0 g_r0
    have Z10 : n0 ≤ h10.size := W10.size ▸ Z0
    have M10 : h0.size ≤ h10.size := W10.size ▸ (Nat.le_refl h0.size)
    refine own_go st10 ?_
    show Gm p e below T10 m 43 #[rv r0, lv q1, .second] [] _
    refine own_go (fun t₀ k₀ => XS.aloadN X10.here hx rfl (Jvm.hb hby d6_43) rfl rfl k₀) ?_
    show Gm p e below T10 m 44 #[rv r0, lv q1, .second] [(.ref r0)] _
    refine own_go (fun t₀ k₀ => XS.dup X10.here hx rfl (Jvm.hb hby d6_44) rfl rfl k₀) ?_
    show Gm p e below T10 m 45 #[rv r0, lv q1, .second] [(.ref r0), (.ref r0)] _
    have f11 := (Fld.other W10 F_start (Or.inr (slot_ne (Or.inl (hw _ (List.mem_of_getElem? (i := 22) rfl))) (Or.inl (hw _ (List.mem_of_getElem? (i := 28) rfl))) (by decide) (t := .int) (t' := .long) (by decide) (by decide))))
    obtain ⟨T12, X12, e12, st12⟩ := getF X10 hx hZ hown (host := "") (Or.inl (hw _ (List.mem_of_getElem? (i := 21) rfl))) Via.refl e10 f11 (g := (mkF m 45 #[rv r0, lv q1, .second] [(.ref r0), (.ref r0)])) rfl rfl (Jvm.hb hby d6_45)
    refine own_go st12 ?_
    show Gm p e below T12 m 48 #[rv r0, lv q1, .second] [(.int (0 : Int32)), (.ref r0)] _
    refine own_go (fun t₀ k₀ => XS.iconst X12.here hx rfl (Jvm.hb hby d6_48) k₀) ?_
    show Gm p e below T12 m 49 #[rv r0, lv q1, .second] [(.int (1 : Int32)), (.int (0 : Int32)), (.ref r0)] _
    refine own_go (fun t₀ k₀ => XS.iadd X12.here hx rfl (Jvm.hb hby d6_49) rfl k₀) ?_
    show Gm p e below T12 m 50 #[rv r0, lv q1, .second] [(.int (1 : Int32)), (.ref r0)] _
    have f13 := (E_r0.wr W10)
    obtain ⟨T14, h14, X14, e14, W14, st14⟩ := putF X12 hx hZ hown (host := "") (Or.inl (hw _ (List.mem_of_getElem? (i := 21) rfl))) Via.refl e12 f11 f13 (Or.inl (hw _ (List.mem_of_getElem? (i := 22) rfl))) (hw _ (List.mem_of_getElem? (i := 1) rfl)) (ty := .int) (by decide) rfl rfl (g := (mkF m 50 #[rv r0, lv q1, .second] [(.int (1 : Int32)), (.ref r0)])) rfl rfl (Jvm.hb hby d6_50)
    have Fw14 := Fld.same W14 f11
    have N14 := Fr.snoc X14 N10 g_r0
    have Z14 : n0 ≤ h14.size := W14.size ▸ Z10
    have M14 : h0.size ≤ h14.size := W14.size ▸ M10
    refine own_go st14 ?_
    show Gm p e below T14 m 53 #[rv r0, lv q1, .second] [] _
    refine own_go (fun t₀ k₀ => XS.goto X14.here hx rfl (pc0 := 53) (pc' := 0) rfl (Jvm.hb hby d6_53) (by decide) (by decide) k₀) ?_
    show Gm p e below T14 m 0 #[rv r0, lv q1, .second] [] _
    refine own_go (fun t₀ k₀ => XS.aloadN X14.here hx rfl (Jvm.hb hby d6_0) rfl rfl k₀) ?_
    show Gm p e below T14 m 1 #[rv r0, lv q1, .second] [(.ref r0)] _
    obtain ⟨T15, X15, e15, st15⟩ := getF X14 hx hZ hown (host := "") (Or.inl (hw _ (List.mem_of_getElem? (i := 21) rfl))) Via.refl e14 Fw14 (g := (mkF m 1 #[rv r0, lv q1, .second] [(.ref r0)])) rfl rfl (Jvm.hb hby d6_1)
    refine own_go st15 ?_
    show Gm p e below T15 m 4 #[rv r0, lv q1, .second] [(.int (1 : Int32))] _
    refine own_go (fun t₀ k₀ => XS.aloadN X15.here hx rfl (Jvm.hb hby d6_4) rfl rfl k₀) ?_
    show Gm p e below T15 m 5 #[rv r0, lv q1, .second] [(.ref r0), (.int (1 : Int32))] _
    have f16 := (Fld.other W14 (Fld.other W10 F_end (Or.inr (slot_ne (Or.inl (hw _ (List.mem_of_getElem? (i := 20) rfl))) (Or.inl (hw _ (List.mem_of_getElem? (i := 28) rfl))) (by decide) (t := .int) (t' := .long) (by decide) (by decide)))) (Or.inr (slot_ne (Or.inl (hw _ (List.mem_of_getElem? (i := 20) rfl))) (Or.inl (hw _ (List.mem_of_getElem? (i := 22) rfl))) (by decide) (t := .int) (t' := .int) (by decide) (by decide))))
    obtain ⟨T17, X17, e17, st17⟩ := getF X15 hx hZ hown (host := "") (Or.inl (hw _ (List.mem_of_getElem? (i := 19) rfl))) Via.refl e15 f16 (g := (mkF m 5 #[rv r0, lv q1, .second] [(.ref r0), (.int (1 : Int32))])) rfl rfl (Jvm.hb hby d6_5)
    refine own_go st17 ?_
    show Gm p e below T17 m 8 #[rv r0, lv q1, .second] [(.int (1 : Int32)), (.int (1 : Int32))] _
    refine own_go (fun t₀ k₀ => XS.icmpYes X17.here hx rfl (pc0 := 8) (pc' := 56) rfl (Jvm.hb hby d6_8) rfl (XT.ii_ge_t (by decide)) (by decide) (by decide) k₀) ?_
    show Gm p e below T17 m 56 #[rv r0, lv q1, .second] [] _
    have f19 := ((At.other W10 (Ne.symm ne_rt)).other W14 (Ne.symm ne_rt))
    have f20 := ((Ac.other W10 (Ne.symm ne_rc)).other W14 (Ne.symm ne_rc))
    have f21 := (f13.wr W14)
    have f22 := (Fld.other W14 (Fld.other W10 F_times (Or.inr (slot_ne (Or.inl (hw _ (List.mem_of_getElem? (i := 11) rfl))) (Or.inl (hw _ (List.mem_of_getElem? (i := 28) rfl))) (by decide) (t := (.array .long)) (t' := .long) (by decide) (by decide)))) (Or.inr (slot_ne (Or.inl (hw _ (List.mem_of_getElem? (i := 11) rfl))) (Or.inl (hw _ (List.mem_of_getElem? (i := 22) rfl))) (by decide) (t := (.array .long)) (t' := .int) (by decide) (by decide))))
    have f23 := (Fld.other W14 (Fld.other W10 F_counts (Or.inr (slot_ne (Or.inl (hw _ (List.mem_of_getElem? (i := 13) rfl))) (Or.inl (hw _ (List.mem_of_getElem? (i := 28) rfl))) (by decide) (t := (.array .long)) (t' := .long) (by decide) (by decide)))) (Or.inr (slot_ne (Or.inl (hw _ (List.mem_of_getElem? (i := 13) rfl))) (Or.inl (hw _ (List.mem_of_getElem? (i := 22) rfl))) (by decide) (t := (.array .long)) (t' := .int) (by decide) (by decide))))
    have f24 := (Fld.other W14 Fw10 (Or.inr (slot_ne (Or.inl (hw _ (List.mem_of_getElem? (i := 28) rfl))) (Or.inl (hw _ (List.mem_of_getElem? (i := 22) rfl))) (by decide) (t := .long) (t' := .int) (by decide) (by decide))))
    have q18 : LL Z h14 n0 r0 N 1 [] (P - k) := ⟨ta, ca, _, _, f21, f22, f23, Fw14, f16, f24, f19, f20, ne_rt, ne_rc, ne_tc, g_ta, g_ca, (by simp; omega), (own_hx0 (s := 1) (ft := ft) (fc := fc) )⟩
    have e1q18 : dr q1 [(a, k)] = [] := by simp only [dr]; rw [if_neg c5]
    have e2q18 : pr q1 [(a, k)] P = (P - k) := by simp only [pr]; rw [if_neg c5]
    rw [← e1q18, ← e2q18] at q18
    exact own_retV X17 hx hlk Bd.returns (Jvm.hb hby d6_56) e17 ⟨rfl, N14, M14, 1, q18, by rw [e1q18]; rfl⟩ (by decide) (by decide)
theorem own_pn_rm6_2 : plainName "com/example/libbrake/libbrake/AdmissionLog" = true := by first | (simp [plainName, overriddenIn]; done) | decide +kernel
theorem own_ef_rm6_2 (m : MethodId) (r0 : Addr) (q1 : Int64) : entryFrame m #[(.ref r0), (.long q1)] 3 = mkF m 0 #[.val (.ref r0), .val (.long q1), .second] [] := by first | (simp [entryFrame, mkF, argsToLocals, Value.category]; done) | rfl
set_option maxRecDepth 65536 in
set_option maxHeartbeats 40000000 in
theorem rm6_2 (l : Launch) (Z : State) (a0 : Array Value) (hw : ∀ d ∈ tables_1, d.before a0 Z = true) (ws : List Jvm.Cond) (r0 : Addr) (q1 : Int64) (N : Nat) (a : Int64) (k : Int64) (b : Int64) (j : Int64) (P : Int64) (h0 : Heap) (n0 : Nat) (Z0 : n0 ≤ h0.size) (H : LL Z h0 n0 r0 N 0 [(a, k), (b, j)] P) (g_r0 : n0 ≤ r0) :
    MetFree l (⟨"com/example/libbrake/libbrake/AdmissionLog", "removeUpTo", "(J)V"⟩ : MethodName) (head1 (Jvm.Cond.code (⟨"com/example/libbrake/libbrake/AdmissionLog", "removeUpTo", "(J)V"⟩ : MethodName) prog_1_method_3_code 3 none :: ws) ({ frames := 0, cells := 0, slots := 0, locals := 0 } : Room)) (fun a U => a = #[(.ref r0), (.long q1)] ∧ Z.Warmed39 U.vm ∧ U.heap = h0) (fun _ _ _ _ _ => True) (fun _ U o U' => ∃ v L, o = .returned v ∧ QR Z r0 q1 N [(a, k), (b, j)] P h0 n0 v U'.heap L ∧ FrameEnd U o U' L ({ frames := 0, cells := 0, slots := 0, locals := 0 } : Room).cells ({ frames := 0, cells := 0, slots := 0, locals := 0 } : Room).slots) := by
  refine MetFree.of_bodySF (plainFor_of_name own_pn_rm6_2) hisR ?_
  intro p e s m args below meth cO s₁ Bd hml0 hP hK
  obtain ⟨rfl, hZ, hh⟩ := hP
  have hx := Bd.exec
  have hby := Bd.bytes
  have hml : cO.maxLocals = 3 := hml0
  have hown : s.vm.findClass "com/example/libbrake/libbrake/AdmissionLog" = some m.cls := findClass_of_methodNamed Bd.named
  have hnm := (name_of_methodNamed Bd.named Bd.method).1
  have hlk : meth.locks = false := BodyLoose.notSynchronized Bd
  have X0 : Stand p l e ({ frames := 0, cells := 0, slots := 0, locals := 0 } : Room) s m #[(.ref r0), (.long q1)] below meth cO s₁ [] 0 0 := Stand.of_body Bd
  have e0 : s₁.heap = h0 := by rw [← hh, Bd.state]; rfl
  have N0 := Fr.nil n0
  obtain ⟨ta, ca, ft, fc, E_r0, F_times, F_counts, F_start, F_end, F_permits, At, Ac, ne_rt, ne_rc, ne_tc, g_ta, g_ca, hN, hxs⟩ := H
  have hN' : 2 ≤ N := hN
  refine own_in (own_ef_rm6_2 m r0 q1) ?_
  show Gm p e below s₁ m 0 #[rv r0, lv q1, .second] [] _
  refine own_go (fun t₀ k₀ => XS.aloadN X0.here hx rfl (Jvm.hb hby d6_0) rfl rfl k₀) ?_
  show Gm p e below s₁ m 1 #[rv r0, lv q1, .second] [(.ref r0)] _
  obtain ⟨T1, X1, e1, st1⟩ := getF X0 hx hZ hown (host := "") (Or.inl (hw _ (List.mem_of_getElem? (i := 21) rfl))) Via.refl e0 F_start (g := (mkF m 1 #[rv r0, lv q1, .second] [(.ref r0)])) rfl rfl (Jvm.hb hby d6_1)
  refine own_go st1 ?_
  show Gm p e below T1 m 4 #[rv r0, lv q1, .second] [(.int (0 : Int32))] _
  refine own_go (fun t₀ k₀ => XS.aloadN X1.here hx rfl (Jvm.hb hby d6_4) rfl rfl k₀) ?_
  show Gm p e below T1 m 5 #[rv r0, lv q1, .second] [(.ref r0), (.int (0 : Int32))] _
  obtain ⟨T2, X2, e2, st2⟩ := getF X1 hx hZ hown (host := "") (Or.inl (hw _ (List.mem_of_getElem? (i := 19) rfl))) Via.refl e1 F_end (g := (mkF m 5 #[rv r0, lv q1, .second] [(.ref r0), (.int (0 : Int32))])) rfl rfl (Jvm.hb hby d6_5)
  refine own_go st2 ?_
  show Gm p e below T2 m 8 #[rv r0, lv q1, .second] [(.int (2 : Int32)), (.int (0 : Int32))] _
  refine own_go (fun t₀ k₀ => XS.icmpNo X2.here hx rfl (Jvm.hb hby d6_8) rfl (XT.ii_ge_f (by decide)) k₀) ?_
  show Gm p e below T2 m 11 #[rv r0, lv q1, .second] [] _
  refine own_go (fun t₀ k₀ => XS.aloadN X2.here hx rfl (Jvm.hb hby d6_11) rfl rfl k₀) ?_
  show Gm p e below T2 m 12 #[rv r0, lv q1, .second] [(.ref r0)] _
  obtain ⟨T3, X3, e3, st3⟩ := getF X2 hx hZ hown (host := "") (Or.inl (hw _ (List.mem_of_getElem? (i := 10) rfl))) Via.refl e2 F_times (g := (mkF m 12 #[rv r0, lv q1, .second] [(.ref r0)])) rfl rfl (Jvm.hb hby d6_12)
  refine own_go st3 ?_
  show Gm p e below T3 m 15 #[rv r0, lv q1, .second] [(.ref ta)] _
  refine own_go (fun t₀ k₀ => XS.aloadN X3.here hx rfl (Jvm.hb hby d6_15) rfl rfl k₀) ?_
  show Gm p e below T3 m 16 #[rv r0, lv q1, .second] [(.ref r0), (.ref ta)] _
  obtain ⟨T4, X4, e4, st4⟩ := getF X3 hx hZ hown (host := "") (Or.inl (hw _ (List.mem_of_getElem? (i := 21) rfl))) Via.refl e3 F_start (g := (mkF m 16 #[rv r0, lv q1, .second] [(.ref r0), (.ref ta)])) rfl rfl (Jvm.hb hby d6_16)
  refine own_go st4 ?_
  show Gm p e below T4 m 19 #[rv r0, lv q1, .second] [(.int (0 : Int32)), (.ref ta)] _
  refine own_go (fun t₀ k₀ => own_ldJ X4 hx hZ e4 At (j := (0 : Int32)) (k := 0) (by decide) rfl (by omega) (w := (.long a)) (hxs 0 _ _ rfl).1 (g := (mkF m 19 #[rv r0, lv q1, .second] [(.int (0 : Int32)), (.ref ta)])) rfl rfl (Jvm.hb hby d6_19) k₀) ?_
  show Gm p e below T4 m 20 #[rv r0, lv q1, .second] [(.long a)] _
  refine own_go (fun t₀ k₀ => XS.lloadN X4.here hx rfl (Jvm.hb hby d6_20) rfl k₀) ?_
  show Gm p e below T4 m 21 #[rv r0, lv q1, .second] [(.long q1), (.long a)] _
  refine own_go (fun t₀ k₀ => XT.lcmp X4.here hx rfl (Jvm.hb hby d6_21) rfl k₀) ?_
  show Gm p e below T4 m 22 #[rv r0, lv q1, .second] [(.int (XT.cmpL a q1))] _
  by_cases c5 : q1 < a
  · have hfork := trivial
    refine own_go (fun t₀ k₀ => XS.ifYes X4.here hx rfl (pc0 := 22) (pc' := 56) rfl (Jvm.hb hby d6_22) rfl (XT.ll_gt_t c5) (by decide) (by decide) k₀) ?_
    show Gm p e below T4 m 56 #[rv r0, lv q1, .second] [] _
    have q6 : LL Z h0 n0 r0 N 0 [(a, k), (b, j)] P := ⟨ta, ca, _, _, E_r0, F_times, F_counts, F_start, F_end, F_permits, At, Ac, ne_rt, ne_rc, ne_tc, g_ta, g_ca, (by simp; omega), (own_hx2 (s := 0) (ft := ft) (fc := fc) (hxs 0 _ _ rfl).1 (hxs 0 _ _ rfl).2 (hxs 1 _ _ rfl).1 (hxs 1 _ _ rfl).2)⟩
    have e1q6 : dr q1 [(a, k), (b, j)] = [(a, k), (b, j)] := by simp only [dr]; rw [if_pos c5]
    have e2q6 : pr q1 [(a, k), (b, j)] P = P := by simp only [pr]; rw [if_pos c5]
    rw [← e1q6, ← e2q6] at q6
    exact own_retV X4 hx hlk Bd.returns (Jvm.hb hby d6_56) e4 ⟨rfl, N0, (Nat.le_refl h0.size), 0, q6, by rw [e1q6]; rfl⟩ (by decide) (by decide)
  · have hfork := trivial
    refine own_go (fun t₀ k₀ => XS.ifNo X4.here hx rfl (Jvm.hb hby d6_22) rfl (XT.ll_gt_f c5) k₀) ?_
    show Gm p e below T4 m 25 #[rv r0, lv q1, .second] [] _
    refine own_go (fun t₀ k₀ => XS.aloadN X4.here hx rfl (Jvm.hb hby d6_25) rfl rfl k₀) ?_
    show Gm p e below T4 m 26 #[rv r0, lv q1, .second] [(.ref r0)] _
    refine own_go (fun t₀ k₀ => XS.dup X4.here hx rfl (Jvm.hb hby d6_26) rfl rfl k₀) ?_
    show Gm p e below T4 m 27 #[rv r0, lv q1, .second] [(.ref r0), (.ref r0)] _
    obtain ⟨T7, X7, e7, st7⟩ := getF X4 hx hZ hown (host := "") (Or.inl (hw _ (List.mem_of_getElem? (i := 27) rfl))) Via.refl e4 F_permits (g := (mkF m 27 #[rv r0, lv q1, .second] [(.ref r0), (.ref r0)])) rfl rfl (Jvm.hb hby d6_27)
    refine own_go st7 ?_
    show Gm p e below T7 m 30 #[rv r0, lv q1, .second] [(.long P), (.ref r0)] _
    refine own_go (fun t₀ k₀ => XS.aloadN X7.here hx rfl (Jvm.hb hby d6_30) rfl rfl k₀) ?_
    show Gm p e below T7 m 31 #[rv r0, lv q1, .second] [(.ref r0), (.long P), (.ref r0)] _
    obtain ⟨T8, X8, e8, st8⟩ := getF X7 hx hZ hown (host := "") (Or.inl (hw _ (List.mem_of_getElem? (i := 12) rfl))) Via.refl e7 F_counts (g := (mkF m 31 #[rv r0, lv q1, .second] [(.ref r0), (.long P), (.ref r0)])) rfl rfl (Jvm.hb hby d6_31)
    refine own_go st8 ?_
    show Gm p e below T8 m 34 #[rv r0, lv q1, .second] [(.ref ca), (.long P), (.ref r0)] _
    refine own_go (fun t₀ k₀ => XS.aloadN X8.here hx rfl (Jvm.hb hby d6_34) rfl rfl k₀) ?_
    show Gm p e below T8 m 35 #[rv r0, lv q1, .second] [(.ref r0), (.ref ca), (.long P), (.ref r0)] _
    obtain ⟨T9, X9, e9, st9⟩ := getF X8 hx hZ hown (host := "") (Or.inl (hw _ (List.mem_of_getElem? (i := 21) rfl))) Via.refl e8 F_start (g := (mkF m 35 #[rv r0, lv q1, .second] [(.ref r0), (.ref ca), (.long P), (.ref r0)])) rfl rfl (Jvm.hb hby d6_35)
    refine own_go st9 ?_
    show Gm p e below T9 m 38 #[rv r0, lv q1, .second] [(.int (0 : Int32)), (.ref ca), (.long P), (.ref r0)] _
    refine own_go (fun t₀ k₀ => own_ldJ X9 hx hZ e9 Ac (j := (0 : Int32)) (k := 0) (by decide) rfl (by omega) (w := (.long k)) (hxs 0 _ _ rfl).2 (g := (mkF m 38 #[rv r0, lv q1, .second] [(.int (0 : Int32)), (.ref ca), (.long P), (.ref r0)])) rfl rfl (Jvm.hb hby d6_38) k₀) ?_
    show Gm p e below T9 m 39 #[rv r0, lv q1, .second] [(.long k), (.long P), (.ref r0)] _
    refine own_go (fun t₀ k₀ => XS.lsub X9.here hx rfl (Jvm.hb hby d6_39) rfl k₀) ?_
    show Gm p e below T9 m 40 #[rv r0, lv q1, .second] [(.long (P - k)), (.ref r0)] _
    obtain ⟨T10, h10, X10, e10, W10, st10⟩ := putF X9 hx hZ hown (host := "") (Or.inl (hw _ (List.mem_of_getElem? (i := 27) rfl))) Via.refl e9 F_permits E_r0 (Or.inl (hw _ (List.mem_of_getElem? (i := 28) rfl))) (hw _ (List.mem_of_getElem? (i := 1) rfl)) (ty := .long) (by decide) rfl rfl (g := (mkF m 40 #[rv r0, lv q1, .second] [(.long (P - k)), (.ref r0)])) rfl rfl (Jvm.hb hby d6_40)
    have Fw10 := Fld.same W10 F_permits
    have N10 := Fr.snoc X10 N0 g_r0
    have Z10 : n0 ≤ h10.size := W10.size ▸ Z0
    have M10 : h0.size ≤ h10.size := W10.size ▸ (Nat.le_refl h0.size)
    refine own_go st10 ?_
    show Gm p e below T10 m 43 #[rv r0, lv q1, .second] [] _
    refine own_go (fun t₀ k₀ => XS.aloadN X10.here hx rfl (Jvm.hb hby d6_43) rfl rfl k₀) ?_
    show Gm p e below T10 m 44 #[rv r0, lv q1, .second] [(.ref r0)] _
    refine own_go (fun t₀ k₀ => XS.dup X10.here hx rfl (Jvm.hb hby d6_44) rfl rfl k₀) ?_
    show Gm p e below T10 m 45 #[rv r0, lv q1, .second] [(.ref r0), (.ref r0)] _
    have f11 := (Fld.other W10 F_start (Or.inr (slot_ne (Or.inl (hw _ (List.mem_of_getElem? (i := 22) rfl))) (Or.inl (hw _ (List.mem_of_getElem? (i := 28) rfl))) (by decide) (t := .int) (t' := .long) (by decide) (by decide))))
    obtain ⟨T12, X12, e12, st12⟩ := getF X10 hx hZ hown (host := "") (Or.inl (hw _ (List.mem_of_getElem? (i := 21) rfl))) Via.refl e10 f11 (g := (mkF m 45 #[rv r0, lv q1, .second] [(.ref r0), (.ref r0)])) rfl rfl (Jvm.hb hby d6_45)
    refine own_go st12 ?_
    show Gm p e below T12 m 48 #[rv r0, lv q1, .second] [(.int (0 : Int32)), (.ref r0)] _
    refine own_go (fun t₀ k₀ => XS.iconst X12.here hx rfl (Jvm.hb hby d6_48) k₀) ?_
    show Gm p e below T12 m 49 #[rv r0, lv q1, .second] [(.int (1 : Int32)), (.int (0 : Int32)), (.ref r0)] _
    refine own_go (fun t₀ k₀ => XS.iadd X12.here hx rfl (Jvm.hb hby d6_49) rfl k₀) ?_
    show Gm p e below T12 m 50 #[rv r0, lv q1, .second] [(.int (1 : Int32)), (.ref r0)] _
    have f13 := (E_r0.wr W10)
    obtain ⟨T14, h14, X14, e14, W14, st14⟩ := putF X12 hx hZ hown (host := "") (Or.inl (hw _ (List.mem_of_getElem? (i := 21) rfl))) Via.refl e12 f11 f13 (Or.inl (hw _ (List.mem_of_getElem? (i := 22) rfl))) (hw _ (List.mem_of_getElem? (i := 1) rfl)) (ty := .int) (by decide) rfl rfl (g := (mkF m 50 #[rv r0, lv q1, .second] [(.int (1 : Int32)), (.ref r0)])) rfl rfl (Jvm.hb hby d6_50)
    have Fw14 := Fld.same W14 f11
    have N14 := Fr.snoc X14 N10 g_r0
    have Z14 : n0 ≤ h14.size := W14.size ▸ Z10
    have M14 : h0.size ≤ h14.size := W14.size ▸ M10
    refine own_go st14 ?_
    show Gm p e below T14 m 53 #[rv r0, lv q1, .second] [] _
    refine own_go (fun t₀ k₀ => XS.goto X14.here hx rfl (pc0 := 53) (pc' := 0) rfl (Jvm.hb hby d6_53) (by decide) (by decide) k₀) ?_
    show Gm p e below T14 m 0 #[rv r0, lv q1, .second] [] _
    refine own_go (fun t₀ k₀ => XS.aloadN X14.here hx rfl (Jvm.hb hby d6_0) rfl rfl k₀) ?_
    show Gm p e below T14 m 1 #[rv r0, lv q1, .second] [(.ref r0)] _
    obtain ⟨T15, X15, e15, st15⟩ := getF X14 hx hZ hown (host := "") (Or.inl (hw _ (List.mem_of_getElem? (i := 21) rfl))) Via.refl e14 Fw14 (g := (mkF m 1 #[rv r0, lv q1, .second] [(.ref r0)])) rfl rfl (Jvm.hb hby d6_1)
    refine own_go st15 ?_
    show Gm p e below T15 m 4 #[rv r0, lv q1, .second] [(.int (1 : Int32))] _
    refine own_go (fun t₀ k₀ => XS.aloadN X15.here hx rfl (Jvm.hb hby d6_4) rfl rfl k₀) ?_
    show Gm p e below T15 m 5 #[rv r0, lv q1, .second] [(.ref r0), (.int (1 : Int32))] _
    have f16 := (Fld.other W14 (Fld.other W10 F_end (Or.inr (slot_ne (Or.inl (hw _ (List.mem_of_getElem? (i := 20) rfl))) (Or.inl (hw _ (List.mem_of_getElem? (i := 28) rfl))) (by decide) (t := .int) (t' := .long) (by decide) (by decide)))) (Or.inr (slot_ne (Or.inl (hw _ (List.mem_of_getElem? (i := 20) rfl))) (Or.inl (hw _ (List.mem_of_getElem? (i := 22) rfl))) (by decide) (t := .int) (t' := .int) (by decide) (by decide))))
    obtain ⟨T17, X17, e17, st17⟩ := getF X15 hx hZ hown (host := "") (Or.inl (hw _ (List.mem_of_getElem? (i := 19) rfl))) Via.refl e15 f16 (g := (mkF m 5 #[rv r0, lv q1, .second] [(.ref r0), (.int (1 : Int32))])) rfl rfl (Jvm.hb hby d6_5)
    refine own_go st17 ?_
    show Gm p e below T17 m 8 #[rv r0, lv q1, .second] [(.int (2 : Int32)), (.int (1 : Int32))] _
    refine own_go (fun t₀ k₀ => XS.icmpNo X17.here hx rfl (Jvm.hb hby d6_8) rfl (XT.ii_ge_f (by decide)) k₀) ?_
    show Gm p e below T17 m 11 #[rv r0, lv q1, .second] [] _
    refine own_go (fun t₀ k₀ => XS.aloadN X17.here hx rfl (Jvm.hb hby d6_11) rfl rfl k₀) ?_
    show Gm p e below T17 m 12 #[rv r0, lv q1, .second] [(.ref r0)] _
    have f18 := (Fld.other W14 (Fld.other W10 F_times (Or.inr (slot_ne (Or.inl (hw _ (List.mem_of_getElem? (i := 11) rfl))) (Or.inl (hw _ (List.mem_of_getElem? (i := 28) rfl))) (by decide) (t := (.array .long)) (t' := .long) (by decide) (by decide)))) (Or.inr (slot_ne (Or.inl (hw _ (List.mem_of_getElem? (i := 11) rfl))) (Or.inl (hw _ (List.mem_of_getElem? (i := 22) rfl))) (by decide) (t := (.array .long)) (t' := .int) (by decide) (by decide))))
    obtain ⟨T19, X19, e19, st19⟩ := getF X17 hx hZ hown (host := "") (Or.inl (hw _ (List.mem_of_getElem? (i := 10) rfl))) Via.refl e17 f18 (g := (mkF m 12 #[rv r0, lv q1, .second] [(.ref r0)])) rfl rfl (Jvm.hb hby d6_12)
    refine own_go st19 ?_
    show Gm p e below T19 m 15 #[rv r0, lv q1, .second] [(.ref ta)] _
    refine own_go (fun t₀ k₀ => XS.aloadN X19.here hx rfl (Jvm.hb hby d6_15) rfl rfl k₀) ?_
    show Gm p e below T19 m 16 #[rv r0, lv q1, .second] [(.ref r0), (.ref ta)] _
    obtain ⟨T20, X20, e20, st20⟩ := getF X19 hx hZ hown (host := "") (Or.inl (hw _ (List.mem_of_getElem? (i := 21) rfl))) Via.refl e19 Fw14 (g := (mkF m 16 #[rv r0, lv q1, .second] [(.ref r0), (.ref ta)])) rfl rfl (Jvm.hb hby d6_16)
    refine own_go st20 ?_
    show Gm p e below T20 m 19 #[rv r0, lv q1, .second] [(.int (1 : Int32)), (.ref ta)] _
    have f21 := ((At.other W10 (Ne.symm ne_rt)).other W14 (Ne.symm ne_rt))
    refine own_go (fun t₀ k₀ => own_ldJ X20 hx hZ e20 f21 (j := (1 : Int32)) (k := 1) (by decide) rfl (by omega) (w := (.long b)) (hxs 1 _ _ rfl).1 (g := (mkF m 19 #[rv r0, lv q1, .second] [(.int (1 : Int32)), (.ref ta)])) rfl rfl (Jvm.hb hby d6_19) k₀) ?_
    show Gm p e below T20 m 20 #[rv r0, lv q1, .second] [(.long b)] _
    refine own_go (fun t₀ k₀ => XS.lloadN X20.here hx rfl (Jvm.hb hby d6_20) rfl k₀) ?_
    show Gm p e below T20 m 21 #[rv r0, lv q1, .second] [(.long q1), (.long b)] _
    refine own_go (fun t₀ k₀ => XT.lcmp X20.here hx rfl (Jvm.hb hby d6_21) rfl k₀) ?_
    show Gm p e below T20 m 22 #[rv r0, lv q1, .second] [(.int (XT.cmpL b q1))] _
    by_cases c22 : q1 < b
    · have hfork := trivial
      refine own_go (fun t₀ k₀ => XS.ifYes X20.here hx rfl (pc0 := 22) (pc' := 56) rfl (Jvm.hb hby d6_22) rfl (XT.ll_gt_t c22) (by decide) (by decide) k₀) ?_
      show Gm p e below T20 m 56 #[rv r0, lv q1, .second] [] _
      have f24 := ((Ac.other W10 (Ne.symm ne_rc)).other W14 (Ne.symm ne_rc))
      have f25 := (f13.wr W14)
      have f26 := (Fld.other W14 (Fld.other W10 F_counts (Or.inr (slot_ne (Or.inl (hw _ (List.mem_of_getElem? (i := 13) rfl))) (Or.inl (hw _ (List.mem_of_getElem? (i := 28) rfl))) (by decide) (t := (.array .long)) (t' := .long) (by decide) (by decide)))) (Or.inr (slot_ne (Or.inl (hw _ (List.mem_of_getElem? (i := 13) rfl))) (Or.inl (hw _ (List.mem_of_getElem? (i := 22) rfl))) (by decide) (t := (.array .long)) (t' := .int) (by decide) (by decide))))
      have f27 := (Fld.other W14 Fw10 (Or.inr (slot_ne (Or.inl (hw _ (List.mem_of_getElem? (i := 28) rfl))) (Or.inl (hw _ (List.mem_of_getElem? (i := 22) rfl))) (by decide) (t := .long) (t' := .int) (by decide) (by decide))))
      have q23 : LL Z h14 n0 r0 N 1 [(b, j)] (P - k) := ⟨ta, ca, _, _, f25, f18, f26, Fw14, f16, f27, f21, f24, ne_rt, ne_rc, ne_tc, g_ta, g_ca, (by simp; omega), (own_hx1 (s := 1) (ft := ft) (fc := fc) (hxs 1 _ _ rfl).1 (hxs 1 _ _ rfl).2)⟩
      have e1q23 : dr q1 [(a, k), (b, j)] = [(b, j)] := by simp only [dr]; rw [if_neg c5, if_pos c22]
      have e2q23 : pr q1 [(a, k), (b, j)] P = (P - k) := by simp only [pr]; rw [if_neg c5, if_pos c22]
      rw [← e1q23, ← e2q23] at q23
      exact own_retV X20 hx hlk Bd.returns (Jvm.hb hby d6_56) e20 ⟨rfl, N14, M14, 1, q23, by rw [e1q23]; rfl⟩ (by decide) (by decide)
    · have hfork := trivial
      refine own_go (fun t₀ k₀ => XS.ifNo X20.here hx rfl (Jvm.hb hby d6_22) rfl (XT.ll_gt_f c22) k₀) ?_
      show Gm p e below T20 m 25 #[rv r0, lv q1, .second] [] _
      refine own_go (fun t₀ k₀ => XS.aloadN X20.here hx rfl (Jvm.hb hby d6_25) rfl rfl k₀) ?_
      show Gm p e below T20 m 26 #[rv r0, lv q1, .second] [(.ref r0)] _
      refine own_go (fun t₀ k₀ => XS.dup X20.here hx rfl (Jvm.hb hby d6_26) rfl rfl k₀) ?_
      show Gm p e below T20 m 27 #[rv r0, lv q1, .second] [(.ref r0), (.ref r0)] _
      have f28 := (Fld.other W14 Fw10 (Or.inr (slot_ne (Or.inl (hw _ (List.mem_of_getElem? (i := 28) rfl))) (Or.inl (hw _ (List.mem_of_getElem? (i := 22) rfl))) (by decide) (t := .long) (t' := .int) (by decide) (by decide))))
      obtain ⟨T29, X29, e29, st29⟩ := getF X20 hx hZ hown (host := "") (Or.inl (hw _ (List.mem_of_getElem? (i := 27) rfl))) Via.refl e20 f28 (g := (mkF m 27 #[rv r0, lv q1, .second] [(.ref r0), (.ref r0)])) rfl rfl (Jvm.hb hby d6_27)
      refine own_go st29 ?_
      show Gm p e below T29 m 30 #[rv r0, lv q1, .second] [(.long (P - k)), (.ref r0)] _
      refine own_go (fun t₀ k₀ => XS.aloadN X29.here hx rfl (Jvm.hb hby d6_30) rfl rfl k₀) ?_
      show Gm p e below T29 m 31 #[rv r0, lv q1, .second] [(.ref r0), (.long (P - k)), (.ref r0)] _
      have f30 := (Fld.other W14 (Fld.other W10 F_counts (Or.inr (slot_ne (Or.inl (hw _ (List.mem_of_getElem? (i := 13) rfl))) (Or.inl (hw _ (List.mem_of_getElem? (i := 28) rfl))) (by decide) (t := (.array .long)) (t' := .long) (by decide) (by decide)))) (Or.inr (slot_ne (Or.inl (hw _ (List.mem_of_getElem? (i := 13) rfl))) (Or.inl (hw _ (List.mem_of_getElem? (i := 22) rfl))) (by decide) (t := (.array .long)) (t' := .int) (by decide) (by decide))))
      obtain ⟨T31, X31, e31, st31⟩ := getF X29 hx hZ hown (host := "") (Or.inl (hw _ (List.mem_of_getElem? (i := 12) rfl))) Via.refl e29 f30 (g := (mkF m 31 #[rv r0, lv q1, .second] [(.ref r0), (.long (P - k)), (.ref r0)])) rfl rfl (Jvm.hb hby d6_31)
      refine own_go st31 ?_
      show Gm p e below T31 m 34 #[rv r0, lv q1, .second] [(.ref ca), (.long (P - k)), (.ref r0)] _
      refine own_go (fun t₀ k₀ => XS.aloadN X31.here hx rfl (Jvm.hb hby d6_34) rfl rfl k₀) ?_
      show Gm p e below T31 m 35 #[rv r0, lv q1, .second] [(.ref r0), (.ref ca), (.long (P - k)), (.ref r0)] _
      obtain ⟨T32, X32, e32, st32⟩ := getF X31 hx hZ hown (host := "") (Or.inl (hw _ (List.mem_of_getElem? (i := 21) rfl))) Via.refl e31 Fw14 (g := (mkF m 35 #[rv r0, lv q1, .second] [(.ref r0), (.ref ca), (.long (P - k)), (.ref r0)])) rfl rfl (Jvm.hb hby d6_35)
      refine own_go st32 ?_
      show Gm p e below T32 m 38 #[rv r0, lv q1, .second] [(.int (1 : Int32)), (.ref ca), (.long (P - k)), (.ref r0)] _
      have f33 := ((Ac.other W10 (Ne.symm ne_rc)).other W14 (Ne.symm ne_rc))
      refine own_go (fun t₀ k₀ => own_ldJ X32 hx hZ e32 f33 (j := (1 : Int32)) (k := 1) (by decide) rfl (by omega) (w := (.long j)) (hxs 1 _ _ rfl).2 (g := (mkF m 38 #[rv r0, lv q1, .second] [(.int (1 : Int32)), (.ref ca), (.long (P - k)), (.ref r0)])) rfl rfl (Jvm.hb hby d6_38) k₀) ?_
      show Gm p e below T32 m 39 #[rv r0, lv q1, .second] [(.long j), (.long (P - k)), (.ref r0)] _
      refine own_go (fun t₀ k₀ => XS.lsub X32.here hx rfl (Jvm.hb hby d6_39) rfl k₀) ?_
      show Gm p e below T32 m 40 #[rv r0, lv q1, .second] [(.long ((P - k) - j)), (.ref r0)] _
      have f34 := (f13.wr W14)
      obtain ⟨T35, h35, X35, e35, W35, st35⟩ := putF X32 hx hZ hown (host := "") (Or.inl (hw _ (List.mem_of_getElem? (i := 27) rfl))) Via.refl e32 f28 f34 (Or.inl (hw _ (List.mem_of_getElem? (i := 28) rfl))) (hw _ (List.mem_of_getElem? (i := 1) rfl)) (ty := .long) (by decide) rfl rfl (g := (mkF m 40 #[rv r0, lv q1, .second] [(.long ((P - k) - j)), (.ref r0)])) rfl rfl (Jvm.hb hby d6_40)
      have Fw35 := Fld.same W35 f28
      have N35 := Fr.snoc X35 N14 g_r0
      have Z35 : n0 ≤ h35.size := W35.size ▸ Z14
      have M35 : h0.size ≤ h35.size := W35.size ▸ M14
      refine own_go st35 ?_
      show Gm p e below T35 m 43 #[rv r0, lv q1, .second] [] _
      refine own_go (fun t₀ k₀ => XS.aloadN X35.here hx rfl (Jvm.hb hby d6_43) rfl rfl k₀) ?_
      show Gm p e below T35 m 44 #[rv r0, lv q1, .second] [(.ref r0)] _
      refine own_go (fun t₀ k₀ => XS.dup X35.here hx rfl (Jvm.hb hby d6_44) rfl rfl k₀) ?_
      show Gm p e below T35 m 45 #[rv r0, lv q1, .second] [(.ref r0), (.ref r0)] _
      have f36 := (Fld.other W35 Fw14 (Or.inr (slot_ne (Or.inl (hw _ (List.mem_of_getElem? (i := 22) rfl))) (Or.inl (hw _ (List.mem_of_getElem? (i := 28) rfl))) (by decide) (t := .int) (t' := .long) (by decide) (by decide))))
      obtain ⟨T37, X37, e37, st37⟩ := getF X35 hx hZ hown (host := "") (Or.inl (hw _ (List.mem_of_getElem? (i := 21) rfl))) Via.refl e35 f36 (g := (mkF m 45 #[rv r0, lv q1, .second] [(.ref r0), (.ref r0)])) rfl rfl (Jvm.hb hby d6_45)
      refine own_go st37 ?_
      show Gm p e below T37 m 48 #[rv r0, lv q1, .second] [(.int (1 : Int32)), (.ref r0)] _
      refine own_go (fun t₀ k₀ => XS.iconst X37.here hx rfl (Jvm.hb hby d6_48) k₀) ?_
      show Gm p e below T37 m 49 #[rv r0, lv q1, .second] [(.int (1 : Int32)), (.int (1 : Int32)), (.ref r0)] _
      refine own_go (fun t₀ k₀ => XS.iadd X37.here hx rfl (Jvm.hb hby d6_49) rfl k₀) ?_
      show Gm p e below T37 m 50 #[rv r0, lv q1, .second] [(.int (2 : Int32)), (.ref r0)] _
      have f38 := (f34.wr W35)
      obtain ⟨T39, h39, X39, e39, W39, st39⟩ := putF X37 hx hZ hown (host := "") (Or.inl (hw _ (List.mem_of_getElem? (i := 21) rfl))) Via.refl e37 f36 f38 (Or.inl (hw _ (List.mem_of_getElem? (i := 22) rfl))) (hw _ (List.mem_of_getElem? (i := 1) rfl)) (ty := .int) (by decide) rfl rfl (g := (mkF m 50 #[rv r0, lv q1, .second] [(.int (2 : Int32)), (.ref r0)])) rfl rfl (Jvm.hb hby d6_50)
      have Fw39 := Fld.same W39 f36
      have N39 := Fr.snoc X39 N35 g_r0
      have Z39 : n0 ≤ h39.size := W39.size ▸ Z35
      have M39 : h0.size ≤ h39.size := W39.size ▸ M35
      refine own_go st39 ?_
      show Gm p e below T39 m 53 #[rv r0, lv q1, .second] [] _
      refine own_go (fun t₀ k₀ => XS.goto X39.here hx rfl (pc0 := 53) (pc' := 0) rfl (Jvm.hb hby d6_53) (by decide) (by decide) k₀) ?_
      show Gm p e below T39 m 0 #[rv r0, lv q1, .second] [] _
      refine own_go (fun t₀ k₀ => XS.aloadN X39.here hx rfl (Jvm.hb hby d6_0) rfl rfl k₀) ?_
      show Gm p e below T39 m 1 #[rv r0, lv q1, .second] [(.ref r0)] _
      obtain ⟨T40, X40, e40, st40⟩ := getF X39 hx hZ hown (host := "") (Or.inl (hw _ (List.mem_of_getElem? (i := 21) rfl))) Via.refl e39 Fw39 (g := (mkF m 1 #[rv r0, lv q1, .second] [(.ref r0)])) rfl rfl (Jvm.hb hby d6_1)
      refine own_go st40 ?_
      show Gm p e below T40 m 4 #[rv r0, lv q1, .second] [(.int (2 : Int32))] _
      refine own_go (fun t₀ k₀ => XS.aloadN X40.here hx rfl (Jvm.hb hby d6_4) rfl rfl k₀) ?_
      show Gm p e below T40 m 5 #[rv r0, lv q1, .second] [(.ref r0), (.int (2 : Int32))] _
      have f41 := (Fld.other W39 (Fld.other W35 f16 (Or.inr (slot_ne (Or.inl (hw _ (List.mem_of_getElem? (i := 20) rfl))) (Or.inl (hw _ (List.mem_of_getElem? (i := 28) rfl))) (by decide) (t := .int) (t' := .long) (by decide) (by decide)))) (Or.inr (slot_ne (Or.inl (hw _ (List.mem_of_getElem? (i := 20) rfl))) (Or.inl (hw _ (List.mem_of_getElem? (i := 22) rfl))) (by decide) (t := .int) (t' := .int) (by decide) (by decide))))
      obtain ⟨T42, X42, e42, st42⟩ := getF X40 hx hZ hown (host := "") (Or.inl (hw _ (List.mem_of_getElem? (i := 19) rfl))) Via.refl e40 f41 (g := (mkF m 5 #[rv r0, lv q1, .second] [(.ref r0), (.int (2 : Int32))])) rfl rfl (Jvm.hb hby d6_5)
      refine own_go st42 ?_
      show Gm p e below T42 m 8 #[rv r0, lv q1, .second] [(.int (2 : Int32)), (.int (2 : Int32))] _
      refine own_go (fun t₀ k₀ => XS.icmpYes X42.here hx rfl (pc0 := 8) (pc' := 56) rfl (Jvm.hb hby d6_8) rfl (XT.ii_ge_t (by decide)) (by decide) (by decide) k₀) ?_
      show Gm p e below T42 m 56 #[rv r0, lv q1, .second] [] _
      have f44 := ((f21.other W35 (Ne.symm ne_rt)).other W39 (Ne.symm ne_rt))
      have f45 := ((f33.other W35 (Ne.symm ne_rc)).other W39 (Ne.symm ne_rc))
      have f46 := (f38.wr W39)
      have f47 := (Fld.other W39 (Fld.other W35 f18 (Or.inr (slot_ne (Or.inl (hw _ (List.mem_of_getElem? (i := 11) rfl))) (Or.inl (hw _ (List.mem_of_getElem? (i := 28) rfl))) (by decide) (t := (.array .long)) (t' := .long) (by decide) (by decide)))) (Or.inr (slot_ne (Or.inl (hw _ (List.mem_of_getElem? (i := 11) rfl))) (Or.inl (hw _ (List.mem_of_getElem? (i := 22) rfl))) (by decide) (t := (.array .long)) (t' := .int) (by decide) (by decide))))
      have f48 := (Fld.other W39 (Fld.other W35 f30 (Or.inr (slot_ne (Or.inl (hw _ (List.mem_of_getElem? (i := 13) rfl))) (Or.inl (hw _ (List.mem_of_getElem? (i := 28) rfl))) (by decide) (t := (.array .long)) (t' := .long) (by decide) (by decide)))) (Or.inr (slot_ne (Or.inl (hw _ (List.mem_of_getElem? (i := 13) rfl))) (Or.inl (hw _ (List.mem_of_getElem? (i := 22) rfl))) (by decide) (t := (.array .long)) (t' := .int) (by decide) (by decide))))
      have f49 := (Fld.other W39 Fw35 (Or.inr (slot_ne (Or.inl (hw _ (List.mem_of_getElem? (i := 28) rfl))) (Or.inl (hw _ (List.mem_of_getElem? (i := 22) rfl))) (by decide) (t := .long) (t' := .int) (by decide) (by decide))))
      have q43 : LL Z h39 n0 r0 N 2 [] ((P - k) - j) := ⟨ta, ca, _, _, f46, f47, f48, Fw39, f41, f49, f44, f45, ne_rt, ne_rc, ne_tc, g_ta, g_ca, (by simp; omega), (own_hx0 (s := 2) (ft := ft) (fc := fc) )⟩
      have e1q43 : dr q1 [(a, k), (b, j)] = [] := by simp only [dr]; rw [if_neg c5, if_neg c22]
      have e2q43 : pr q1 [(a, k), (b, j)] P = ((P - k) - j) := by simp only [pr]; rw [if_neg c5, if_neg c22]
      rw [← e1q43, ← e2q43] at q43
      exact own_retV X42 hx hlk Bd.returns (Jvm.hb hby d6_56) e42 ⟨rfl, N39, M39, 2, q43, by rw [e1q43]; rfl⟩ (by decide) (by decide)
theorem own_pn_rm6_3 : plainName "com/example/libbrake/libbrake/AdmissionLog" = true := by first | (simp [plainName, overriddenIn]; done) | decide +kernel
theorem own_ef_rm6_3 (m : MethodId) (r0 : Addr) (q1 : Int64) : entryFrame m #[(.ref r0), (.long q1)] 3 = mkF m 0 #[.val (.ref r0), .val (.long q1), .second] [] := by first | (simp [entryFrame, mkF, argsToLocals, Value.category]; done) | rfl
set_option maxRecDepth 65536 in
set_option maxHeartbeats 40000000 in
theorem rm6_3 (l : Launch) (Z : State) (a0 : Array Value) (hw : ∀ d ∈ tables_1, d.before a0 Z = true) (ws : List Jvm.Cond) (r0 : Addr) (q1 : Int64) (N : Nat) (a : Int64) (k : Int64) (b : Int64) (j : Int64) (c : Int64) (u : Int64) (P : Int64) (h0 : Heap) (n0 : Nat) (Z0 : n0 ≤ h0.size) (H : LL Z h0 n0 r0 N 0 [(a, k), (b, j), (c, u)] P) (g_r0 : n0 ≤ r0) :
    MetFree l (⟨"com/example/libbrake/libbrake/AdmissionLog", "removeUpTo", "(J)V"⟩ : MethodName) (head1 (Jvm.Cond.code (⟨"com/example/libbrake/libbrake/AdmissionLog", "removeUpTo", "(J)V"⟩ : MethodName) prog_1_method_3_code 3 none :: ws) ({ frames := 0, cells := 0, slots := 0, locals := 0 } : Room)) (fun a U => a = #[(.ref r0), (.long q1)] ∧ Z.Warmed39 U.vm ∧ U.heap = h0) (fun _ _ _ _ _ => True) (fun _ U o U' => ∃ v L, o = .returned v ∧ QR Z r0 q1 N [(a, k), (b, j), (c, u)] P h0 n0 v U'.heap L ∧ FrameEnd U o U' L ({ frames := 0, cells := 0, slots := 0, locals := 0 } : Room).cells ({ frames := 0, cells := 0, slots := 0, locals := 0 } : Room).slots) := by
  refine MetFree.of_bodySF (plainFor_of_name own_pn_rm6_3) hisR ?_
  intro p e s m args below meth cO s₁ Bd hml0 hP hK
  obtain ⟨rfl, hZ, hh⟩ := hP
  have hx := Bd.exec
  have hby := Bd.bytes
  have hml : cO.maxLocals = 3 := hml0
  have hown : s.vm.findClass "com/example/libbrake/libbrake/AdmissionLog" = some m.cls := findClass_of_methodNamed Bd.named
  have hnm := (name_of_methodNamed Bd.named Bd.method).1
  have hlk : meth.locks = false := BodyLoose.notSynchronized Bd
  have X0 : Stand p l e ({ frames := 0, cells := 0, slots := 0, locals := 0 } : Room) s m #[(.ref r0), (.long q1)] below meth cO s₁ [] 0 0 := Stand.of_body Bd
  have e0 : s₁.heap = h0 := by rw [← hh, Bd.state]; rfl
  have N0 := Fr.nil n0
  obtain ⟨ta, ca, ft, fc, E_r0, F_times, F_counts, F_start, F_end, F_permits, At, Ac, ne_rt, ne_rc, ne_tc, g_ta, g_ca, hN, hxs⟩ := H
  have hN' : 3 ≤ N := hN
  refine own_in (own_ef_rm6_3 m r0 q1) ?_
  show Gm p e below s₁ m 0 #[rv r0, lv q1, .second] [] _
  refine own_go (fun t₀ k₀ => XS.aloadN X0.here hx rfl (Jvm.hb hby d6_0) rfl rfl k₀) ?_
  show Gm p e below s₁ m 1 #[rv r0, lv q1, .second] [(.ref r0)] _
  obtain ⟨T1, X1, e1, st1⟩ := getF X0 hx hZ hown (host := "") (Or.inl (hw _ (List.mem_of_getElem? (i := 21) rfl))) Via.refl e0 F_start (g := (mkF m 1 #[rv r0, lv q1, .second] [(.ref r0)])) rfl rfl (Jvm.hb hby d6_1)
  refine own_go st1 ?_
  show Gm p e below T1 m 4 #[rv r0, lv q1, .second] [(.int (0 : Int32))] _
  refine own_go (fun t₀ k₀ => XS.aloadN X1.here hx rfl (Jvm.hb hby d6_4) rfl rfl k₀) ?_
  show Gm p e below T1 m 5 #[rv r0, lv q1, .second] [(.ref r0), (.int (0 : Int32))] _
  obtain ⟨T2, X2, e2, st2⟩ := getF X1 hx hZ hown (host := "") (Or.inl (hw _ (List.mem_of_getElem? (i := 19) rfl))) Via.refl e1 F_end (g := (mkF m 5 #[rv r0, lv q1, .second] [(.ref r0), (.int (0 : Int32))])) rfl rfl (Jvm.hb hby d6_5)
  refine own_go st2 ?_
  show Gm p e below T2 m 8 #[rv r0, lv q1, .second] [(.int (3 : Int32)), (.int (0 : Int32))] _
  refine own_go (fun t₀ k₀ => XS.icmpNo X2.here hx rfl (Jvm.hb hby d6_8) rfl (XT.ii_ge_f (by decide)) k₀) ?_
  show Gm p e below T2 m 11 #[rv r0, lv q1, .second] [] _
  refine own_go (fun t₀ k₀ => XS.aloadN X2.here hx rfl (Jvm.hb hby d6_11) rfl rfl k₀) ?_
  show Gm p e below T2 m 12 #[rv r0, lv q1, .second] [(.ref r0)] _
  obtain ⟨T3, X3, e3, st3⟩ := getF X2 hx hZ hown (host := "") (Or.inl (hw _ (List.mem_of_getElem? (i := 10) rfl))) Via.refl e2 F_times (g := (mkF m 12 #[rv r0, lv q1, .second] [(.ref r0)])) rfl rfl (Jvm.hb hby d6_12)
  refine own_go st3 ?_
  show Gm p e below T3 m 15 #[rv r0, lv q1, .second] [(.ref ta)] _
  refine own_go (fun t₀ k₀ => XS.aloadN X3.here hx rfl (Jvm.hb hby d6_15) rfl rfl k₀) ?_
  show Gm p e below T3 m 16 #[rv r0, lv q1, .second] [(.ref r0), (.ref ta)] _
  obtain ⟨T4, X4, e4, st4⟩ := getF X3 hx hZ hown (host := "") (Or.inl (hw _ (List.mem_of_getElem? (i := 21) rfl))) Via.refl e3 F_start (g := (mkF m 16 #[rv r0, lv q1, .second] [(.ref r0), (.ref ta)])) rfl rfl (Jvm.hb hby d6_16)
  refine own_go st4 ?_
  show Gm p e below T4 m 19 #[rv r0, lv q1, .second] [(.int (0 : Int32)), (.ref ta)] _
  refine own_go (fun t₀ k₀ => own_ldJ X4 hx hZ e4 At (j := (0 : Int32)) (k := 0) (by decide) rfl (by omega) (w := (.long a)) (hxs 0 _ _ rfl).1 (g := (mkF m 19 #[rv r0, lv q1, .second] [(.int (0 : Int32)), (.ref ta)])) rfl rfl (Jvm.hb hby d6_19) k₀) ?_
  show Gm p e below T4 m 20 #[rv r0, lv q1, .second] [(.long a)] _
  refine own_go (fun t₀ k₀ => XS.lloadN X4.here hx rfl (Jvm.hb hby d6_20) rfl k₀) ?_
  show Gm p e below T4 m 21 #[rv r0, lv q1, .second] [(.long q1), (.long a)] _
  refine own_go (fun t₀ k₀ => XT.lcmp X4.here hx rfl (Jvm.hb hby d6_21) rfl k₀) ?_
  show Gm p e below T4 m 22 #[rv r0, lv q1, .second] [(.int (XT.cmpL a q1))] _
  by_cases c5 : q1 < a
  · have hfork := trivial
    refine own_go (fun t₀ k₀ => XS.ifYes X4.here hx rfl (pc0 := 22) (pc' := 56) rfl (Jvm.hb hby d6_22) rfl (XT.ll_gt_t c5) (by decide) (by decide) k₀) ?_
    show Gm p e below T4 m 56 #[rv r0, lv q1, .second] [] _
    have q6 : LL Z h0 n0 r0 N 0 [(a, k), (b, j), (c, u)] P := ⟨ta, ca, _, _, E_r0, F_times, F_counts, F_start, F_end, F_permits, At, Ac, ne_rt, ne_rc, ne_tc, g_ta, g_ca, (by simp; omega), (own_hx3 (s := 0) (ft := ft) (fc := fc) (hxs 0 _ _ rfl).1 (hxs 0 _ _ rfl).2 (hxs 1 _ _ rfl).1 (hxs 1 _ _ rfl).2 (hxs 2 _ _ rfl).1 (hxs 2 _ _ rfl).2)⟩
    have e1q6 : dr q1 [(a, k), (b, j), (c, u)] = [(a, k), (b, j), (c, u)] := by simp only [dr]; rw [if_pos c5]
    have e2q6 : pr q1 [(a, k), (b, j), (c, u)] P = P := by simp only [pr]; rw [if_pos c5]
    rw [← e1q6, ← e2q6] at q6
    exact own_retV X4 hx hlk Bd.returns (Jvm.hb hby d6_56) e4 ⟨rfl, N0, (Nat.le_refl h0.size), 0, q6, by rw [e1q6]; rfl⟩ (by decide) (by decide)
  · have hfork := trivial
    refine own_go (fun t₀ k₀ => XS.ifNo X4.here hx rfl (Jvm.hb hby d6_22) rfl (XT.ll_gt_f c5) k₀) ?_
    show Gm p e below T4 m 25 #[rv r0, lv q1, .second] [] _
    refine own_go (fun t₀ k₀ => XS.aloadN X4.here hx rfl (Jvm.hb hby d6_25) rfl rfl k₀) ?_
    show Gm p e below T4 m 26 #[rv r0, lv q1, .second] [(.ref r0)] _
    refine own_go (fun t₀ k₀ => XS.dup X4.here hx rfl (Jvm.hb hby d6_26) rfl rfl k₀) ?_
    show Gm p e below T4 m 27 #[rv r0, lv q1, .second] [(.ref r0), (.ref r0)] _
    obtain ⟨T7, X7, e7, st7⟩ := getF X4 hx hZ hown (host := "") (Or.inl (hw _ (List.mem_of_getElem? (i := 27) rfl))) Via.refl e4 F_permits (g := (mkF m 27 #[rv r0, lv q1, .second] [(.ref r0), (.ref r0)])) rfl rfl (Jvm.hb hby d6_27)
    refine own_go st7 ?_
    show Gm p e below T7 m 30 #[rv r0, lv q1, .second] [(.long P), (.ref r0)] _
    refine own_go (fun t₀ k₀ => XS.aloadN X7.here hx rfl (Jvm.hb hby d6_30) rfl rfl k₀) ?_
    show Gm p e below T7 m 31 #[rv r0, lv q1, .second] [(.ref r0), (.long P), (.ref r0)] _
    obtain ⟨T8, X8, e8, st8⟩ := getF X7 hx hZ hown (host := "") (Or.inl (hw _ (List.mem_of_getElem? (i := 12) rfl))) Via.refl e7 F_counts (g := (mkF m 31 #[rv r0, lv q1, .second] [(.ref r0), (.long P), (.ref r0)])) rfl rfl (Jvm.hb hby d6_31)
    refine own_go st8 ?_
    show Gm p e below T8 m 34 #[rv r0, lv q1, .second] [(.ref ca), (.long P), (.ref r0)] _
    refine own_go (fun t₀ k₀ => XS.aloadN X8.here hx rfl (Jvm.hb hby d6_34) rfl rfl k₀) ?_
    show Gm p e below T8 m 35 #[rv r0, lv q1, .second] [(.ref r0), (.ref ca), (.long P), (.ref r0)] _
    obtain ⟨T9, X9, e9, st9⟩ := getF X8 hx hZ hown (host := "") (Or.inl (hw _ (List.mem_of_getElem? (i := 21) rfl))) Via.refl e8 F_start (g := (mkF m 35 #[rv r0, lv q1, .second] [(.ref r0), (.ref ca), (.long P), (.ref r0)])) rfl rfl (Jvm.hb hby d6_35)
    refine own_go st9 ?_
    show Gm p e below T9 m 38 #[rv r0, lv q1, .second] [(.int (0 : Int32)), (.ref ca), (.long P), (.ref r0)] _
    refine own_go (fun t₀ k₀ => own_ldJ X9 hx hZ e9 Ac (j := (0 : Int32)) (k := 0) (by decide) rfl (by omega) (w := (.long k)) (hxs 0 _ _ rfl).2 (g := (mkF m 38 #[rv r0, lv q1, .second] [(.int (0 : Int32)), (.ref ca), (.long P), (.ref r0)])) rfl rfl (Jvm.hb hby d6_38) k₀) ?_
    show Gm p e below T9 m 39 #[rv r0, lv q1, .second] [(.long k), (.long P), (.ref r0)] _
    refine own_go (fun t₀ k₀ => XS.lsub X9.here hx rfl (Jvm.hb hby d6_39) rfl k₀) ?_
    show Gm p e below T9 m 40 #[rv r0, lv q1, .second] [(.long (P - k)), (.ref r0)] _
    obtain ⟨T10, h10, X10, e10, W10, st10⟩ := putF X9 hx hZ hown (host := "") (Or.inl (hw _ (List.mem_of_getElem? (i := 27) rfl))) Via.refl e9 F_permits E_r0 (Or.inl (hw _ (List.mem_of_getElem? (i := 28) rfl))) (hw _ (List.mem_of_getElem? (i := 1) rfl)) (ty := .long) (by decide) rfl rfl (g := (mkF m 40 #[rv r0, lv q1, .second] [(.long (P - k)), (.ref r0)])) rfl rfl (Jvm.hb hby d6_40)
    have Fw10 := Fld.same W10 F_permits
    have N10 := Fr.snoc X10 N0 g_r0
    have Z10 : n0 ≤ h10.size := W10.size ▸ Z0
    have M10 : h0.size ≤ h10.size := W10.size ▸ (Nat.le_refl h0.size)
    refine own_go st10 ?_
    show Gm p e below T10 m 43 #[rv r0, lv q1, .second] [] _
    refine own_go (fun t₀ k₀ => XS.aloadN X10.here hx rfl (Jvm.hb hby d6_43) rfl rfl k₀) ?_
    show Gm p e below T10 m 44 #[rv r0, lv q1, .second] [(.ref r0)] _
    refine own_go (fun t₀ k₀ => XS.dup X10.here hx rfl (Jvm.hb hby d6_44) rfl rfl k₀) ?_
    show Gm p e below T10 m 45 #[rv r0, lv q1, .second] [(.ref r0), (.ref r0)] _
    have f11 := (Fld.other W10 F_start (Or.inr (slot_ne (Or.inl (hw _ (List.mem_of_getElem? (i := 22) rfl))) (Or.inl (hw _ (List.mem_of_getElem? (i := 28) rfl))) (by decide) (t := .int) (t' := .long) (by decide) (by decide))))
    obtain ⟨T12, X12, e12, st12⟩ := getF X10 hx hZ hown (host := "") (Or.inl (hw _ (List.mem_of_getElem? (i := 21) rfl))) Via.refl e10 f11 (g := (mkF m 45 #[rv r0, lv q1, .second] [(.ref r0), (.ref r0)])) rfl rfl (Jvm.hb hby d6_45)
    refine own_go st12 ?_
    show Gm p e below T12 m 48 #[rv r0, lv q1, .second] [(.int (0 : Int32)), (.ref r0)] _
    refine own_go (fun t₀ k₀ => XS.iconst X12.here hx rfl (Jvm.hb hby d6_48) k₀) ?_
    show Gm p e below T12 m 49 #[rv r0, lv q1, .second] [(.int (1 : Int32)), (.int (0 : Int32)), (.ref r0)] _
    refine own_go (fun t₀ k₀ => XS.iadd X12.here hx rfl (Jvm.hb hby d6_49) rfl k₀) ?_
    show Gm p e below T12 m 50 #[rv r0, lv q1, .second] [(.int (1 : Int32)), (.ref r0)] _
    have f13 := (E_r0.wr W10)
    obtain ⟨T14, h14, X14, e14, W14, st14⟩ := putF X12 hx hZ hown (host := "") (Or.inl (hw _ (List.mem_of_getElem? (i := 21) rfl))) Via.refl e12 f11 f13 (Or.inl (hw _ (List.mem_of_getElem? (i := 22) rfl))) (hw _ (List.mem_of_getElem? (i := 1) rfl)) (ty := .int) (by decide) rfl rfl (g := (mkF m 50 #[rv r0, lv q1, .second] [(.int (1 : Int32)), (.ref r0)])) rfl rfl (Jvm.hb hby d6_50)
    have Fw14 := Fld.same W14 f11
    have N14 := Fr.snoc X14 N10 g_r0
    have Z14 : n0 ≤ h14.size := W14.size ▸ Z10
    have M14 : h0.size ≤ h14.size := W14.size ▸ M10
    refine own_go st14 ?_
    show Gm p e below T14 m 53 #[rv r0, lv q1, .second] [] _
    refine own_go (fun t₀ k₀ => XS.goto X14.here hx rfl (pc0 := 53) (pc' := 0) rfl (Jvm.hb hby d6_53) (by decide) (by decide) k₀) ?_
    show Gm p e below T14 m 0 #[rv r0, lv q1, .second] [] _
    refine own_go (fun t₀ k₀ => XS.aloadN X14.here hx rfl (Jvm.hb hby d6_0) rfl rfl k₀) ?_
    show Gm p e below T14 m 1 #[rv r0, lv q1, .second] [(.ref r0)] _
    obtain ⟨T15, X15, e15, st15⟩ := getF X14 hx hZ hown (host := "") (Or.inl (hw _ (List.mem_of_getElem? (i := 21) rfl))) Via.refl e14 Fw14 (g := (mkF m 1 #[rv r0, lv q1, .second] [(.ref r0)])) rfl rfl (Jvm.hb hby d6_1)
    refine own_go st15 ?_
    show Gm p e below T15 m 4 #[rv r0, lv q1, .second] [(.int (1 : Int32))] _
    refine own_go (fun t₀ k₀ => XS.aloadN X15.here hx rfl (Jvm.hb hby d6_4) rfl rfl k₀) ?_
    show Gm p e below T15 m 5 #[rv r0, lv q1, .second] [(.ref r0), (.int (1 : Int32))] _
    have f16 := (Fld.other W14 (Fld.other W10 F_end (Or.inr (slot_ne (Or.inl (hw _ (List.mem_of_getElem? (i := 20) rfl))) (Or.inl (hw _ (List.mem_of_getElem? (i := 28) rfl))) (by decide) (t := .int) (t' := .long) (by decide) (by decide)))) (Or.inr (slot_ne (Or.inl (hw _ (List.mem_of_getElem? (i := 20) rfl))) (Or.inl (hw _ (List.mem_of_getElem? (i := 22) rfl))) (by decide) (t := .int) (t' := .int) (by decide) (by decide))))
    obtain ⟨T17, X17, e17, st17⟩ := getF X15 hx hZ hown (host := "") (Or.inl (hw _ (List.mem_of_getElem? (i := 19) rfl))) Via.refl e15 f16 (g := (mkF m 5 #[rv r0, lv q1, .second] [(.ref r0), (.int (1 : Int32))])) rfl rfl (Jvm.hb hby d6_5)
    refine own_go st17 ?_
    show Gm p e below T17 m 8 #[rv r0, lv q1, .second] [(.int (3 : Int32)), (.int (1 : Int32))] _
    refine own_go (fun t₀ k₀ => XS.icmpNo X17.here hx rfl (Jvm.hb hby d6_8) rfl (XT.ii_ge_f (by decide)) k₀) ?_
    show Gm p e below T17 m 11 #[rv r0, lv q1, .second] [] _
    refine own_go (fun t₀ k₀ => XS.aloadN X17.here hx rfl (Jvm.hb hby d6_11) rfl rfl k₀) ?_
    show Gm p e below T17 m 12 #[rv r0, lv q1, .second] [(.ref r0)] _
    have f18 := (Fld.other W14 (Fld.other W10 F_times (Or.inr (slot_ne (Or.inl (hw _ (List.mem_of_getElem? (i := 11) rfl))) (Or.inl (hw _ (List.mem_of_getElem? (i := 28) rfl))) (by decide) (t := (.array .long)) (t' := .long) (by decide) (by decide)))) (Or.inr (slot_ne (Or.inl (hw _ (List.mem_of_getElem? (i := 11) rfl))) (Or.inl (hw _ (List.mem_of_getElem? (i := 22) rfl))) (by decide) (t := (.array .long)) (t' := .int) (by decide) (by decide))))
    obtain ⟨T19, X19, e19, st19⟩ := getF X17 hx hZ hown (host := "") (Or.inl (hw _ (List.mem_of_getElem? (i := 10) rfl))) Via.refl e17 f18 (g := (mkF m 12 #[rv r0, lv q1, .second] [(.ref r0)])) rfl rfl (Jvm.hb hby d6_12)
    refine own_go st19 ?_
    show Gm p e below T19 m 15 #[rv r0, lv q1, .second] [(.ref ta)] _
    refine own_go (fun t₀ k₀ => XS.aloadN X19.here hx rfl (Jvm.hb hby d6_15) rfl rfl k₀) ?_
    show Gm p e below T19 m 16 #[rv r0, lv q1, .second] [(.ref r0), (.ref ta)] _
    obtain ⟨T20, X20, e20, st20⟩ := getF X19 hx hZ hown (host := "") (Or.inl (hw _ (List.mem_of_getElem? (i := 21) rfl))) Via.refl e19 Fw14 (g := (mkF m 16 #[rv r0, lv q1, .second] [(.ref r0), (.ref ta)])) rfl rfl (Jvm.hb hby d6_16)
    refine own_go st20 ?_
    show Gm p e below T20 m 19 #[rv r0, lv q1, .second] [(.int (1 : Int32)), (.ref ta)] _
    have f21 := ((At.other W10 (Ne.symm ne_rt)).other W14 (Ne.symm ne_rt))
    refine own_go (fun t₀ k₀ => own_ldJ X20 hx hZ e20 f21 (j := (1 : Int32)) (k := 1) (by decide) rfl (by omega) (w := (.long b)) (hxs 1 _ _ rfl).1 (g := (mkF m 19 #[rv r0, lv q1, .second] [(.int (1 : Int32)), (.ref ta)])) rfl rfl (Jvm.hb hby d6_19) k₀) ?_
    show Gm p e below T20 m 20 #[rv r0, lv q1, .second] [(.long b)] _
    refine own_go (fun t₀ k₀ => XS.lloadN X20.here hx rfl (Jvm.hb hby d6_20) rfl k₀) ?_
    show Gm p e below T20 m 21 #[rv r0, lv q1, .second] [(.long q1), (.long b)] _
    refine own_go (fun t₀ k₀ => XT.lcmp X20.here hx rfl (Jvm.hb hby d6_21) rfl k₀) ?_
    show Gm p e below T20 m 22 #[rv r0, lv q1, .second] [(.int (XT.cmpL b q1))] _
    by_cases c22 : q1 < b
    · have hfork := trivial
      refine own_go (fun t₀ k₀ => XS.ifYes X20.here hx rfl (pc0 := 22) (pc' := 56) rfl (Jvm.hb hby d6_22) rfl (XT.ll_gt_t c22) (by decide) (by decide) k₀) ?_
      show Gm p e below T20 m 56 #[rv r0, lv q1, .second] [] _
      have f24 := ((Ac.other W10 (Ne.symm ne_rc)).other W14 (Ne.symm ne_rc))
      have f25 := (f13.wr W14)
      have f26 := (Fld.other W14 (Fld.other W10 F_counts (Or.inr (slot_ne (Or.inl (hw _ (List.mem_of_getElem? (i := 13) rfl))) (Or.inl (hw _ (List.mem_of_getElem? (i := 28) rfl))) (by decide) (t := (.array .long)) (t' := .long) (by decide) (by decide)))) (Or.inr (slot_ne (Or.inl (hw _ (List.mem_of_getElem? (i := 13) rfl))) (Or.inl (hw _ (List.mem_of_getElem? (i := 22) rfl))) (by decide) (t := (.array .long)) (t' := .int) (by decide) (by decide))))
      have f27 := (Fld.other W14 Fw10 (Or.inr (slot_ne (Or.inl (hw _ (List.mem_of_getElem? (i := 28) rfl))) (Or.inl (hw _ (List.mem_of_getElem? (i := 22) rfl))) (by decide) (t := .long) (t' := .int) (by decide) (by decide))))
      have q23 : LL Z h14 n0 r0 N 1 [(b, j), (c, u)] (P - k) := ⟨ta, ca, _, _, f25, f18, f26, Fw14, f16, f27, f21, f24, ne_rt, ne_rc, ne_tc, g_ta, g_ca, (by simp; omega), (own_hx2 (s := 1) (ft := ft) (fc := fc) (hxs 1 _ _ rfl).1 (hxs 1 _ _ rfl).2 (hxs 2 _ _ rfl).1 (hxs 2 _ _ rfl).2)⟩
      have e1q23 : dr q1 [(a, k), (b, j), (c, u)] = [(b, j), (c, u)] := by simp only [dr]; rw [if_neg c5, if_pos c22]
      have e2q23 : pr q1 [(a, k), (b, j), (c, u)] P = (P - k) := by simp only [pr]; rw [if_neg c5, if_pos c22]
      rw [← e1q23, ← e2q23] at q23
      exact own_retV X20 hx hlk Bd.returns (Jvm.hb hby d6_56) e20 ⟨rfl, N14, M14, 1, q23, by rw [e1q23]; rfl⟩ (by decide) (by decide)
    · have hfork := trivial
      refine own_go (fun t₀ k₀ => XS.ifNo X20.here hx rfl (Jvm.hb hby d6_22) rfl (XT.ll_gt_f c22) k₀) ?_
      show Gm p e below T20 m 25 #[rv r0, lv q1, .second] [] _
      refine own_go (fun t₀ k₀ => XS.aloadN X20.here hx rfl (Jvm.hb hby d6_25) rfl rfl k₀) ?_
      show Gm p e below T20 m 26 #[rv r0, lv q1, .second] [(.ref r0)] _
      refine own_go (fun t₀ k₀ => XS.dup X20.here hx rfl (Jvm.hb hby d6_26) rfl rfl k₀) ?_
      show Gm p e below T20 m 27 #[rv r0, lv q1, .second] [(.ref r0), (.ref r0)] _
      have f28 := (Fld.other W14 Fw10 (Or.inr (slot_ne (Or.inl (hw _ (List.mem_of_getElem? (i := 28) rfl))) (Or.inl (hw _ (List.mem_of_getElem? (i := 22) rfl))) (by decide) (t := .long) (t' := .int) (by decide) (by decide))))
      obtain ⟨T29, X29, e29, st29⟩ := getF X20 hx hZ hown (host := "") (Or.inl (hw _ (List.mem_of_getElem? (i := 27) rfl))) Via.refl e20 f28 (g := (mkF m 27 #[rv r0, lv q1, .second] [(.ref r0), (.ref r0)])) rfl rfl (Jvm.hb hby d6_27)
      refine own_go st29 ?_
      show Gm p e below T29 m 30 #[rv r0, lv q1, .second] [(.long (P - k)), (.ref r0)] _
      refine own_go (fun t₀ k₀ => XS.aloadN X29.here hx rfl (Jvm.hb hby d6_30) rfl rfl k₀) ?_
      show Gm p e below T29 m 31 #[rv r0, lv q1, .second] [(.ref r0), (.long (P - k)), (.ref r0)] _
      have f30 := (Fld.other W14 (Fld.other W10 F_counts (Or.inr (slot_ne (Or.inl (hw _ (List.mem_of_getElem? (i := 13) rfl))) (Or.inl (hw _ (List.mem_of_getElem? (i := 28) rfl))) (by decide) (t := (.array .long)) (t' := .long) (by decide) (by decide)))) (Or.inr (slot_ne (Or.inl (hw _ (List.mem_of_getElem? (i := 13) rfl))) (Or.inl (hw _ (List.mem_of_getElem? (i := 22) rfl))) (by decide) (t := (.array .long)) (t' := .int) (by decide) (by decide))))
      obtain ⟨T31, X31, e31, st31⟩ := getF X29 hx hZ hown (host := "") (Or.inl (hw _ (List.mem_of_getElem? (i := 12) rfl))) Via.refl e29 f30 (g := (mkF m 31 #[rv r0, lv q1, .second] [(.ref r0), (.long (P - k)), (.ref r0)])) rfl rfl (Jvm.hb hby d6_31)
      refine own_go st31 ?_
      show Gm p e below T31 m 34 #[rv r0, lv q1, .second] [(.ref ca), (.long (P - k)), (.ref r0)] _
      refine own_go (fun t₀ k₀ => XS.aloadN X31.here hx rfl (Jvm.hb hby d6_34) rfl rfl k₀) ?_
      show Gm p e below T31 m 35 #[rv r0, lv q1, .second] [(.ref r0), (.ref ca), (.long (P - k)), (.ref r0)] _
      obtain ⟨T32, X32, e32, st32⟩ := getF X31 hx hZ hown (host := "") (Or.inl (hw _ (List.mem_of_getElem? (i := 21) rfl))) Via.refl e31 Fw14 (g := (mkF m 35 #[rv r0, lv q1, .second] [(.ref r0), (.ref ca), (.long (P - k)), (.ref r0)])) rfl rfl (Jvm.hb hby d6_35)
      refine own_go st32 ?_
      show Gm p e below T32 m 38 #[rv r0, lv q1, .second] [(.int (1 : Int32)), (.ref ca), (.long (P - k)), (.ref r0)] _
      have f33 := ((Ac.other W10 (Ne.symm ne_rc)).other W14 (Ne.symm ne_rc))
      refine own_go (fun t₀ k₀ => own_ldJ X32 hx hZ e32 f33 (j := (1 : Int32)) (k := 1) (by decide) rfl (by omega) (w := (.long j)) (hxs 1 _ _ rfl).2 (g := (mkF m 38 #[rv r0, lv q1, .second] [(.int (1 : Int32)), (.ref ca), (.long (P - k)), (.ref r0)])) rfl rfl (Jvm.hb hby d6_38) k₀) ?_
      show Gm p e below T32 m 39 #[rv r0, lv q1, .second] [(.long j), (.long (P - k)), (.ref r0)] _
      refine own_go (fun t₀ k₀ => XS.lsub X32.here hx rfl (Jvm.hb hby d6_39) rfl k₀) ?_
      show Gm p e below T32 m 40 #[rv r0, lv q1, .second] [(.long ((P - k) - j)), (.ref r0)] _
      have f34 := (f13.wr W14)
      obtain ⟨T35, h35, X35, e35, W35, st35⟩ := putF X32 hx hZ hown (host := "") (Or.inl (hw _ (List.mem_of_getElem? (i := 27) rfl))) Via.refl e32 f28 f34 (Or.inl (hw _ (List.mem_of_getElem? (i := 28) rfl))) (hw _ (List.mem_of_getElem? (i := 1) rfl)) (ty := .long) (by decide) rfl rfl (g := (mkF m 40 #[rv r0, lv q1, .second] [(.long ((P - k) - j)), (.ref r0)])) rfl rfl (Jvm.hb hby d6_40)
      have Fw35 := Fld.same W35 f28
      have N35 := Fr.snoc X35 N14 g_r0
      have Z35 : n0 ≤ h35.size := W35.size ▸ Z14
      have M35 : h0.size ≤ h35.size := W35.size ▸ M14
      refine own_go st35 ?_
      show Gm p e below T35 m 43 #[rv r0, lv q1, .second] [] _
      refine own_go (fun t₀ k₀ => XS.aloadN X35.here hx rfl (Jvm.hb hby d6_43) rfl rfl k₀) ?_
      show Gm p e below T35 m 44 #[rv r0, lv q1, .second] [(.ref r0)] _
      refine own_go (fun t₀ k₀ => XS.dup X35.here hx rfl (Jvm.hb hby d6_44) rfl rfl k₀) ?_
      show Gm p e below T35 m 45 #[rv r0, lv q1, .second] [(.ref r0), (.ref r0)] _
      have f36 := (Fld.other W35 Fw14 (Or.inr (slot_ne (Or.inl (hw _ (List.mem_of_getElem? (i := 22) rfl))) (Or.inl (hw _ (List.mem_of_getElem? (i := 28) rfl))) (by decide) (t := .int) (t' := .long) (by decide) (by decide))))
      obtain ⟨T37, X37, e37, st37⟩ := getF X35 hx hZ hown (host := "") (Or.inl (hw _ (List.mem_of_getElem? (i := 21) rfl))) Via.refl e35 f36 (g := (mkF m 45 #[rv r0, lv q1, .second] [(.ref r0), (.ref r0)])) rfl rfl (Jvm.hb hby d6_45)
      refine own_go st37 ?_
      show Gm p e below T37 m 48 #[rv r0, lv q1, .second] [(.int (1 : Int32)), (.ref r0)] _
      refine own_go (fun t₀ k₀ => XS.iconst X37.here hx rfl (Jvm.hb hby d6_48) k₀) ?_
      show Gm p e below T37 m 49 #[rv r0, lv q1, .second] [(.int (1 : Int32)), (.int (1 : Int32)), (.ref r0)] _
      refine own_go (fun t₀ k₀ => XS.iadd X37.here hx rfl (Jvm.hb hby d6_49) rfl k₀) ?_
      show Gm p e below T37 m 50 #[rv r0, lv q1, .second] [(.int (2 : Int32)), (.ref r0)] _
      have f38 := (f34.wr W35)
      obtain ⟨T39, h39, X39, e39, W39, st39⟩ := putF X37 hx hZ hown (host := "") (Or.inl (hw _ (List.mem_of_getElem? (i := 21) rfl))) Via.refl e37 f36 f38 (Or.inl (hw _ (List.mem_of_getElem? (i := 22) rfl))) (hw _ (List.mem_of_getElem? (i := 1) rfl)) (ty := .int) (by decide) rfl rfl (g := (mkF m 50 #[rv r0, lv q1, .second] [(.int (2 : Int32)), (.ref r0)])) rfl rfl (Jvm.hb hby d6_50)
      have Fw39 := Fld.same W39 f36
      have N39 := Fr.snoc X39 N35 g_r0
      have Z39 : n0 ≤ h39.size := W39.size ▸ Z35
      have M39 : h0.size ≤ h39.size := W39.size ▸ M35
      refine own_go st39 ?_
      show Gm p e below T39 m 53 #[rv r0, lv q1, .second] [] _
      refine own_go (fun t₀ k₀ => XS.goto X39.here hx rfl (pc0 := 53) (pc' := 0) rfl (Jvm.hb hby d6_53) (by decide) (by decide) k₀) ?_
      show Gm p e below T39 m 0 #[rv r0, lv q1, .second] [] _
      refine own_go (fun t₀ k₀ => XS.aloadN X39.here hx rfl (Jvm.hb hby d6_0) rfl rfl k₀) ?_
      show Gm p e below T39 m 1 #[rv r0, lv q1, .second] [(.ref r0)] _
      obtain ⟨T40, X40, e40, st40⟩ := getF X39 hx hZ hown (host := "") (Or.inl (hw _ (List.mem_of_getElem? (i := 21) rfl))) Via.refl e39 Fw39 (g := (mkF m 1 #[rv r0, lv q1, .second] [(.ref r0)])) rfl rfl (Jvm.hb hby d6_1)
      refine own_go st40 ?_
      show Gm p e below T40 m 4 #[rv r0, lv q1, .second] [(.int (2 : Int32))] _
      refine own_go (fun t₀ k₀ => XS.aloadN X40.here hx rfl (Jvm.hb hby d6_4) rfl rfl k₀) ?_
      show Gm p e below T40 m 5 #[rv r0, lv q1, .second] [(.ref r0), (.int (2 : Int32))] _
      have f41 := (Fld.other W39 (Fld.other W35 f16 (Or.inr (slot_ne (Or.inl (hw _ (List.mem_of_getElem? (i := 20) rfl))) (Or.inl (hw _ (List.mem_of_getElem? (i := 28) rfl))) (by decide) (t := .int) (t' := .long) (by decide) (by decide)))) (Or.inr (slot_ne (Or.inl (hw _ (List.mem_of_getElem? (i := 20) rfl))) (Or.inl (hw _ (List.mem_of_getElem? (i := 22) rfl))) (by decide) (t := .int) (t' := .int) (by decide) (by decide))))
      obtain ⟨T42, X42, e42, st42⟩ := getF X40 hx hZ hown (host := "") (Or.inl (hw _ (List.mem_of_getElem? (i := 19) rfl))) Via.refl e40 f41 (g := (mkF m 5 #[rv r0, lv q1, .second] [(.ref r0), (.int (2 : Int32))])) rfl rfl (Jvm.hb hby d6_5)
      refine own_go st42 ?_
      show Gm p e below T42 m 8 #[rv r0, lv q1, .second] [(.int (3 : Int32)), (.int (2 : Int32))] _
      refine own_go (fun t₀ k₀ => XS.icmpNo X42.here hx rfl (Jvm.hb hby d6_8) rfl (XT.ii_ge_f (by decide)) k₀) ?_
      show Gm p e below T42 m 11 #[rv r0, lv q1, .second] [] _
      refine own_go (fun t₀ k₀ => XS.aloadN X42.here hx rfl (Jvm.hb hby d6_11) rfl rfl k₀) ?_
      show Gm p e below T42 m 12 #[rv r0, lv q1, .second] [(.ref r0)] _
      have f43 := (Fld.other W39 (Fld.other W35 f18 (Or.inr (slot_ne (Or.inl (hw _ (List.mem_of_getElem? (i := 11) rfl))) (Or.inl (hw _ (List.mem_of_getElem? (i := 28) rfl))) (by decide) (t := (.array .long)) (t' := .long) (by decide) (by decide)))) (Or.inr (slot_ne (Or.inl (hw _ (List.mem_of_getElem? (i := 11) rfl))) (Or.inl (hw _ (List.mem_of_getElem? (i := 22) rfl))) (by decide) (t := (.array .long)) (t' := .int) (by decide) (by decide))))
      obtain ⟨T44, X44, e44, st44⟩ := getF X42 hx hZ hown (host := "") (Or.inl (hw _ (List.mem_of_getElem? (i := 10) rfl))) Via.refl e42 f43 (g := (mkF m 12 #[rv r0, lv q1, .second] [(.ref r0)])) rfl rfl (Jvm.hb hby d6_12)
      refine own_go st44 ?_
      show Gm p e below T44 m 15 #[rv r0, lv q1, .second] [(.ref ta)] _
      refine own_go (fun t₀ k₀ => XS.aloadN X44.here hx rfl (Jvm.hb hby d6_15) rfl rfl k₀) ?_
      show Gm p e below T44 m 16 #[rv r0, lv q1, .second] [(.ref r0), (.ref ta)] _
      obtain ⟨T45, X45, e45, st45⟩ := getF X44 hx hZ hown (host := "") (Or.inl (hw _ (List.mem_of_getElem? (i := 21) rfl))) Via.refl e44 Fw39 (g := (mkF m 16 #[rv r0, lv q1, .second] [(.ref r0), (.ref ta)])) rfl rfl (Jvm.hb hby d6_16)
      refine own_go st45 ?_
      show Gm p e below T45 m 19 #[rv r0, lv q1, .second] [(.int (2 : Int32)), (.ref ta)] _
      have f46 := ((f21.other W35 (Ne.symm ne_rt)).other W39 (Ne.symm ne_rt))
      refine own_go (fun t₀ k₀ => own_ldJ X45 hx hZ e45 f46 (j := (2 : Int32)) (k := 2) (by decide) rfl (by omega) (w := (.long c)) (hxs 2 _ _ rfl).1 (g := (mkF m 19 #[rv r0, lv q1, .second] [(.int (2 : Int32)), (.ref ta)])) rfl rfl (Jvm.hb hby d6_19) k₀) ?_
      show Gm p e below T45 m 20 #[rv r0, lv q1, .second] [(.long c)] _
      refine own_go (fun t₀ k₀ => XS.lloadN X45.here hx rfl (Jvm.hb hby d6_20) rfl k₀) ?_
      show Gm p e below T45 m 21 #[rv r0, lv q1, .second] [(.long q1), (.long c)] _
      refine own_go (fun t₀ k₀ => XT.lcmp X45.here hx rfl (Jvm.hb hby d6_21) rfl k₀) ?_
      show Gm p e below T45 m 22 #[rv r0, lv q1, .second] [(.int (XT.cmpL c q1))] _
      by_cases c47 : q1 < c
      · have hfork := trivial
        refine own_go (fun t₀ k₀ => XS.ifYes X45.here hx rfl (pc0 := 22) (pc' := 56) rfl (Jvm.hb hby d6_22) rfl (XT.ll_gt_t c47) (by decide) (by decide) k₀) ?_
        show Gm p e below T45 m 56 #[rv r0, lv q1, .second] [] _
        have f49 := ((f33.other W35 (Ne.symm ne_rc)).other W39 (Ne.symm ne_rc))
        have f50 := (f38.wr W39)
        have f51 := (Fld.other W39 (Fld.other W35 f30 (Or.inr (slot_ne (Or.inl (hw _ (List.mem_of_getElem? (i := 13) rfl))) (Or.inl (hw _ (List.mem_of_getElem? (i := 28) rfl))) (by decide) (t := (.array .long)) (t' := .long) (by decide) (by decide)))) (Or.inr (slot_ne (Or.inl (hw _ (List.mem_of_getElem? (i := 13) rfl))) (Or.inl (hw _ (List.mem_of_getElem? (i := 22) rfl))) (by decide) (t := (.array .long)) (t' := .int) (by decide) (by decide))))
        have f52 := (Fld.other W39 Fw35 (Or.inr (slot_ne (Or.inl (hw _ (List.mem_of_getElem? (i := 28) rfl))) (Or.inl (hw _ (List.mem_of_getElem? (i := 22) rfl))) (by decide) (t := .long) (t' := .int) (by decide) (by decide))))
        have q48 : LL Z h39 n0 r0 N 2 [(c, u)] ((P - k) - j) := ⟨ta, ca, _, _, f50, f43, f51, Fw39, f41, f52, f46, f49, ne_rt, ne_rc, ne_tc, g_ta, g_ca, (by simp; omega), (own_hx1 (s := 2) (ft := ft) (fc := fc) (hxs 2 _ _ rfl).1 (hxs 2 _ _ rfl).2)⟩
        have e1q48 : dr q1 [(a, k), (b, j), (c, u)] = [(c, u)] := by simp only [dr]; rw [if_neg c5, if_neg c22, if_pos c47]
        have e2q48 : pr q1 [(a, k), (b, j), (c, u)] P = ((P - k) - j) := by simp only [pr]; rw [if_neg c5, if_neg c22, if_pos c47]
        rw [← e1q48, ← e2q48] at q48
        exact own_retV X45 hx hlk Bd.returns (Jvm.hb hby d6_56) e45 ⟨rfl, N39, M39, 2, q48, by rw [e1q48]; rfl⟩ (by decide) (by decide)
      · have hfork := trivial
        refine own_go (fun t₀ k₀ => XS.ifNo X45.here hx rfl (Jvm.hb hby d6_22) rfl (XT.ll_gt_f c47) k₀) ?_
        show Gm p e below T45 m 25 #[rv r0, lv q1, .second] [] _
        refine own_go (fun t₀ k₀ => XS.aloadN X45.here hx rfl (Jvm.hb hby d6_25) rfl rfl k₀) ?_
        show Gm p e below T45 m 26 #[rv r0, lv q1, .second] [(.ref r0)] _
        refine own_go (fun t₀ k₀ => XS.dup X45.here hx rfl (Jvm.hb hby d6_26) rfl rfl k₀) ?_
        show Gm p e below T45 m 27 #[rv r0, lv q1, .second] [(.ref r0), (.ref r0)] _
        have f53 := (Fld.other W39 Fw35 (Or.inr (slot_ne (Or.inl (hw _ (List.mem_of_getElem? (i := 28) rfl))) (Or.inl (hw _ (List.mem_of_getElem? (i := 22) rfl))) (by decide) (t := .long) (t' := .int) (by decide) (by decide))))
        obtain ⟨T54, X54, e54, st54⟩ := getF X45 hx hZ hown (host := "") (Or.inl (hw _ (List.mem_of_getElem? (i := 27) rfl))) Via.refl e45 f53 (g := (mkF m 27 #[rv r0, lv q1, .second] [(.ref r0), (.ref r0)])) rfl rfl (Jvm.hb hby d6_27)
        refine own_go st54 ?_
        show Gm p e below T54 m 30 #[rv r0, lv q1, .second] [(.long ((P - k) - j)), (.ref r0)] _
        refine own_go (fun t₀ k₀ => XS.aloadN X54.here hx rfl (Jvm.hb hby d6_30) rfl rfl k₀) ?_
        show Gm p e below T54 m 31 #[rv r0, lv q1, .second] [(.ref r0), (.long ((P - k) - j)), (.ref r0)] _
        have f55 := (Fld.other W39 (Fld.other W35 f30 (Or.inr (slot_ne (Or.inl (hw _ (List.mem_of_getElem? (i := 13) rfl))) (Or.inl (hw _ (List.mem_of_getElem? (i := 28) rfl))) (by decide) (t := (.array .long)) (t' := .long) (by decide) (by decide)))) (Or.inr (slot_ne (Or.inl (hw _ (List.mem_of_getElem? (i := 13) rfl))) (Or.inl (hw _ (List.mem_of_getElem? (i := 22) rfl))) (by decide) (t := (.array .long)) (t' := .int) (by decide) (by decide))))
        obtain ⟨T56, X56, e56, st56⟩ := getF X54 hx hZ hown (host := "") (Or.inl (hw _ (List.mem_of_getElem? (i := 12) rfl))) Via.refl e54 f55 (g := (mkF m 31 #[rv r0, lv q1, .second] [(.ref r0), (.long ((P - k) - j)), (.ref r0)])) rfl rfl (Jvm.hb hby d6_31)
        refine own_go st56 ?_
        show Gm p e below T56 m 34 #[rv r0, lv q1, .second] [(.ref ca), (.long ((P - k) - j)), (.ref r0)] _
        refine own_go (fun t₀ k₀ => XS.aloadN X56.here hx rfl (Jvm.hb hby d6_34) rfl rfl k₀) ?_
        show Gm p e below T56 m 35 #[rv r0, lv q1, .second] [(.ref r0), (.ref ca), (.long ((P - k) - j)), (.ref r0)] _
        obtain ⟨T57, X57, e57, st57⟩ := getF X56 hx hZ hown (host := "") (Or.inl (hw _ (List.mem_of_getElem? (i := 21) rfl))) Via.refl e56 Fw39 (g := (mkF m 35 #[rv r0, lv q1, .second] [(.ref r0), (.ref ca), (.long ((P - k) - j)), (.ref r0)])) rfl rfl (Jvm.hb hby d6_35)
        refine own_go st57 ?_
        show Gm p e below T57 m 38 #[rv r0, lv q1, .second] [(.int (2 : Int32)), (.ref ca), (.long ((P - k) - j)), (.ref r0)] _
        have f58 := ((f33.other W35 (Ne.symm ne_rc)).other W39 (Ne.symm ne_rc))
        refine own_go (fun t₀ k₀ => own_ldJ X57 hx hZ e57 f58 (j := (2 : Int32)) (k := 2) (by decide) rfl (by omega) (w := (.long u)) (hxs 2 _ _ rfl).2 (g := (mkF m 38 #[rv r0, lv q1, .second] [(.int (2 : Int32)), (.ref ca), (.long ((P - k) - j)), (.ref r0)])) rfl rfl (Jvm.hb hby d6_38) k₀) ?_
        show Gm p e below T57 m 39 #[rv r0, lv q1, .second] [(.long u), (.long ((P - k) - j)), (.ref r0)] _
        refine own_go (fun t₀ k₀ => XS.lsub X57.here hx rfl (Jvm.hb hby d6_39) rfl k₀) ?_
        show Gm p e below T57 m 40 #[rv r0, lv q1, .second] [(.long (((P - k) - j) - u)), (.ref r0)] _
        have f59 := (f38.wr W39)
        obtain ⟨T60, h60, X60, e60, W60, st60⟩ := putF X57 hx hZ hown (host := "") (Or.inl (hw _ (List.mem_of_getElem? (i := 27) rfl))) Via.refl e57 f53 f59 (Or.inl (hw _ (List.mem_of_getElem? (i := 28) rfl))) (hw _ (List.mem_of_getElem? (i := 1) rfl)) (ty := .long) (by decide) rfl rfl (g := (mkF m 40 #[rv r0, lv q1, .second] [(.long (((P - k) - j) - u)), (.ref r0)])) rfl rfl (Jvm.hb hby d6_40)
        have Fw60 := Fld.same W60 f53
        have N60 := Fr.snoc X60 N39 g_r0
        have Z60 : n0 ≤ h60.size := W60.size ▸ Z39
        have M60 : h0.size ≤ h60.size := W60.size ▸ M39
        refine own_go st60 ?_
        show Gm p e below T60 m 43 #[rv r0, lv q1, .second] [] _
        refine own_go (fun t₀ k₀ => XS.aloadN X60.here hx rfl (Jvm.hb hby d6_43) rfl rfl k₀) ?_
        show Gm p e below T60 m 44 #[rv r0, lv q1, .second] [(.ref r0)] _
        refine own_go (fun t₀ k₀ => XS.dup X60.here hx rfl (Jvm.hb hby d6_44) rfl rfl k₀) ?_
        show Gm p e below T60 m 45 #[rv r0, lv q1, .second] [(.ref r0), (.ref r0)] _
        have f61 := (Fld.other W60 Fw39 (Or.inr (slot_ne (Or.inl (hw _ (List.mem_of_getElem? (i := 22) rfl))) (Or.inl (hw _ (List.mem_of_getElem? (i := 28) rfl))) (by decide) (t := .int) (t' := .long) (by decide) (by decide))))
        obtain ⟨T62, X62, e62, st62⟩ := getF X60 hx hZ hown (host := "") (Or.inl (hw _ (List.mem_of_getElem? (i := 21) rfl))) Via.refl e60 f61 (g := (mkF m 45 #[rv r0, lv q1, .second] [(.ref r0), (.ref r0)])) rfl rfl (Jvm.hb hby d6_45)
        refine own_go st62 ?_
        show Gm p e below T62 m 48 #[rv r0, lv q1, .second] [(.int (2 : Int32)), (.ref r0)] _
        refine own_go (fun t₀ k₀ => XS.iconst X62.here hx rfl (Jvm.hb hby d6_48) k₀) ?_
        show Gm p e below T62 m 49 #[rv r0, lv q1, .second] [(.int (1 : Int32)), (.int (2 : Int32)), (.ref r0)] _
        refine own_go (fun t₀ k₀ => XS.iadd X62.here hx rfl (Jvm.hb hby d6_49) rfl k₀) ?_
        show Gm p e below T62 m 50 #[rv r0, lv q1, .second] [(.int (3 : Int32)), (.ref r0)] _
        have f63 := (f59.wr W60)
        obtain ⟨T64, h64, X64, e64, W64, st64⟩ := putF X62 hx hZ hown (host := "") (Or.inl (hw _ (List.mem_of_getElem? (i := 21) rfl))) Via.refl e62 f61 f63 (Or.inl (hw _ (List.mem_of_getElem? (i := 22) rfl))) (hw _ (List.mem_of_getElem? (i := 1) rfl)) (ty := .int) (by decide) rfl rfl (g := (mkF m 50 #[rv r0, lv q1, .second] [(.int (3 : Int32)), (.ref r0)])) rfl rfl (Jvm.hb hby d6_50)
        have Fw64 := Fld.same W64 f61
        have N64 := Fr.snoc X64 N60 g_r0
        have Z64 : n0 ≤ h64.size := W64.size ▸ Z60
        have M64 : h0.size ≤ h64.size := W64.size ▸ M60
        refine own_go st64 ?_
        show Gm p e below T64 m 53 #[rv r0, lv q1, .second] [] _
        refine own_go (fun t₀ k₀ => XS.goto X64.here hx rfl (pc0 := 53) (pc' := 0) rfl (Jvm.hb hby d6_53) (by decide) (by decide) k₀) ?_
        show Gm p e below T64 m 0 #[rv r0, lv q1, .second] [] _
        refine own_go (fun t₀ k₀ => XS.aloadN X64.here hx rfl (Jvm.hb hby d6_0) rfl rfl k₀) ?_
        show Gm p e below T64 m 1 #[rv r0, lv q1, .second] [(.ref r0)] _
        obtain ⟨T65, X65, e65, st65⟩ := getF X64 hx hZ hown (host := "") (Or.inl (hw _ (List.mem_of_getElem? (i := 21) rfl))) Via.refl e64 Fw64 (g := (mkF m 1 #[rv r0, lv q1, .second] [(.ref r0)])) rfl rfl (Jvm.hb hby d6_1)
        refine own_go st65 ?_
        show Gm p e below T65 m 4 #[rv r0, lv q1, .second] [(.int (3 : Int32))] _
        refine own_go (fun t₀ k₀ => XS.aloadN X65.here hx rfl (Jvm.hb hby d6_4) rfl rfl k₀) ?_
        show Gm p e below T65 m 5 #[rv r0, lv q1, .second] [(.ref r0), (.int (3 : Int32))] _
        have f66 := (Fld.other W64 (Fld.other W60 f41 (Or.inr (slot_ne (Or.inl (hw _ (List.mem_of_getElem? (i := 20) rfl))) (Or.inl (hw _ (List.mem_of_getElem? (i := 28) rfl))) (by decide) (t := .int) (t' := .long) (by decide) (by decide)))) (Or.inr (slot_ne (Or.inl (hw _ (List.mem_of_getElem? (i := 20) rfl))) (Or.inl (hw _ (List.mem_of_getElem? (i := 22) rfl))) (by decide) (t := .int) (t' := .int) (by decide) (by decide))))
        obtain ⟨T67, X67, e67, st67⟩ := getF X65 hx hZ hown (host := "") (Or.inl (hw _ (List.mem_of_getElem? (i := 19) rfl))) Via.refl e65 f66 (g := (mkF m 5 #[rv r0, lv q1, .second] [(.ref r0), (.int (3 : Int32))])) rfl rfl (Jvm.hb hby d6_5)
        refine own_go st67 ?_
        show Gm p e below T67 m 8 #[rv r0, lv q1, .second] [(.int (3 : Int32)), (.int (3 : Int32))] _
        refine own_go (fun t₀ k₀ => XS.icmpYes X67.here hx rfl (pc0 := 8) (pc' := 56) rfl (Jvm.hb hby d6_8) rfl (XT.ii_ge_t (by decide)) (by decide) (by decide) k₀) ?_
        show Gm p e below T67 m 56 #[rv r0, lv q1, .second] [] _
        have f69 := ((f46.other W60 (Ne.symm ne_rt)).other W64 (Ne.symm ne_rt))
        have f70 := ((f58.other W60 (Ne.symm ne_rc)).other W64 (Ne.symm ne_rc))
        have f71 := (f63.wr W64)
        have f72 := (Fld.other W64 (Fld.other W60 f43 (Or.inr (slot_ne (Or.inl (hw _ (List.mem_of_getElem? (i := 11) rfl))) (Or.inl (hw _ (List.mem_of_getElem? (i := 28) rfl))) (by decide) (t := (.array .long)) (t' := .long) (by decide) (by decide)))) (Or.inr (slot_ne (Or.inl (hw _ (List.mem_of_getElem? (i := 11) rfl))) (Or.inl (hw _ (List.mem_of_getElem? (i := 22) rfl))) (by decide) (t := (.array .long)) (t' := .int) (by decide) (by decide))))
        have f73 := (Fld.other W64 (Fld.other W60 f55 (Or.inr (slot_ne (Or.inl (hw _ (List.mem_of_getElem? (i := 13) rfl))) (Or.inl (hw _ (List.mem_of_getElem? (i := 28) rfl))) (by decide) (t := (.array .long)) (t' := .long) (by decide) (by decide)))) (Or.inr (slot_ne (Or.inl (hw _ (List.mem_of_getElem? (i := 13) rfl))) (Or.inl (hw _ (List.mem_of_getElem? (i := 22) rfl))) (by decide) (t := (.array .long)) (t' := .int) (by decide) (by decide))))
        have f74 := (Fld.other W64 Fw60 (Or.inr (slot_ne (Or.inl (hw _ (List.mem_of_getElem? (i := 28) rfl))) (Or.inl (hw _ (List.mem_of_getElem? (i := 22) rfl))) (by decide) (t := .long) (t' := .int) (by decide) (by decide))))
        have q68 : LL Z h64 n0 r0 N 3 [] (((P - k) - j) - u) := ⟨ta, ca, _, _, f71, f72, f73, Fw64, f66, f74, f69, f70, ne_rt, ne_rc, ne_tc, g_ta, g_ca, (by simp; omega), (own_hx0 (s := 3) (ft := ft) (fc := fc) )⟩
        have e1q68 : dr q1 [(a, k), (b, j), (c, u)] = [] := by simp only [dr]; rw [if_neg c5, if_neg c22, if_neg c47]
        have e2q68 : pr q1 [(a, k), (b, j), (c, u)] P = (((P - k) - j) - u) := by simp only [pr]; rw [if_neg c5, if_neg c22, if_neg c47]
        rw [← e1q68, ← e2q68] at q68
        exact own_retV X67 hx hlk Bd.returns (Jvm.hb hby d6_56) e67 ⟨rfl, N64, M64, 3, q68, by rw [e1q68]; rfl⟩ (by decide) (by decide)
theorem d7_0 : decode prog_1_method_2_code 0 = .ok (.aload_n 0, 1) := by decide +kernel
theorem d7_1 : decode prog_1_method_2_code 1 = .ok (.getfield 16, 3) := by decide +kernel
theorem d7_4 : decode prog_1_method_2_code 4 = .ok (.lreturn, 1) := by decide +kernel
theorem own_pn_rm7 : plainName "com/example/libbrake/libbrake/AdmissionLog" = true := by first | (simp [plainName, overriddenIn]; done) | decide +kernel
theorem own_ef_rm7 (m : MethodId) (r0 : Addr) : entryFrame m #[(.ref r0)] 1 = mkF m 0 #[.val (.ref r0)] [] := by first | (simp [entryFrame, mkF, argsToLocals, Value.category]; done) | rfl
def Q7 (Z : State) (r0 : Addr) (P : Int64) (h0 : Heap) (n0 : Nat) (v : Option Value) (h : Heap) (L : List Loc) : Prop := v = some (.long P) ∧ Fr n0 L ∧ h = h0
set_option maxRecDepth 65536 in
set_option maxHeartbeats 40000000 in
theorem rm7 (l : Launch) (Z : State) (a0 : Array Value) (hw : ∀ d ∈ tables_1, d.before a0 Z = true) (ws : List Jvm.Cond) (r0 : Addr) (P : Int64) (h0 : Heap) (n0 : Nat) (Z0 : n0 ≤ h0.size) (F_p : Fld Z h0 r0 "com/example/libbrake/libbrake/AdmissionLog" "permits" "J" (.long P)) :
    MetFree l (⟨"com/example/libbrake/libbrake/AdmissionLog", "permits", "()J"⟩ : MethodName) (head1 (Jvm.Cond.code (⟨"com/example/libbrake/libbrake/AdmissionLog", "permits", "()J"⟩ : MethodName) prog_1_method_2_code 1 (some .long) :: ws) ({ frames := 0, cells := 0, slots := 0, locals := 0 } : Room)) (fun a U => a = #[(.ref r0)] ∧ Z.Warmed39 U.vm ∧ U.heap = h0) (fun _ _ _ _ _ => True) (fun _ U o U' => ∃ v L, o = .returned v ∧ Q7 Z r0 P h0 n0 v U'.heap L ∧ FrameEnd U o U' L ({ frames := 0, cells := 0, slots := 0, locals := 0 } : Room).cells ({ frames := 0, cells := 0, slots := 0, locals := 0 } : Room).slots) := by
  refine MetFree.of_bodySF (plainFor_of_name own_pn_rm7) hisR ?_
  intro p e s m args below meth cO s₁ Bd hml0 hP hK
  obtain ⟨rfl, hZ, hh⟩ := hP
  have hx := Bd.exec
  have hby := Bd.bytes
  have hml : cO.maxLocals = 1 := hml0
  have hown : s.vm.findClass "com/example/libbrake/libbrake/AdmissionLog" = some m.cls := findClass_of_methodNamed Bd.named
  have hnm := (name_of_methodNamed Bd.named Bd.method).1
  have hlk : meth.locks = false := BodyLoose.notSynchronized Bd
  have X0 : Stand p l e ({ frames := 0, cells := 0, slots := 0, locals := 0 } : Room) s m #[(.ref r0)] below meth cO s₁ [] 0 0 := Stand.of_body Bd
  have e0 : s₁.heap = h0 := by rw [← hh, Bd.state]; rfl
  have N0 := Fr.nil n0
  refine own_in (own_ef_rm7 m r0) ?_
  show Gm p e below s₁ m 0 #[rv r0] [] _
  refine own_go (fun t₀ k₀ => XS.aloadN X0.here hx rfl (Jvm.hb hby d7_0) rfl rfl k₀) ?_
  show Gm p e below s₁ m 1 #[rv r0] [(.ref r0)] _
  obtain ⟨T1, X1, e1, st1⟩ := getF X0 hx hZ hown (host := "") (Or.inl (hw _ (List.mem_of_getElem? (i := 27) rfl))) Via.refl e0 F_p (g := (mkF m 1 #[rv r0] [(.ref r0)])) rfl rfl (Jvm.hb hby d7_1)
  refine own_go st1 ?_
  show Gm p e below T1 m 4 #[rv r0] [(.long P)] _
  exact own_retL X1 hx hlk Bd.returns (Jvm.hb hby d7_4) e1 ⟨rfl, N0, rfl⟩ (by decide) (by decide)
theorem d10_0 : decode prog_1_method_5_code 0 = .ok (.aload_n 0, 1) := by decide +kernel
theorem d10_1 : decode prog_1_method_5_code 1 = .ok (.getfield 20, 3) := by decide +kernel
theorem d10_4 : decode prog_1_method_5_code 4 = .ok (.istore_n 3, 1) := by decide +kernel
theorem d10_5 : decode prog_1_method_5_code 5 = .ok (.aload_n 0, 1) := by decide +kernel
theorem d10_6 : decode prog_1_method_5_code 6 = .ok (.getfield 13, 3) := by decide +kernel
theorem d10_9 : decode prog_1_method_5_code 9 = .ok (.iload_n 3, 1) := by decide +kernel
theorem d10_10 : decode prog_1_method_5_code 10 = .ok (.laload, 1) := by decide +kernel
theorem d10_11 : decode prog_1_method_5_code 11 = .ok (.lstore 4, 2) := by decide +kernel
theorem d10_13 : decode prog_1_method_5_code 13 = .ok (.lload 4, 2) := by decide +kernel
theorem d10_15 : decode prog_1_method_5_code 15 = .ok (.lload_n 1, 1) := by decide +kernel
theorem d10_16 : decode prog_1_method_5_code 16 = .ok (.lcmp, 1) := by decide +kernel
theorem d10_17 : decode prog_1_method_5_code 17 = .ok (.ifCond .gt 20, 3) := by decide +kernel
theorem d10_37 : decode prog_1_method_5_code 37 = .ok (.aload_n 0, 1) := by decide +kernel
theorem d10_38 : decode prog_1_method_5_code 38 = .ok (.getfield 9, 3) := by decide +kernel
theorem d10_41 : decode prog_1_method_5_code 41 = .ok (.iload_n 3, 1) := by decide +kernel
theorem d10_42 : decode prog_1_method_5_code 42 = .ok (.laload, 1) := by decide +kernel
theorem d10_43 : decode prog_1_method_5_code 43 = .ok (.lreturn, 1) := by decide +kernel
theorem own_pn_rm10_0_1 : plainName "com/example/libbrake/libbrake/AdmissionLog" = true := by first | (simp [plainName, overriddenIn]; done) | decide +kernel
theorem own_ef_rm10_0_1 (m : MethodId) (r0 : Addr) (q1 : Int64) : entryFrame m #[(.ref r0), (.long q1)] 6 = mkF m 0 #[.val (.ref r0), .val (.long q1), .second, .unset, .unset, .unset] [] := by first | (simp [entryFrame, mkF, argsToLocals, Value.category]; done) | rfl
set_option maxRecDepth 65536 in
set_option maxHeartbeats 40000000 in
theorem rm10_0_1 (l : Launch) (Z : State) (a0 : Array Value) (hw : ∀ d ∈ tables_1, d.before a0 Z = true) (ws : List Jvm.Cond) (r0 : Addr) (q1 : Int64) (N : Nat) (a : Int64) (k : Int64) (P : Int64) (h0 : Heap) (n0 : Nat) (Z0 : n0 ≤ h0.size) (H : LL Z h0 n0 r0 N 0 [(a, k)] P) (hlt : q1 < k) :
    MetFree l (⟨"com/example/libbrake/libbrake/AdmissionLog", "timeOf", "(J)J"⟩ : MethodName) (head1 (Jvm.Cond.code (⟨"com/example/libbrake/libbrake/AdmissionLog", "timeOf", "(J)J"⟩ : MethodName) prog_1_method_5_code 6 (some .long) :: ws) ({ frames := 0, cells := 0, slots := 0, locals := 0 } : Room)) (fun a U => a = #[(.ref r0), (.long q1)] ∧ Z.Warmed39 U.vm ∧ U.heap = h0) (fun _ _ _ _ _ => True) (fun _ U o U' => ∃ v L, o = .returned v ∧ QT q1 [(a, k)] h0 n0 v U'.heap L ∧ FrameEnd U o U' L ({ frames := 0, cells := 0, slots := 0, locals := 0 } : Room).cells ({ frames := 0, cells := 0, slots := 0, locals := 0 } : Room).slots) := by
  refine MetFree.of_bodySF (plainFor_of_name own_pn_rm10_0_1) hisR ?_
  intro p e s m args below meth cO s₁ Bd hml0 hP hK
  obtain ⟨rfl, hZ, hh⟩ := hP
  have hx := Bd.exec
  have hby := Bd.bytes
  have hml : cO.maxLocals = 6 := hml0
  have hown : s.vm.findClass "com/example/libbrake/libbrake/AdmissionLog" = some m.cls := findClass_of_methodNamed Bd.named
  have hnm := (name_of_methodNamed Bd.named Bd.method).1
  have hlk : meth.locks = false := BodyLoose.notSynchronized Bd
  have X0 : Stand p l e ({ frames := 0, cells := 0, slots := 0, locals := 0 } : Room) s m #[(.ref r0), (.long q1)] below meth cO s₁ [] 0 0 := Stand.of_body Bd
  have e0 : s₁.heap = h0 := by rw [← hh, Bd.state]; rfl
  have N0 := Fr.nil n0
  obtain ⟨ta, ca, ft, fc, E_r0, F_times, F_counts, F_start, F_end, F_permits, At, Ac, ne_rt, ne_rc, ne_tc, g_ta, g_ca, hN, hxs⟩ := H
  have hN' : 1 ≤ N := hN
  refine own_in (own_ef_rm10_0_1 m r0 q1) ?_
  show Gm p e below s₁ m 0 #[rv r0, lv q1, .second, .unset, .unset, .unset] [] _
  refine own_go (fun t₀ k₀ => XS.aloadN X0.here hx rfl (Jvm.hb hby d10_0) rfl rfl k₀) ?_
  show Gm p e below s₁ m 1 #[rv r0, lv q1, .second, .unset, .unset, .unset] [(.ref r0)] _
  obtain ⟨T1, X1, e1, st1⟩ := getF X0 hx hZ hown (host := "") (Or.inl (hw _ (List.mem_of_getElem? (i := 21) rfl))) Via.refl e0 F_start (g := (mkF m 1 #[rv r0, lv q1, .second, .unset, .unset, .unset] [(.ref r0)])) rfl rfl (Jvm.hb hby d10_1)
  refine own_go st1 ?_
  show Gm p e below T1 m 4 #[rv r0, lv q1, .second, .unset, .unset, .unset] [(.int (0 : Int32))] _
  refine own_go (fun t₀ k₀ => XS.istoreN X1.here hx rfl (Jvm.hb hby d10_4) rfl (l' := #[rv r0, lv q1, .second, iv (0 : Int32), .unset, .unset]) rfl k₀) ?_
  show Gm p e below T1 m 5 #[rv r0, lv q1, .second, iv (0 : Int32), .unset, .unset] [] _
  refine own_go (fun t₀ k₀ => XS.aloadN X1.here hx rfl (Jvm.hb hby d10_5) rfl rfl k₀) ?_
  show Gm p e below T1 m 6 #[rv r0, lv q1, .second, iv (0 : Int32), .unset, .unset] [(.ref r0)] _
  obtain ⟨T2, X2, e2, st2⟩ := getF X1 hx hZ hown (host := "") (Or.inl (hw _ (List.mem_of_getElem? (i := 12) rfl))) Via.refl e1 F_counts (g := (mkF m 6 #[rv r0, lv q1, .second, iv (0 : Int32), .unset, .unset] [(.ref r0)])) rfl rfl (Jvm.hb hby d10_6)
  refine own_go st2 ?_
  show Gm p e below T2 m 9 #[rv r0, lv q1, .second, iv (0 : Int32), .unset, .unset] [(.ref ca)] _
  refine own_go (fun t₀ k₀ => XS.iloadN X2.here hx rfl (Jvm.hb hby d10_9) rfl k₀) ?_
  show Gm p e below T2 m 10 #[rv r0, lv q1, .second, iv (0 : Int32), .unset, .unset] [(.int (0 : Int32)), (.ref ca)] _
  refine own_go (fun t₀ k₀ => own_ldJ X2 hx hZ e2 Ac (j := (0 : Int32)) (k := 0) (by decide) rfl (by omega) (w := (.long k)) (hxs 0 _ _ rfl).2 (g := (mkF m 10 #[rv r0, lv q1, .second, iv (0 : Int32), .unset, .unset] [(.int (0 : Int32)), (.ref ca)])) rfl rfl (Jvm.hb hby d10_10) k₀) ?_
  show Gm p e below T2 m 11 #[rv r0, lv q1, .second, iv (0 : Int32), .unset, .unset] [(.long k)] _
  refine own_go (fun t₀ k₀ => XS.lstore X2.here hx rfl (Jvm.hb hby d10_11) rfl (l' := #[rv r0, lv q1, .second, iv (0 : Int32), lv k, .second]) rfl k₀) ?_
  show Gm p e below T2 m 13 #[rv r0, lv q1, .second, iv (0 : Int32), lv k, .second] [] _
  refine own_go (fun t₀ k₀ => XS.lload X2.here hx rfl (Jvm.hb hby d10_13) rfl k₀) ?_
  show Gm p e below T2 m 15 #[rv r0, lv q1, .second, iv (0 : Int32), lv k, .second] [(.long k)] _
  refine own_go (fun t₀ k₀ => XS.lloadN X2.here hx rfl (Jvm.hb hby d10_15) rfl k₀) ?_
  show Gm p e below T2 m 16 #[rv r0, lv q1, .second, iv (0 : Int32), lv k, .second] [(.long q1), (.long k)] _
  refine own_go (fun t₀ k₀ => XT.lcmp X2.here hx rfl (Jvm.hb hby d10_16) rfl k₀) ?_
  show Gm p e below T2 m 17 #[rv r0, lv q1, .second, iv (0 : Int32), lv k, .second] [(.int (XT.cmpL k q1))] _
  refine own_go (fun t₀ k₀ => XS.ifYes X2.here hx rfl (pc0 := 17) (pc' := 37) rfl (Jvm.hb hby d10_17) rfl (XT.ll_gt_t hlt) (by decide) (by decide) k₀) ?_
  show Gm p e below T2 m 37 #[rv r0, lv q1, .second, iv (0 : Int32), lv k, .second] [] _
  refine own_go (fun t₀ k₀ => XS.aloadN X2.here hx rfl (Jvm.hb hby d10_37) rfl rfl k₀) ?_
  show Gm p e below T2 m 38 #[rv r0, lv q1, .second, iv (0 : Int32), lv k, .second] [(.ref r0)] _
  obtain ⟨T3, X3, e3, st3⟩ := getF X2 hx hZ hown (host := "") (Or.inl (hw _ (List.mem_of_getElem? (i := 10) rfl))) Via.refl e2 F_times (g := (mkF m 38 #[rv r0, lv q1, .second, iv (0 : Int32), lv k, .second] [(.ref r0)])) rfl rfl (Jvm.hb hby d10_38)
  refine own_go st3 ?_
  show Gm p e below T3 m 41 #[rv r0, lv q1, .second, iv (0 : Int32), lv k, .second] [(.ref ta)] _
  refine own_go (fun t₀ k₀ => XS.iloadN X3.here hx rfl (Jvm.hb hby d10_41) rfl k₀) ?_
  show Gm p e below T3 m 42 #[rv r0, lv q1, .second, iv (0 : Int32), lv k, .second] [(.int (0 : Int32)), (.ref ta)] _
  refine own_go (fun t₀ k₀ => own_ldJ X3 hx hZ e3 At (j := (0 : Int32)) (k := 0) (by decide) rfl (by omega) (w := (.long a)) (hxs 0 _ _ rfl).1 (g := (mkF m 42 #[rv r0, lv q1, .second, iv (0 : Int32), lv k, .second] [(.int (0 : Int32)), (.ref ta)])) rfl rfl (Jvm.hb hby d10_42) k₀) ?_
  show Gm p e below T3 m 43 #[rv r0, lv q1, .second, iv (0 : Int32), lv k, .second] [(.long a)] _
  exact own_retL X3 hx hlk Bd.returns (Jvm.hb hby d10_43) e3 ⟨(by simp only [tOf, tB]), N0, rfl⟩ (by decide) (by decide)
theorem d10_20 : decode prog_1_method_5_code 20 = .ok (.iinc 3 1, 3) := by decide +kernel
theorem d10_23 : decode prog_1_method_5_code 23 = .ok (.lload 4, 2) := by decide +kernel
theorem d10_25 : decode prog_1_method_5_code 25 = .ok (.aload_n 0, 1) := by decide +kernel
theorem d10_26 : decode prog_1_method_5_code 26 = .ok (.getfield 13, 3) := by decide +kernel
theorem d10_29 : decode prog_1_method_5_code 29 = .ok (.iload_n 3, 1) := by decide +kernel
theorem d10_30 : decode prog_1_method_5_code 30 = .ok (.laload, 1) := by decide +kernel
theorem d10_31 : decode prog_1_method_5_code 31 = .ok (.ladd, 1) := by decide +kernel
theorem d10_32 : decode prog_1_method_5_code 32 = .ok (.lstore 4, 2) := by decide +kernel
theorem d10_34 : decode prog_1_method_5_code 34 = .ok (.goto (-21), 3) := by decide +kernel
theorem own_pn_rm10_0_2 : plainName "com/example/libbrake/libbrake/AdmissionLog" = true := by first | (simp [plainName, overriddenIn]; done) | decide +kernel
theorem own_ef_rm10_0_2 (m : MethodId) (r0 : Addr) (q1 : Int64) : entryFrame m #[(.ref r0), (.long q1)] 6 = mkF m 0 #[.val (.ref r0), .val (.long q1), .second, .unset, .unset, .unset] [] := by first | (simp [entryFrame, mkF, argsToLocals, Value.category]; done) | rfl
set_option maxRecDepth 65536 in
set_option maxHeartbeats 40000000 in
theorem rm10_0_2 (l : Launch) (Z : State) (a0 : Array Value) (hw : ∀ d ∈ tables_1, d.before a0 Z = true) (ws : List Jvm.Cond) (r0 : Addr) (q1 : Int64) (N : Nat) (a : Int64) (k : Int64) (b : Int64) (j : Int64) (P : Int64) (h0 : Heap) (n0 : Nat) (Z0 : n0 ≤ h0.size) (H : LL Z h0 n0 r0 N 0 [(a, k), (b, j)] P) (hlt : q1 < (k + j)) :
    MetFree l (⟨"com/example/libbrake/libbrake/AdmissionLog", "timeOf", "(J)J"⟩ : MethodName) (head1 (Jvm.Cond.code (⟨"com/example/libbrake/libbrake/AdmissionLog", "timeOf", "(J)J"⟩ : MethodName) prog_1_method_5_code 6 (some .long) :: ws) ({ frames := 0, cells := 0, slots := 0, locals := 0 } : Room)) (fun a U => a = #[(.ref r0), (.long q1)] ∧ Z.Warmed39 U.vm ∧ U.heap = h0) (fun _ _ _ _ _ => True) (fun _ U o U' => ∃ v L, o = .returned v ∧ QT q1 [(a, k), (b, j)] h0 n0 v U'.heap L ∧ FrameEnd U o U' L ({ frames := 0, cells := 0, slots := 0, locals := 0 } : Room).cells ({ frames := 0, cells := 0, slots := 0, locals := 0 } : Room).slots) := by
  refine MetFree.of_bodySF (plainFor_of_name own_pn_rm10_0_2) hisR ?_
  intro p e s m args below meth cO s₁ Bd hml0 hP hK
  obtain ⟨rfl, hZ, hh⟩ := hP
  have hx := Bd.exec
  have hby := Bd.bytes
  have hml : cO.maxLocals = 6 := hml0
  have hown : s.vm.findClass "com/example/libbrake/libbrake/AdmissionLog" = some m.cls := findClass_of_methodNamed Bd.named
  have hnm := (name_of_methodNamed Bd.named Bd.method).1
  have hlk : meth.locks = false := BodyLoose.notSynchronized Bd
  have X0 : Stand p l e ({ frames := 0, cells := 0, slots := 0, locals := 0 } : Room) s m #[(.ref r0), (.long q1)] below meth cO s₁ [] 0 0 := Stand.of_body Bd
  have e0 : s₁.heap = h0 := by rw [← hh, Bd.state]; rfl
  have N0 := Fr.nil n0
  obtain ⟨ta, ca, ft, fc, E_r0, F_times, F_counts, F_start, F_end, F_permits, At, Ac, ne_rt, ne_rc, ne_tc, g_ta, g_ca, hN, hxs⟩ := H
  have hN' : 2 ≤ N := hN
  refine own_in (own_ef_rm10_0_2 m r0 q1) ?_
  show Gm p e below s₁ m 0 #[rv r0, lv q1, .second, .unset, .unset, .unset] [] _
  refine own_go (fun t₀ k₀ => XS.aloadN X0.here hx rfl (Jvm.hb hby d10_0) rfl rfl k₀) ?_
  show Gm p e below s₁ m 1 #[rv r0, lv q1, .second, .unset, .unset, .unset] [(.ref r0)] _
  obtain ⟨T1, X1, e1, st1⟩ := getF X0 hx hZ hown (host := "") (Or.inl (hw _ (List.mem_of_getElem? (i := 21) rfl))) Via.refl e0 F_start (g := (mkF m 1 #[rv r0, lv q1, .second, .unset, .unset, .unset] [(.ref r0)])) rfl rfl (Jvm.hb hby d10_1)
  refine own_go st1 ?_
  show Gm p e below T1 m 4 #[rv r0, lv q1, .second, .unset, .unset, .unset] [(.int (0 : Int32))] _
  refine own_go (fun t₀ k₀ => XS.istoreN X1.here hx rfl (Jvm.hb hby d10_4) rfl (l' := #[rv r0, lv q1, .second, iv (0 : Int32), .unset, .unset]) rfl k₀) ?_
  show Gm p e below T1 m 5 #[rv r0, lv q1, .second, iv (0 : Int32), .unset, .unset] [] _
  refine own_go (fun t₀ k₀ => XS.aloadN X1.here hx rfl (Jvm.hb hby d10_5) rfl rfl k₀) ?_
  show Gm p e below T1 m 6 #[rv r0, lv q1, .second, iv (0 : Int32), .unset, .unset] [(.ref r0)] _
  obtain ⟨T2, X2, e2, st2⟩ := getF X1 hx hZ hown (host := "") (Or.inl (hw _ (List.mem_of_getElem? (i := 12) rfl))) Via.refl e1 F_counts (g := (mkF m 6 #[rv r0, lv q1, .second, iv (0 : Int32), .unset, .unset] [(.ref r0)])) rfl rfl (Jvm.hb hby d10_6)
  refine own_go st2 ?_
  show Gm p e below T2 m 9 #[rv r0, lv q1, .second, iv (0 : Int32), .unset, .unset] [(.ref ca)] _
  refine own_go (fun t₀ k₀ => XS.iloadN X2.here hx rfl (Jvm.hb hby d10_9) rfl k₀) ?_
  show Gm p e below T2 m 10 #[rv r0, lv q1, .second, iv (0 : Int32), .unset, .unset] [(.int (0 : Int32)), (.ref ca)] _
  refine own_go (fun t₀ k₀ => own_ldJ X2 hx hZ e2 Ac (j := (0 : Int32)) (k := 0) (by decide) rfl (by omega) (w := (.long k)) (hxs 0 _ _ rfl).2 (g := (mkF m 10 #[rv r0, lv q1, .second, iv (0 : Int32), .unset, .unset] [(.int (0 : Int32)), (.ref ca)])) rfl rfl (Jvm.hb hby d10_10) k₀) ?_
  show Gm p e below T2 m 11 #[rv r0, lv q1, .second, iv (0 : Int32), .unset, .unset] [(.long k)] _
  refine own_go (fun t₀ k₀ => XS.lstore X2.here hx rfl (Jvm.hb hby d10_11) rfl (l' := #[rv r0, lv q1, .second, iv (0 : Int32), lv k, .second]) rfl k₀) ?_
  show Gm p e below T2 m 13 #[rv r0, lv q1, .second, iv (0 : Int32), lv k, .second] [] _
  refine own_go (fun t₀ k₀ => XS.lload X2.here hx rfl (Jvm.hb hby d10_13) rfl k₀) ?_
  show Gm p e below T2 m 15 #[rv r0, lv q1, .second, iv (0 : Int32), lv k, .second] [(.long k)] _
  refine own_go (fun t₀ k₀ => XS.lloadN X2.here hx rfl (Jvm.hb hby d10_15) rfl k₀) ?_
  show Gm p e below T2 m 16 #[rv r0, lv q1, .second, iv (0 : Int32), lv k, .second] [(.long q1), (.long k)] _
  refine own_go (fun t₀ k₀ => XT.lcmp X2.here hx rfl (Jvm.hb hby d10_16) rfl k₀) ?_
  show Gm p e below T2 m 17 #[rv r0, lv q1, .second, iv (0 : Int32), lv k, .second] [(.int (XT.cmpL k q1))] _
  by_cases c3 : q1 < k
  · have hfork := trivial
    refine own_go (fun t₀ k₀ => XS.ifYes X2.here hx rfl (pc0 := 17) (pc' := 37) rfl (Jvm.hb hby d10_17) rfl (XT.ll_gt_t c3) (by decide) (by decide) k₀) ?_
    show Gm p e below T2 m 37 #[rv r0, lv q1, .second, iv (0 : Int32), lv k, .second] [] _
    refine own_go (fun t₀ k₀ => XS.aloadN X2.here hx rfl (Jvm.hb hby d10_37) rfl rfl k₀) ?_
    show Gm p e below T2 m 38 #[rv r0, lv q1, .second, iv (0 : Int32), lv k, .second] [(.ref r0)] _
    obtain ⟨T4, X4, e4, st4⟩ := getF X2 hx hZ hown (host := "") (Or.inl (hw _ (List.mem_of_getElem? (i := 10) rfl))) Via.refl e2 F_times (g := (mkF m 38 #[rv r0, lv q1, .second, iv (0 : Int32), lv k, .second] [(.ref r0)])) rfl rfl (Jvm.hb hby d10_38)
    refine own_go st4 ?_
    show Gm p e below T4 m 41 #[rv r0, lv q1, .second, iv (0 : Int32), lv k, .second] [(.ref ta)] _
    refine own_go (fun t₀ k₀ => XS.iloadN X4.here hx rfl (Jvm.hb hby d10_41) rfl k₀) ?_
    show Gm p e below T4 m 42 #[rv r0, lv q1, .second, iv (0 : Int32), lv k, .second] [(.int (0 : Int32)), (.ref ta)] _
    refine own_go (fun t₀ k₀ => own_ldJ X4 hx hZ e4 At (j := (0 : Int32)) (k := 0) (by decide) rfl (by omega) (w := (.long a)) (hxs 0 _ _ rfl).1 (g := (mkF m 42 #[rv r0, lv q1, .second, iv (0 : Int32), lv k, .second] [(.int (0 : Int32)), (.ref ta)])) rfl rfl (Jvm.hb hby d10_42) k₀) ?_
    show Gm p e below T4 m 43 #[rv r0, lv q1, .second, iv (0 : Int32), lv k, .second] [(.long a)] _
    exact own_retL X4 hx hlk Bd.returns (Jvm.hb hby d10_43) e4 ⟨(by simp only [tOf, tB]; rw [if_pos c3]), N0, rfl⟩ (by decide) (by decide)
  · have hfork := trivial
    refine own_go (fun t₀ k₀ => XS.ifNo X2.here hx rfl (Jvm.hb hby d10_17) rfl (XT.ll_gt_f c3) k₀) ?_
    show Gm p e below T2 m 20 #[rv r0, lv q1, .second, iv (0 : Int32), lv k, .second] [] _
    refine own_go (fun t₀ k₀ => XS.iinc X2.here hx rfl (Jvm.hb hby d10_20) rfl (l' := #[rv r0, lv q1, .second, iv (1 : Int32), lv k, .second]) rfl k₀) ?_
    show Gm p e below T2 m 23 #[rv r0, lv q1, .second, iv (1 : Int32), lv k, .second] [] _
    refine own_go (fun t₀ k₀ => XS.lload X2.here hx rfl (Jvm.hb hby d10_23) rfl k₀) ?_
    show Gm p e below T2 m 25 #[rv r0, lv q1, .second, iv (1 : Int32), lv k, .second] [(.long k)] _
    refine own_go (fun t₀ k₀ => XS.aloadN X2.here hx rfl (Jvm.hb hby d10_25) rfl rfl k₀) ?_
    show Gm p e below T2 m 26 #[rv r0, lv q1, .second, iv (1 : Int32), lv k, .second] [(.ref r0), (.long k)] _
    obtain ⟨T5, X5, e5, st5⟩ := getF X2 hx hZ hown (host := "") (Or.inl (hw _ (List.mem_of_getElem? (i := 12) rfl))) Via.refl e2 F_counts (g := (mkF m 26 #[rv r0, lv q1, .second, iv (1 : Int32), lv k, .second] [(.ref r0), (.long k)])) rfl rfl (Jvm.hb hby d10_26)
    refine own_go st5 ?_
    show Gm p e below T5 m 29 #[rv r0, lv q1, .second, iv (1 : Int32), lv k, .second] [(.ref ca), (.long k)] _
    refine own_go (fun t₀ k₀ => XS.iloadN X5.here hx rfl (Jvm.hb hby d10_29) rfl k₀) ?_
    show Gm p e below T5 m 30 #[rv r0, lv q1, .second, iv (1 : Int32), lv k, .second] [(.int (1 : Int32)), (.ref ca), (.long k)] _
    refine own_go (fun t₀ k₀ => own_ldJ X5 hx hZ e5 Ac (j := (1 : Int32)) (k := 1) (by decide) rfl (by omega) (w := (.long j)) (hxs 1 _ _ rfl).2 (g := (mkF m 30 #[rv r0, lv q1, .second, iv (1 : Int32), lv k, .second] [(.int (1 : Int32)), (.ref ca), (.long k)])) rfl rfl (Jvm.hb hby d10_30) k₀) ?_
    show Gm p e below T5 m 31 #[rv r0, lv q1, .second, iv (1 : Int32), lv k, .second] [(.long j), (.long k)] _
    refine own_go (fun t₀ k₀ => XS.ladd X5.here hx rfl (Jvm.hb hby d10_31) rfl k₀) ?_
    show Gm p e below T5 m 32 #[rv r0, lv q1, .second, iv (1 : Int32), lv k, .second] [(.long (k + j))] _
    refine own_go (fun t₀ k₀ => XS.lstore X5.here hx rfl (Jvm.hb hby d10_32) rfl (l' := #[rv r0, lv q1, .second, iv (1 : Int32), lv (k + j), .second]) rfl k₀) ?_
    show Gm p e below T5 m 34 #[rv r0, lv q1, .second, iv (1 : Int32), lv (k + j), .second] [] _
    refine own_go (fun t₀ k₀ => XS.goto X5.here hx rfl (pc0 := 34) (pc' := 13) rfl (Jvm.hb hby d10_34) (by decide) (by decide) k₀) ?_
    show Gm p e below T5 m 13 #[rv r0, lv q1, .second, iv (1 : Int32), lv (k + j), .second] [] _
    refine own_go (fun t₀ k₀ => XS.lload X5.here hx rfl (Jvm.hb hby d10_13) rfl k₀) ?_
    show Gm p e below T5 m 15 #[rv r0, lv q1, .second, iv (1 : Int32), lv (k + j), .second] [(.long (k + j))] _
    refine own_go (fun t₀ k₀ => XS.lloadN X5.here hx rfl (Jvm.hb hby d10_15) rfl k₀) ?_
    show Gm p e below T5 m 16 #[rv r0, lv q1, .second, iv (1 : Int32), lv (k + j), .second] [(.long q1), (.long (k + j))] _
    refine own_go (fun t₀ k₀ => XT.lcmp X5.here hx rfl (Jvm.hb hby d10_16) rfl k₀) ?_
    show Gm p e below T5 m 17 #[rv r0, lv q1, .second, iv (1 : Int32), lv (k + j), .second] [(.int (XT.cmpL (k + j) q1))] _
    refine own_go (fun t₀ k₀ => XS.ifYes X5.here hx rfl (pc0 := 17) (pc' := 37) rfl (Jvm.hb hby d10_17) rfl (XT.ll_gt_t hlt) (by decide) (by decide) k₀) ?_
    show Gm p e below T5 m 37 #[rv r0, lv q1, .second, iv (1 : Int32), lv (k + j), .second] [] _
    refine own_go (fun t₀ k₀ => XS.aloadN X5.here hx rfl (Jvm.hb hby d10_37) rfl rfl k₀) ?_
    show Gm p e below T5 m 38 #[rv r0, lv q1, .second, iv (1 : Int32), lv (k + j), .second] [(.ref r0)] _
    obtain ⟨T6, X6, e6, st6⟩ := getF X5 hx hZ hown (host := "") (Or.inl (hw _ (List.mem_of_getElem? (i := 10) rfl))) Via.refl e5 F_times (g := (mkF m 38 #[rv r0, lv q1, .second, iv (1 : Int32), lv (k + j), .second] [(.ref r0)])) rfl rfl (Jvm.hb hby d10_38)
    refine own_go st6 ?_
    show Gm p e below T6 m 41 #[rv r0, lv q1, .second, iv (1 : Int32), lv (k + j), .second] [(.ref ta)] _
    refine own_go (fun t₀ k₀ => XS.iloadN X6.here hx rfl (Jvm.hb hby d10_41) rfl k₀) ?_
    show Gm p e below T6 m 42 #[rv r0, lv q1, .second, iv (1 : Int32), lv (k + j), .second] [(.int (1 : Int32)), (.ref ta)] _
    refine own_go (fun t₀ k₀ => own_ldJ X6 hx hZ e6 At (j := (1 : Int32)) (k := 1) (by decide) rfl (by omega) (w := (.long b)) (hxs 1 _ _ rfl).1 (g := (mkF m 42 #[rv r0, lv q1, .second, iv (1 : Int32), lv (k + j), .second] [(.int (1 : Int32)), (.ref ta)])) rfl rfl (Jvm.hb hby d10_42) k₀) ?_
    show Gm p e below T6 m 43 #[rv r0, lv q1, .second, iv (1 : Int32), lv (k + j), .second] [(.long b)] _
    exact own_retL X6 hx hlk Bd.returns (Jvm.hb hby d10_43) e6 ⟨(by simp only [tOf, tB]; rw [if_neg c3]), N0, rfl⟩ (by decide) (by decide)
theorem own_pn_rm10_0_3 : plainName "com/example/libbrake/libbrake/AdmissionLog" = true := by first | (simp [plainName, overriddenIn]; done) | decide +kernel
theorem own_ef_rm10_0_3 (m : MethodId) (r0 : Addr) (q1 : Int64) : entryFrame m #[(.ref r0), (.long q1)] 6 = mkF m 0 #[.val (.ref r0), .val (.long q1), .second, .unset, .unset, .unset] [] := by first | (simp [entryFrame, mkF, argsToLocals, Value.category]; done) | rfl
set_option maxRecDepth 65536 in
set_option maxHeartbeats 40000000 in
theorem rm10_0_3 (l : Launch) (Z : State) (a0 : Array Value) (hw : ∀ d ∈ tables_1, d.before a0 Z = true) (ws : List Jvm.Cond) (r0 : Addr) (q1 : Int64) (N : Nat) (a : Int64) (k : Int64) (b : Int64) (j : Int64) (c : Int64) (u : Int64) (P : Int64) (h0 : Heap) (n0 : Nat) (Z0 : n0 ≤ h0.size) (H : LL Z h0 n0 r0 N 0 [(a, k), (b, j), (c, u)] P) (hlt : q1 < ((k + j) + u)) :
    MetFree l (⟨"com/example/libbrake/libbrake/AdmissionLog", "timeOf", "(J)J"⟩ : MethodName) (head1 (Jvm.Cond.code (⟨"com/example/libbrake/libbrake/AdmissionLog", "timeOf", "(J)J"⟩ : MethodName) prog_1_method_5_code 6 (some .long) :: ws) ({ frames := 0, cells := 0, slots := 0, locals := 0 } : Room)) (fun a U => a = #[(.ref r0), (.long q1)] ∧ Z.Warmed39 U.vm ∧ U.heap = h0) (fun _ _ _ _ _ => True) (fun _ U o U' => ∃ v L, o = .returned v ∧ QT q1 [(a, k), (b, j), (c, u)] h0 n0 v U'.heap L ∧ FrameEnd U o U' L ({ frames := 0, cells := 0, slots := 0, locals := 0 } : Room).cells ({ frames := 0, cells := 0, slots := 0, locals := 0 } : Room).slots) := by
  refine MetFree.of_bodySF (plainFor_of_name own_pn_rm10_0_3) hisR ?_
  intro p e s m args below meth cO s₁ Bd hml0 hP hK
  obtain ⟨rfl, hZ, hh⟩ := hP
  have hx := Bd.exec
  have hby := Bd.bytes
  have hml : cO.maxLocals = 6 := hml0
  have hown : s.vm.findClass "com/example/libbrake/libbrake/AdmissionLog" = some m.cls := findClass_of_methodNamed Bd.named
  have hnm := (name_of_methodNamed Bd.named Bd.method).1
  have hlk : meth.locks = false := BodyLoose.notSynchronized Bd
  have X0 : Stand p l e ({ frames := 0, cells := 0, slots := 0, locals := 0 } : Room) s m #[(.ref r0), (.long q1)] below meth cO s₁ [] 0 0 := Stand.of_body Bd
  have e0 : s₁.heap = h0 := by rw [← hh, Bd.state]; rfl
  have N0 := Fr.nil n0
  obtain ⟨ta, ca, ft, fc, E_r0, F_times, F_counts, F_start, F_end, F_permits, At, Ac, ne_rt, ne_rc, ne_tc, g_ta, g_ca, hN, hxs⟩ := H
  have hN' : 3 ≤ N := hN
  refine own_in (own_ef_rm10_0_3 m r0 q1) ?_
  show Gm p e below s₁ m 0 #[rv r0, lv q1, .second, .unset, .unset, .unset] [] _
  refine own_go (fun t₀ k₀ => XS.aloadN X0.here hx rfl (Jvm.hb hby d10_0) rfl rfl k₀) ?_
  show Gm p e below s₁ m 1 #[rv r0, lv q1, .second, .unset, .unset, .unset] [(.ref r0)] _
  obtain ⟨T1, X1, e1, st1⟩ := getF X0 hx hZ hown (host := "") (Or.inl (hw _ (List.mem_of_getElem? (i := 21) rfl))) Via.refl e0 F_start (g := (mkF m 1 #[rv r0, lv q1, .second, .unset, .unset, .unset] [(.ref r0)])) rfl rfl (Jvm.hb hby d10_1)
  refine own_go st1 ?_
  show Gm p e below T1 m 4 #[rv r0, lv q1, .second, .unset, .unset, .unset] [(.int (0 : Int32))] _
  refine own_go (fun t₀ k₀ => XS.istoreN X1.here hx rfl (Jvm.hb hby d10_4) rfl (l' := #[rv r0, lv q1, .second, iv (0 : Int32), .unset, .unset]) rfl k₀) ?_
  show Gm p e below T1 m 5 #[rv r0, lv q1, .second, iv (0 : Int32), .unset, .unset] [] _
  refine own_go (fun t₀ k₀ => XS.aloadN X1.here hx rfl (Jvm.hb hby d10_5) rfl rfl k₀) ?_
  show Gm p e below T1 m 6 #[rv r0, lv q1, .second, iv (0 : Int32), .unset, .unset] [(.ref r0)] _
  obtain ⟨T2, X2, e2, st2⟩ := getF X1 hx hZ hown (host := "") (Or.inl (hw _ (List.mem_of_getElem? (i := 12) rfl))) Via.refl e1 F_counts (g := (mkF m 6 #[rv r0, lv q1, .second, iv (0 : Int32), .unset, .unset] [(.ref r0)])) rfl rfl (Jvm.hb hby d10_6)
  refine own_go st2 ?_
  show Gm p e below T2 m 9 #[rv r0, lv q1, .second, iv (0 : Int32), .unset, .unset] [(.ref ca)] _
  refine own_go (fun t₀ k₀ => XS.iloadN X2.here hx rfl (Jvm.hb hby d10_9) rfl k₀) ?_
  show Gm p e below T2 m 10 #[rv r0, lv q1, .second, iv (0 : Int32), .unset, .unset] [(.int (0 : Int32)), (.ref ca)] _
  refine own_go (fun t₀ k₀ => own_ldJ X2 hx hZ e2 Ac (j := (0 : Int32)) (k := 0) (by decide) rfl (by omega) (w := (.long k)) (hxs 0 _ _ rfl).2 (g := (mkF m 10 #[rv r0, lv q1, .second, iv (0 : Int32), .unset, .unset] [(.int (0 : Int32)), (.ref ca)])) rfl rfl (Jvm.hb hby d10_10) k₀) ?_
  show Gm p e below T2 m 11 #[rv r0, lv q1, .second, iv (0 : Int32), .unset, .unset] [(.long k)] _
  refine own_go (fun t₀ k₀ => XS.lstore X2.here hx rfl (Jvm.hb hby d10_11) rfl (l' := #[rv r0, lv q1, .second, iv (0 : Int32), lv k, .second]) rfl k₀) ?_
  show Gm p e below T2 m 13 #[rv r0, lv q1, .second, iv (0 : Int32), lv k, .second] [] _
  refine own_go (fun t₀ k₀ => XS.lload X2.here hx rfl (Jvm.hb hby d10_13) rfl k₀) ?_
  show Gm p e below T2 m 15 #[rv r0, lv q1, .second, iv (0 : Int32), lv k, .second] [(.long k)] _
  refine own_go (fun t₀ k₀ => XS.lloadN X2.here hx rfl (Jvm.hb hby d10_15) rfl k₀) ?_
  show Gm p e below T2 m 16 #[rv r0, lv q1, .second, iv (0 : Int32), lv k, .second] [(.long q1), (.long k)] _
  refine own_go (fun t₀ k₀ => XT.lcmp X2.here hx rfl (Jvm.hb hby d10_16) rfl k₀) ?_
  show Gm p e below T2 m 17 #[rv r0, lv q1, .second, iv (0 : Int32), lv k, .second] [(.int (XT.cmpL k q1))] _
  by_cases c3 : q1 < k
  · have hfork := trivial
    refine own_go (fun t₀ k₀ => XS.ifYes X2.here hx rfl (pc0 := 17) (pc' := 37) rfl (Jvm.hb hby d10_17) rfl (XT.ll_gt_t c3) (by decide) (by decide) k₀) ?_
    show Gm p e below T2 m 37 #[rv r0, lv q1, .second, iv (0 : Int32), lv k, .second] [] _
    refine own_go (fun t₀ k₀ => XS.aloadN X2.here hx rfl (Jvm.hb hby d10_37) rfl rfl k₀) ?_
    show Gm p e below T2 m 38 #[rv r0, lv q1, .second, iv (0 : Int32), lv k, .second] [(.ref r0)] _
    obtain ⟨T4, X4, e4, st4⟩ := getF X2 hx hZ hown (host := "") (Or.inl (hw _ (List.mem_of_getElem? (i := 10) rfl))) Via.refl e2 F_times (g := (mkF m 38 #[rv r0, lv q1, .second, iv (0 : Int32), lv k, .second] [(.ref r0)])) rfl rfl (Jvm.hb hby d10_38)
    refine own_go st4 ?_
    show Gm p e below T4 m 41 #[rv r0, lv q1, .second, iv (0 : Int32), lv k, .second] [(.ref ta)] _
    refine own_go (fun t₀ k₀ => XS.iloadN X4.here hx rfl (Jvm.hb hby d10_41) rfl k₀) ?_
    show Gm p e below T4 m 42 #[rv r0, lv q1, .second, iv (0 : Int32), lv k, .second] [(.int (0 : Int32)), (.ref ta)] _
    refine own_go (fun t₀ k₀ => own_ldJ X4 hx hZ e4 At (j := (0 : Int32)) (k := 0) (by decide) rfl (by omega) (w := (.long a)) (hxs 0 _ _ rfl).1 (g := (mkF m 42 #[rv r0, lv q1, .second, iv (0 : Int32), lv k, .second] [(.int (0 : Int32)), (.ref ta)])) rfl rfl (Jvm.hb hby d10_42) k₀) ?_
    show Gm p e below T4 m 43 #[rv r0, lv q1, .second, iv (0 : Int32), lv k, .second] [(.long a)] _
    exact own_retL X4 hx hlk Bd.returns (Jvm.hb hby d10_43) e4 ⟨(by simp only [tOf, tB]; rw [if_pos c3]), N0, rfl⟩ (by decide) (by decide)
  · have hfork := trivial
    refine own_go (fun t₀ k₀ => XS.ifNo X2.here hx rfl (Jvm.hb hby d10_17) rfl (XT.ll_gt_f c3) k₀) ?_
    show Gm p e below T2 m 20 #[rv r0, lv q1, .second, iv (0 : Int32), lv k, .second] [] _
    refine own_go (fun t₀ k₀ => XS.iinc X2.here hx rfl (Jvm.hb hby d10_20) rfl (l' := #[rv r0, lv q1, .second, iv (1 : Int32), lv k, .second]) rfl k₀) ?_
    show Gm p e below T2 m 23 #[rv r0, lv q1, .second, iv (1 : Int32), lv k, .second] [] _
    refine own_go (fun t₀ k₀ => XS.lload X2.here hx rfl (Jvm.hb hby d10_23) rfl k₀) ?_
    show Gm p e below T2 m 25 #[rv r0, lv q1, .second, iv (1 : Int32), lv k, .second] [(.long k)] _
    refine own_go (fun t₀ k₀ => XS.aloadN X2.here hx rfl (Jvm.hb hby d10_25) rfl rfl k₀) ?_
    show Gm p e below T2 m 26 #[rv r0, lv q1, .second, iv (1 : Int32), lv k, .second] [(.ref r0), (.long k)] _
    obtain ⟨T5, X5, e5, st5⟩ := getF X2 hx hZ hown (host := "") (Or.inl (hw _ (List.mem_of_getElem? (i := 12) rfl))) Via.refl e2 F_counts (g := (mkF m 26 #[rv r0, lv q1, .second, iv (1 : Int32), lv k, .second] [(.ref r0), (.long k)])) rfl rfl (Jvm.hb hby d10_26)
    refine own_go st5 ?_
    show Gm p e below T5 m 29 #[rv r0, lv q1, .second, iv (1 : Int32), lv k, .second] [(.ref ca), (.long k)] _
    refine own_go (fun t₀ k₀ => XS.iloadN X5.here hx rfl (Jvm.hb hby d10_29) rfl k₀) ?_
    show Gm p e below T5 m 30 #[rv r0, lv q1, .second, iv (1 : Int32), lv k, .second] [(.int (1 : Int32)), (.ref ca), (.long k)] _
    refine own_go (fun t₀ k₀ => own_ldJ X5 hx hZ e5 Ac (j := (1 : Int32)) (k := 1) (by decide) rfl (by omega) (w := (.long j)) (hxs 1 _ _ rfl).2 (g := (mkF m 30 #[rv r0, lv q1, .second, iv (1 : Int32), lv k, .second] [(.int (1 : Int32)), (.ref ca), (.long k)])) rfl rfl (Jvm.hb hby d10_30) k₀) ?_
    show Gm p e below T5 m 31 #[rv r0, lv q1, .second, iv (1 : Int32), lv k, .second] [(.long j), (.long k)] _
    refine own_go (fun t₀ k₀ => XS.ladd X5.here hx rfl (Jvm.hb hby d10_31) rfl k₀) ?_
    show Gm p e below T5 m 32 #[rv r0, lv q1, .second, iv (1 : Int32), lv k, .second] [(.long (k + j))] _
    refine own_go (fun t₀ k₀ => XS.lstore X5.here hx rfl (Jvm.hb hby d10_32) rfl (l' := #[rv r0, lv q1, .second, iv (1 : Int32), lv (k + j), .second]) rfl k₀) ?_
    show Gm p e below T5 m 34 #[rv r0, lv q1, .second, iv (1 : Int32), lv (k + j), .second] [] _
    refine own_go (fun t₀ k₀ => XS.goto X5.here hx rfl (pc0 := 34) (pc' := 13) rfl (Jvm.hb hby d10_34) (by decide) (by decide) k₀) ?_
    show Gm p e below T5 m 13 #[rv r0, lv q1, .second, iv (1 : Int32), lv (k + j), .second] [] _
    refine own_go (fun t₀ k₀ => XS.lload X5.here hx rfl (Jvm.hb hby d10_13) rfl k₀) ?_
    show Gm p e below T5 m 15 #[rv r0, lv q1, .second, iv (1 : Int32), lv (k + j), .second] [(.long (k + j))] _
    refine own_go (fun t₀ k₀ => XS.lloadN X5.here hx rfl (Jvm.hb hby d10_15) rfl k₀) ?_
    show Gm p e below T5 m 16 #[rv r0, lv q1, .second, iv (1 : Int32), lv (k + j), .second] [(.long q1), (.long (k + j))] _
    refine own_go (fun t₀ k₀ => XT.lcmp X5.here hx rfl (Jvm.hb hby d10_16) rfl k₀) ?_
    show Gm p e below T5 m 17 #[rv r0, lv q1, .second, iv (1 : Int32), lv (k + j), .second] [(.int (XT.cmpL (k + j) q1))] _
    by_cases c6 : q1 < (k + j)
    · have hfork := trivial
      refine own_go (fun t₀ k₀ => XS.ifYes X5.here hx rfl (pc0 := 17) (pc' := 37) rfl (Jvm.hb hby d10_17) rfl (XT.ll_gt_t c6) (by decide) (by decide) k₀) ?_
      show Gm p e below T5 m 37 #[rv r0, lv q1, .second, iv (1 : Int32), lv (k + j), .second] [] _
      refine own_go (fun t₀ k₀ => XS.aloadN X5.here hx rfl (Jvm.hb hby d10_37) rfl rfl k₀) ?_
      show Gm p e below T5 m 38 #[rv r0, lv q1, .second, iv (1 : Int32), lv (k + j), .second] [(.ref r0)] _
      obtain ⟨T7, X7, e7, st7⟩ := getF X5 hx hZ hown (host := "") (Or.inl (hw _ (List.mem_of_getElem? (i := 10) rfl))) Via.refl e5 F_times (g := (mkF m 38 #[rv r0, lv q1, .second, iv (1 : Int32), lv (k + j), .second] [(.ref r0)])) rfl rfl (Jvm.hb hby d10_38)
      refine own_go st7 ?_
      show Gm p e below T7 m 41 #[rv r0, lv q1, .second, iv (1 : Int32), lv (k + j), .second] [(.ref ta)] _
      refine own_go (fun t₀ k₀ => XS.iloadN X7.here hx rfl (Jvm.hb hby d10_41) rfl k₀) ?_
      show Gm p e below T7 m 42 #[rv r0, lv q1, .second, iv (1 : Int32), lv (k + j), .second] [(.int (1 : Int32)), (.ref ta)] _
      refine own_go (fun t₀ k₀ => own_ldJ X7 hx hZ e7 At (j := (1 : Int32)) (k := 1) (by decide) rfl (by omega) (w := (.long b)) (hxs 1 _ _ rfl).1 (g := (mkF m 42 #[rv r0, lv q1, .second, iv (1 : Int32), lv (k + j), .second] [(.int (1 : Int32)), (.ref ta)])) rfl rfl (Jvm.hb hby d10_42) k₀) ?_
      show Gm p e below T7 m 43 #[rv r0, lv q1, .second, iv (1 : Int32), lv (k + j), .second] [(.long b)] _
      exact own_retL X7 hx hlk Bd.returns (Jvm.hb hby d10_43) e7 ⟨(by simp only [tOf, tB]; rw [if_neg c3, if_pos c6]), N0, rfl⟩ (by decide) (by decide)
    · have hfork := trivial
      refine own_go (fun t₀ k₀ => XS.ifNo X5.here hx rfl (Jvm.hb hby d10_17) rfl (XT.ll_gt_f c6) k₀) ?_
      show Gm p e below T5 m 20 #[rv r0, lv q1, .second, iv (1 : Int32), lv (k + j), .second] [] _
      refine own_go (fun t₀ k₀ => XS.iinc X5.here hx rfl (Jvm.hb hby d10_20) rfl (l' := #[rv r0, lv q1, .second, iv (2 : Int32), lv (k + j), .second]) rfl k₀) ?_
      show Gm p e below T5 m 23 #[rv r0, lv q1, .second, iv (2 : Int32), lv (k + j), .second] [] _
      refine own_go (fun t₀ k₀ => XS.lload X5.here hx rfl (Jvm.hb hby d10_23) rfl k₀) ?_
      show Gm p e below T5 m 25 #[rv r0, lv q1, .second, iv (2 : Int32), lv (k + j), .second] [(.long (k + j))] _
      refine own_go (fun t₀ k₀ => XS.aloadN X5.here hx rfl (Jvm.hb hby d10_25) rfl rfl k₀) ?_
      show Gm p e below T5 m 26 #[rv r0, lv q1, .second, iv (2 : Int32), lv (k + j), .second] [(.ref r0), (.long (k + j))] _
      obtain ⟨T8, X8, e8, st8⟩ := getF X5 hx hZ hown (host := "") (Or.inl (hw _ (List.mem_of_getElem? (i := 12) rfl))) Via.refl e5 F_counts (g := (mkF m 26 #[rv r0, lv q1, .second, iv (2 : Int32), lv (k + j), .second] [(.ref r0), (.long (k + j))])) rfl rfl (Jvm.hb hby d10_26)
      refine own_go st8 ?_
      show Gm p e below T8 m 29 #[rv r0, lv q1, .second, iv (2 : Int32), lv (k + j), .second] [(.ref ca), (.long (k + j))] _
      refine own_go (fun t₀ k₀ => XS.iloadN X8.here hx rfl (Jvm.hb hby d10_29) rfl k₀) ?_
      show Gm p e below T8 m 30 #[rv r0, lv q1, .second, iv (2 : Int32), lv (k + j), .second] [(.int (2 : Int32)), (.ref ca), (.long (k + j))] _
      refine own_go (fun t₀ k₀ => own_ldJ X8 hx hZ e8 Ac (j := (2 : Int32)) (k := 2) (by decide) rfl (by omega) (w := (.long u)) (hxs 2 _ _ rfl).2 (g := (mkF m 30 #[rv r0, lv q1, .second, iv (2 : Int32), lv (k + j), .second] [(.int (2 : Int32)), (.ref ca), (.long (k + j))])) rfl rfl (Jvm.hb hby d10_30) k₀) ?_
      show Gm p e below T8 m 31 #[rv r0, lv q1, .second, iv (2 : Int32), lv (k + j), .second] [(.long u), (.long (k + j))] _
      refine own_go (fun t₀ k₀ => XS.ladd X8.here hx rfl (Jvm.hb hby d10_31) rfl k₀) ?_
      show Gm p e below T8 m 32 #[rv r0, lv q1, .second, iv (2 : Int32), lv (k + j), .second] [(.long ((k + j) + u))] _
      refine own_go (fun t₀ k₀ => XS.lstore X8.here hx rfl (Jvm.hb hby d10_32) rfl (l' := #[rv r0, lv q1, .second, iv (2 : Int32), lv ((k + j) + u), .second]) rfl k₀) ?_
      show Gm p e below T8 m 34 #[rv r0, lv q1, .second, iv (2 : Int32), lv ((k + j) + u), .second] [] _
      refine own_go (fun t₀ k₀ => XS.goto X8.here hx rfl (pc0 := 34) (pc' := 13) rfl (Jvm.hb hby d10_34) (by decide) (by decide) k₀) ?_
      show Gm p e below T8 m 13 #[rv r0, lv q1, .second, iv (2 : Int32), lv ((k + j) + u), .second] [] _
      refine own_go (fun t₀ k₀ => XS.lload X8.here hx rfl (Jvm.hb hby d10_13) rfl k₀) ?_
      show Gm p e below T8 m 15 #[rv r0, lv q1, .second, iv (2 : Int32), lv ((k + j) + u), .second] [(.long ((k + j) + u))] _
      refine own_go (fun t₀ k₀ => XS.lloadN X8.here hx rfl (Jvm.hb hby d10_15) rfl k₀) ?_
      show Gm p e below T8 m 16 #[rv r0, lv q1, .second, iv (2 : Int32), lv ((k + j) + u), .second] [(.long q1), (.long ((k + j) + u))] _
      refine own_go (fun t₀ k₀ => XT.lcmp X8.here hx rfl (Jvm.hb hby d10_16) rfl k₀) ?_
      show Gm p e below T8 m 17 #[rv r0, lv q1, .second, iv (2 : Int32), lv ((k + j) + u), .second] [(.int (XT.cmpL ((k + j) + u) q1))] _
      refine own_go (fun t₀ k₀ => XS.ifYes X8.here hx rfl (pc0 := 17) (pc' := 37) rfl (Jvm.hb hby d10_17) rfl (XT.ll_gt_t hlt) (by decide) (by decide) k₀) ?_
      show Gm p e below T8 m 37 #[rv r0, lv q1, .second, iv (2 : Int32), lv ((k + j) + u), .second] [] _
      refine own_go (fun t₀ k₀ => XS.aloadN X8.here hx rfl (Jvm.hb hby d10_37) rfl rfl k₀) ?_
      show Gm p e below T8 m 38 #[rv r0, lv q1, .second, iv (2 : Int32), lv ((k + j) + u), .second] [(.ref r0)] _
      obtain ⟨T9, X9, e9, st9⟩ := getF X8 hx hZ hown (host := "") (Or.inl (hw _ (List.mem_of_getElem? (i := 10) rfl))) Via.refl e8 F_times (g := (mkF m 38 #[rv r0, lv q1, .second, iv (2 : Int32), lv ((k + j) + u), .second] [(.ref r0)])) rfl rfl (Jvm.hb hby d10_38)
      refine own_go st9 ?_
      show Gm p e below T9 m 41 #[rv r0, lv q1, .second, iv (2 : Int32), lv ((k + j) + u), .second] [(.ref ta)] _
      refine own_go (fun t₀ k₀ => XS.iloadN X9.here hx rfl (Jvm.hb hby d10_41) rfl k₀) ?_
      show Gm p e below T9 m 42 #[rv r0, lv q1, .second, iv (2 : Int32), lv ((k + j) + u), .second] [(.int (2 : Int32)), (.ref ta)] _
      refine own_go (fun t₀ k₀ => own_ldJ X9 hx hZ e9 At (j := (2 : Int32)) (k := 2) (by decide) rfl (by omega) (w := (.long c)) (hxs 2 _ _ rfl).1 (g := (mkF m 42 #[rv r0, lv q1, .second, iv (2 : Int32), lv ((k + j) + u), .second] [(.int (2 : Int32)), (.ref ta)])) rfl rfl (Jvm.hb hby d10_42) k₀) ?_
      show Gm p e below T9 m 43 #[rv r0, lv q1, .second, iv (2 : Int32), lv ((k + j) + u), .second] [(.long c)] _
      exact own_retL X9 hx hlk Bd.returns (Jvm.hb hby d10_43) e9 ⟨(by simp only [tOf, tB]; rw [if_neg c3, if_neg c6]), N0, rfl⟩ (by decide) (by decide)
theorem own_pn_rm10_1_1 : plainName "com/example/libbrake/libbrake/AdmissionLog" = true := by first | (simp [plainName, overriddenIn]; done) | decide +kernel
theorem own_ef_rm10_1_1 (m : MethodId) (r0 : Addr) (q1 : Int64) : entryFrame m #[(.ref r0), (.long q1)] 6 = mkF m 0 #[.val (.ref r0), .val (.long q1), .second, .unset, .unset, .unset] [] := by first | (simp [entryFrame, mkF, argsToLocals, Value.category]; done) | rfl
set_option maxRecDepth 65536 in
set_option maxHeartbeats 40000000 in
theorem rm10_1_1 (l : Launch) (Z : State) (a0 : Array Value) (hw : ∀ d ∈ tables_1, d.before a0 Z = true) (ws : List Jvm.Cond) (r0 : Addr) (q1 : Int64) (N : Nat) (a : Int64) (k : Int64) (P : Int64) (h0 : Heap) (n0 : Nat) (Z0 : n0 ≤ h0.size) (H : LL Z h0 n0 r0 N 1 [(a, k)] P) (hlt : q1 < k) :
    MetFree l (⟨"com/example/libbrake/libbrake/AdmissionLog", "timeOf", "(J)J"⟩ : MethodName) (head1 (Jvm.Cond.code (⟨"com/example/libbrake/libbrake/AdmissionLog", "timeOf", "(J)J"⟩ : MethodName) prog_1_method_5_code 6 (some .long) :: ws) ({ frames := 0, cells := 0, slots := 0, locals := 0 } : Room)) (fun a U => a = #[(.ref r0), (.long q1)] ∧ Z.Warmed39 U.vm ∧ U.heap = h0) (fun _ _ _ _ _ => True) (fun _ U o U' => ∃ v L, o = .returned v ∧ QT q1 [(a, k)] h0 n0 v U'.heap L ∧ FrameEnd U o U' L ({ frames := 0, cells := 0, slots := 0, locals := 0 } : Room).cells ({ frames := 0, cells := 0, slots := 0, locals := 0 } : Room).slots) := by
  refine MetFree.of_bodySF (plainFor_of_name own_pn_rm10_1_1) hisR ?_
  intro p e s m args below meth cO s₁ Bd hml0 hP hK
  obtain ⟨rfl, hZ, hh⟩ := hP
  have hx := Bd.exec
  have hby := Bd.bytes
  have hml : cO.maxLocals = 6 := hml0
  have hown : s.vm.findClass "com/example/libbrake/libbrake/AdmissionLog" = some m.cls := findClass_of_methodNamed Bd.named
  have hnm := (name_of_methodNamed Bd.named Bd.method).1
  have hlk : meth.locks = false := BodyLoose.notSynchronized Bd
  have X0 : Stand p l e ({ frames := 0, cells := 0, slots := 0, locals := 0 } : Room) s m #[(.ref r0), (.long q1)] below meth cO s₁ [] 0 0 := Stand.of_body Bd
  have e0 : s₁.heap = h0 := by rw [← hh, Bd.state]; rfl
  have N0 := Fr.nil n0
  obtain ⟨ta, ca, ft, fc, E_r0, F_times, F_counts, F_start, F_end, F_permits, At, Ac, ne_rt, ne_rc, ne_tc, g_ta, g_ca, hN, hxs⟩ := H
  have hN' : 2 ≤ N := hN
  refine own_in (own_ef_rm10_1_1 m r0 q1) ?_
  show Gm p e below s₁ m 0 #[rv r0, lv q1, .second, .unset, .unset, .unset] [] _
  refine own_go (fun t₀ k₀ => XS.aloadN X0.here hx rfl (Jvm.hb hby d10_0) rfl rfl k₀) ?_
  show Gm p e below s₁ m 1 #[rv r0, lv q1, .second, .unset, .unset, .unset] [(.ref r0)] _
  obtain ⟨T1, X1, e1, st1⟩ := getF X0 hx hZ hown (host := "") (Or.inl (hw _ (List.mem_of_getElem? (i := 21) rfl))) Via.refl e0 F_start (g := (mkF m 1 #[rv r0, lv q1, .second, .unset, .unset, .unset] [(.ref r0)])) rfl rfl (Jvm.hb hby d10_1)
  refine own_go st1 ?_
  show Gm p e below T1 m 4 #[rv r0, lv q1, .second, .unset, .unset, .unset] [(.int (1 : Int32))] _
  refine own_go (fun t₀ k₀ => XS.istoreN X1.here hx rfl (Jvm.hb hby d10_4) rfl (l' := #[rv r0, lv q1, .second, iv (1 : Int32), .unset, .unset]) rfl k₀) ?_
  show Gm p e below T1 m 5 #[rv r0, lv q1, .second, iv (1 : Int32), .unset, .unset] [] _
  refine own_go (fun t₀ k₀ => XS.aloadN X1.here hx rfl (Jvm.hb hby d10_5) rfl rfl k₀) ?_
  show Gm p e below T1 m 6 #[rv r0, lv q1, .second, iv (1 : Int32), .unset, .unset] [(.ref r0)] _
  obtain ⟨T2, X2, e2, st2⟩ := getF X1 hx hZ hown (host := "") (Or.inl (hw _ (List.mem_of_getElem? (i := 12) rfl))) Via.refl e1 F_counts (g := (mkF m 6 #[rv r0, lv q1, .second, iv (1 : Int32), .unset, .unset] [(.ref r0)])) rfl rfl (Jvm.hb hby d10_6)
  refine own_go st2 ?_
  show Gm p e below T2 m 9 #[rv r0, lv q1, .second, iv (1 : Int32), .unset, .unset] [(.ref ca)] _
  refine own_go (fun t₀ k₀ => XS.iloadN X2.here hx rfl (Jvm.hb hby d10_9) rfl k₀) ?_
  show Gm p e below T2 m 10 #[rv r0, lv q1, .second, iv (1 : Int32), .unset, .unset] [(.int (1 : Int32)), (.ref ca)] _
  refine own_go (fun t₀ k₀ => own_ldJ X2 hx hZ e2 Ac (j := (1 : Int32)) (k := 1) (by decide) rfl (by omega) (w := (.long k)) (hxs 0 _ _ rfl).2 (g := (mkF m 10 #[rv r0, lv q1, .second, iv (1 : Int32), .unset, .unset] [(.int (1 : Int32)), (.ref ca)])) rfl rfl (Jvm.hb hby d10_10) k₀) ?_
  show Gm p e below T2 m 11 #[rv r0, lv q1, .second, iv (1 : Int32), .unset, .unset] [(.long k)] _
  refine own_go (fun t₀ k₀ => XS.lstore X2.here hx rfl (Jvm.hb hby d10_11) rfl (l' := #[rv r0, lv q1, .second, iv (1 : Int32), lv k, .second]) rfl k₀) ?_
  show Gm p e below T2 m 13 #[rv r0, lv q1, .second, iv (1 : Int32), lv k, .second] [] _
  refine own_go (fun t₀ k₀ => XS.lload X2.here hx rfl (Jvm.hb hby d10_13) rfl k₀) ?_
  show Gm p e below T2 m 15 #[rv r0, lv q1, .second, iv (1 : Int32), lv k, .second] [(.long k)] _
  refine own_go (fun t₀ k₀ => XS.lloadN X2.here hx rfl (Jvm.hb hby d10_15) rfl k₀) ?_
  show Gm p e below T2 m 16 #[rv r0, lv q1, .second, iv (1 : Int32), lv k, .second] [(.long q1), (.long k)] _
  refine own_go (fun t₀ k₀ => XT.lcmp X2.here hx rfl (Jvm.hb hby d10_16) rfl k₀) ?_
  show Gm p e below T2 m 17 #[rv r0, lv q1, .second, iv (1 : Int32), lv k, .second] [(.int (XT.cmpL k q1))] _
  refine own_go (fun t₀ k₀ => XS.ifYes X2.here hx rfl (pc0 := 17) (pc' := 37) rfl (Jvm.hb hby d10_17) rfl (XT.ll_gt_t hlt) (by decide) (by decide) k₀) ?_
  show Gm p e below T2 m 37 #[rv r0, lv q1, .second, iv (1 : Int32), lv k, .second] [] _
  refine own_go (fun t₀ k₀ => XS.aloadN X2.here hx rfl (Jvm.hb hby d10_37) rfl rfl k₀) ?_
  show Gm p e below T2 m 38 #[rv r0, lv q1, .second, iv (1 : Int32), lv k, .second] [(.ref r0)] _
  obtain ⟨T3, X3, e3, st3⟩ := getF X2 hx hZ hown (host := "") (Or.inl (hw _ (List.mem_of_getElem? (i := 10) rfl))) Via.refl e2 F_times (g := (mkF m 38 #[rv r0, lv q1, .second, iv (1 : Int32), lv k, .second] [(.ref r0)])) rfl rfl (Jvm.hb hby d10_38)
  refine own_go st3 ?_
  show Gm p e below T3 m 41 #[rv r0, lv q1, .second, iv (1 : Int32), lv k, .second] [(.ref ta)] _
  refine own_go (fun t₀ k₀ => XS.iloadN X3.here hx rfl (Jvm.hb hby d10_41) rfl k₀) ?_
  show Gm p e below T3 m 42 #[rv r0, lv q1, .second, iv (1 : Int32), lv k, .second] [(.int (1 : Int32)), (.ref ta)] _
  refine own_go (fun t₀ k₀ => own_ldJ X3 hx hZ e3 At (j := (1 : Int32)) (k := 1) (by decide) rfl (by omega) (w := (.long a)) (hxs 0 _ _ rfl).1 (g := (mkF m 42 #[rv r0, lv q1, .second, iv (1 : Int32), lv k, .second] [(.int (1 : Int32)), (.ref ta)])) rfl rfl (Jvm.hb hby d10_42) k₀) ?_
  show Gm p e below T3 m 43 #[rv r0, lv q1, .second, iv (1 : Int32), lv k, .second] [(.long a)] _
  exact own_retL X3 hx hlk Bd.returns (Jvm.hb hby d10_43) e3 ⟨(by simp only [tOf, tB]), N0, rfl⟩ (by decide) (by decide)
theorem own_pn_rm10_1_2 : plainName "com/example/libbrake/libbrake/AdmissionLog" = true := by first | (simp [plainName, overriddenIn]; done) | decide +kernel
theorem own_ef_rm10_1_2 (m : MethodId) (r0 : Addr) (q1 : Int64) : entryFrame m #[(.ref r0), (.long q1)] 6 = mkF m 0 #[.val (.ref r0), .val (.long q1), .second, .unset, .unset, .unset] [] := by first | (simp [entryFrame, mkF, argsToLocals, Value.category]; done) | rfl
set_option maxRecDepth 65536 in
set_option maxHeartbeats 40000000 in
theorem rm10_1_2 (l : Launch) (Z : State) (a0 : Array Value) (hw : ∀ d ∈ tables_1, d.before a0 Z = true) (ws : List Jvm.Cond) (r0 : Addr) (q1 : Int64) (N : Nat) (a : Int64) (k : Int64) (b : Int64) (j : Int64) (P : Int64) (h0 : Heap) (n0 : Nat) (Z0 : n0 ≤ h0.size) (H : LL Z h0 n0 r0 N 1 [(a, k), (b, j)] P) (hlt : q1 < (k + j)) :
    MetFree l (⟨"com/example/libbrake/libbrake/AdmissionLog", "timeOf", "(J)J"⟩ : MethodName) (head1 (Jvm.Cond.code (⟨"com/example/libbrake/libbrake/AdmissionLog", "timeOf", "(J)J"⟩ : MethodName) prog_1_method_5_code 6 (some .long) :: ws) ({ frames := 0, cells := 0, slots := 0, locals := 0 } : Room)) (fun a U => a = #[(.ref r0), (.long q1)] ∧ Z.Warmed39 U.vm ∧ U.heap = h0) (fun _ _ _ _ _ => True) (fun _ U o U' => ∃ v L, o = .returned v ∧ QT q1 [(a, k), (b, j)] h0 n0 v U'.heap L ∧ FrameEnd U o U' L ({ frames := 0, cells := 0, slots := 0, locals := 0 } : Room).cells ({ frames := 0, cells := 0, slots := 0, locals := 0 } : Room).slots) := by
  refine MetFree.of_bodySF (plainFor_of_name own_pn_rm10_1_2) hisR ?_
  intro p e s m args below meth cO s₁ Bd hml0 hP hK
  obtain ⟨rfl, hZ, hh⟩ := hP
  have hx := Bd.exec
  have hby := Bd.bytes
  have hml : cO.maxLocals = 6 := hml0
  have hown : s.vm.findClass "com/example/libbrake/libbrake/AdmissionLog" = some m.cls := findClass_of_methodNamed Bd.named
  have hnm := (name_of_methodNamed Bd.named Bd.method).1
  have hlk : meth.locks = false := BodyLoose.notSynchronized Bd
  have X0 : Stand p l e ({ frames := 0, cells := 0, slots := 0, locals := 0 } : Room) s m #[(.ref r0), (.long q1)] below meth cO s₁ [] 0 0 := Stand.of_body Bd
  have e0 : s₁.heap = h0 := by rw [← hh, Bd.state]; rfl
  have N0 := Fr.nil n0
  obtain ⟨ta, ca, ft, fc, E_r0, F_times, F_counts, F_start, F_end, F_permits, At, Ac, ne_rt, ne_rc, ne_tc, g_ta, g_ca, hN, hxs⟩ := H
  have hN' : 3 ≤ N := hN
  refine own_in (own_ef_rm10_1_2 m r0 q1) ?_
  show Gm p e below s₁ m 0 #[rv r0, lv q1, .second, .unset, .unset, .unset] [] _
  refine own_go (fun t₀ k₀ => XS.aloadN X0.here hx rfl (Jvm.hb hby d10_0) rfl rfl k₀) ?_
  show Gm p e below s₁ m 1 #[rv r0, lv q1, .second, .unset, .unset, .unset] [(.ref r0)] _
  obtain ⟨T1, X1, e1, st1⟩ := getF X0 hx hZ hown (host := "") (Or.inl (hw _ (List.mem_of_getElem? (i := 21) rfl))) Via.refl e0 F_start (g := (mkF m 1 #[rv r0, lv q1, .second, .unset, .unset, .unset] [(.ref r0)])) rfl rfl (Jvm.hb hby d10_1)
  refine own_go st1 ?_
  show Gm p e below T1 m 4 #[rv r0, lv q1, .second, .unset, .unset, .unset] [(.int (1 : Int32))] _
  refine own_go (fun t₀ k₀ => XS.istoreN X1.here hx rfl (Jvm.hb hby d10_4) rfl (l' := #[rv r0, lv q1, .second, iv (1 : Int32), .unset, .unset]) rfl k₀) ?_
  show Gm p e below T1 m 5 #[rv r0, lv q1, .second, iv (1 : Int32), .unset, .unset] [] _
  refine own_go (fun t₀ k₀ => XS.aloadN X1.here hx rfl (Jvm.hb hby d10_5) rfl rfl k₀) ?_
  show Gm p e below T1 m 6 #[rv r0, lv q1, .second, iv (1 : Int32), .unset, .unset] [(.ref r0)] _
  obtain ⟨T2, X2, e2, st2⟩ := getF X1 hx hZ hown (host := "") (Or.inl (hw _ (List.mem_of_getElem? (i := 12) rfl))) Via.refl e1 F_counts (g := (mkF m 6 #[rv r0, lv q1, .second, iv (1 : Int32), .unset, .unset] [(.ref r0)])) rfl rfl (Jvm.hb hby d10_6)
  refine own_go st2 ?_
  show Gm p e below T2 m 9 #[rv r0, lv q1, .second, iv (1 : Int32), .unset, .unset] [(.ref ca)] _
  refine own_go (fun t₀ k₀ => XS.iloadN X2.here hx rfl (Jvm.hb hby d10_9) rfl k₀) ?_
  show Gm p e below T2 m 10 #[rv r0, lv q1, .second, iv (1 : Int32), .unset, .unset] [(.int (1 : Int32)), (.ref ca)] _
  refine own_go (fun t₀ k₀ => own_ldJ X2 hx hZ e2 Ac (j := (1 : Int32)) (k := 1) (by decide) rfl (by omega) (w := (.long k)) (hxs 0 _ _ rfl).2 (g := (mkF m 10 #[rv r0, lv q1, .second, iv (1 : Int32), .unset, .unset] [(.int (1 : Int32)), (.ref ca)])) rfl rfl (Jvm.hb hby d10_10) k₀) ?_
  show Gm p e below T2 m 11 #[rv r0, lv q1, .second, iv (1 : Int32), .unset, .unset] [(.long k)] _
  refine own_go (fun t₀ k₀ => XS.lstore X2.here hx rfl (Jvm.hb hby d10_11) rfl (l' := #[rv r0, lv q1, .second, iv (1 : Int32), lv k, .second]) rfl k₀) ?_
  show Gm p e below T2 m 13 #[rv r0, lv q1, .second, iv (1 : Int32), lv k, .second] [] _
  refine own_go (fun t₀ k₀ => XS.lload X2.here hx rfl (Jvm.hb hby d10_13) rfl k₀) ?_
  show Gm p e below T2 m 15 #[rv r0, lv q1, .second, iv (1 : Int32), lv k, .second] [(.long k)] _
  refine own_go (fun t₀ k₀ => XS.lloadN X2.here hx rfl (Jvm.hb hby d10_15) rfl k₀) ?_
  show Gm p e below T2 m 16 #[rv r0, lv q1, .second, iv (1 : Int32), lv k, .second] [(.long q1), (.long k)] _
  refine own_go (fun t₀ k₀ => XT.lcmp X2.here hx rfl (Jvm.hb hby d10_16) rfl k₀) ?_
  show Gm p e below T2 m 17 #[rv r0, lv q1, .second, iv (1 : Int32), lv k, .second] [(.int (XT.cmpL k q1))] _
  by_cases c3 : q1 < k
  · have hfork := trivial
    refine own_go (fun t₀ k₀ => XS.ifYes X2.here hx rfl (pc0 := 17) (pc' := 37) rfl (Jvm.hb hby d10_17) rfl (XT.ll_gt_t c3) (by decide) (by decide) k₀) ?_
    show Gm p e below T2 m 37 #[rv r0, lv q1, .second, iv (1 : Int32), lv k, .second] [] _
    refine own_go (fun t₀ k₀ => XS.aloadN X2.here hx rfl (Jvm.hb hby d10_37) rfl rfl k₀) ?_
    show Gm p e below T2 m 38 #[rv r0, lv q1, .second, iv (1 : Int32), lv k, .second] [(.ref r0)] _
    obtain ⟨T4, X4, e4, st4⟩ := getF X2 hx hZ hown (host := "") (Or.inl (hw _ (List.mem_of_getElem? (i := 10) rfl))) Via.refl e2 F_times (g := (mkF m 38 #[rv r0, lv q1, .second, iv (1 : Int32), lv k, .second] [(.ref r0)])) rfl rfl (Jvm.hb hby d10_38)
    refine own_go st4 ?_
    show Gm p e below T4 m 41 #[rv r0, lv q1, .second, iv (1 : Int32), lv k, .second] [(.ref ta)] _
    refine own_go (fun t₀ k₀ => XS.iloadN X4.here hx rfl (Jvm.hb hby d10_41) rfl k₀) ?_
    show Gm p e below T4 m 42 #[rv r0, lv q1, .second, iv (1 : Int32), lv k, .second] [(.int (1 : Int32)), (.ref ta)] _
    refine own_go (fun t₀ k₀ => own_ldJ X4 hx hZ e4 At (j := (1 : Int32)) (k := 1) (by decide) rfl (by omega) (w := (.long a)) (hxs 0 _ _ rfl).1 (g := (mkF m 42 #[rv r0, lv q1, .second, iv (1 : Int32), lv k, .second] [(.int (1 : Int32)), (.ref ta)])) rfl rfl (Jvm.hb hby d10_42) k₀) ?_
    show Gm p e below T4 m 43 #[rv r0, lv q1, .second, iv (1 : Int32), lv k, .second] [(.long a)] _
    exact own_retL X4 hx hlk Bd.returns (Jvm.hb hby d10_43) e4 ⟨(by simp only [tOf, tB]; rw [if_pos c3]), N0, rfl⟩ (by decide) (by decide)
  · have hfork := trivial
    refine own_go (fun t₀ k₀ => XS.ifNo X2.here hx rfl (Jvm.hb hby d10_17) rfl (XT.ll_gt_f c3) k₀) ?_
    show Gm p e below T2 m 20 #[rv r0, lv q1, .second, iv (1 : Int32), lv k, .second] [] _
    refine own_go (fun t₀ k₀ => XS.iinc X2.here hx rfl (Jvm.hb hby d10_20) rfl (l' := #[rv r0, lv q1, .second, iv (2 : Int32), lv k, .second]) rfl k₀) ?_
    show Gm p e below T2 m 23 #[rv r0, lv q1, .second, iv (2 : Int32), lv k, .second] [] _
    refine own_go (fun t₀ k₀ => XS.lload X2.here hx rfl (Jvm.hb hby d10_23) rfl k₀) ?_
    show Gm p e below T2 m 25 #[rv r0, lv q1, .second, iv (2 : Int32), lv k, .second] [(.long k)] _
    refine own_go (fun t₀ k₀ => XS.aloadN X2.here hx rfl (Jvm.hb hby d10_25) rfl rfl k₀) ?_
    show Gm p e below T2 m 26 #[rv r0, lv q1, .second, iv (2 : Int32), lv k, .second] [(.ref r0), (.long k)] _
    obtain ⟨T5, X5, e5, st5⟩ := getF X2 hx hZ hown (host := "") (Or.inl (hw _ (List.mem_of_getElem? (i := 12) rfl))) Via.refl e2 F_counts (g := (mkF m 26 #[rv r0, lv q1, .second, iv (2 : Int32), lv k, .second] [(.ref r0), (.long k)])) rfl rfl (Jvm.hb hby d10_26)
    refine own_go st5 ?_
    show Gm p e below T5 m 29 #[rv r0, lv q1, .second, iv (2 : Int32), lv k, .second] [(.ref ca), (.long k)] _
    refine own_go (fun t₀ k₀ => XS.iloadN X5.here hx rfl (Jvm.hb hby d10_29) rfl k₀) ?_
    show Gm p e below T5 m 30 #[rv r0, lv q1, .second, iv (2 : Int32), lv k, .second] [(.int (2 : Int32)), (.ref ca), (.long k)] _
    refine own_go (fun t₀ k₀ => own_ldJ X5 hx hZ e5 Ac (j := (2 : Int32)) (k := 2) (by decide) rfl (by omega) (w := (.long j)) (hxs 1 _ _ rfl).2 (g := (mkF m 30 #[rv r0, lv q1, .second, iv (2 : Int32), lv k, .second] [(.int (2 : Int32)), (.ref ca), (.long k)])) rfl rfl (Jvm.hb hby d10_30) k₀) ?_
    show Gm p e below T5 m 31 #[rv r0, lv q1, .second, iv (2 : Int32), lv k, .second] [(.long j), (.long k)] _
    refine own_go (fun t₀ k₀ => XS.ladd X5.here hx rfl (Jvm.hb hby d10_31) rfl k₀) ?_
    show Gm p e below T5 m 32 #[rv r0, lv q1, .second, iv (2 : Int32), lv k, .second] [(.long (k + j))] _
    refine own_go (fun t₀ k₀ => XS.lstore X5.here hx rfl (Jvm.hb hby d10_32) rfl (l' := #[rv r0, lv q1, .second, iv (2 : Int32), lv (k + j), .second]) rfl k₀) ?_
    show Gm p e below T5 m 34 #[rv r0, lv q1, .second, iv (2 : Int32), lv (k + j), .second] [] _
    refine own_go (fun t₀ k₀ => XS.goto X5.here hx rfl (pc0 := 34) (pc' := 13) rfl (Jvm.hb hby d10_34) (by decide) (by decide) k₀) ?_
    show Gm p e below T5 m 13 #[rv r0, lv q1, .second, iv (2 : Int32), lv (k + j), .second] [] _
    refine own_go (fun t₀ k₀ => XS.lload X5.here hx rfl (Jvm.hb hby d10_13) rfl k₀) ?_
    show Gm p e below T5 m 15 #[rv r0, lv q1, .second, iv (2 : Int32), lv (k + j), .second] [(.long (k + j))] _
    refine own_go (fun t₀ k₀ => XS.lloadN X5.here hx rfl (Jvm.hb hby d10_15) rfl k₀) ?_
    show Gm p e below T5 m 16 #[rv r0, lv q1, .second, iv (2 : Int32), lv (k + j), .second] [(.long q1), (.long (k + j))] _
    refine own_go (fun t₀ k₀ => XT.lcmp X5.here hx rfl (Jvm.hb hby d10_16) rfl k₀) ?_
    show Gm p e below T5 m 17 #[rv r0, lv q1, .second, iv (2 : Int32), lv (k + j), .second] [(.int (XT.cmpL (k + j) q1))] _
    refine own_go (fun t₀ k₀ => XS.ifYes X5.here hx rfl (pc0 := 17) (pc' := 37) rfl (Jvm.hb hby d10_17) rfl (XT.ll_gt_t hlt) (by decide) (by decide) k₀) ?_
    show Gm p e below T5 m 37 #[rv r0, lv q1, .second, iv (2 : Int32), lv (k + j), .second] [] _
    refine own_go (fun t₀ k₀ => XS.aloadN X5.here hx rfl (Jvm.hb hby d10_37) rfl rfl k₀) ?_
    show Gm p e below T5 m 38 #[rv r0, lv q1, .second, iv (2 : Int32), lv (k + j), .second] [(.ref r0)] _
    obtain ⟨T6, X6, e6, st6⟩ := getF X5 hx hZ hown (host := "") (Or.inl (hw _ (List.mem_of_getElem? (i := 10) rfl))) Via.refl e5 F_times (g := (mkF m 38 #[rv r0, lv q1, .second, iv (2 : Int32), lv (k + j), .second] [(.ref r0)])) rfl rfl (Jvm.hb hby d10_38)
    refine own_go st6 ?_
    show Gm p e below T6 m 41 #[rv r0, lv q1, .second, iv (2 : Int32), lv (k + j), .second] [(.ref ta)] _
    refine own_go (fun t₀ k₀ => XS.iloadN X6.here hx rfl (Jvm.hb hby d10_41) rfl k₀) ?_
    show Gm p e below T6 m 42 #[rv r0, lv q1, .second, iv (2 : Int32), lv (k + j), .second] [(.int (2 : Int32)), (.ref ta)] _
    refine own_go (fun t₀ k₀ => own_ldJ X6 hx hZ e6 At (j := (2 : Int32)) (k := 2) (by decide) rfl (by omega) (w := (.long b)) (hxs 1 _ _ rfl).1 (g := (mkF m 42 #[rv r0, lv q1, .second, iv (2 : Int32), lv (k + j), .second] [(.int (2 : Int32)), (.ref ta)])) rfl rfl (Jvm.hb hby d10_42) k₀) ?_
    show Gm p e below T6 m 43 #[rv r0, lv q1, .second, iv (2 : Int32), lv (k + j), .second] [(.long b)] _
    exact own_retL X6 hx hlk Bd.returns (Jvm.hb hby d10_43) e6 ⟨(by simp only [tOf, tB]; rw [if_neg c3]), N0, rfl⟩ (by decide) (by decide)
theorem own_pn_rm10_2_1 : plainName "com/example/libbrake/libbrake/AdmissionLog" = true := by first | (simp [plainName, overriddenIn]; done) | decide +kernel
theorem own_ef_rm10_2_1 (m : MethodId) (r0 : Addr) (q1 : Int64) : entryFrame m #[(.ref r0), (.long q1)] 6 = mkF m 0 #[.val (.ref r0), .val (.long q1), .second, .unset, .unset, .unset] [] := by first | (simp [entryFrame, mkF, argsToLocals, Value.category]; done) | rfl
set_option maxRecDepth 65536 in
set_option maxHeartbeats 40000000 in
theorem rm10_2_1 (l : Launch) (Z : State) (a0 : Array Value) (hw : ∀ d ∈ tables_1, d.before a0 Z = true) (ws : List Jvm.Cond) (r0 : Addr) (q1 : Int64) (N : Nat) (a : Int64) (k : Int64) (P : Int64) (h0 : Heap) (n0 : Nat) (Z0 : n0 ≤ h0.size) (H : LL Z h0 n0 r0 N 2 [(a, k)] P) (hlt : q1 < k) :
    MetFree l (⟨"com/example/libbrake/libbrake/AdmissionLog", "timeOf", "(J)J"⟩ : MethodName) (head1 (Jvm.Cond.code (⟨"com/example/libbrake/libbrake/AdmissionLog", "timeOf", "(J)J"⟩ : MethodName) prog_1_method_5_code 6 (some .long) :: ws) ({ frames := 0, cells := 0, slots := 0, locals := 0 } : Room)) (fun a U => a = #[(.ref r0), (.long q1)] ∧ Z.Warmed39 U.vm ∧ U.heap = h0) (fun _ _ _ _ _ => True) (fun _ U o U' => ∃ v L, o = .returned v ∧ QT q1 [(a, k)] h0 n0 v U'.heap L ∧ FrameEnd U o U' L ({ frames := 0, cells := 0, slots := 0, locals := 0 } : Room).cells ({ frames := 0, cells := 0, slots := 0, locals := 0 } : Room).slots) := by
  refine MetFree.of_bodySF (plainFor_of_name own_pn_rm10_2_1) hisR ?_
  intro p e s m args below meth cO s₁ Bd hml0 hP hK
  obtain ⟨rfl, hZ, hh⟩ := hP
  have hx := Bd.exec
  have hby := Bd.bytes
  have hml : cO.maxLocals = 6 := hml0
  have hown : s.vm.findClass "com/example/libbrake/libbrake/AdmissionLog" = some m.cls := findClass_of_methodNamed Bd.named
  have hnm := (name_of_methodNamed Bd.named Bd.method).1
  have hlk : meth.locks = false := BodyLoose.notSynchronized Bd
  have X0 : Stand p l e ({ frames := 0, cells := 0, slots := 0, locals := 0 } : Room) s m #[(.ref r0), (.long q1)] below meth cO s₁ [] 0 0 := Stand.of_body Bd
  have e0 : s₁.heap = h0 := by rw [← hh, Bd.state]; rfl
  have N0 := Fr.nil n0
  obtain ⟨ta, ca, ft, fc, E_r0, F_times, F_counts, F_start, F_end, F_permits, At, Ac, ne_rt, ne_rc, ne_tc, g_ta, g_ca, hN, hxs⟩ := H
  have hN' : 3 ≤ N := hN
  refine own_in (own_ef_rm10_2_1 m r0 q1) ?_
  show Gm p e below s₁ m 0 #[rv r0, lv q1, .second, .unset, .unset, .unset] [] _
  refine own_go (fun t₀ k₀ => XS.aloadN X0.here hx rfl (Jvm.hb hby d10_0) rfl rfl k₀) ?_
  show Gm p e below s₁ m 1 #[rv r0, lv q1, .second, .unset, .unset, .unset] [(.ref r0)] _
  obtain ⟨T1, X1, e1, st1⟩ := getF X0 hx hZ hown (host := "") (Or.inl (hw _ (List.mem_of_getElem? (i := 21) rfl))) Via.refl e0 F_start (g := (mkF m 1 #[rv r0, lv q1, .second, .unset, .unset, .unset] [(.ref r0)])) rfl rfl (Jvm.hb hby d10_1)
  refine own_go st1 ?_
  show Gm p e below T1 m 4 #[rv r0, lv q1, .second, .unset, .unset, .unset] [(.int (2 : Int32))] _
  refine own_go (fun t₀ k₀ => XS.istoreN X1.here hx rfl (Jvm.hb hby d10_4) rfl (l' := #[rv r0, lv q1, .second, iv (2 : Int32), .unset, .unset]) rfl k₀) ?_
  show Gm p e below T1 m 5 #[rv r0, lv q1, .second, iv (2 : Int32), .unset, .unset] [] _
  refine own_go (fun t₀ k₀ => XS.aloadN X1.here hx rfl (Jvm.hb hby d10_5) rfl rfl k₀) ?_
  show Gm p e below T1 m 6 #[rv r0, lv q1, .second, iv (2 : Int32), .unset, .unset] [(.ref r0)] _
  obtain ⟨T2, X2, e2, st2⟩ := getF X1 hx hZ hown (host := "") (Or.inl (hw _ (List.mem_of_getElem? (i := 12) rfl))) Via.refl e1 F_counts (g := (mkF m 6 #[rv r0, lv q1, .second, iv (2 : Int32), .unset, .unset] [(.ref r0)])) rfl rfl (Jvm.hb hby d10_6)
  refine own_go st2 ?_
  show Gm p e below T2 m 9 #[rv r0, lv q1, .second, iv (2 : Int32), .unset, .unset] [(.ref ca)] _
  refine own_go (fun t₀ k₀ => XS.iloadN X2.here hx rfl (Jvm.hb hby d10_9) rfl k₀) ?_
  show Gm p e below T2 m 10 #[rv r0, lv q1, .second, iv (2 : Int32), .unset, .unset] [(.int (2 : Int32)), (.ref ca)] _
  refine own_go (fun t₀ k₀ => own_ldJ X2 hx hZ e2 Ac (j := (2 : Int32)) (k := 2) (by decide) rfl (by omega) (w := (.long k)) (hxs 0 _ _ rfl).2 (g := (mkF m 10 #[rv r0, lv q1, .second, iv (2 : Int32), .unset, .unset] [(.int (2 : Int32)), (.ref ca)])) rfl rfl (Jvm.hb hby d10_10) k₀) ?_
  show Gm p e below T2 m 11 #[rv r0, lv q1, .second, iv (2 : Int32), .unset, .unset] [(.long k)] _
  refine own_go (fun t₀ k₀ => XS.lstore X2.here hx rfl (Jvm.hb hby d10_11) rfl (l' := #[rv r0, lv q1, .second, iv (2 : Int32), lv k, .second]) rfl k₀) ?_
  show Gm p e below T2 m 13 #[rv r0, lv q1, .second, iv (2 : Int32), lv k, .second] [] _
  refine own_go (fun t₀ k₀ => XS.lload X2.here hx rfl (Jvm.hb hby d10_13) rfl k₀) ?_
  show Gm p e below T2 m 15 #[rv r0, lv q1, .second, iv (2 : Int32), lv k, .second] [(.long k)] _
  refine own_go (fun t₀ k₀ => XS.lloadN X2.here hx rfl (Jvm.hb hby d10_15) rfl k₀) ?_
  show Gm p e below T2 m 16 #[rv r0, lv q1, .second, iv (2 : Int32), lv k, .second] [(.long q1), (.long k)] _
  refine own_go (fun t₀ k₀ => XT.lcmp X2.here hx rfl (Jvm.hb hby d10_16) rfl k₀) ?_
  show Gm p e below T2 m 17 #[rv r0, lv q1, .second, iv (2 : Int32), lv k, .second] [(.int (XT.cmpL k q1))] _
  refine own_go (fun t₀ k₀ => XS.ifYes X2.here hx rfl (pc0 := 17) (pc' := 37) rfl (Jvm.hb hby d10_17) rfl (XT.ll_gt_t hlt) (by decide) (by decide) k₀) ?_
  show Gm p e below T2 m 37 #[rv r0, lv q1, .second, iv (2 : Int32), lv k, .second] [] _
  refine own_go (fun t₀ k₀ => XS.aloadN X2.here hx rfl (Jvm.hb hby d10_37) rfl rfl k₀) ?_
  show Gm p e below T2 m 38 #[rv r0, lv q1, .second, iv (2 : Int32), lv k, .second] [(.ref r0)] _
  obtain ⟨T3, X3, e3, st3⟩ := getF X2 hx hZ hown (host := "") (Or.inl (hw _ (List.mem_of_getElem? (i := 10) rfl))) Via.refl e2 F_times (g := (mkF m 38 #[rv r0, lv q1, .second, iv (2 : Int32), lv k, .second] [(.ref r0)])) rfl rfl (Jvm.hb hby d10_38)
  refine own_go st3 ?_
  show Gm p e below T3 m 41 #[rv r0, lv q1, .second, iv (2 : Int32), lv k, .second] [(.ref ta)] _
  refine own_go (fun t₀ k₀ => XS.iloadN X3.here hx rfl (Jvm.hb hby d10_41) rfl k₀) ?_
  show Gm p e below T3 m 42 #[rv r0, lv q1, .second, iv (2 : Int32), lv k, .second] [(.int (2 : Int32)), (.ref ta)] _
  refine own_go (fun t₀ k₀ => own_ldJ X3 hx hZ e3 At (j := (2 : Int32)) (k := 2) (by decide) rfl (by omega) (w := (.long a)) (hxs 0 _ _ rfl).1 (g := (mkF m 42 #[rv r0, lv q1, .second, iv (2 : Int32), lv k, .second] [(.int (2 : Int32)), (.ref ta)])) rfl rfl (Jvm.hb hby d10_42) k₀) ?_
  show Gm p e below T3 m 43 #[rv r0, lv q1, .second, iv (2 : Int32), lv k, .second] [(.long a)] _
  exact own_retL X3 hx hlk Bd.returns (Jvm.hb hby d10_43) e3 ⟨(by simp only [tOf, tB]), N0, rfl⟩ (by decide) (by decide)
theorem rmA (l : Launch) (Z : State) (a0 : Array Value) (hw : ∀ d ∈ tables_1, d.before a0 Z = true) (ws : List Jvm.Cond) (r0 : Addr) (q1 q2 : Int64) (xs : List Ent) (P : Int64) (h0 : Heap) (n0 : Nat) (Z0 : n0 ≤ h0.size) (H : LL Z h0 n0 r0 2 0 xs P) (g_r0 : n0 ≤ r0) (hx : (∃ a k, xs = [(a, k)]) ∨ (∃ a k b j, xs = [(a, k), (b, j)] ∧ a < b)) :
    MetFree l (⟨"com/example/libbrake/libbrake/AdmissionLog", "add", "(JJ)V"⟩ : MethodName) (head1 (Jvm.Cond.code (⟨"com/example/libbrake/libbrake/AdmissionLog", "add", "(JJ)V"⟩ : MethodName) prog_1_method_4_code 7 none :: ws) ({ frames := 2, cells := 2, slots := 8, locals := 64 } : Room)) (fun a U => a = #[(.ref r0), (.long q1), (.long q2)] ∧ Z.Warmed39 U.vm ∧ U.heap = h0) (fun _ _ _ _ _ => True) (fun _ U o U' => ∃ v L, o = .returned v ∧ QA Z r0 q1 q2 xs P h0 n0 v U'.heap L ∧ FrameEnd U o U' L ({ frames := 2, cells := 2, slots := 8, locals := 64 } : Room).cells ({ frames := 2, cells := 2, slots := 8, locals := 64 } : Room).slots) := by
  rcases hx with ⟨a, k, rfl⟩ | ⟨a, k, b, j, rfl, hab⟩
  · exact rm3_1 l Z a0 hw ws r0 q1 q2 a k P h0 n0 Z0 H g_r0
  · exact rm3_2 l Z a0 hw ws r0 q1 q2 a k b j P h0 n0 Z0 H g_r0 hab
theorem rmR (l : Launch) (Z : State) (a0 : Array Value) (hw : ∀ d ∈ tables_1, d.before a0 Z = true) (ws : List Jvm.Cond) (r0 : Addr) (q1 : Int64) (N : Nat) (xs : List Ent) (P : Int64) (h0 : Heap) (n0 : Nat) (Z0 : n0 ≤ h0.size) (H : LL Z h0 n0 r0 N 0 xs P) (g_r0 : n0 ≤ r0) (hx : 1 ≤ xs.length ∧ xs.length ≤ 3) :
    MetFree l (⟨"com/example/libbrake/libbrake/AdmissionLog", "removeUpTo", "(J)V"⟩ : MethodName) (head1 (Jvm.Cond.code (⟨"com/example/libbrake/libbrake/AdmissionLog", "removeUpTo", "(J)V"⟩ : MethodName) prog_1_method_3_code 3 none :: ws) ({ frames := 0, cells := 0, slots := 0, locals := 0 } : Room)) (fun a U => a = #[(.ref r0), (.long q1)] ∧ Z.Warmed39 U.vm ∧ U.heap = h0) (fun _ _ _ _ _ => True) (fun _ U o U' => ∃ v L, o = .returned v ∧ QR Z r0 q1 N xs P h0 n0 v U'.heap L ∧ FrameEnd U o U' L ({ frames := 0, cells := 0, slots := 0, locals := 0 } : Room).cells ({ frames := 0, cells := 0, slots := 0, locals := 0 } : Room).slots) := by
  match xs, H, hx with
  | [(a, k)], H, _ => exact rm6_1 l Z a0 hw ws r0 q1 N a k P h0 n0 Z0 H g_r0
  | [(a, k), (b, j)], H, _ => exact rm6_2 l Z a0 hw ws r0 q1 N a k b j P h0 n0 Z0 H g_r0
  | [(a, k), (b, j), (c, u)], H, _ => exact rm6_3 l Z a0 hw ws r0 q1 N a k b j c u P h0 n0 Z0 H g_r0
  | [], _, hx => exact absurd hx.1 (by simp)
  | _ :: _ :: _ :: _ :: _, _, hx => exact absurd hx.2 (by simp)
theorem rmT (l : Launch) (Z : State) (a0 : Array Value) (hw : ∀ d ∈ tables_1, d.before a0 Z = true) (ws : List Jvm.Cond) (r0 : Addr) (q1 : Int64) (N s : Nat) (xs : List Ent) (P : Int64) (h0 : Heap) (n0 : Nat) (Z0 : n0 ≤ h0.size) (H : LL Z h0 n0 r0 N s xs P) (hx : 1 ≤ xs.length ∧ s + xs.length ≤ 3) (hlt : q1 < tX xs) :
    MetFree l (⟨"com/example/libbrake/libbrake/AdmissionLog", "timeOf", "(J)J"⟩ : MethodName) (head1 (Jvm.Cond.code (⟨"com/example/libbrake/libbrake/AdmissionLog", "timeOf", "(J)J"⟩ : MethodName) prog_1_method_5_code 6 (some .long) :: ws) ({ frames := 0, cells := 0, slots := 0, locals := 0 } : Room)) (fun a U => a = #[(.ref r0), (.long q1)] ∧ Z.Warmed39 U.vm ∧ U.heap = h0) (fun _ _ _ _ _ => True) (fun _ U o U' => ∃ v L, o = .returned v ∧ QT q1 xs h0 n0 v U'.heap L ∧ FrameEnd U o U' L ({ frames := 0, cells := 0, slots := 0, locals := 0 } : Room).cells ({ frames := 0, cells := 0, slots := 0, locals := 0 } : Room).slots) := by
  match s, xs, H, hx, hlt with
  | 0, [(a, k)], H, _, hlt => exact rm10_0_1 l Z a0 hw ws r0 q1 N a k P h0 n0 Z0 H hlt
  | 0, [(a, k), (b, j)], H, _, hlt => exact rm10_0_2 l Z a0 hw ws r0 q1 N a k b j P h0 n0 Z0 H hlt
  | 0, [(a, k), (b, j), (c, u)], H, _, hlt => exact rm10_0_3 l Z a0 hw ws r0 q1 N a k b j c u P h0 n0 Z0 H hlt
  | 1, [(a, k)], H, _, hlt => exact rm10_1_1 l Z a0 hw ws r0 q1 N a k P h0 n0 Z0 H hlt
  | 1, [(a, k), (b, j)], H, _, hlt => exact rm10_1_2 l Z a0 hw ws r0 q1 N a k b j P h0 n0 Z0 H hlt
  | 2, [(a, k)], H, _, hlt => exact rm10_2_1 l Z a0 hw ws r0 q1 N a k P h0 n0 Z0 H hlt
  | _, [], _, hx, _ => exact absurd hx.1 (by simp)
  | 0, _ :: _ :: _ :: _ :: _, _, hx, _ => exact absurd hx.2 (by simp)
  | 1, _ :: _ :: _ :: _, _, hx, _ => exact absurd hx.2 (by simp; omega)
  | 2, _ :: _ :: _, _, hx, _ => exact absurd hx.2 (by simp; omega)
  | s + 3, _ :: _, _, hx, _ => exact absurd hx.2 (by simp; omega)
theorem LL.exa {Z : State} {h : Heap} {n0 : Nat} {r : Addr} {N s : Nat} {xs : List Ent} {P : Int64} (H : LL Z h n0 r N s xs P) : Exa Z h r "com/example/libbrake/libbrake/AdmissionLog" := by obtain ⟨_, _, _, _, E, -⟩ := H; exact E
theorem LL.per {Z : State} {h : Heap} {n0 : Nat} {r : Addr} {N s : Nat} {xs : List Ent} {P : Int64} (H : LL Z h n0 r N s xs P) : Fld Z h r "com/example/libbrake/libbrake/AdmissionLog" "permits" "J" (.long P) := by obtain ⟨_, _, _, _, _, _, _, _, _, Fp, -⟩ := H; exact Fp
theorem d8_0 : decode jdk_29_method_70_code 0 = .ok (.lload_n 0, 1) := by decide +kernel
theorem d8_1 : decode jdk_29_method_70_code 1 = .ok (.lload_n 2, 1) := by decide +kernel
theorem d8_2 : decode jdk_29_method_70_code 2 = .ok (.lcmp, 1) := by decide +kernel
theorem d8_3 : decode jdk_29_method_70_code 3 = .ok (.ifCond .gt 7, 3) := by decide +kernel
theorem d8_6 : decode jdk_29_method_70_code 6 = .ok (.lload_n 0, 1) := by decide +kernel
theorem d8_7 : decode jdk_29_method_70_code 7 = .ok (.goto 4, 3) := by decide +kernel
theorem d8_10 : decode jdk_29_method_70_code 10 = .ok (.lload_n 2, 1) := by decide +kernel
theorem d8_11 : decode jdk_29_method_70_code 11 = .ok (.lreturn, 1) := by decide +kernel
theorem own_ef_rm8 (m : MethodId) (q0 : Int64) (q1 : Int64) : entryFrame m #[(.long q0), (.long q1)] 4 = mkF m 0 #[.val (.long q0), .second, .val (.long q1), .second] [] := by first | (simp [entryFrame, mkF, argsToLocals, Value.category]; done) | rfl
def fMin (q0 : Int64) (q1 : Int64) : Int64 := if q1 < q0 then q1 else (q0)
def Q8 (Z : State) (q0 : Int64) (q1 : Int64) (h0 : Heap) (n0 : Nat) (v : Option Value) (h : Heap) (L : List Loc) : Prop := v = some (.long (fMin q0 q1)) ∧ Fr n0 L ∧ h = h0
set_option maxRecDepth 65536 in
set_option maxHeartbeats 40000000 in
theorem rm8 (l : Launch) (Z : State) (a0 : Array Value) (hw : ∀ d ∈ tables_1, d.before a0 Z = true) (ws : List Jvm.Cond) (q0 : Int64) (q1 : Int64) (h0 : Heap) (n0 : Nat) (Z0 : n0 ≤ h0.size) :
    MetFree l (⟨"java/lang/Math", "min", "(JJ)J"⟩ : MethodName) (head1 (Jvm.Cond.code (⟨"java/lang/Math", "min", "(JJ)J"⟩ : MethodName) jdk_29_method_70_code 4 (some .long) :: ws) ({ frames := 0, cells := 0, slots := 0, locals := 0 } : Room)) (fun a U => a = #[(.long q0), (.long q1)] ∧ Z.Warmed39 U.vm ∧ U.heap = h0) (fun _ _ _ _ _ => True) (fun _ U o U' => ∃ v L, o = .returned v ∧ Q8 Z q0 q1 h0 n0 v U'.heap L ∧ FrameEnd U o U' L ({ frames := 0, cells := 0, slots := 0, locals := 0 } : Room).cells ({ frames := 0, cells := 0, slots := 0, locals := 0 } : Room).slots) := by
  refine MetFree.of_bodySF (Jvm.Free.JP.mathPlain rfl (by decide +kernel)) hisR ?_
  intro p e s m args below meth cO s₁ Bd hml0 hP hK
  obtain ⟨rfl, hZ, hh⟩ := hP
  have hx := Bd.exec
  have hby := Bd.bytes
  have hml : cO.maxLocals = 4 := hml0
  have hown : s.vm.findClass "java/lang/Math" = some m.cls := findClass_of_methodNamed Bd.named
  have hnm := (name_of_methodNamed Bd.named Bd.method).1
  have hlk : meth.locks = false := BodyLoose.notSynchronized Bd
  have X0 : Stand p l e ({ frames := 0, cells := 0, slots := 0, locals := 0 } : Room) s m #[(.long q0), (.long q1)] below meth cO s₁ [] 0 0 := Stand.of_body Bd
  have e0 : s₁.heap = h0 := by rw [← hh, Bd.state]; rfl
  have N0 := Fr.nil n0
  refine own_in (own_ef_rm8 m q0 q1) ?_
  show Gm p e below s₁ m 0 #[lv q0, .second, lv q1, .second] [] _
  refine own_go (fun t₀ k₀ => XS.lloadN X0.here hx rfl (Jvm.hb hby d8_0) rfl k₀) ?_
  show Gm p e below s₁ m 1 #[lv q0, .second, lv q1, .second] [(.long q0)] _
  refine own_go (fun t₀ k₀ => XS.lloadN X0.here hx rfl (Jvm.hb hby d8_1) rfl k₀) ?_
  show Gm p e below s₁ m 2 #[lv q0, .second, lv q1, .second] [(.long q1), (.long q0)] _
  refine own_go (fun t₀ k₀ => XT.lcmp X0.here hx rfl (Jvm.hb hby d8_2) rfl k₀) ?_
  show Gm p e below s₁ m 3 #[lv q0, .second, lv q1, .second] [(.int (XT.cmpL q0 q1))] _
  by_cases c1 : q1 < q0
  · have hfork := trivial
    refine own_go (fun t₀ k₀ => XS.ifYes X0.here hx rfl (pc0 := 3) (pc' := 10) rfl (Jvm.hb hby d8_3) rfl (XT.ll_gt_t c1) (by decide) (by decide) k₀) ?_
    show Gm p e below s₁ m 10 #[lv q0, .second, lv q1, .second] [] _
    refine own_go (fun t₀ k₀ => XS.lloadN X0.here hx rfl (Jvm.hb hby d8_10) rfl k₀) ?_
    show Gm p e below s₁ m 11 #[lv q0, .second, lv q1, .second] [(.long q1)] _
    exact own_retL X0 hx hlk Bd.returns (Jvm.hb hby d8_11) e0 ⟨(by unfold fMin; rw [if_pos c1]), N0, rfl⟩ (by decide) (by decide)
  · have hfork := trivial
    refine own_go (fun t₀ k₀ => XS.ifNo X0.here hx rfl (Jvm.hb hby d8_3) rfl (XT.ll_gt_f c1) k₀) ?_
    show Gm p e below s₁ m 6 #[lv q0, .second, lv q1, .second] [] _
    refine own_go (fun t₀ k₀ => XS.lloadN X0.here hx rfl (Jvm.hb hby d8_6) rfl k₀) ?_
    show Gm p e below s₁ m 7 #[lv q0, .second, lv q1, .second] [(.long q0)] _
    refine own_go (fun t₀ k₀ => XS.goto X0.here hx rfl (pc0 := 7) (pc' := 11) rfl (Jvm.hb hby d8_7) (by decide) (by decide) k₀) ?_
    show Gm p e below s₁ m 11 #[lv q0, .second, lv q1, .second] [(.long q0)] _
    exact own_retL X0 hx hlk Bd.returns (Jvm.hb hby d8_11) e0 ⟨(by unfold fMin; rw [if_neg c1]), N0, rfl⟩ (by decide) (by decide)
theorem d9_0 : decode jdk_29_method_66_code 0 = .ok (.lload_n 0, 1) := by decide +kernel
theorem d9_1 : decode jdk_29_method_66_code 1 = .ok (.lload_n 2, 1) := by decide +kernel
theorem d9_2 : decode jdk_29_method_66_code 2 = .ok (.lcmp, 1) := by decide +kernel
theorem d9_3 : decode jdk_29_method_66_code 3 = .ok (.ifCond .lt 7, 3) := by decide +kernel
theorem d9_6 : decode jdk_29_method_66_code 6 = .ok (.lload_n 0, 1) := by decide +kernel
theorem d9_7 : decode jdk_29_method_66_code 7 = .ok (.goto 4, 3) := by decide +kernel
theorem d9_10 : decode jdk_29_method_66_code 10 = .ok (.lload_n 2, 1) := by decide +kernel
theorem d9_11 : decode jdk_29_method_66_code 11 = .ok (.lreturn, 1) := by decide +kernel
theorem own_ef_rm9 (m : MethodId) (q0 : Int64) (q1 : Int64) : entryFrame m #[(.long q0), (.long q1)] 4 = mkF m 0 #[.val (.long q0), .second, .val (.long q1), .second] [] := by first | (simp [entryFrame, mkF, argsToLocals, Value.category]; done) | rfl
def fMax (q0 : Int64) (q1 : Int64) : Int64 := if q0 < q1 then q1 else (q0)
def Q9 (Z : State) (q0 : Int64) (q1 : Int64) (h0 : Heap) (n0 : Nat) (v : Option Value) (h : Heap) (L : List Loc) : Prop := v = some (.long (fMax q0 q1)) ∧ Fr n0 L ∧ h = h0
set_option maxRecDepth 65536 in
set_option maxHeartbeats 40000000 in
theorem rm9 (l : Launch) (Z : State) (a0 : Array Value) (hw : ∀ d ∈ tables_1, d.before a0 Z = true) (ws : List Jvm.Cond) (q0 : Int64) (q1 : Int64) (h0 : Heap) (n0 : Nat) (Z0 : n0 ≤ h0.size) :
    MetFree l (⟨"java/lang/Math", "max", "(JJ)J"⟩ : MethodName) (head1 (Jvm.Cond.code (⟨"java/lang/Math", "max", "(JJ)J"⟩ : MethodName) jdk_29_method_66_code 4 (some .long) :: ws) ({ frames := 0, cells := 0, slots := 0, locals := 0 } : Room)) (fun a U => a = #[(.long q0), (.long q1)] ∧ Z.Warmed39 U.vm ∧ U.heap = h0) (fun _ _ _ _ _ => True) (fun _ U o U' => ∃ v L, o = .returned v ∧ Q9 Z q0 q1 h0 n0 v U'.heap L ∧ FrameEnd U o U' L ({ frames := 0, cells := 0, slots := 0, locals := 0 } : Room).cells ({ frames := 0, cells := 0, slots := 0, locals := 0 } : Room).slots) := by
  refine MetFree.of_bodySF (Jvm.Free.JP.mathPlain rfl (by decide +kernel)) hisR ?_
  intro p e s m args below meth cO s₁ Bd hml0 hP hK
  obtain ⟨rfl, hZ, hh⟩ := hP
  have hx := Bd.exec
  have hby := Bd.bytes
  have hml : cO.maxLocals = 4 := hml0
  have hown : s.vm.findClass "java/lang/Math" = some m.cls := findClass_of_methodNamed Bd.named
  have hnm := (name_of_methodNamed Bd.named Bd.method).1
  have hlk : meth.locks = false := BodyLoose.notSynchronized Bd
  have X0 : Stand p l e ({ frames := 0, cells := 0, slots := 0, locals := 0 } : Room) s m #[(.long q0), (.long q1)] below meth cO s₁ [] 0 0 := Stand.of_body Bd
  have e0 : s₁.heap = h0 := by rw [← hh, Bd.state]; rfl
  have N0 := Fr.nil n0
  refine own_in (own_ef_rm9 m q0 q1) ?_
  show Gm p e below s₁ m 0 #[lv q0, .second, lv q1, .second] [] _
  refine own_go (fun t₀ k₀ => XS.lloadN X0.here hx rfl (Jvm.hb hby d9_0) rfl k₀) ?_
  show Gm p e below s₁ m 1 #[lv q0, .second, lv q1, .second] [(.long q0)] _
  refine own_go (fun t₀ k₀ => XS.lloadN X0.here hx rfl (Jvm.hb hby d9_1) rfl k₀) ?_
  show Gm p e below s₁ m 2 #[lv q0, .second, lv q1, .second] [(.long q1), (.long q0)] _
  refine own_go (fun t₀ k₀ => XT.lcmp X0.here hx rfl (Jvm.hb hby d9_2) rfl k₀) ?_
  show Gm p e below s₁ m 3 #[lv q0, .second, lv q1, .second] [(.int (XT.cmpL q0 q1))] _
  by_cases c1 : q0 < q1
  · have hfork := trivial
    refine own_go (fun t₀ k₀ => XS.ifYes X0.here hx rfl (pc0 := 3) (pc' := 10) rfl (Jvm.hb hby d9_3) rfl (XT.ll_lt_t c1) (by decide) (by decide) k₀) ?_
    show Gm p e below s₁ m 10 #[lv q0, .second, lv q1, .second] [] _
    refine own_go (fun t₀ k₀ => XS.lloadN X0.here hx rfl (Jvm.hb hby d9_10) rfl k₀) ?_
    show Gm p e below s₁ m 11 #[lv q0, .second, lv q1, .second] [(.long q1)] _
    exact own_retL X0 hx hlk Bd.returns (Jvm.hb hby d9_11) e0 ⟨(by unfold fMax; rw [if_pos c1]), N0, rfl⟩ (by decide) (by decide)
  · have hfork := trivial
    refine own_go (fun t₀ k₀ => XS.ifNo X0.here hx rfl (Jvm.hb hby d9_3) rfl (XT.ll_lt_f c1) k₀) ?_
    show Gm p e below s₁ m 6 #[lv q0, .second, lv q1, .second] [] _
    refine own_go (fun t₀ k₀ => XS.lloadN X0.here hx rfl (Jvm.hb hby d9_6) rfl k₀) ?_
    show Gm p e below s₁ m 7 #[lv q0, .second, lv q1, .second] [(.long q0)] _
    refine own_go (fun t₀ k₀ => XS.goto X0.here hx rfl (pc0 := 7) (pc' := 11) rfl (Jvm.hb hby d9_7) (by decide) (by decide) k₀) ?_
    show Gm p e below s₁ m 11 #[lv q0, .second, lv q1, .second] [(.long q0)] _
    exact own_retL X0 hx hlk Bd.returns (Jvm.hb hby d9_11) e0 ⟨(by unfold fMax; rw [if_neg c1]), N0, rfl⟩ (by decide) (by decide)
/-! the plain law of the log's list -/
def S (p : Int64 → Bool) : List Ent → Int
  | [] => 0
  | (a, k) :: r => (if p a then k.toInt else 0) + S p r
def Pos : List Ent → Prop
  | [] => True
  | (_, k) :: r => 1 ≤ k.toInt ∧ Pos r
def Srt : List Ent → Prop
  | [] => True
  | (a, _) :: r => (∀ e ∈ r, a < e.1) ∧ Srt r
abbrev al : Int64 → Bool := fun _ => true
theorem lt_tr {a b c : Int64} (h : a < b) (g : b < c) : a < c := by rw [Int64.lt_iff_toInt_lt] at *; omega
theorem lt_ir {a : Int64} (h : a < a) : False := by rw [Int64.lt_iff_toInt_lt] at h; omega
theorem lt_or {a b : Int64} (h : ¬ a < b) (g : ¬ b = a) : b < a := by
  rw [Int64.lt_iff_toInt_lt] at *
  have : b.toInt ≠ a.toInt := fun q => g (Int64.toInt_inj.mp q)
  omega
theorem S_nn {p : Int64 → Bool} : ∀ {xs : List Ent}, Pos xs → 0 ≤ S p xs
  | [], _ => by simp [S]
  | (a, k) :: r, h => by
    have := S_nn (p := p) h.2
    have := h.1
    simp only [S]; split <;> omega
theorem S_le {p q : Int64 → Bool} : ∀ {xs : List Ent}, Pos xs → (∀ e ∈ xs, p e.1 = true → q e.1 = true) → S p xs ≤ S q xs
  | [], _, _ => by simp [S]
  | (a, k) :: r, h, hq => by
    have i := S_le (p := p) (q := q) h.2 (fun e he => hq e (List.mem_cons_of_mem _ he))
    have := h.1
    have hh := hq (a, k) (List.mem_cons_self ..)
    simp only [S]
    by_cases c : p a = true
    · rw [if_pos c, if_pos (hh c)]; omega
    · rw [if_neg c]; split <;> omega
theorem S_congr {p q : Int64 → Bool} : ∀ {xs : List Ent}, (∀ e ∈ xs, p e.1 = q e.1) → S p xs = S q xs
  | [], _ => by simp [S]
  | (a, k) :: r, hq => by
    have i := S_congr (p := p) (q := q) (fun e he => hq e (List.mem_cons_of_mem _ he))
    have hh := hq (a, k) (List.mem_cons_self ..)
    simp only [S]; rw [hh, i]
theorem S_zero {p : Int64 → Bool} : ∀ {xs : List Ent}, (∀ e ∈ xs, p e.1 = false) → S p xs = 0
  | [], _ => by simp [S]
  | (a, k) :: r, hq => by
    have i := S_zero (p := p) (fun e he => hq e (List.mem_cons_of_mem _ he))
    have hh := hq (a, k) (List.mem_cons_self ..)
    simp only [S]; rw [hh, i]; simp
theorem ladd_s {x y : Int64} (h1 : 0 ≤ x.toInt) (h2 : 0 ≤ y.toInt) (h3 : x.toInt + y.toInt ≤ 1000000) : (x + y).toInt = x.toInt + y.toInt := by
  have e := c_ladd x y
  have r := rng64 (x + y)
  omega
theorem lsub_s {x y : Int64} (h1 : 0 ≤ x.toInt) (h2 : 0 ≤ y.toInt) (h4 : x.toInt ≤ 1000000) (h5 : y.toInt ≤ 1000000) : (x - y).toInt = x.toInt - y.toInt := by
  have e := c_lsub x y
  have r := rng64 (x - y)
  omega
theorem ins_mem {t c : Int64} : ∀ {xs : List Ent} {e : Ent}, e ∈ ins t c xs → e.1 = t ∨ ∃ f ∈ xs, e.1 = f.1
  | [], e, h => by simp only [ins, List.mem_singleton] at h; subst h; exact Or.inl rfl
  | (a, k) :: r, e, h => by
    simp only [ins] at h
    split at h
    · rcases List.mem_cons.mp h with rfl | h
      · exact Or.inl rfl
      · exact Or.inr ⟨e, h, rfl⟩
    · split at h
      · rcases List.mem_cons.mp h with rfl | h
        · exact Or.inr ⟨(a, k), List.mem_cons_self .., rfl⟩
        · exact Or.inr ⟨e, List.mem_cons_of_mem _ h, rfl⟩
      · rcases List.mem_cons.mp h with rfl | h
        · exact Or.inr ⟨(a, k), List.mem_cons_self .., rfl⟩
        · rcases ins_mem h with q | ⟨f, hf, q⟩
          · exact Or.inl q
          · exact Or.inr ⟨f, List.mem_cons_of_mem _ hf, q⟩
theorem ins_srt {t c : Int64} : ∀ {xs : List Ent}, Srt xs → Srt (ins t c xs)
  | [], _ => ⟨fun e he => by simp at he, trivial⟩
  | (a, k) :: r, h => by
    simp only [ins]
    split
    · rename_i q
      refine ⟨fun e he => ?_, h⟩
      rcases List.mem_cons.mp he with rfl | he
      · exact q
      · exact lt_tr q (h.1 e he)
    · split
      · exact h
      · rename_i q1 q2
        refine ⟨fun e he => ?_, ins_srt h.2⟩
        rcases ins_mem he with q | ⟨f, hf, q⟩
        · rw [q]; exact lt_or q1 q2
        · rw [q]; exact h.1 f hf
theorem ins_S {t c : Int64} {p : Int64 → Bool} (hc : 1 ≤ c.toInt) : ∀ {xs : List Ent}, Pos xs → S al xs + c.toInt ≤ 1000000 → S p (ins t c xs) = S p xs + (if p t then c.toInt else 0) ∧ Pos (ins t c xs)
  | [], _, _ => by simp only [ins, S, Pos]; exact ⟨by omega, hc, trivial⟩
  | (a, k) :: r, h, hb => by
    have hk := h.1
    have h0 := S_nn (p := al) h.2
    simp only [S, if_true] at hb
    simp only [ins]
    split
    · simp only [S, Pos]; exact ⟨by omega, hc, h.1, h.2⟩
    · split
      · rename_i q
        have e := ladd_s (x := k) (y := c) (by omega) (by omega) (by first | omega | (simp at hb; omega))
        simp only [S, Pos]
        rw [e, q]
        exact ⟨by split <;> omega, by omega, h.2⟩
      · have i := ins_S (t := t) (p := p) hc h.2 (by first | omega | (simp at hb; omega))
        simp only [S, Pos]
        exact ⟨by rw [i.1]; omega, h.1, i.2⟩
theorem dr_sub {cut : Int64} : ∀ {xs : List Ent} {e : Ent}, e ∈ dr cut xs → e ∈ xs
  | [], e, h => by simp [dr] at h
  | (a, k) :: r, e, h => by
    simp only [dr] at h
    split at h
    · exact h
    · exact List.mem_cons_of_mem _ (dr_sub h)
theorem dr_srt {cut : Int64} : ∀ {xs : List Ent}, Srt xs → Srt (dr cut xs)
  | [], h => h
  | (a, k) :: r, h => by simp only [dr]; split; exact h; exact dr_srt h.2
theorem dr_pos {cut : Int64} : ∀ {xs : List Ent}, Pos xs → Pos (dr cut xs)
  | [], h => h
  | (a, k) :: r, h => by simp only [dr]; split; exact h; exact dr_pos h.2
theorem dr_S {cut : Int64} {p : Int64 → Bool} : ∀ {xs : List Ent}, Srt xs → S p (dr cut xs) = S (fun a => p a && decide (cut < a)) xs
  | [], _ => rfl
  | (a, k) :: r, h => by
    simp only [dr]
    split
    · rename_i q
      refine S_congr fun e he => ?_
      rcases List.mem_cons.mp he with rfl | he
      · simp [q]
      · simp [lt_tr q (h.1 e he)]
    · rename_i q
      rw [dr_S h.2]; simp [S, q]
theorem pr_S {cut : Int64} : ∀ {xs : List Ent} {P : Int64}, Pos xs → S al xs ≤ P.toInt → P.toInt ≤ 1000000 → (pr cut xs P).toInt = P.toInt - (S al xs - S al (dr cut xs))
  | [], P, _, _, _ => by simp [pr, dr, S]
  | (a, k) :: r, P, h, h1, h2 => by
    have hk := h.1
    have h0 := S_nn (p := al) h.2
    simp only [S] at h1
    simp only [pr, dr]
    split
    · omega
    · have e := lsub_s (x := P) (y := k) (by simp at h1; omega) (by omega) h2 (by simp at h1; omega)
      rw [pr_S h.2 (by rw [e]; simp at h1; omega) (by rw [e]; omega), e]
      simp only [S]; simp; omega
theorem tot_S : ∀ {xs : List Ent} {p : Int64}, Pos xs → 0 ≤ p.toInt → p.toInt + S al xs ≤ 1000000 → (tot p xs).toInt = p.toInt + S al xs
  | [], p, _, _, _ => by simp [tot, S]
  | (a, k) :: r, p, h, h1, h2 => by
    have hk := h.1
    have h0 := S_nn (p := al) h.2
    simp only [S] at h2
    have e := ladd_s (x := p) (y := k) h1 (by omega) (by simp at h2; omega)
    simp only [tot]
    rw [tot_S h.2 (by rw [e]; omega) (by rw [e]; simp at h2; omega), e]
    simp only [S]; simp; omega
theorem tX_S : ∀ {xs : List Ent}, Pos xs → S al xs ≤ 1000000 → (tX xs).toInt = S al xs
  | [], _, _ => by simp [tX, S]
  | (a, k) :: r, h, h2 => by
    have hk := h.1
    simp only [S] at h2
    simp only [tX]; rw [tot_S h.2 (by omega) (by simpa using h2)]; simp [S]
theorem tB_in : ∀ {r : List Ent} {a k p i : Int64} {b : Int}, Srt ((a, k) :: r) → Pos ((a, k) :: r) → p.toInt = b + k.toInt → 0 ≤ b → b + k.toInt + S al r ≤ 1000000 → b ≤ i.toInt → i.toInt < b + k.toInt + S al r →
    (tB a p i r = a ∨ ∃ e ∈ r, tB a p i r = e.1) ∧ b + S (fun x => decide (x < tB a p i r)) ((a, k) :: r) ≤ i.toInt ∧ i.toInt < b + S (fun x => !decide (tB a p i r < x)) ((a, k) :: r)
  | [], a, k, p, i, b, _, _, hp, hb, hm, h1, h2 => by
    simp only [tB]
    refine ⟨Or.inl trivial, ?_, ?_⟩
    · show b + ((if decide (a < a) = true then k.toInt else 0) + 0) ≤ i.toInt
      rw [if_neg (by rw [decide_eq_true_eq]; exact fun q => lt_ir q)]; omega
    · have h2' : i.toInt < b + k.toInt + 0 := h2
      show i.toInt < b + ((if (!decide (a < a)) = true then k.toInt else 0) + 0)
      rw [if_pos (by rw [Bool.not_eq_true', decide_eq_false_iff_not]; exact fun q => lt_ir q)]; omega
  | (c, j) :: r, a, k, p, i, b, hs, hpos, hp, hb, hm, h1, h2 => by
    have hk := hpos.1
    have hj := hpos.2.1
    have h0 := S_nn (p := al) hpos.2.2
    have hm' : b + k.toInt + (j.toInt + S al r) ≤ 1000000 := hm
    have h2' : i.toInt < b + k.toInt + (j.toInt + S al r) := h2
    simp only [tB]
    split
    · rename_i q
      rw [Int64.lt_iff_toInt_lt] at q
      refine ⟨Or.inl rfl, ?_, ?_⟩
      · rw [S_zero (fun e he => ?_)]
        · omega
        · simp only [decide_eq_false_iff_not]
          rcases List.mem_cons.mp he with rfl | he
          · exact fun q => lt_ir q
          · exact fun u => lt_ir (lt_tr u (hs.1 e he))
      · have n := S_nn (p := fun x => !decide (a < x)) hpos.2
        simp only [S] at n ⊢
        rw [if_pos (by simp only [Bool.not_eq_true', decide_eq_false_iff_not]; exact fun q => lt_ir q)]; omega
    · rename_i q
      rw [Int64.lt_iff_toInt_lt] at q
      have e := ladd_s (x := p) (y := j) (by omega) (by omega) (by omega)
      obtain ⟨m, i1, i2⟩ := tB_in (r := r) (a := c) (k := j) (p := p + j) (i := i) (b := b + k.toInt) hs.2 hpos.2 (by omega) (by omega) (by omega) (by omega) (by omega)
      have ma : a < tB c (p + j) i r := by
        rcases m with m | ⟨e, he, m⟩
        · rw [m]; exact hs.1 (c, j) (List.mem_cons_self ..)
        · rw [m]; exact hs.1 e (List.mem_cons_of_mem _ he)
      refine ⟨Or.inr ?_, ?_, ?_⟩
      · rcases m with m | ⟨e, he, m⟩
        · exact ⟨(c, j), List.mem_cons_self .., m⟩
        · exact ⟨e, List.mem_cons_of_mem _ he, m⟩
      · show b + ((if decide (a < tB c (p + j) i r) = true then k.toInt else 0) + S (fun x => decide (x < tB c (p + j) i r)) ((c, j) :: r)) ≤ i.toInt
        rw [if_pos (by simpa using ma)]; omega
      · show i.toInt < b + ((if (!decide (tB c (p + j) i r < a)) = true then k.toInt else 0) + S (fun x => !decide (tB c (p + j) i r < x)) ((c, j) :: r))
        rw [if_pos (by simp only [Bool.not_eq_true', decide_eq_false_iff_not]; exact fun u => lt_ir (lt_tr u ma))]; omega
theorem tOf_in {ys : List Ent} {i : Int64} (hs : Srt ys) (hp : Pos ys) (hm : S al ys ≤ 1000000) (h1 : 0 ≤ i.toInt) (h2 : i.toInt < S al ys) :
    (∃ e ∈ ys, tOf i ys = e.1) ∧ S (fun x => decide (x < tOf i ys)) ys ≤ i.toInt ∧ i.toInt < S (fun x => !decide (tOf i ys < x)) ys := by
  match ys, hs, hp, hm, h2 with
  | [], _, _, _, h2 => simp [S] at h2; omega
  | (a, k) :: r, hs, hp, hm, h2 =>
    have h2' : i.toInt < k.toInt + S al r := h2
    have hm' : k.toInt + S al r ≤ 1000000 := hm
    obtain ⟨m, i1, i2⟩ := tB_in (r := r) (a := a) (k := k) (p := k) (i := i) (b := 0) hs hp (by omega) (by omega) (by omega) h1 (by omega)
    rw [Int.zero_add] at i1 i2
    refine ⟨?_, i1, i2⟩
    rcases m with m | ⟨e, he, m⟩
    · exact ⟨(a, k), List.mem_cons_self .., m⟩
    · exact ⟨e, List.mem_cons_of_mem _ he, m⟩
/-- the interval of a time holds one time alone -/
theorem tOf_is {ys : List Ent} {i t : Int64} (hs : Srt ys) (hp : Pos ys) (hm : S al ys ≤ 1000000) (h1 : 0 ≤ i.toInt) (h2 : i.toInt < S al ys) (g1 : S (fun x => decide (x < t)) ys ≤ i.toInt) (g2 : i.toInt < S (fun x => !decide (t < x)) ys) : tOf i ys = t := by
  obtain ⟨-, i1, i2⟩ := tOf_in hs hp hm h1 h2
  generalize tOf i ys = r at i1 i2
  by_cases q1 : r < t
  · have := S_le (p := fun x => !decide (r < x)) (q := fun x => decide (x < t)) hp (fun e _ h => by
      simp only [Bool.not_eq_true', decide_eq_false_iff_not] at h
      simp only [decide_eq_true_eq]
      rw [Int64.lt_iff_toInt_lt] at *; omega)
    omega
  · by_cases q2 : t < r
    · have := S_le (p := fun x => !decide (t < x)) (q := fun x => decide (x < r)) hp (fun e _ h => by
        simp only [Bool.not_eq_true', decide_eq_false_iff_not] at h
        simp only [decide_eq_true_eq]
        rw [Int64.lt_iff_toInt_lt] at *; omega)
      omega
    · rw [Int64.lt_iff_toInt_lt] at q1 q2
      exact Int64.toInt_inj.mp (by omega)
/-- three entries put in one after the other -/
abbrev X3 (t1 c1 t2 c2 t3 c3 : Int64) : List Ent := ins t3 c3 (ins t2 c2 [(t1, c1)])
def Bd (c : Int64) : Prop := 1 ≤ c.toInt ∧ c.toInt ≤ 1024
theorem x3_srt (t1 c1 t2 c2 t3 c3 : Int64) : Srt (X3 t1 c1 t2 c2 t3 c3) := ins_srt (ins_srt ⟨fun e he => by simp at he, trivial⟩)
theorem x3_S {t1 c1 t2 c2 t3 c3 : Int64} (h1 : Bd c1) (h2 : Bd c2) (h3 : Bd c3) (p : Int64 → Bool) : S p (X3 t1 c1 t2 c2 t3 c3) = (if p t1 then c1.toInt else 0) + (if p t2 then c2.toInt else 0) + (if p t3 then c3.toInt else 0) ∧ Pos (X3 t1 c1 t2 c2 t3 c3) := by
  have p1 : Pos [(t1, c1)] := ⟨h1.1, trivial⟩
  have s1 : ∀ p, S p [(t1, c1)] = (if p t1 then c1.toInt else 0) := fun p => by simp [S]
  have b1 := h1.2
  have b2 := h2.2
  have b3 := h3.2
  have a2 := fun p => ins_S (t := t2) (p := p) h2.1 p1 (by rw [s1]; simp; omega)
  have a3 := ins_S (t := t3) (p := p) h3.1 (a2 al).2 (by rw [(a2 al).1, s1]; simp; omega)
  refine ⟨?_, a3.2⟩
  rw [a3.1, (a2 p).1, s1]
theorem x3_su {t1 c1 t2 c2 t3 c3 : Int64} (h1 : Bd c1) (h2 : Bd c2) (h3 : Bd c3) : S al (X3 t1 c1 t2 c2 t3 c3) = c1.toInt + c2.toInt + c3.toInt := by
  rw [(x3_S h1 h2 h3 al).1]; simp
theorem own_two (t2 c2 t1 c1 : Int64) : (∃ a k, ins t2 c2 [(t1, c1)] = [(a, k)]) ∨ (∃ a k b j, ins t2 c2 [(t1, c1)] = [(a, k), (b, j)] ∧ a < b) := by
  by_cases h : t2 < t1
  · exact Or.inr ⟨_, _, _, _, ins1a h, h⟩
  · by_cases q : t1 = t2
    · exact Or.inl ⟨_, _, ins1b h q⟩
    · exact Or.inr ⟨_, _, _, _, ins1c h q, lt_or h q⟩
theorem ins_len {t c : Int64} : ∀ (xs : List Ent), 1 ≤ (ins t c xs).length ∧ xs.length ≤ (ins t c xs).length ∧ (ins t c xs).length ≤ xs.length + 1
  | [] => by simp [ins]
  | (a, k) :: r => by
    have i := ins_len (t := t) (c := c) r
    simp only [ins]
    split
    · simp
    · split
      · simp
      · simp only [List.length_cons]; omega
theorem own_len3 (t3 c3 t2 c2 t1 c1 : Int64) : 1 ≤ (ins t3 c3 (ins t2 c2 [(t1, c1)])).length ∧ (ins t3 c3 (ins t2 c2 [(t1, c1)])).length ≤ 3 := by
  have i := ins_len (t := t2) (c := c2) [(t1, c1)]
  have j := ins_len (t := t3) (c := c3) (ins t2 c2 [(t1, c1)])
  simp only [List.length_singleton] at i
  omega
theorem own_cb {c : Int64} {x : Int32} (h : c = (x &&& (255 : Int32)).toInt64 + (1 : Int64)) : Bd c := by
  have e := c_mask x 255 8 (by decide) (by decide)
  have f := c_i2l (x &&& (255 : Int32))
  have g1 := Int.emod_nonneg x.toInt (by decide : ((2 ^ 8 : Nat) : Int) ≠ 0)
  have g2 := Int.emod_lt_of_pos x.toInt (by decide : (0 : Int) < ((2 ^ 8 : Nat) : Int))
  have o : (1 : Int64).toInt = 1 := by decide
  have a := ladd_s (x := (x &&& (255 : Int32)).toInt64) (y := 1) (by omega) (by omega) (by omega)
  unfold Bd; rw [h]; omega
def loF (cut t1 t2 t3 : Int64) : Int64 := if cut < t3 then fMin (if cut < t2 then fMin (if cut < t1 then fMin (9223372036854775807 : Int64) t1 else (9223372036854775807 : Int64)) t2 else (if cut < t1 then fMin (9223372036854775807 : Int64) t1 else (9223372036854775807 : Int64))) t3 else (if cut < t2 then fMin (if cut < t1 then fMin (9223372036854775807 : Int64) t1 else (9223372036854775807 : Int64)) t2 else (if cut < t1 then fMin (9223372036854775807 : Int64) t1 else (9223372036854775807 : Int64)))
def hiF (cut t1 t2 t3 : Int64) : Int64 := if cut < t3 then fMax (if cut < t2 then fMax (if cut < t1 then fMax (-9223372036854775808 : Int64) t1 else (-9223372036854775808 : Int64)) t2 else (if cut < t1 then fMax (-9223372036854775808 : Int64) t1 else (-9223372036854775808 : Int64))) t3 else (if cut < t2 then fMax (if cut < t1 then fMax (-9223372036854775808 : Int64) t1 else (-9223372036854775808 : Int64)) t2 else (if cut < t1 then fMax (-9223372036854775808 : Int64) t1 else (-9223372036854775808 : Int64)))
theorem mnM (t : Int64) : fMin (9223372036854775807 : Int64) t = t := by
  unfold fMin
  split
  · rfl
  · rename_i q
    rw [Int64.lt_iff_toInt_lt] at q
    have r := rng64 t
    have e : (9223372036854775807 : Int64).toInt = 9223372036854775807 := by decide
    exact Int64.toInt_inj.mp (by omega)
theorem mxM (t : Int64) : fMax (-9223372036854775808 : Int64) t = t := by
  unfold fMax
  split
  · rfl
  · rename_i q
    rw [Int64.lt_iff_toInt_lt] at q
    have r := rng64 t
    have e : (-9223372036854775808 : Int64).toInt = -9223372036854775808 := by decide
    exact Int64.toInt_inj.mp (by omega)
theorem mn (a b : Int64) : (fMin a b = a ∨ fMin a b = b) ∧ (fMin a b).toInt ≤ a.toInt ∧ (fMin a b).toInt ≤ b.toInt := by
  unfold fMin
  split <;> rename_i q <;> rw [Int64.lt_iff_toInt_lt] at q
  · exact ⟨Or.inr rfl, by omega, by omega⟩
  · exact ⟨Or.inl rfl, by omega, by omega⟩
theorem mx (a b : Int64) : (fMax a b = a ∨ fMax a b = b) ∧ a.toInt ≤ (fMax a b).toInt ∧ b.toInt ≤ (fMax a b).toInt := by
  unfold fMax
  split <;> rename_i q <;> rw [Int64.lt_iff_toInt_lt] at q
  · exact ⟨Or.inr rfl, by omega, by omega⟩
  · exact ⟨Or.inl rfl, by omega, by omega⟩
theorem nlt {a b : Int64} (h : b.toInt ≤ a.toInt) : ¬ a < b := by rw [Int64.lt_iff_toInt_lt]; omega
theorem lo_ok {cut t1 t2 t3 : Int64} (h : cut < t1 ∨ cut < t2 ∨ cut < t3) : ((cut < t1 → ¬ t1 < loF cut t1 t2 t3) ∧ (cut < t2 → ¬ t2 < loF cut t1 t2 t3) ∧ (cut < t3 → ¬ t3 < loF cut t1 t2 t3)) ∧ ((cut < t1 ∧ loF cut t1 t2 t3 = t1) ∨ (cut < t2 ∧ loF cut t1 t2 t3 = t2) ∨ (cut < t3 ∧ loF cut t1 t2 t3 = t3)) := by
  unfold loF
  rw [mnM]
  by_cases a1 : cut < t1 <;> by_cases a2 : cut < t2 <;> by_cases a3 : cut < t3
  · rw [if_pos a1, if_pos a2, if_pos a3]
    obtain ⟨u, v, w⟩ := mn t1 t2
    obtain ⟨u', v', w'⟩ := mn (fMin t1 t2) t3
    refine ⟨⟨fun _ => nlt (by omega), fun _ => nlt (by omega), fun _ => nlt (by omega)⟩, ?_⟩
    rcases u' with u' | u'
    · rw [u']; rcases u with u | u
      · exact Or.inl ⟨a1, u⟩
      · exact Or.inr (Or.inl ⟨a2, u⟩)
    · exact Or.inr (Or.inr ⟨a3, u'⟩)
  · rw [if_pos a1, if_pos a2, if_neg a3]
    obtain ⟨u, v, w⟩ := mn t1 t2
    refine ⟨⟨fun _ => nlt (by omega), fun _ => nlt (by omega), fun q => absurd q a3⟩, ?_⟩
    rcases u with u | u
    · exact Or.inl ⟨a1, u⟩
    · exact Or.inr (Or.inl ⟨a2, u⟩)
  · rw [if_pos a1, if_neg a2, if_pos a3]
    obtain ⟨u, v, w⟩ := mn t1 t3
    refine ⟨⟨fun _ => nlt (by omega), fun q => absurd q a2, fun _ => nlt (by omega)⟩, ?_⟩
    rcases u with u | u
    · exact Or.inl ⟨a1, u⟩
    · exact Or.inr (Or.inr ⟨a3, u⟩)
  · rw [if_pos a1, if_neg a2, if_neg a3]
    exact ⟨⟨fun _ => nlt (by omega), fun q => absurd q a2, fun q => absurd q a3⟩, Or.inl ⟨a1, rfl⟩⟩
  · rw [if_neg a1, if_pos a2, if_pos a3, mnM]
    obtain ⟨u, v, w⟩ := mn t2 t3
    refine ⟨⟨fun q => absurd q a1, fun _ => nlt (by omega), fun _ => nlt (by omega)⟩, ?_⟩
    rcases u with u | u
    · exact Or.inr (Or.inl ⟨a2, u⟩)
    · exact Or.inr (Or.inr ⟨a3, u⟩)
  · rw [if_neg a1, if_pos a2, if_neg a3, mnM]
    exact ⟨⟨fun q => absurd q a1, fun _ => nlt (by omega), fun q => absurd q a3⟩, Or.inr (Or.inl ⟨a2, rfl⟩)⟩
  · rw [if_neg a1, if_neg a2, if_pos a3, mnM]
    exact ⟨⟨fun q => absurd q a1, fun q => absurd q a2, fun _ => nlt (by omega)⟩, Or.inr (Or.inr ⟨a3, rfl⟩)⟩
  · rcases h with h | h | h
    · exact absurd h a1
    · exact absurd h a2
    · exact absurd h a3
theorem hi_ok {cut t1 t2 t3 : Int64} (h : cut < t1 ∨ cut < t2 ∨ cut < t3) : ((cut < t1 → ¬ hiF cut t1 t2 t3 < t1) ∧ (cut < t2 → ¬ hiF cut t1 t2 t3 < t2) ∧ (cut < t3 → ¬ hiF cut t1 t2 t3 < t3)) ∧ ((cut < t1 ∧ hiF cut t1 t2 t3 = t1) ∨ (cut < t2 ∧ hiF cut t1 t2 t3 = t2) ∨ (cut < t3 ∧ hiF cut t1 t2 t3 = t3)) := by
  unfold hiF
  rw [mxM]
  by_cases a1 : cut < t1 <;> by_cases a2 : cut < t2 <;> by_cases a3 : cut < t3
  · rw [if_pos a1, if_pos a2, if_pos a3]
    obtain ⟨u, v, w⟩ := mx t1 t2
    obtain ⟨u', v', w'⟩ := mx (fMax t1 t2) t3
    refine ⟨⟨fun _ => nlt (by omega), fun _ => nlt (by omega), fun _ => nlt (by omega)⟩, ?_⟩
    rcases u' with u' | u'
    · rw [u']; rcases u with u | u
      · exact Or.inl ⟨a1, u⟩
      · exact Or.inr (Or.inl ⟨a2, u⟩)
    · exact Or.inr (Or.inr ⟨a3, u'⟩)
  · rw [if_pos a1, if_pos a2, if_neg a3]
    obtain ⟨u, v, w⟩ := mx t1 t2
    refine ⟨⟨fun _ => nlt (by omega), fun _ => nlt (by omega), fun q => absurd q a3⟩, ?_⟩
    rcases u with u | u
    · exact Or.inl ⟨a1, u⟩
    · exact Or.inr (Or.inl ⟨a2, u⟩)
  · rw [if_pos a1, if_neg a2, if_pos a3]
    obtain ⟨u, v, w⟩ := mx t1 t3
    refine ⟨⟨fun _ => nlt (by omega), fun q => absurd q a2, fun _ => nlt (by omega)⟩, ?_⟩
    rcases u with u | u
    · exact Or.inl ⟨a1, u⟩
    · exact Or.inr (Or.inr ⟨a3, u⟩)
  · rw [if_pos a1, if_neg a2, if_neg a3]
    exact ⟨⟨fun _ => nlt (by omega), fun q => absurd q a2, fun q => absurd q a3⟩, Or.inl ⟨a1, rfl⟩⟩
  · rw [if_neg a1, if_pos a2, if_pos a3, mxM]
    obtain ⟨u, v, w⟩ := mx t2 t3
    refine ⟨⟨fun q => absurd q a1, fun _ => nlt (by omega), fun _ => nlt (by omega)⟩, ?_⟩
    rcases u with u | u
    · exact Or.inr (Or.inl ⟨a2, u⟩)
    · exact Or.inr (Or.inr ⟨a3, u⟩)
  · rw [if_neg a1, if_pos a2, if_neg a3, mxM]
    exact ⟨⟨fun q => absurd q a1, fun _ => nlt (by omega), fun q => absurd q a3⟩, Or.inr (Or.inl ⟨a2, rfl⟩)⟩
  · rw [if_neg a1, if_neg a2, if_pos a3, mxM]
    exact ⟨⟨fun q => absurd q a1, fun q => absurd q a2, fun _ => nlt (by omega)⟩, Or.inr (Or.inr ⟨a3, rfl⟩)⟩
  · rcases h with h | h | h
    · exact absurd h a1
    · exact absurd h a2
    · exact absurd h a3
section M2
variable {t1 t2 t3 cut c1 c2 c3 ex : Int64}
abbrev eX (cut t c : Int64) : Int64 := if cut < t then c else (0 : Int64)
theorem own_tt (hc1 : Bd c1) (hc2 : Bd c2) (hc3 : Bd c3) (ht : ex = (eX cut t1 c1 + eX cut t2 c2) + eX cut t3 c3) : ex.toInt = (if cut < t1 then c1.toInt else 0) + (if cut < t2 then c2.toInt else 0) + (if cut < t3 then c3.toInt else 0) ∧ ex.toInt ≤ 4000 := by
  obtain ⟨u1, v1⟩ := hc1
  obtain ⟨u2, v2⟩ := hc2
  obtain ⟨u3, v3⟩ := hc3
  have b : ∀ t c : Int64, (eX cut t c).toInt = if cut < t then c.toInt else 0 := fun t c => by unfold eX; split <;> rfl
  have r1 : 0 ≤ (eX cut t1 c1).toInt ∧ (eX cut t1 c1).toInt ≤ 1024 := by rw [b]; split <;> omega
  have r2 : 0 ≤ (eX cut t2 c2).toInt ∧ (eX cut t2 c2).toInt ≤ 1024 := by rw [b]; split <;> omega
  have r3 : 0 ≤ (eX cut t3 c3).toInt ∧ (eX cut t3 c3).toInt ≤ 1024 := by rw [b]; split <;> omega
  have a1 := ladd_s (x := eX cut t1 c1) (y := eX cut t2 c2) r1.1 r2.1 (by omega)
  have a2 := ladd_s (x := eX cut t1 c1 + eX cut t2 c2) (y := eX cut t3 c3) (by omega) r3.1 (by omega)
  rw [ht, a2, a1]
  refine ⟨by rw [b, b, b], by omega⟩
theorem own_su (hc1 : Bd c1) (hc2 : Bd c2) (hc3 : Bd c3) (p : Int64 → Bool) :
    S p (dr cut (ins t3 c3 (ins t2 c2 [(t1, c1)]))) = (if p t1 && decide (cut < t1) then c1.toInt else 0) + (if p t2 && decide (cut < t2) then c2.toInt else 0) + (if p t3 && decide (cut < t3) then c3.toInt else 0) := by
  rw [dr_S (x3_srt t1 c1 t2 c2 t3 c3), (x3_S hc1 hc2 hc3 _).1]
theorem own_sal (hc1 : Bd c1) (hc2 : Bd c2) (hc3 : Bd c3) (ht : ex = (eX cut t1 c1 + eX cut t2 c2) + eX cut t3 c3) : S al (dr cut (ins t3 c3 (ins t2 c2 [(t1, c1)]))) = ex.toInt := by
  rw [own_su hc1 hc2 hc3 al, (own_tt hc1 hc2 hc3 ht).1]; simp
theorem own_perm2 (hc1 : Bd c1) (hc2 : Bd c2) (hc3 : Bd c3) (ht : ex = (eX cut t1 c1 + eX cut t2 c2) + eX cut t3 c3) : pr cut (ins t3 c3 (ins t2 c2 [(t1, c1)])) ((((0 : Int64) + c1) + c2) + c3) = ex := by
  have hP := (x3_S (t1 := t1) (t2 := t2) (t3 := t3) hc1 hc2 hc3 al).2
  have hS := x3_su (t1 := t1) (t2 := t2) (t3 := t3) hc1 hc2 hc3
  have hd := own_sal hc1 hc2 hc3 ht
  obtain ⟨u1, v1⟩ := hc1
  obtain ⟨u2, v2⟩ := hc2
  obtain ⟨u3, v3⟩ := hc3
  have z0 : (0 : Int64).toInt = 0 := by decide
  have a1 := ladd_s (x := 0) (y := c1) (by omega) (by omega) (by omega)
  have a2 := ladd_s (x := 0 + c1) (y := c2) (by omega) (by omega) (by omega)
  have a3 := ladd_s (x := 0 + c1 + c2) (y := c3) (by omega) (by omega) (by omega)
  have k := pr_S (cut := cut) (P := 0 + c1 + c2 + c3) hP (by rw [hS]; omega) (by omega)
  apply Int64.toInt_inj.mp
  rw [k, hS, hd]; omega
theorem own_ne2 (hc1 : Bd c1) (hc2 : Bd c2) (hc3 : Bd c3) (ht : ex = (eX cut t1 c1 + eX cut t2 c2) + eX cut t3 c3) (hz : ¬ ex = 0) : 1 ≤ (dr cut (ins t3 c3 (ins t2 c2 [(t1, c1)]))).length ∧ 0 < ex.toInt ∧ (cut < t1 ∨ cut < t2 ∨ cut < t3) := by
  have h := own_sal hc1 hc2 hc3 ht
  have q := (own_tt hc1 hc2 hc3 ht).1
  have h0 : ex.toInt ≠ 0 := fun u => hz (Int64.toInt_inj.mp u)
  refine ⟨?_, ?_, ?_⟩
  · cases hd : dr cut (ins t3 c3 (ins t2 c2 [(t1, c1)])) with
    | nil => rw [hd] at h; exact absurd h.symm h0
    | cons a r => simp
  · obtain ⟨u1, v1⟩ := hc1
    obtain ⟨u2, v2⟩ := hc2
    obtain ⟨u3, v3⟩ := hc3
    have : 0 ≤ ex.toInt := by rw [q]; split <;> split <;> split <;> omega
    omega
  · by_cases a1 : cut < t1
    · exact Or.inl a1
    · by_cases a2 : cut < t2
      · exact Or.inr (Or.inl a2)
      · by_cases a3 : cut < t3
        · exact Or.inr (Or.inr a3)
        · rw [if_neg a1, if_neg a2, if_neg a3] at q; exact absurd q h0
theorem own_lt2 {i : Int64} (hc1 : Bd c1) (hc2 : Bd c2) (hc3 : Bd c3) (ht : ex = (eX cut t1 c1 + eX cut t2 c2) + eX cut t3 c3) (hi : i.toInt < ex.toInt) : i < tX (dr cut (ins t3 c3 (ins t2 c2 [(t1, c1)]))) := by
  have h := own_sal hc1 hc2 hc3 ht
  have hP := dr_pos (cut := cut) (x3_S (t1 := t1) (t2 := t2) (t3 := t3) hc1 hc2 hc3 al).2
  have q := (own_tt hc1 hc2 hc3 ht).2
  rw [Int64.lt_iff_toInt_lt, tX_S hP (by rw [h]; omega), h]
  exact hi
theorem ex1 (hc1 : Bd c1) (hc2 : Bd c2) (hc3 : Bd c3) (ht : ex = (eX cut t1 c1 + eX cut t2 c2) + eX cut t3 c3) (hz : ¬ ex = 0) : (ex - (1 : Int64)).toInt = ex.toInt - 1 := by
  have q := (own_tt hc1 hc2 hc3 ht).2
  have p := (own_ne2 hc1 hc2 hc3 ht hz).2.1
  have o : (1 : Int64).toInt = 1 := by decide
  rw [lsub_s (by omega) (by omega) (by omega) (by omega), o]
theorem own_lo {lo : Int64} (hc1 : Bd c1) (hc2 : Bd c2) (hc3 : Bd c3) (ht : ex = (eX cut t1 c1 + eX cut t2 c2) + eX cut t3 c3) (hz : ¬ ex = 0) (hlo : lo = loF cut t1 t2 t3) : tOf (0 : Int64) (dr cut (ins t3 c3 (ins t2 c2 [(t1, c1)]))) = lo := by
  obtain ⟨-, hp, hor⟩ := own_ne2 hc1 hc2 hc3 ht hz
  obtain ⟨⟨k1, k2, k3⟩, k⟩ := lo_ok hor
  rw [← hlo] at k1 k2 k3 k
  have hsal := own_sal hc1 hc2 hc3 ht
  have hS := own_su (cut := cut) (t1 := t1) (t2 := t2) (t3 := t3) hc1 hc2 hc3
  have hP := dr_pos (cut := cut) (x3_S (t1 := t1) (t2 := t2) (t3 := t3) hc1 hc2 hc3 al).2
  have q := (own_tt hc1 hc2 hc3 ht).2
  have z0 : (0 : Int64).toInt = 0 := by decide
  obtain ⟨u1, v1⟩ := hc1
  obtain ⟨u2, v2⟩ := hc2
  obtain ⟨u3, v3⟩ := hc3
  refine tOf_is (dr_srt (x3_srt t1 c1 t2 c2 t3 c3)) hP (by rw [hsal]; omega) (by omega) (by rw [hsal]; omega) ?_ ?_
  · rw [hS, if_neg (by simp only [Bool.and_eq_true, decide_eq_true_eq]; exact fun u => k1 u.2 u.1), if_neg (by simp only [Bool.and_eq_true, decide_eq_true_eq]; exact fun u => k2 u.2 u.1), if_neg (by simp only [Bool.and_eq_true, decide_eq_true_eq]; exact fun u => k3 u.2 u.1)]; omega
  · rw [hS, z0]
    rcases k with ⟨a, b⟩ | ⟨a, b⟩ | ⟨a, b⟩
    · have : (!decide (lo < t1) && decide (cut < t1)) = true := by rw [b]; first | (simp [a]; done) | (simp [a]; exact fun u => lt_ir u)
      rw [if_pos this]; split <;> split <;> omega
    · have : (!decide (lo < t2) && decide (cut < t2)) = true := by rw [b]; first | (simp [a]; done) | (simp [a]; exact fun u => lt_ir u)
      rw [if_pos this]; split <;> split <;> omega
    · have : (!decide (lo < t3) && decide (cut < t3)) = true := by rw [b]; first | (simp [a]; done) | (simp [a]; exact fun u => lt_ir u)
      rw [if_pos this]; split <;> split <;> omega
theorem own_hi {hi : Int64} (hc1 : Bd c1) (hc2 : Bd c2) (hc3 : Bd c3) (ht : ex = (eX cut t1 c1 + eX cut t2 c2) + eX cut t3 c3) (hz : ¬ ex = 0) (hhi : hi = hiF cut t1 t2 t3) : tOf (ex - (1 : Int64)) (dr cut (ins t3 c3 (ins t2 c2 [(t1, c1)]))) = hi := by
  obtain ⟨-, hp, hor⟩ := own_ne2 hc1 hc2 hc3 ht hz
  have he := ex1 hc1 hc2 hc3 ht hz
  obtain ⟨⟨k1, k2, k3⟩, k⟩ := hi_ok hor
  rw [← hhi] at k1 k2 k3 k
  have hsal := own_sal hc1 hc2 hc3 ht
  have hS := own_su (cut := cut) (t1 := t1) (t2 := t2) (t3 := t3) hc1 hc2 hc3
  have hP := dr_pos (cut := cut) (x3_S (t1 := t1) (t2 := t2) (t3 := t3) hc1 hc2 hc3 al).2
  have q := own_tt hc1 hc2 hc3 ht
  obtain ⟨u1, v1⟩ := hc1
  obtain ⟨u2, v2⟩ := hc2
  obtain ⟨u3, v3⟩ := hc3
  have no : ¬ hi < hi := fun u => lt_ir u
  refine tOf_is (dr_srt (x3_srt t1 c1 t2 c2 t3 c3)) hP (by rw [hsal]; omega) (by omega) (by rw [hsal]; omega) ?_ ?_
  · rw [hS, he, q.1]
    rcases k with ⟨a, b⟩ | ⟨a, b⟩ | ⟨a, b⟩
    · have : ¬ (decide (t1 < hi) && decide (cut < t1)) = true := by rw [b]; first | (simp; done) | (simp; exact fun u => absurd u (fun u => lt_ir u))
      rw [if_neg this, if_pos a]
      by_cases a2 : cut < t2 <;> by_cases a3 : cut < t3 <;> simp [a2, a3] <;> (try split) <;> (try split) <;> omega
    · have : ¬ (decide (t2 < hi) && decide (cut < t2)) = true := by rw [b]; first | (simp; done) | (simp; exact fun u => absurd u (fun u => lt_ir u))
      rw [if_neg this, if_pos a]
      by_cases a2 : cut < t1 <;> by_cases a3 : cut < t3 <;> simp [a2, a3] <;> (try split) <;> (try split) <;> omega
    · have : ¬ (decide (t3 < hi) && decide (cut < t3)) = true := by rw [b]; first | (simp; done) | (simp; exact fun u => absurd u (fun u => lt_ir u))
      rw [if_neg this, if_pos a]
      by_cases a2 : cut < t1 <;> by_cases a3 : cut < t2 <;> simp [a2, a3] <;> (try split) <;> (try split) <;> omega
  · rw [hS, he, q.1]
    have e : ∀ t c : Int64, (cut < t → ¬ hi < t) → (if (!decide (hi < t) && decide (cut < t)) = true then c.toInt else 0) = if cut < t then c.toInt else 0 := fun t c g => by
      by_cases a : cut < t
      · simp [a, g a]
      · simp [a]
    rw [e t1 c1 k1, e t2 c2 k2, e t3 c3 k3]; omega
end M2
theorem own_pd2 : parseMethodDescriptor "()V" = some ⟨[], none⟩ := by decide +kernel
theorem own_pd3 : parseMethodDescriptor "(JJ)V" = some ⟨[.long, .long], none⟩ := by decide +kernel
theorem own_pd4 : parseMethodDescriptor "(J)V" = some ⟨[.long], none⟩ := by decide +kernel
theorem own_pd5 : parseMethodDescriptor "(JJ)J" = some ⟨[.long, .long], some .long⟩ := by decide +kernel
theorem own_pd6 : parseMethodDescriptor "()J" = some ⟨[], some .long⟩ := by decide +kernel
theorem own_pd7 : parseMethodDescriptor "(J)J" = some ⟨[.long], some .long⟩ := by decide +kernel
theorem own_pn_rm0 : plainName "com/example/libbrake/libbrake/AdmissionLogRemoveUpToPinLaw" = true := by first | (simp [plainName, overriddenIn]; done) | decide +kernel
theorem own_ef_rm0 (m : MethodId) (q0 : Int64) (q1 : Int64) (q2 : Int64) (q3 : Int64) (p4 : Int32) (p5 : Int32) : entryFrame m #[(.long q0), (.long q1), (.long q2), (.long q3), (.int p4), (.int p5)] maxLocals = mkF m 0 #[.val (.long q0), .second, .val (.long q1), .second, .val (.long q2), .second, .val (.long q3), .second, .val (.int p4), .val (.int p5), .unset, .unset, .unset, .unset, .unset, .unset, .unset, .unset, .unset, .unset, .unset, .unset, .unset, .unset, .unset, .unset] [] := by first | (simp [entryFrame, mkF, argsToLocals, Value.category, maxLocals]; done) | rfl
def Q0 (Z : State) (q0 : Int64) (q1 : Int64) (q2 : Int64) (q3 : Int64) (p4 : Int32) (p5 : Int32) (h0 : Heap) (n0 : Nat) (v : Option Value) (h : Heap) (L : List Loc) : Prop := v = some (.int 1) ∧ Fr n0 L
set_option maxRecDepth 65536 in
set_option maxHeartbeats 40000000 in
theorem rm0 (l : Launch) (Z : State) (a0 : Array Value) (hw : ∀ d ∈ tables_1, d.before a0 Z = true) (ws : List Jvm.Cond) (q0 : Int64) (q1 : Int64) (q2 : Int64) (q3 : Int64) (p4 : Int32) (p5 : Int32) (h0 : Heap) (n0 : Nat) (Z0 : n0 ≤ h0.size) :
    MetFree l x (head1 (Jvm.Cond.code x code maxLocals ret :: ws) room_1) (fun a U => a = #[(.long q0), (.long q1), (.long q2), (.long q3), (.int p4), (.int p5)] ∧ Z.Warmed39 U.vm ∧ U.heap = h0) (fun _ _ _ _ _ => True) (fun _ U o U' => ∃ v L, o = .returned v ∧ Q0 Z q0 q1 q2 q3 p4 p5 h0 n0 v U'.heap L ∧ FrameEnd U o U' L room_1.cells room_1.slots) := by
  refine MetFree.of_bodySF (plainFor_of_name own_pn_rm0) hisR ?_
  intro p e s m args below meth cO s₁ Bd hml0 hP hK
  obtain ⟨rfl, hZ, hh⟩ := hP
  have hx := Bd.exec
  have hby := Bd.bytes
  have hml : cO.maxLocals = 26 := hml0
  have hown : s.vm.findClass "com/example/libbrake/libbrake/AdmissionLogRemoveUpToPinLaw" = some m.cls := findClass_of_methodNamed Bd.named
  have hnm := (name_of_methodNamed Bd.named Bd.method).1
  have hlk : meth.locks = false := BodyLoose.notSynchronized Bd
  have X0 : Stand p l e room_1 s m #[(.long q0), (.long q1), (.long q2), (.long q3), (.int p4), (.int p5)] below meth cO s₁ [] 0 0 := Stand.of_body Bd
  have e0 : s₁.heap = h0 := by rw [← hh, Bd.state]; rfl
  have N0 := Fr.nil n0
  refine own_in (own_ef_rm0 m q0 q1 q2 q3 p4 p5) ?_
  show Gm p e below s₁ m 0 #[lv q0, .second, lv q1, .second, lv q2, .second, lv q3, .second, iv p4, iv p5, .unset, .unset, .unset, .unset, .unset, .unset, .unset, .unset, .unset, .unset, .unset, .unset, .unset, .unset, .unset, .unset] [] _
  refine own_go (fun t₀ k₀ => XS.iload X0.here hx rfl (Jvm.hb hby at_0) rfl k₀) ?_
  show Gm p e below s₁ m 2 #[lv q0, .second, lv q1, .second, lv q2, .second, lv q3, .second, iv p4, iv p5, .unset, .unset, .unset, .unset, .unset, .unset, .unset, .unset, .unset, .unset, .unset, .unset, .unset, .unset, .unset, .unset] [(.int p4)] _
  refine own_go (fun t₀ k₀ => XS.sipush X0.here hx rfl (Jvm.hb hby at_2) k₀) ?_
  show Gm p e below s₁ m 5 #[lv q0, .second, lv q1, .second, lv q2, .second, lv q3, .second, iv p4, iv p5, .unset, .unset, .unset, .unset, .unset, .unset, .unset, .unset, .unset, .unset, .unset, .unset, .unset, .unset, .unset, .unset] [(.int (255 : Int32)), (.int p4)] _
  refine own_go (fun t₀ k₀ => XS.iand X0.here hx rfl (Jvm.hb hby at_5) rfl k₀) ?_
  show Gm p e below s₁ m 6 #[lv q0, .second, lv q1, .second, lv q2, .second, lv q3, .second, iv p4, iv p5, .unset, .unset, .unset, .unset, .unset, .unset, .unset, .unset, .unset, .unset, .unset, .unset, .unset, .unset, .unset, .unset] [(.int (p4 &&& (255 : Int32)))] _
  refine own_go (fun t₀ k₀ => XS.i2l X0.here hx rfl (Jvm.hb hby at_6) rfl k₀) ?_
  show Gm p e below s₁ m 7 #[lv q0, .second, lv q1, .second, lv q2, .second, lv q3, .second, iv p4, iv p5, .unset, .unset, .unset, .unset, .unset, .unset, .unset, .unset, .unset, .unset, .unset, .unset, .unset, .unset, .unset, .unset] [(.long ((p4 &&& (255 : Int32)).toInt64))] _
  refine own_go (fun t₀ k₀ => XS.lconst X0.here hx rfl (Jvm.hb hby at_7) k₀) ?_
  show Gm p e below s₁ m 8 #[lv q0, .second, lv q1, .second, lv q2, .second, lv q3, .second, iv p4, iv p5, .unset, .unset, .unset, .unset, .unset, .unset, .unset, .unset, .unset, .unset, .unset, .unset, .unset, .unset, .unset, .unset] [(.long (1 : Int64)), (.long ((p4 &&& (255 : Int32)).toInt64))] _
  refine own_go (fun t₀ k₀ => XS.ladd X0.here hx rfl (Jvm.hb hby at_8) rfl k₀) ?_
  show Gm p e below s₁ m 9 #[lv q0, .second, lv q1, .second, lv q2, .second, lv q3, .second, iv p4, iv p5, .unset, .unset, .unset, .unset, .unset, .unset, .unset, .unset, .unset, .unset, .unset, .unset, .unset, .unset, .unset, .unset] [(.long (((p4 &&& (255 : Int32)).toInt64) + (1 : Int64)))] _
  refine own_go (fun t₀ k₀ => XS.lstore X0.here hx rfl (Jvm.hb hby at_9) rfl (l' := #[lv q0, .second, lv q1, .second, lv q2, .second, lv q3, .second, iv p4, iv p5, lv (((p4 &&& (255 : Int32)).toInt64) + (1 : Int64)), .second, .unset, .unset, .unset, .unset, .unset, .unset, .unset, .unset, .unset, .unset, .unset, .unset, .unset, .unset]) rfl k₀) ?_
  show Gm p e below s₁ m 11 #[lv q0, .second, lv q1, .second, lv q2, .second, lv q3, .second, iv p4, iv p5, lv (((p4 &&& (255 : Int32)).toInt64) + (1 : Int64)), .second, .unset, .unset, .unset, .unset, .unset, .unset, .unset, .unset, .unset, .unset, .unset, .unset, .unset, .unset] [] _
  obtain ⟨c1, h_c1⟩ : ∃ z : Int64, z = (((p4 &&& (255 : Int32)).toInt64) + (1 : Int64)) := ⟨_, rfl⟩
  rw [← h_c1]
  have hc1 := own_cb h_c1
  show Gm p e below s₁ m 11 #[lv q0, .second, lv q1, .second, lv q2, .second, lv q3, .second, iv p4, iv p5, lv c1, .second, .unset, .unset, .unset, .unset, .unset, .unset, .unset, .unset, .unset, .unset, .unset, .unset, .unset, .unset] [] _
  refine own_go (fun t₀ k₀ => XS.iload X0.here hx rfl (Jvm.hb hby at_11) rfl k₀) ?_
  show Gm p e below s₁ m 13 #[lv q0, .second, lv q1, .second, lv q2, .second, lv q3, .second, iv p4, iv p5, lv c1, .second, .unset, .unset, .unset, .unset, .unset, .unset, .unset, .unset, .unset, .unset, .unset, .unset, .unset, .unset] [(.int p4)] _
  refine own_go (fun t₀ k₀ => XS.bipush X0.here hx rfl (Jvm.hb hby at_13) k₀) ?_
  show Gm p e below s₁ m 15 #[lv q0, .second, lv q1, .second, lv q2, .second, lv q3, .second, iv p4, iv p5, lv c1, .second, .unset, .unset, .unset, .unset, .unset, .unset, .unset, .unset, .unset, .unset, .unset, .unset, .unset, .unset] [(.int (8 : Int32)), (.int p4)] _
  refine own_go (fun t₀ k₀ => XS.iushr X0.here hx rfl (Jvm.hb hby at_15) rfl k₀) ?_
  show Gm p e below s₁ m 16 #[lv q0, .second, lv q1, .second, lv q2, .second, lv q3, .second, iv p4, iv p5, lv c1, .second, .unset, .unset, .unset, .unset, .unset, .unset, .unset, .unset, .unset, .unset, .unset, .unset, .unset, .unset] [(.int ((p4.toUInt32 >>> ((8 : Int32) &&& 31).toUInt32).toInt32))] _
  refine own_go (fun t₀ k₀ => XS.sipush X0.here hx rfl (Jvm.hb hby at_16) k₀) ?_
  show Gm p e below s₁ m 19 #[lv q0, .second, lv q1, .second, lv q2, .second, lv q3, .second, iv p4, iv p5, lv c1, .second, .unset, .unset, .unset, .unset, .unset, .unset, .unset, .unset, .unset, .unset, .unset, .unset, .unset, .unset] [(.int (255 : Int32)), (.int ((p4.toUInt32 >>> ((8 : Int32) &&& 31).toUInt32).toInt32))] _
  refine own_go (fun t₀ k₀ => XS.iand X0.here hx rfl (Jvm.hb hby at_19) rfl k₀) ?_
  show Gm p e below s₁ m 20 #[lv q0, .second, lv q1, .second, lv q2, .second, lv q3, .second, iv p4, iv p5, lv c1, .second, .unset, .unset, .unset, .unset, .unset, .unset, .unset, .unset, .unset, .unset, .unset, .unset, .unset, .unset] [(.int (((p4.toUInt32 >>> ((8 : Int32) &&& 31).toUInt32).toInt32) &&& (255 : Int32)))] _
  refine own_go (fun t₀ k₀ => XS.i2l X0.here hx rfl (Jvm.hb hby at_20) rfl k₀) ?_
  show Gm p e below s₁ m 21 #[lv q0, .second, lv q1, .second, lv q2, .second, lv q3, .second, iv p4, iv p5, lv c1, .second, .unset, .unset, .unset, .unset, .unset, .unset, .unset, .unset, .unset, .unset, .unset, .unset, .unset, .unset] [(.long ((((p4.toUInt32 >>> ((8 : Int32) &&& 31).toUInt32).toInt32) &&& (255 : Int32)).toInt64))] _
  refine own_go (fun t₀ k₀ => XS.lconst X0.here hx rfl (Jvm.hb hby at_21) k₀) ?_
  show Gm p e below s₁ m 22 #[lv q0, .second, lv q1, .second, lv q2, .second, lv q3, .second, iv p4, iv p5, lv c1, .second, .unset, .unset, .unset, .unset, .unset, .unset, .unset, .unset, .unset, .unset, .unset, .unset, .unset, .unset] [(.long (1 : Int64)), (.long ((((p4.toUInt32 >>> ((8 : Int32) &&& 31).toUInt32).toInt32) &&& (255 : Int32)).toInt64))] _
  refine own_go (fun t₀ k₀ => XS.ladd X0.here hx rfl (Jvm.hb hby at_22) rfl k₀) ?_
  show Gm p e below s₁ m 23 #[lv q0, .second, lv q1, .second, lv q2, .second, lv q3, .second, iv p4, iv p5, lv c1, .second, .unset, .unset, .unset, .unset, .unset, .unset, .unset, .unset, .unset, .unset, .unset, .unset, .unset, .unset] [(.long (((((p4.toUInt32 >>> ((8 : Int32) &&& 31).toUInt32).toInt32) &&& (255 : Int32)).toInt64) + (1 : Int64)))] _
  refine own_go (fun t₀ k₀ => XS.lstore X0.here hx rfl (Jvm.hb hby at_23) rfl (l' := #[lv q0, .second, lv q1, .second, lv q2, .second, lv q3, .second, iv p4, iv p5, lv c1, .second, lv (((((p4.toUInt32 >>> ((8 : Int32) &&& 31).toUInt32).toInt32) &&& (255 : Int32)).toInt64) + (1 : Int64)), .second, .unset, .unset, .unset, .unset, .unset, .unset, .unset, .unset, .unset, .unset, .unset, .unset]) rfl k₀) ?_
  show Gm p e below s₁ m 25 #[lv q0, .second, lv q1, .second, lv q2, .second, lv q3, .second, iv p4, iv p5, lv c1, .second, lv (((((p4.toUInt32 >>> ((8 : Int32) &&& 31).toUInt32).toInt32) &&& (255 : Int32)).toInt64) + (1 : Int64)), .second, .unset, .unset, .unset, .unset, .unset, .unset, .unset, .unset, .unset, .unset, .unset, .unset] [] _
  obtain ⟨c2, h_c2⟩ : ∃ z : Int64, z = (((((p4.toUInt32 >>> ((8 : Int32) &&& 31).toUInt32).toInt32) &&& (255 : Int32)).toInt64) + (1 : Int64)) := ⟨_, rfl⟩
  rw [← h_c2]
  have hc2 := own_cb h_c2
  show Gm p e below s₁ m 25 #[lv q0, .second, lv q1, .second, lv q2, .second, lv q3, .second, iv p4, iv p5, lv c1, .second, lv c2, .second, .unset, .unset, .unset, .unset, .unset, .unset, .unset, .unset, .unset, .unset, .unset, .unset] [] _
  refine own_go (fun t₀ k₀ => XS.iload X0.here hx rfl (Jvm.hb hby at_25) rfl k₀) ?_
  show Gm p e below s₁ m 27 #[lv q0, .second, lv q1, .second, lv q2, .second, lv q3, .second, iv p4, iv p5, lv c1, .second, lv c2, .second, .unset, .unset, .unset, .unset, .unset, .unset, .unset, .unset, .unset, .unset, .unset, .unset] [(.int p4)] _
  refine own_go (fun t₀ k₀ => XS.bipush X0.here hx rfl (Jvm.hb hby at_27) k₀) ?_
  show Gm p e below s₁ m 29 #[lv q0, .second, lv q1, .second, lv q2, .second, lv q3, .second, iv p4, iv p5, lv c1, .second, lv c2, .second, .unset, .unset, .unset, .unset, .unset, .unset, .unset, .unset, .unset, .unset, .unset, .unset] [(.int (16 : Int32)), (.int p4)] _
  refine own_go (fun t₀ k₀ => XS.iushr X0.here hx rfl (Jvm.hb hby at_29) rfl k₀) ?_
  show Gm p e below s₁ m 30 #[lv q0, .second, lv q1, .second, lv q2, .second, lv q3, .second, iv p4, iv p5, lv c1, .second, lv c2, .second, .unset, .unset, .unset, .unset, .unset, .unset, .unset, .unset, .unset, .unset, .unset, .unset] [(.int ((p4.toUInt32 >>> ((16 : Int32) &&& 31).toUInt32).toInt32))] _
  refine own_go (fun t₀ k₀ => XS.sipush X0.here hx rfl (Jvm.hb hby at_30) k₀) ?_
  show Gm p e below s₁ m 33 #[lv q0, .second, lv q1, .second, lv q2, .second, lv q3, .second, iv p4, iv p5, lv c1, .second, lv c2, .second, .unset, .unset, .unset, .unset, .unset, .unset, .unset, .unset, .unset, .unset, .unset, .unset] [(.int (255 : Int32)), (.int ((p4.toUInt32 >>> ((16 : Int32) &&& 31).toUInt32).toInt32))] _
  refine own_go (fun t₀ k₀ => XS.iand X0.here hx rfl (Jvm.hb hby at_33) rfl k₀) ?_
  show Gm p e below s₁ m 34 #[lv q0, .second, lv q1, .second, lv q2, .second, lv q3, .second, iv p4, iv p5, lv c1, .second, lv c2, .second, .unset, .unset, .unset, .unset, .unset, .unset, .unset, .unset, .unset, .unset, .unset, .unset] [(.int (((p4.toUInt32 >>> ((16 : Int32) &&& 31).toUInt32).toInt32) &&& (255 : Int32)))] _
  refine own_go (fun t₀ k₀ => XS.i2l X0.here hx rfl (Jvm.hb hby at_34) rfl k₀) ?_
  show Gm p e below s₁ m 35 #[lv q0, .second, lv q1, .second, lv q2, .second, lv q3, .second, iv p4, iv p5, lv c1, .second, lv c2, .second, .unset, .unset, .unset, .unset, .unset, .unset, .unset, .unset, .unset, .unset, .unset, .unset] [(.long ((((p4.toUInt32 >>> ((16 : Int32) &&& 31).toUInt32).toInt32) &&& (255 : Int32)).toInt64))] _
  refine own_go (fun t₀ k₀ => XS.lconst X0.here hx rfl (Jvm.hb hby at_35) k₀) ?_
  show Gm p e below s₁ m 36 #[lv q0, .second, lv q1, .second, lv q2, .second, lv q3, .second, iv p4, iv p5, lv c1, .second, lv c2, .second, .unset, .unset, .unset, .unset, .unset, .unset, .unset, .unset, .unset, .unset, .unset, .unset] [(.long (1 : Int64)), (.long ((((p4.toUInt32 >>> ((16 : Int32) &&& 31).toUInt32).toInt32) &&& (255 : Int32)).toInt64))] _
  refine own_go (fun t₀ k₀ => XS.ladd X0.here hx rfl (Jvm.hb hby at_36) rfl k₀) ?_
  show Gm p e below s₁ m 37 #[lv q0, .second, lv q1, .second, lv q2, .second, lv q3, .second, iv p4, iv p5, lv c1, .second, lv c2, .second, .unset, .unset, .unset, .unset, .unset, .unset, .unset, .unset, .unset, .unset, .unset, .unset] [(.long (((((p4.toUInt32 >>> ((16 : Int32) &&& 31).toUInt32).toInt32) &&& (255 : Int32)).toInt64) + (1 : Int64)))] _
  refine own_go (fun t₀ k₀ => XS.lstore X0.here hx rfl (Jvm.hb hby at_37) rfl (l' := #[lv q0, .second, lv q1, .second, lv q2, .second, lv q3, .second, iv p4, iv p5, lv c1, .second, lv c2, .second, lv (((((p4.toUInt32 >>> ((16 : Int32) &&& 31).toUInt32).toInt32) &&& (255 : Int32)).toInt64) + (1 : Int64)), .second, .unset, .unset, .unset, .unset, .unset, .unset, .unset, .unset, .unset, .unset]) rfl k₀) ?_
  show Gm p e below s₁ m 39 #[lv q0, .second, lv q1, .second, lv q2, .second, lv q3, .second, iv p4, iv p5, lv c1, .second, lv c2, .second, lv (((((p4.toUInt32 >>> ((16 : Int32) &&& 31).toUInt32).toInt32) &&& (255 : Int32)).toInt64) + (1 : Int64)), .second, .unset, .unset, .unset, .unset, .unset, .unset, .unset, .unset, .unset, .unset] [] _
  obtain ⟨c3, h_c3⟩ : ∃ z : Int64, z = (((((p4.toUInt32 >>> ((16 : Int32) &&& 31).toUInt32).toInt32) &&& (255 : Int32)).toInt64) + (1 : Int64)) := ⟨_, rfl⟩
  rw [← h_c3]
  have hc3 := own_cb h_c3
  show Gm p e below s₁ m 39 #[lv q0, .second, lv q1, .second, lv q2, .second, lv q3, .second, iv p4, iv p5, lv c1, .second, lv c2, .second, lv c3, .second, .unset, .unset, .unset, .unset, .unset, .unset, .unset, .unset, .unset, .unset] [] _
  refine own_go (fun t₀ k₀ => XS.iload X0.here hx rfl (Jvm.hb hby at_39) rfl k₀) ?_
  show Gm p e below s₁ m 41 #[lv q0, .second, lv q1, .second, lv q2, .second, lv q3, .second, iv p4, iv p5, lv c1, .second, lv c2, .second, lv c3, .second, .unset, .unset, .unset, .unset, .unset, .unset, .unset, .unset, .unset, .unset] [(.int p5)] _
  refine own_go (fun t₀ k₀ => XS.bipush X0.here hx rfl (Jvm.hb hby at_41) k₀) ?_
  show Gm p e below s₁ m 43 #[lv q0, .second, lv q1, .second, lv q2, .second, lv q3, .second, iv p4, iv p5, lv c1, .second, lv c2, .second, lv c3, .second, .unset, .unset, .unset, .unset, .unset, .unset, .unset, .unset, .unset, .unset] [(.int (7 : Int32)), (.int p5)] _
  refine own_go (fun t₀ k₀ => XS.iand X0.here hx rfl (Jvm.hb hby at_43) rfl k₀) ?_
  show Gm p e below s₁ m 44 #[lv q0, .second, lv q1, .second, lv q2, .second, lv q3, .second, iv p4, iv p5, lv c1, .second, lv c2, .second, lv c3, .second, .unset, .unset, .unset, .unset, .unset, .unset, .unset, .unset, .unset, .unset] [(.int (p5 &&& (7 : Int32)))] _
  refine own_go (fun t₀ k₀ => XS.istore X0.here hx rfl (Jvm.hb hby at_44) rfl (l' := #[lv q0, .second, lv q1, .second, lv q2, .second, lv q3, .second, iv p4, iv p5, lv c1, .second, lv c2, .second, lv c3, .second, iv (p5 &&& (7 : Int32)), .unset, .unset, .unset, .unset, .unset, .unset, .unset, .unset, .unset]) rfl k₀) ?_
  show Gm p e below s₁ m 46 #[lv q0, .second, lv q1, .second, lv q2, .second, lv q3, .second, iv p4, iv p5, lv c1, .second, lv c2, .second, lv c3, .second, iv (p5 &&& (7 : Int32)), .unset, .unset, .unset, .unset, .unset, .unset, .unset, .unset, .unset] [] _
  obtain ⟨sl, h_sl⟩ : ∃ z : Int32, z = (p5 &&& (7 : Int32)) := ⟨_, rfl⟩
  rw [← h_sl]
  show Gm p e below s₁ m 46 #[lv q0, .second, lv q1, .second, lv q2, .second, lv q3, .second, iv p4, iv p5, lv c1, .second, lv c2, .second, lv c3, .second, iv sl, .unset, .unset, .unset, .unset, .unset, .unset, .unset, .unset, .unset] [] _
  refine own_go (fun t₀ k₀ => XS.lload X0.here hx rfl (Jvm.hb hby at_46) rfl k₀) ?_
  show Gm p e below s₁ m 48 #[lv q0, .second, lv q1, .second, lv q2, .second, lv q3, .second, iv p4, iv p5, lv c1, .second, lv c2, .second, lv c3, .second, iv sl, .unset, .unset, .unset, .unset, .unset, .unset, .unset, .unset, .unset] [(.long q3)] _
  refine own_go (fun t₀ k₀ => XS.lstore X0.here hx rfl (Jvm.hb hby at_48) rfl (l' := #[lv q0, .second, lv q1, .second, lv q2, .second, lv q3, .second, iv p4, iv p5, lv c1, .second, lv c2, .second, lv c3, .second, iv sl, lv q3, .second, .unset, .unset, .unset, .unset, .unset, .unset, .unset]) rfl k₀) ?_
  show Gm p e below s₁ m 50 #[lv q0, .second, lv q1, .second, lv q2, .second, lv q3, .second, iv p4, iv p5, lv c1, .second, lv c2, .second, lv c3, .second, iv sl, lv q3, .second, .unset, .unset, .unset, .unset, .unset, .unset, .unset] [] _
  refine own_go (fun t₀ k₀ => XS.iload X0.here hx rfl (Jvm.hb hby at_50) rfl k₀) ?_
  show Gm p e below s₁ m 52 #[lv q0, .second, lv q1, .second, lv q2, .second, lv q3, .second, iv p4, iv p5, lv c1, .second, lv c2, .second, lv c3, .second, iv sl, lv q3, .second, .unset, .unset, .unset, .unset, .unset, .unset, .unset] [(.int sl)] _
  refine own_go (fun t₀ k₀ => XS.iconst X0.here hx rfl (Jvm.hb hby at_52) k₀) ?_
  obtain ⟨z5, hz5, k5⟩ : ∃ z : Int64, z = (if sl = (2 : Int32) then q0 else (if sl = (3 : Int32) then q1 else (if sl = (4 : Int32) then q2 else (if sl = (5 : Int32) then (q0 - (1 : Int64)) else (if sl = (6 : Int32) then (q1 - (1 : Int64)) else (if sl = (7 : Int32) then (q2 - (1 : Int64)) else (q3))))))) ∧ ∀ P, Go p e below (s₁.setTop (mkF m 129 #[lv q0, .second, lv q1, .second, lv q2, .second, lv q3, .second, iv p4, iv p5, lv c1, .second, lv c2, .second, lv c3, .second, iv sl, lv z, .second, .unset, .unset, .unset, .unset, .unset, .unset, .unset] [])) P → Go p e below (s₁.setTop (mkF m 53 #[lv q0, .second, lv q1, .second, lv q2, .second, lv q3, .second, iv p4, iv p5, lv c1, .second, lv c2, .second, lv c3, .second, iv sl, lv q3, .second, .unset, .unset, .unset, .unset, .unset, .unset, .unset] [(.int (2 : Int32)), (.int sl)])) P := by
    refine ⟨_, rfl, fun P kP => ?_⟩
    show Gm p e below s₁ m 53 #[lv q0, .second, lv q1, .second, lv q2, .second, lv q3, .second, iv p4, iv p5, lv c1, .second, lv c2, .second, lv c3, .second, iv sl, lv q3, .second, .unset, .unset, .unset, .unset, .unset, .unset, .unset] [(.int (2 : Int32)), (.int sl)] _
    by_cases c6 : sl = (2 : Int32)
    · have hfork := trivial
      refine own_go (fun t₀ k₀ => XS.icmpNo X0.here hx rfl (Jvm.hb hby at_53) rfl (XT.ii_ne_f c6) k₀) ?_
      show Gm p e below s₁ m 56 #[lv q0, .second, lv q1, .second, lv q2, .second, lv q3, .second, iv p4, iv p5, lv c1, .second, lv c2, .second, lv c3, .second, iv sl, lv q3, .second, .unset, .unset, .unset, .unset, .unset, .unset, .unset] [] _
      refine own_go (fun t₀ k₀ => XS.lloadN X0.here hx rfl (Jvm.hb hby at_56) rfl k₀) ?_
      show Gm p e below s₁ m 57 #[lv q0, .second, lv q1, .second, lv q2, .second, lv q3, .second, iv p4, iv p5, lv c1, .second, lv c2, .second, lv c3, .second, iv sl, lv q3, .second, .unset, .unset, .unset, .unset, .unset, .unset, .unset] [(.long q0)] _
      refine own_go (fun t₀ k₀ => XS.lstore X0.here hx rfl (Jvm.hb hby at_57) rfl (l' := #[lv q0, .second, lv q1, .second, lv q2, .second, lv q3, .second, iv p4, iv p5, lv c1, .second, lv c2, .second, lv c3, .second, iv sl, lv q0, .second, .unset, .unset, .unset, .unset, .unset, .unset, .unset]) rfl k₀) ?_
      show Gm p e below s₁ m 59 #[lv q0, .second, lv q1, .second, lv q2, .second, lv q3, .second, iv p4, iv p5, lv c1, .second, lv c2, .second, lv c3, .second, iv sl, lv q0, .second, .unset, .unset, .unset, .unset, .unset, .unset, .unset] [] _
      refine own_go (fun t₀ k₀ => XS.goto X0.here hx rfl (pc0 := 59) (pc' := 129) rfl (Jvm.hb hby at_59) (by decide) (by decide) k₀) ?_
      rw [if_pos c6] at kP
      exact kP
    · have hfork := trivial
      refine own_go (fun t₀ k₀ => XS.icmpYes X0.here hx rfl (pc0 := 53) (pc' := 62) rfl (Jvm.hb hby at_53) rfl (XT.ii_ne_t c6) (by decide) (by decide) k₀) ?_
      show Gm p e below s₁ m 62 #[lv q0, .second, lv q1, .second, lv q2, .second, lv q3, .second, iv p4, iv p5, lv c1, .second, lv c2, .second, lv c3, .second, iv sl, lv q3, .second, .unset, .unset, .unset, .unset, .unset, .unset, .unset] [] _
      refine own_go (fun t₀ k₀ => XS.iload X0.here hx rfl (Jvm.hb hby at_62) rfl k₀) ?_
      show Gm p e below s₁ m 64 #[lv q0, .second, lv q1, .second, lv q2, .second, lv q3, .second, iv p4, iv p5, lv c1, .second, lv c2, .second, lv c3, .second, iv sl, lv q3, .second, .unset, .unset, .unset, .unset, .unset, .unset, .unset] [(.int sl)] _
      refine own_go (fun t₀ k₀ => XS.iconst X0.here hx rfl (Jvm.hb hby at_64) k₀) ?_
      show Gm p e below s₁ m 65 #[lv q0, .second, lv q1, .second, lv q2, .second, lv q3, .second, iv p4, iv p5, lv c1, .second, lv c2, .second, lv c3, .second, iv sl, lv q3, .second, .unset, .unset, .unset, .unset, .unset, .unset, .unset] [(.int (3 : Int32)), (.int sl)] _
      by_cases c7 : sl = (3 : Int32)
      · have hfork := trivial
        refine own_go (fun t₀ k₀ => XS.icmpNo X0.here hx rfl (Jvm.hb hby at_65) rfl (XT.ii_ne_f c7) k₀) ?_
        show Gm p e below s₁ m 68 #[lv q0, .second, lv q1, .second, lv q2, .second, lv q3, .second, iv p4, iv p5, lv c1, .second, lv c2, .second, lv c3, .second, iv sl, lv q3, .second, .unset, .unset, .unset, .unset, .unset, .unset, .unset] [] _
        refine own_go (fun t₀ k₀ => XS.lloadN X0.here hx rfl (Jvm.hb hby at_68) rfl k₀) ?_
        show Gm p e below s₁ m 69 #[lv q0, .second, lv q1, .second, lv q2, .second, lv q3, .second, iv p4, iv p5, lv c1, .second, lv c2, .second, lv c3, .second, iv sl, lv q3, .second, .unset, .unset, .unset, .unset, .unset, .unset, .unset] [(.long q1)] _
        refine own_go (fun t₀ k₀ => XS.lstore X0.here hx rfl (Jvm.hb hby at_69) rfl (l' := #[lv q0, .second, lv q1, .second, lv q2, .second, lv q3, .second, iv p4, iv p5, lv c1, .second, lv c2, .second, lv c3, .second, iv sl, lv q1, .second, .unset, .unset, .unset, .unset, .unset, .unset, .unset]) rfl k₀) ?_
        show Gm p e below s₁ m 71 #[lv q0, .second, lv q1, .second, lv q2, .second, lv q3, .second, iv p4, iv p5, lv c1, .second, lv c2, .second, lv c3, .second, iv sl, lv q1, .second, .unset, .unset, .unset, .unset, .unset, .unset, .unset] [] _
        refine own_go (fun t₀ k₀ => XS.goto X0.here hx rfl (pc0 := 71) (pc' := 129) rfl (Jvm.hb hby at_71) (by decide) (by decide) k₀) ?_
        rw [if_neg c6, if_pos c7] at kP
        exact kP
      · have hfork := trivial
        refine own_go (fun t₀ k₀ => XS.icmpYes X0.here hx rfl (pc0 := 65) (pc' := 74) rfl (Jvm.hb hby at_65) rfl (XT.ii_ne_t c7) (by decide) (by decide) k₀) ?_
        show Gm p e below s₁ m 74 #[lv q0, .second, lv q1, .second, lv q2, .second, lv q3, .second, iv p4, iv p5, lv c1, .second, lv c2, .second, lv c3, .second, iv sl, lv q3, .second, .unset, .unset, .unset, .unset, .unset, .unset, .unset] [] _
        refine own_go (fun t₀ k₀ => XS.iload X0.here hx rfl (Jvm.hb hby at_74) rfl k₀) ?_
        show Gm p e below s₁ m 76 #[lv q0, .second, lv q1, .second, lv q2, .second, lv q3, .second, iv p4, iv p5, lv c1, .second, lv c2, .second, lv c3, .second, iv sl, lv q3, .second, .unset, .unset, .unset, .unset, .unset, .unset, .unset] [(.int sl)] _
        refine own_go (fun t₀ k₀ => XS.iconst X0.here hx rfl (Jvm.hb hby at_76) k₀) ?_
        show Gm p e below s₁ m 77 #[lv q0, .second, lv q1, .second, lv q2, .second, lv q3, .second, iv p4, iv p5, lv c1, .second, lv c2, .second, lv c3, .second, iv sl, lv q3, .second, .unset, .unset, .unset, .unset, .unset, .unset, .unset] [(.int (4 : Int32)), (.int sl)] _
        by_cases c8 : sl = (4 : Int32)
        · have hfork := trivial
          refine own_go (fun t₀ k₀ => XS.icmpNo X0.here hx rfl (Jvm.hb hby at_77) rfl (XT.ii_ne_f c8) k₀) ?_
          show Gm p e below s₁ m 80 #[lv q0, .second, lv q1, .second, lv q2, .second, lv q3, .second, iv p4, iv p5, lv c1, .second, lv c2, .second, lv c3, .second, iv sl, lv q3, .second, .unset, .unset, .unset, .unset, .unset, .unset, .unset] [] _
          refine own_go (fun t₀ k₀ => XS.lload X0.here hx rfl (Jvm.hb hby at_80) rfl k₀) ?_
          show Gm p e below s₁ m 82 #[lv q0, .second, lv q1, .second, lv q2, .second, lv q3, .second, iv p4, iv p5, lv c1, .second, lv c2, .second, lv c3, .second, iv sl, lv q3, .second, .unset, .unset, .unset, .unset, .unset, .unset, .unset] [(.long q2)] _
          refine own_go (fun t₀ k₀ => XS.lstore X0.here hx rfl (Jvm.hb hby at_82) rfl (l' := #[lv q0, .second, lv q1, .second, lv q2, .second, lv q3, .second, iv p4, iv p5, lv c1, .second, lv c2, .second, lv c3, .second, iv sl, lv q2, .second, .unset, .unset, .unset, .unset, .unset, .unset, .unset]) rfl k₀) ?_
          show Gm p e below s₁ m 84 #[lv q0, .second, lv q1, .second, lv q2, .second, lv q3, .second, iv p4, iv p5, lv c1, .second, lv c2, .second, lv c3, .second, iv sl, lv q2, .second, .unset, .unset, .unset, .unset, .unset, .unset, .unset] [] _
          refine own_go (fun t₀ k₀ => XS.goto X0.here hx rfl (pc0 := 84) (pc' := 129) rfl (Jvm.hb hby at_84) (by decide) (by decide) k₀) ?_
          rw [if_neg c6, if_neg c7, if_pos c8] at kP
          exact kP
        · have hfork := trivial
          refine own_go (fun t₀ k₀ => XS.icmpYes X0.here hx rfl (pc0 := 77) (pc' := 87) rfl (Jvm.hb hby at_77) rfl (XT.ii_ne_t c8) (by decide) (by decide) k₀) ?_
          show Gm p e below s₁ m 87 #[lv q0, .second, lv q1, .second, lv q2, .second, lv q3, .second, iv p4, iv p5, lv c1, .second, lv c2, .second, lv c3, .second, iv sl, lv q3, .second, .unset, .unset, .unset, .unset, .unset, .unset, .unset] [] _
          refine own_go (fun t₀ k₀ => XS.iload X0.here hx rfl (Jvm.hb hby at_87) rfl k₀) ?_
          show Gm p e below s₁ m 89 #[lv q0, .second, lv q1, .second, lv q2, .second, lv q3, .second, iv p4, iv p5, lv c1, .second, lv c2, .second, lv c3, .second, iv sl, lv q3, .second, .unset, .unset, .unset, .unset, .unset, .unset, .unset] [(.int sl)] _
          refine own_go (fun t₀ k₀ => XS.iconst X0.here hx rfl (Jvm.hb hby at_89) k₀) ?_
          show Gm p e below s₁ m 90 #[lv q0, .second, lv q1, .second, lv q2, .second, lv q3, .second, iv p4, iv p5, lv c1, .second, lv c2, .second, lv c3, .second, iv sl, lv q3, .second, .unset, .unset, .unset, .unset, .unset, .unset, .unset] [(.int (5 : Int32)), (.int sl)] _
          by_cases c9 : sl = (5 : Int32)
          · have hfork := trivial
            refine own_go (fun t₀ k₀ => XS.icmpNo X0.here hx rfl (Jvm.hb hby at_90) rfl (XT.ii_ne_f c9) k₀) ?_
            show Gm p e below s₁ m 93 #[lv q0, .second, lv q1, .second, lv q2, .second, lv q3, .second, iv p4, iv p5, lv c1, .second, lv c2, .second, lv c3, .second, iv sl, lv q3, .second, .unset, .unset, .unset, .unset, .unset, .unset, .unset] [] _
            refine own_go (fun t₀ k₀ => XS.lloadN X0.here hx rfl (Jvm.hb hby at_93) rfl k₀) ?_
            show Gm p e below s₁ m 94 #[lv q0, .second, lv q1, .second, lv q2, .second, lv q3, .second, iv p4, iv p5, lv c1, .second, lv c2, .second, lv c3, .second, iv sl, lv q3, .second, .unset, .unset, .unset, .unset, .unset, .unset, .unset] [(.long q0)] _
            refine own_go (fun t₀ k₀ => XS.lconst X0.here hx rfl (Jvm.hb hby at_94) k₀) ?_
            show Gm p e below s₁ m 95 #[lv q0, .second, lv q1, .second, lv q2, .second, lv q3, .second, iv p4, iv p5, lv c1, .second, lv c2, .second, lv c3, .second, iv sl, lv q3, .second, .unset, .unset, .unset, .unset, .unset, .unset, .unset] [(.long (1 : Int64)), (.long q0)] _
            refine own_go (fun t₀ k₀ => XS.lsub X0.here hx rfl (Jvm.hb hby at_95) rfl k₀) ?_
            show Gm p e below s₁ m 96 #[lv q0, .second, lv q1, .second, lv q2, .second, lv q3, .second, iv p4, iv p5, lv c1, .second, lv c2, .second, lv c3, .second, iv sl, lv q3, .second, .unset, .unset, .unset, .unset, .unset, .unset, .unset] [(.long (q0 - (1 : Int64)))] _
            refine own_go (fun t₀ k₀ => XS.lstore X0.here hx rfl (Jvm.hb hby at_96) rfl (l' := #[lv q0, .second, lv q1, .second, lv q2, .second, lv q3, .second, iv p4, iv p5, lv c1, .second, lv c2, .second, lv c3, .second, iv sl, lv (q0 - (1 : Int64)), .second, .unset, .unset, .unset, .unset, .unset, .unset, .unset]) rfl k₀) ?_
            show Gm p e below s₁ m 98 #[lv q0, .second, lv q1, .second, lv q2, .second, lv q3, .second, iv p4, iv p5, lv c1, .second, lv c2, .second, lv c3, .second, iv sl, lv (q0 - (1 : Int64)), .second, .unset, .unset, .unset, .unset, .unset, .unset, .unset] [] _
            refine own_go (fun t₀ k₀ => XS.goto X0.here hx rfl (pc0 := 98) (pc' := 129) rfl (Jvm.hb hby at_98) (by decide) (by decide) k₀) ?_
            rw [if_neg c6, if_neg c7, if_neg c8, if_pos c9] at kP
            exact kP
          · have hfork := trivial
            refine own_go (fun t₀ k₀ => XS.icmpYes X0.here hx rfl (pc0 := 90) (pc' := 101) rfl (Jvm.hb hby at_90) rfl (XT.ii_ne_t c9) (by decide) (by decide) k₀) ?_
            show Gm p e below s₁ m 101 #[lv q0, .second, lv q1, .second, lv q2, .second, lv q3, .second, iv p4, iv p5, lv c1, .second, lv c2, .second, lv c3, .second, iv sl, lv q3, .second, .unset, .unset, .unset, .unset, .unset, .unset, .unset] [] _
            refine own_go (fun t₀ k₀ => XS.iload X0.here hx rfl (Jvm.hb hby at_101) rfl k₀) ?_
            show Gm p e below s₁ m 103 #[lv q0, .second, lv q1, .second, lv q2, .second, lv q3, .second, iv p4, iv p5, lv c1, .second, lv c2, .second, lv c3, .second, iv sl, lv q3, .second, .unset, .unset, .unset, .unset, .unset, .unset, .unset] [(.int sl)] _
            refine own_go (fun t₀ k₀ => XS.bipush X0.here hx rfl (Jvm.hb hby at_103) k₀) ?_
            show Gm p e below s₁ m 105 #[lv q0, .second, lv q1, .second, lv q2, .second, lv q3, .second, iv p4, iv p5, lv c1, .second, lv c2, .second, lv c3, .second, iv sl, lv q3, .second, .unset, .unset, .unset, .unset, .unset, .unset, .unset] [(.int (6 : Int32)), (.int sl)] _
            by_cases c10 : sl = (6 : Int32)
            · have hfork := trivial
              refine own_go (fun t₀ k₀ => XS.icmpNo X0.here hx rfl (Jvm.hb hby at_105) rfl (XT.ii_ne_f c10) k₀) ?_
              show Gm p e below s₁ m 108 #[lv q0, .second, lv q1, .second, lv q2, .second, lv q3, .second, iv p4, iv p5, lv c1, .second, lv c2, .second, lv c3, .second, iv sl, lv q3, .second, .unset, .unset, .unset, .unset, .unset, .unset, .unset] [] _
              refine own_go (fun t₀ k₀ => XS.lloadN X0.here hx rfl (Jvm.hb hby at_108) rfl k₀) ?_
              show Gm p e below s₁ m 109 #[lv q0, .second, lv q1, .second, lv q2, .second, lv q3, .second, iv p4, iv p5, lv c1, .second, lv c2, .second, lv c3, .second, iv sl, lv q3, .second, .unset, .unset, .unset, .unset, .unset, .unset, .unset] [(.long q1)] _
              refine own_go (fun t₀ k₀ => XS.lconst X0.here hx rfl (Jvm.hb hby at_109) k₀) ?_
              show Gm p e below s₁ m 110 #[lv q0, .second, lv q1, .second, lv q2, .second, lv q3, .second, iv p4, iv p5, lv c1, .second, lv c2, .second, lv c3, .second, iv sl, lv q3, .second, .unset, .unset, .unset, .unset, .unset, .unset, .unset] [(.long (1 : Int64)), (.long q1)] _
              refine own_go (fun t₀ k₀ => XS.lsub X0.here hx rfl (Jvm.hb hby at_110) rfl k₀) ?_
              show Gm p e below s₁ m 111 #[lv q0, .second, lv q1, .second, lv q2, .second, lv q3, .second, iv p4, iv p5, lv c1, .second, lv c2, .second, lv c3, .second, iv sl, lv q3, .second, .unset, .unset, .unset, .unset, .unset, .unset, .unset] [(.long (q1 - (1 : Int64)))] _
              refine own_go (fun t₀ k₀ => XS.lstore X0.here hx rfl (Jvm.hb hby at_111) rfl (l' := #[lv q0, .second, lv q1, .second, lv q2, .second, lv q3, .second, iv p4, iv p5, lv c1, .second, lv c2, .second, lv c3, .second, iv sl, lv (q1 - (1 : Int64)), .second, .unset, .unset, .unset, .unset, .unset, .unset, .unset]) rfl k₀) ?_
              show Gm p e below s₁ m 113 #[lv q0, .second, lv q1, .second, lv q2, .second, lv q3, .second, iv p4, iv p5, lv c1, .second, lv c2, .second, lv c3, .second, iv sl, lv (q1 - (1 : Int64)), .second, .unset, .unset, .unset, .unset, .unset, .unset, .unset] [] _
              refine own_go (fun t₀ k₀ => XS.goto X0.here hx rfl (pc0 := 113) (pc' := 129) rfl (Jvm.hb hby at_113) (by decide) (by decide) k₀) ?_
              rw [if_neg c6, if_neg c7, if_neg c8, if_neg c9, if_pos c10] at kP
              exact kP
            · have hfork := trivial
              refine own_go (fun t₀ k₀ => XS.icmpYes X0.here hx rfl (pc0 := 105) (pc' := 116) rfl (Jvm.hb hby at_105) rfl (XT.ii_ne_t c10) (by decide) (by decide) k₀) ?_
              show Gm p e below s₁ m 116 #[lv q0, .second, lv q1, .second, lv q2, .second, lv q3, .second, iv p4, iv p5, lv c1, .second, lv c2, .second, lv c3, .second, iv sl, lv q3, .second, .unset, .unset, .unset, .unset, .unset, .unset, .unset] [] _
              refine own_go (fun t₀ k₀ => XS.iload X0.here hx rfl (Jvm.hb hby at_116) rfl k₀) ?_
              show Gm p e below s₁ m 118 #[lv q0, .second, lv q1, .second, lv q2, .second, lv q3, .second, iv p4, iv p5, lv c1, .second, lv c2, .second, lv c3, .second, iv sl, lv q3, .second, .unset, .unset, .unset, .unset, .unset, .unset, .unset] [(.int sl)] _
              refine own_go (fun t₀ k₀ => XS.bipush X0.here hx rfl (Jvm.hb hby at_118) k₀) ?_
              show Gm p e below s₁ m 120 #[lv q0, .second, lv q1, .second, lv q2, .second, lv q3, .second, iv p4, iv p5, lv c1, .second, lv c2, .second, lv c3, .second, iv sl, lv q3, .second, .unset, .unset, .unset, .unset, .unset, .unset, .unset] [(.int (7 : Int32)), (.int sl)] _
              by_cases c11 : sl = (7 : Int32)
              · have hfork := trivial
                refine own_go (fun t₀ k₀ => XS.icmpNo X0.here hx rfl (Jvm.hb hby at_120) rfl (XT.ii_ne_f c11) k₀) ?_
                show Gm p e below s₁ m 123 #[lv q0, .second, lv q1, .second, lv q2, .second, lv q3, .second, iv p4, iv p5, lv c1, .second, lv c2, .second, lv c3, .second, iv sl, lv q3, .second, .unset, .unset, .unset, .unset, .unset, .unset, .unset] [] _
                refine own_go (fun t₀ k₀ => XS.lload X0.here hx rfl (Jvm.hb hby at_123) rfl k₀) ?_
                show Gm p e below s₁ m 125 #[lv q0, .second, lv q1, .second, lv q2, .second, lv q3, .second, iv p4, iv p5, lv c1, .second, lv c2, .second, lv c3, .second, iv sl, lv q3, .second, .unset, .unset, .unset, .unset, .unset, .unset, .unset] [(.long q2)] _
                refine own_go (fun t₀ k₀ => XS.lconst X0.here hx rfl (Jvm.hb hby at_125) k₀) ?_
                show Gm p e below s₁ m 126 #[lv q0, .second, lv q1, .second, lv q2, .second, lv q3, .second, iv p4, iv p5, lv c1, .second, lv c2, .second, lv c3, .second, iv sl, lv q3, .second, .unset, .unset, .unset, .unset, .unset, .unset, .unset] [(.long (1 : Int64)), (.long q2)] _
                refine own_go (fun t₀ k₀ => XS.lsub X0.here hx rfl (Jvm.hb hby at_126) rfl k₀) ?_
                show Gm p e below s₁ m 127 #[lv q0, .second, lv q1, .second, lv q2, .second, lv q3, .second, iv p4, iv p5, lv c1, .second, lv c2, .second, lv c3, .second, iv sl, lv q3, .second, .unset, .unset, .unset, .unset, .unset, .unset, .unset] [(.long (q2 - (1 : Int64)))] _
                refine own_go (fun t₀ k₀ => XS.lstore X0.here hx rfl (Jvm.hb hby at_127) rfl (l' := #[lv q0, .second, lv q1, .second, lv q2, .second, lv q3, .second, iv p4, iv p5, lv c1, .second, lv c2, .second, lv c3, .second, iv sl, lv (q2 - (1 : Int64)), .second, .unset, .unset, .unset, .unset, .unset, .unset, .unset]) rfl k₀) ?_
                rw [if_neg c6, if_neg c7, if_neg c8, if_neg c9, if_neg c10, if_pos c11] at kP
                exact kP
              · have hfork := trivial
                refine own_go (fun t₀ k₀ => XS.icmpYes X0.here hx rfl (pc0 := 120) (pc' := 129) rfl (Jvm.hb hby at_120) rfl (XT.ii_ne_t c11) (by decide) (by decide) k₀) ?_
                rw [if_neg c6, if_neg c7, if_neg c8, if_neg c9, if_neg c10, if_neg c11] at kP
                exact kP
  refine k5 _ ?_
  show Gm p e below s₁ m 129 #[lv q0, .second, lv q1, .second, lv q2, .second, lv q3, .second, iv p4, iv p5, lv c1, .second, lv c2, .second, lv c3, .second, iv sl, lv z5, .second, .unset, .unset, .unset, .unset, .unset, .unset, .unset] [] _
  obtain ⟨T12, h12, X12, e12, E12, A12, D12, -, st12⟩ := newO X0 hx hZ hown (hw _ (List.mem_of_getElem? (i := 0) rfl)) (hw _ (List.mem_of_getElem? (i := 1) rfl)) (hw _ (List.mem_of_getElem? (i := 2) rfl)) e0 (g := (mkF m 129 #[lv q0, .second, lv q1, .second, lv q2, .second, lv q3, .second, iv p4, iv p5, lv c1, .second, lv c2, .second, lv c3, .second, iv sl, lv z5, .second, .unset, .unset, .unset, .unset, .unset, .unset, .unset] [])) rfl (Jvm.hb hby at_129) (by decide) (by decide)
  obtain ⟨b12, g12⟩ : ∃ z, z = h0.size := ⟨_, rfl⟩
  rw [← g12] at A12 D12 st12
  have g_b12 : n0 ≤ b12 := Nat.le_trans Z0 (Nat.le_of_eq g12.symm)
  have Z12 : n0 ≤ h12.size := Nat.le_trans Z0 E12.1
  have F_times_b12 : Fld Z h12 b12 "com/example/libbrake/libbrake/AdmissionLog" "times" "[J" .null := D12 (Or.inl (hw _ (List.mem_of_getElem? (i := 11) rfl))) (ty := (.array .long)) (by decide)
  have F_counts_b12 : Fld Z h12 b12 "com/example/libbrake/libbrake/AdmissionLog" "counts" "[J" .null := D12 (Or.inl (hw _ (List.mem_of_getElem? (i := 13) rfl))) (ty := (.array .long)) (by decide)
  have F_end_b12 : Fld Z h12 b12 "com/example/libbrake/libbrake/AdmissionLog" "end" "I" (.int (0 : Int32)) := D12 (Or.inl (hw _ (List.mem_of_getElem? (i := 20) rfl))) (ty := .int) (by decide)
  have F_start_b12 : Fld Z h12 b12 "com/example/libbrake/libbrake/AdmissionLog" "start" "I" (.int (0 : Int32)) := D12 (Or.inl (hw _ (List.mem_of_getElem? (i := 22) rfl))) (ty := .int) (by decide)
  have F_permits_b12 : Fld Z h12 b12 "com/example/libbrake/libbrake/AdmissionLog" "permits" "J" (.long (0 : Int64)) := D12 (Or.inl (hw _ (List.mem_of_getElem? (i := 28) rfl))) (ty := .long) (by decide)
  refine own_go st12 ?_
  show Gm p e below T12 m 132 #[lv q0, .second, lv q1, .second, lv q2, .second, lv q3, .second, iv p4, iv p5, lv c1, .second, lv c2, .second, lv c3, .second, iv sl, lv z5, .second, .unset, .unset, .unset, .unset, .unset, .unset, .unset] [(.ref b12)] _
  refine own_go (fun t₀ k₀ => XS.dup X12.here hx rfl (Jvm.hb hby at_132) rfl rfl k₀) ?_
  show Gm p e below T12 m 133 #[lv q0, .second, lv q1, .second, lv q2, .second, lv q3, .second, iv p4, iv p5, lv c1, .second, lv c2, .second, lv c3, .second, iv sl, lv z5, .second, .unset, .unset, .unset, .unset, .unset, .unset, .unset] [(.ref b12), (.ref b12)] _
  obtain ⟨_, _, ⟨T13, L13, k13, n13⟩, -, X13, ⟨Lc13, hQ13, l13, y13, z13⟩, st13⟩ := X12.specialBack hx (y := (⟨"com/example/libbrake/libbrake/AdmissionLog", "<init>", "()V"⟩ : MethodName)) rfl hown (mvT hZ (hw _ (List.mem_of_getElem? (i := 3) rfl))) (mvT hZ (hw _ (List.mem_of_getElem? (i := 4) rfl))) (mvT hZ (hw _ (List.mem_of_getElem? (i := 5) rfl))) (by decide) (backOf (W := 1) (rm1 l Z a0 hw [] b12 h12 n0 Z12 A12 F_times_b12 F_counts_b12 F_start_b12 F_end_b12 F_permits_b12 g_b12) hZ (hw _ (List.mem_of_getElem? (i := 5) rfl)) (hw _ (List.mem_of_getElem? (i := 2) rfl)) (by decide) (by decide)) (g := (mkF m 133 #[lv q0, .second, lv q1, .second, lv q2, .second, lv q3, .second, iv p4, iv p5, lv c1, .second, lv c2, .second, lv c3, .second, iv sl, lv z5, .second, .unset, .unset, .unset, .unset, .unset, .unset, .unset] [(.ref b12), (.ref b12)])) rfl (by rw [hml]; rfl) (Steps.refl _) (a := b12) (argsL := []) (rest := [(.ref b12)]) (lenOf own_pd2 rfl) rfl (by show 2 * 0 + _ ≤ _; exact Nat.le_of_eq rfl) (Jvm.hb hby at_133) (fun _ _ => ⟨rfl, e12, (by decide : 1 + 2 ≤ _), (by decide : 5 + 4 ≤ _)⟩)
  dsimp only [Pt.U, Pt.locs, Pt.cells, Pt.slots] at X13 l13 y13 z13 st13 hQ13
  subst l13 y13 z13
  obtain ⟨rfl, Nq13, hsz13, HL13⟩ := hQ13
  have N13 := Fr.app N0 Nq13
  refine own_go (fun t k => st13.trans k) ?_
  have Z13 : n0 ≤ T13.heap.size := Nat.le_trans Z12 hsz13
  show Gm p e below T13 m 136 #[lv q0, .second, lv q1, .second, lv q2, .second, lv q3, .second, iv p4, iv p5, lv c1, .second, lv c2, .second, lv c3, .second, iv sl, lv z5, .second, .unset, .unset, .unset, .unset, .unset, .unset, .unset] [(.ref b12)] _
  refine own_go (fun t₀ k₀ => XS.astore X13.here hx rfl (Jvm.hb hby at_136) rfl rfl (l' := #[lv q0, .second, lv q1, .second, lv q2, .second, lv q3, .second, iv p4, iv p5, lv c1, .second, lv c2, .second, lv c3, .second, iv sl, lv z5, .second, rv b12, .unset, .unset, .unset, .unset, .unset, .unset]) rfl k₀) ?_
  show Gm p e below T13 m 138 #[lv q0, .second, lv q1, .second, lv q2, .second, lv q3, .second, iv p4, iv p5, lv c1, .second, lv c2, .second, lv c3, .second, iv sl, lv z5, .second, rv b12, .unset, .unset, .unset, .unset, .unset, .unset] [] _
  refine own_go (fun t₀ k₀ => XS.aload X13.here hx rfl (Jvm.hb hby at_138) rfl rfl k₀) ?_
  show Gm p e below T13 m 140 #[lv q0, .second, lv q1, .second, lv q2, .second, lv q3, .second, iv p4, iv p5, lv c1, .second, lv c2, .second, lv c3, .second, iv sl, lv z5, .second, rv b12, .unset, .unset, .unset, .unset, .unset, .unset] [(.ref b12)] _
  refine own_go (fun t₀ k₀ => XS.lloadN X13.here hx rfl (Jvm.hb hby at_140) rfl k₀) ?_
  show Gm p e below T13 m 141 #[lv q0, .second, lv q1, .second, lv q2, .second, lv q3, .second, iv p4, iv p5, lv c1, .second, lv c2, .second, lv c3, .second, iv sl, lv z5, .second, rv b12, .unset, .unset, .unset, .unset, .unset, .unset] [(.long q0), (.ref b12)] _
  refine own_go (fun t₀ k₀ => XS.lload X13.here hx rfl (Jvm.hb hby at_141) rfl k₀) ?_
  show Gm p e below T13 m 143 #[lv q0, .second, lv q1, .second, lv q2, .second, lv q3, .second, iv p4, iv p5, lv c1, .second, lv c2, .second, lv c3, .second, iv sl, lv z5, .second, rv b12, .unset, .unset, .unset, .unset, .unset, .unset] [(.long c1), (.long q0), (.ref b12)] _
  obtain ⟨cq14, kq14, q14a, q14b, q14c⟩ := isOf hZ rfl HL13.exa
  obtain ⟨_, _, ⟨T14, L14, k14, n14⟩, -, X14, ⟨Lc14, hQ14, l14, y14, z14⟩, st14⟩ := X13.virtualBack hx (y := (⟨"com/example/libbrake/libbrake/AdmissionLog", "add", "(JJ)V"⟩ : MethodName)) (z := (⟨"com/example/libbrake/libbrake/AdmissionLog", "add", "(JJ)V"⟩ : MethodName)) hown (mvT hZ (hw _ (List.mem_of_getElem? (i := 14) rfl))) (mvT hZ (hw _ (List.mem_of_getElem? (i := 15) rfl))) (notFace_of_selects (args := #[]) (mvT hZ (hw _ (List.mem_of_getElem? (i := 17) rfl)))) (mvT hZ (hw _ (List.mem_of_getElem? (i := 17) rfl))) (mvT hZ (hw _ (List.mem_of_getElem? (i := 16) rfl))) (by decide) (backOf (W := 0) (rm3_0 l Z a0 hw [] b12 q0 c1 (0 : Int64) T13.heap n0 Z13 HL13 g_b12) hZ (hw _ (List.mem_of_getElem? (i := 18) rfl)) (hw _ (List.mem_of_getElem? (i := 2) rfl)) (by decide) (by decide)) q14a q14c (g := (mkF m 143 #[lv q0, .second, lv q1, .second, lv q2, .second, lv q3, .second, iv p4, iv p5, lv c1, .second, lv c2, .second, lv c3, .second, iv sl, lv z5, .second, rv b12, .unset, .unset, .unset, .unset, .unset, .unset] [(.long c1), (.long q0), (.ref b12)])) rfl (by rw [hml]; rfl) (Steps.refl _) (argsL := [(.long q0), (.long c1)]) (rest := []) (lenOf own_pd3 rfl) rfl (by show 2 * 0 + _ ≤ _; exact Nat.le_of_eq rfl) (Jvm.hb hby at_143) (fun _ _ => ⟨rfl, rfl, (by decide : 3 + 2 ≤ _), (by decide : 9 + 8 ≤ _)⟩)
  dsimp only [Pt.U, Pt.locs, Pt.cells, Pt.slots] at X14 l14 y14 z14 st14 hQ14
  subst l14 y14 z14
  obtain ⟨rfl, Nq14, hsz14, NN14, HL14, hN14⟩ := hQ14
  have N14 := Fr.app N13 Nq14
  refine own_go (fun t k => st14.trans k) ?_
  have Z14 : n0 ≤ T14.heap.size := Nat.le_trans Z13 hsz14
  have hN214 := hN14 (Nat.le_of_ble_eq_true rfl)
  subst hN214
  show Gm p e below T14 m 146 #[lv q0, .second, lv q1, .second, lv q2, .second, lv q3, .second, iv p4, iv p5, lv c1, .second, lv c2, .second, lv c3, .second, iv sl, lv z5, .second, rv b12, .unset, .unset, .unset, .unset, .unset, .unset] [] _
  refine own_go (fun t₀ k₀ => XS.aload X14.here hx rfl (Jvm.hb hby at_146) rfl rfl k₀) ?_
  show Gm p e below T14 m 148 #[lv q0, .second, lv q1, .second, lv q2, .second, lv q3, .second, iv p4, iv p5, lv c1, .second, lv c2, .second, lv c3, .second, iv sl, lv z5, .second, rv b12, .unset, .unset, .unset, .unset, .unset, .unset] [(.ref b12)] _
  refine own_go (fun t₀ k₀ => XS.lloadN X14.here hx rfl (Jvm.hb hby at_148) rfl k₀) ?_
  show Gm p e below T14 m 149 #[lv q0, .second, lv q1, .second, lv q2, .second, lv q3, .second, iv p4, iv p5, lv c1, .second, lv c2, .second, lv c3, .second, iv sl, lv z5, .second, rv b12, .unset, .unset, .unset, .unset, .unset, .unset] [(.long q1), (.ref b12)] _
  refine own_go (fun t₀ k₀ => XS.lload X14.here hx rfl (Jvm.hb hby at_149) rfl k₀) ?_
  show Gm p e below T14 m 151 #[lv q0, .second, lv q1, .second, lv q2, .second, lv q3, .second, iv p4, iv p5, lv c1, .second, lv c2, .second, lv c3, .second, iv sl, lv z5, .second, rv b12, .unset, .unset, .unset, .unset, .unset, .unset] [(.long c2), (.long q1), (.ref b12)] _
  obtain ⟨cq15, kq15, q15a, q15b, q15c⟩ := isOf hZ rfl HL14.exa
  obtain ⟨_, _, ⟨T15, L15, k15, n15⟩, -, X15, ⟨Lc15, hQ15, l15, y15, z15⟩, st15⟩ := X14.virtualBack hx (y := (⟨"com/example/libbrake/libbrake/AdmissionLog", "add", "(JJ)V"⟩ : MethodName)) (z := (⟨"com/example/libbrake/libbrake/AdmissionLog", "add", "(JJ)V"⟩ : MethodName)) hown (mvT hZ (hw _ (List.mem_of_getElem? (i := 14) rfl))) (mvT hZ (hw _ (List.mem_of_getElem? (i := 15) rfl))) (notFace_of_selects (args := #[]) (mvT hZ (hw _ (List.mem_of_getElem? (i := 17) rfl)))) (mvT hZ (hw _ (List.mem_of_getElem? (i := 17) rfl))) (mvT hZ (hw _ (List.mem_of_getElem? (i := 16) rfl))) (by decide) (backOf (W := 0) (rm3_1 l Z a0 hw [] b12 q1 c2 q0 c1 ((0 : Int64) + c1) T14.heap n0 Z14 HL14 g_b12) hZ (hw _ (List.mem_of_getElem? (i := 18) rfl)) (hw _ (List.mem_of_getElem? (i := 2) rfl)) (by decide) (by decide)) q15a q15c (g := (mkF m 151 #[lv q0, .second, lv q1, .second, lv q2, .second, lv q3, .second, iv p4, iv p5, lv c1, .second, lv c2, .second, lv c3, .second, iv sl, lv z5, .second, rv b12, .unset, .unset, .unset, .unset, .unset, .unset] [(.long c2), (.long q1), (.ref b12)])) rfl (by rw [hml]; rfl) (Steps.refl _) (argsL := [(.long q1), (.long c2)]) (rest := []) (lenOf own_pd3 rfl) rfl (by show 2 * 0 + _ ≤ _; exact Nat.le_of_eq rfl) (Jvm.hb hby at_151) (fun _ _ => ⟨rfl, rfl, (by decide : 5 + 2 ≤ _), (by decide : 17 + 8 ≤ _)⟩)
  dsimp only [Pt.U, Pt.locs, Pt.cells, Pt.slots] at X15 l15 y15 z15 st15 hQ15
  subst l15 y15 z15
  obtain ⟨rfl, Nq15, hsz15, NN15, HL15, hN15⟩ := hQ15
  have N15 := Fr.app N14 Nq15
  refine own_go (fun t k => st15.trans k) ?_
  have Z15 : n0 ≤ T15.heap.size := Nat.le_trans Z14 hsz15
  have hN215 := hN15 (Nat.le_of_ble_eq_true rfl)
  subst hN215
  show Gm p e below T15 m 154 #[lv q0, .second, lv q1, .second, lv q2, .second, lv q3, .second, iv p4, iv p5, lv c1, .second, lv c2, .second, lv c3, .second, iv sl, lv z5, .second, rv b12, .unset, .unset, .unset, .unset, .unset, .unset] [] _
  refine own_go (fun t₀ k₀ => XS.aload X15.here hx rfl (Jvm.hb hby at_154) rfl rfl k₀) ?_
  show Gm p e below T15 m 156 #[lv q0, .second, lv q1, .second, lv q2, .second, lv q3, .second, iv p4, iv p5, lv c1, .second, lv c2, .second, lv c3, .second, iv sl, lv z5, .second, rv b12, .unset, .unset, .unset, .unset, .unset, .unset] [(.ref b12)] _
  refine own_go (fun t₀ k₀ => XS.lload X15.here hx rfl (Jvm.hb hby at_156) rfl k₀) ?_
  show Gm p e below T15 m 158 #[lv q0, .second, lv q1, .second, lv q2, .second, lv q3, .second, iv p4, iv p5, lv c1, .second, lv c2, .second, lv c3, .second, iv sl, lv z5, .second, rv b12, .unset, .unset, .unset, .unset, .unset, .unset] [(.long q2), (.ref b12)] _
  refine own_go (fun t₀ k₀ => XS.lload X15.here hx rfl (Jvm.hb hby at_158) rfl k₀) ?_
  show Gm p e below T15 m 160 #[lv q0, .second, lv q1, .second, lv q2, .second, lv q3, .second, iv p4, iv p5, lv c1, .second, lv c2, .second, lv c3, .second, iv sl, lv z5, .second, rv b12, .unset, .unset, .unset, .unset, .unset, .unset] [(.long c3), (.long q2), (.ref b12)] _
  obtain ⟨cq16, kq16, q16a, q16b, q16c⟩ := isOf hZ rfl HL15.exa
  obtain ⟨_, _, ⟨T16, L16, k16, n16⟩, -, X16, ⟨Lc16, hQ16, l16, y16, z16⟩, st16⟩ := X15.virtualBack hx (y := (⟨"com/example/libbrake/libbrake/AdmissionLog", "add", "(JJ)V"⟩ : MethodName)) (z := (⟨"com/example/libbrake/libbrake/AdmissionLog", "add", "(JJ)V"⟩ : MethodName)) hown (mvT hZ (hw _ (List.mem_of_getElem? (i := 14) rfl))) (mvT hZ (hw _ (List.mem_of_getElem? (i := 15) rfl))) (notFace_of_selects (args := #[]) (mvT hZ (hw _ (List.mem_of_getElem? (i := 17) rfl)))) (mvT hZ (hw _ (List.mem_of_getElem? (i := 17) rfl))) (mvT hZ (hw _ (List.mem_of_getElem? (i := 16) rfl))) (by decide) (backOf (W := 0) (rmA l Z a0 hw [] b12 q2 c3 (ins q1 c2 [(q0, c1)]) (((0 : Int64) + c1) + c2) T15.heap n0 Z15 HL15 g_b12 (own_two _ _ _ _)) hZ (hw _ (List.mem_of_getElem? (i := 18) rfl)) (hw _ (List.mem_of_getElem? (i := 2) rfl)) (by decide) (by decide)) q16a q16c (g := (mkF m 160 #[lv q0, .second, lv q1, .second, lv q2, .second, lv q3, .second, iv p4, iv p5, lv c1, .second, lv c2, .second, lv c3, .second, iv sl, lv z5, .second, rv b12, .unset, .unset, .unset, .unset, .unset, .unset] [(.long c3), (.long q2), (.ref b12)])) rfl (by rw [hml]; rfl) (Steps.refl _) (argsL := [(.long q2), (.long c3)]) (rest := []) (lenOf own_pd3 rfl) rfl (by show 2 * 0 + _ ≤ _; exact Nat.le_of_eq rfl) (Jvm.hb hby at_160) (fun _ _ => ⟨rfl, rfl, (by decide : 7 + 2 ≤ _), (by decide : 25 + 8 ≤ _)⟩)
  dsimp only [Pt.U, Pt.locs, Pt.cells, Pt.slots] at X16 l16 y16 z16 st16 hQ16
  subst l16 y16 z16
  obtain ⟨rfl, Nq16, hsz16, NK16, HL16, hN16⟩ := hQ16
  have N16 := Fr.app N15 Nq16
  refine own_go (fun t k => st16.trans k) ?_
  have Z16 : n0 ≤ T16.heap.size := Nat.le_trans Z15 hsz16
  show Gm p e below T16 m 163 #[lv q0, .second, lv q1, .second, lv q2, .second, lv q3, .second, iv p4, iv p5, lv c1, .second, lv c2, .second, lv c3, .second, iv sl, lv z5, .second, rv b12, .unset, .unset, .unset, .unset, .unset, .unset] [] _
  refine own_go (fun t₀ k₀ => XS.aload X16.here hx rfl (Jvm.hb hby at_163) rfl rfl k₀) ?_
  show Gm p e below T16 m 165 #[lv q0, .second, lv q1, .second, lv q2, .second, lv q3, .second, iv p4, iv p5, lv c1, .second, lv c2, .second, lv c3, .second, iv sl, lv z5, .second, rv b12, .unset, .unset, .unset, .unset, .unset, .unset] [(.ref b12)] _
  refine own_go (fun t₀ k₀ => XS.lload X16.here hx rfl (Jvm.hb hby at_165) rfl k₀) ?_
  show Gm p e below T16 m 167 #[lv q0, .second, lv q1, .second, lv q2, .second, lv q3, .second, iv p4, iv p5, lv c1, .second, lv c2, .second, lv c3, .second, iv sl, lv z5, .second, rv b12, .unset, .unset, .unset, .unset, .unset, .unset] [(.long z5), (.ref b12)] _
  obtain ⟨cq17, kq17, q17a, q17b, q17c⟩ := isOf hZ rfl HL16.exa
  obtain ⟨_, _, ⟨T17, L17, k17, n17⟩, -, X17, ⟨Lc17, hQ17, l17, y17, z17⟩, st17⟩ := X16.virtualBack hx (y := (⟨"com/example/libbrake/libbrake/AdmissionLog", "removeUpTo", "(J)V"⟩ : MethodName)) (z := (⟨"com/example/libbrake/libbrake/AdmissionLog", "removeUpTo", "(J)V"⟩ : MethodName)) hown (mvT hZ (hw _ (List.mem_of_getElem? (i := 37) rfl))) (mvT hZ (hw _ (List.mem_of_getElem? (i := 38) rfl))) (notFace_of_selects (args := #[]) (mvT hZ (hw _ (List.mem_of_getElem? (i := 40) rfl)))) (mvT hZ (hw _ (List.mem_of_getElem? (i := 40) rfl))) (mvT hZ (hw _ (List.mem_of_getElem? (i := 39) rfl))) (by decide) (backOf (W := 0) (rmR l Z a0 hw [] b12 z5 NK16 (ins q2 c3 (ins q1 c2 [(q0, c1)])) ((((0 : Int64) + c1) + c2) + c3) T16.heap n0 Z16 HL16 g_b12 (own_len3 _ _ _ _ _ _)) hZ (hw _ (List.mem_of_getElem? (i := 41) rfl)) (hw _ (List.mem_of_getElem? (i := 2) rfl)) (by decide) (by decide)) q17a q17c (g := (mkF m 167 #[lv q0, .second, lv q1, .second, lv q2, .second, lv q3, .second, iv p4, iv p5, lv c1, .second, lv c2, .second, lv c3, .second, iv sl, lv z5, .second, rv b12, .unset, .unset, .unset, .unset, .unset, .unset] [(.long z5), (.ref b12)])) rfl (by rw [hml]; rfl) (Steps.refl _) (argsL := [(.long z5)]) (rest := []) (lenOf own_pd4 rfl) rfl (by show 2 * 0 + _ ≤ _; exact Nat.le_of_eq rfl) (Jvm.hb hby at_167) (fun _ _ => ⟨rfl, rfl, (by decide : 9 + 0 ≤ _), (by decide : 33 + 0 ≤ _)⟩)
  dsimp only [Pt.U, Pt.locs, Pt.cells, Pt.slots] at X17 l17 y17 z17 st17 hQ17
  subst l17 y17 z17
  obtain ⟨rfl, Nq17, hsz17, s17, HL17, hsl17⟩ := hQ17
  have N17 := Fr.app N16 Nq17
  refine own_go (fun t k => st17.trans k) ?_
  have Z17 : n0 ≤ T17.heap.size := Nat.le_trans Z16 hsz17
  show Gm p e below T17 m 170 #[lv q0, .second, lv q1, .second, lv q2, .second, lv q3, .second, iv p4, iv p5, lv c1, .second, lv c2, .second, lv c3, .second, iv sl, lv z5, .second, rv b12, .unset, .unset, .unset, .unset, .unset, .unset] [] _
  refine own_go (fun t₀ k₀ => XS.lconst X17.here hx rfl (Jvm.hb hby at_170) k₀) ?_
  show Gm p e below T17 m 171 #[lv q0, .second, lv q1, .second, lv q2, .second, lv q3, .second, iv p4, iv p5, lv c1, .second, lv c2, .second, lv c3, .second, iv sl, lv z5, .second, rv b12, .unset, .unset, .unset, .unset, .unset, .unset] [(.long (0 : Int64))] _
  refine own_go (fun t₀ k₀ => XS.lstore X17.here hx rfl (Jvm.hb hby at_171) rfl (l' := #[lv q0, .second, lv q1, .second, lv q2, .second, lv q3, .second, iv p4, iv p5, lv c1, .second, lv c2, .second, lv c3, .second, iv sl, lv z5, .second, rv b12, lv (0 : Int64), .second, .unset, .unset, .unset, .unset]) rfl k₀) ?_
  show Gm p e below T17 m 173 #[lv q0, .second, lv q1, .second, lv q2, .second, lv q3, .second, iv p4, iv p5, lv c1, .second, lv c2, .second, lv c3, .second, iv sl, lv z5, .second, rv b12, lv (0 : Int64), .second, .unset, .unset, .unset, .unset] [] _
  refine own_go (fun t₀ k₀ => X17.ldc2J hx hown (mvT hZ (hw _ (List.mem_of_getElem? (i := 42) rfl))) rfl (Jvm.hb hby at_173) k₀) ?_
  show Gm p e below T17 m 176 #[lv q0, .second, lv q1, .second, lv q2, .second, lv q3, .second, iv p4, iv p5, lv c1, .second, lv c2, .second, lv c3, .second, iv sl, lv z5, .second, rv b12, lv (0 : Int64), .second, .unset, .unset, .unset, .unset] [(.long (9223372036854775807 : Int64))] _
  refine own_go (fun t₀ k₀ => XS.lstore X17.here hx rfl (Jvm.hb hby at_176) rfl (l' := #[lv q0, .second, lv q1, .second, lv q2, .second, lv q3, .second, iv p4, iv p5, lv c1, .second, lv c2, .second, lv c3, .second, iv sl, lv z5, .second, rv b12, lv (0 : Int64), .second, lv (9223372036854775807 : Int64), .second, .unset, .unset]) rfl k₀) ?_
  show Gm p e below T17 m 178 #[lv q0, .second, lv q1, .second, lv q2, .second, lv q3, .second, iv p4, iv p5, lv c1, .second, lv c2, .second, lv c3, .second, iv sl, lv z5, .second, rv b12, lv (0 : Int64), .second, lv (9223372036854775807 : Int64), .second, .unset, .unset] [] _
  refine own_go (fun t₀ k₀ => X17.ldc2J hx hown (mvT hZ (hw _ (List.mem_of_getElem? (i := 43) rfl))) rfl (Jvm.hb hby at_178) k₀) ?_
  show Gm p e below T17 m 181 #[lv q0, .second, lv q1, .second, lv q2, .second, lv q3, .second, iv p4, iv p5, lv c1, .second, lv c2, .second, lv c3, .second, iv sl, lv z5, .second, rv b12, lv (0 : Int64), .second, lv (9223372036854775807 : Int64), .second, .unset, .unset] [(.long (-9223372036854775808 : Int64))] _
  refine own_go (fun t₀ k₀ => XS.lstore X17.here hx rfl (Jvm.hb hby at_181) rfl (l' := #[lv q0, .second, lv q1, .second, lv q2, .second, lv q3, .second, iv p4, iv p5, lv c1, .second, lv c2, .second, lv c3, .second, iv sl, lv z5, .second, rv b12, lv (0 : Int64), .second, lv (9223372036854775807 : Int64), .second, lv (-9223372036854775808 : Int64), .second]) rfl k₀) ?_
  show Gm p e below T17 m 183 #[lv q0, .second, lv q1, .second, lv q2, .second, lv q3, .second, iv p4, iv p5, lv c1, .second, lv c2, .second, lv c3, .second, iv sl, lv z5, .second, rv b12, lv (0 : Int64), .second, lv (9223372036854775807 : Int64), .second, lv (-9223372036854775808 : Int64), .second] [] _
  refine own_go (fun t₀ k₀ => XS.lloadN X17.here hx rfl (Jvm.hb hby at_183) rfl k₀) ?_
  show Gm p e below T17 m 184 #[lv q0, .second, lv q1, .second, lv q2, .second, lv q3, .second, iv p4, iv p5, lv c1, .second, lv c2, .second, lv c3, .second, iv sl, lv z5, .second, rv b12, lv (0 : Int64), .second, lv (9223372036854775807 : Int64), .second, lv (-9223372036854775808 : Int64), .second] [(.long q0)] _
  refine own_go (fun t₀ k₀ => XS.lload X17.here hx rfl (Jvm.hb hby at_184) rfl k₀) ?_
  show Gm p e below T17 m 186 #[lv q0, .second, lv q1, .second, lv q2, .second, lv q3, .second, iv p4, iv p5, lv c1, .second, lv c2, .second, lv c3, .second, iv sl, lv z5, .second, rv b12, lv (0 : Int64), .second, lv (9223372036854775807 : Int64), .second, lv (-9223372036854775808 : Int64), .second] [(.long z5), (.long q0)] _
  refine own_go (fun t₀ k₀ => XT.lcmp X17.here hx rfl (Jvm.hb hby at_186) rfl k₀) ?_
  show Gm p e below T17 m 187 #[lv q0, .second, lv q1, .second, lv q2, .second, lv q3, .second, iv p4, iv p5, lv c1, .second, lv c2, .second, lv c3, .second, iv sl, lv z5, .second, rv b12, lv (0 : Int64), .second, lv (9223372036854775807 : Int64), .second, lv (-9223372036854775808 : Int64), .second] [(.int (XT.cmpL q0 z5))] _
  by_cases c18 : z5 < q0
  · have hfork := trivial
    refine own_go (fun t₀ k₀ => XS.ifNo X17.here hx rfl (Jvm.hb hby at_187) rfl (XT.ll_le_f c18) k₀) ?_
    show Gm p e below T17 m 190 #[lv q0, .second, lv q1, .second, lv q2, .second, lv q3, .second, iv p4, iv p5, lv c1, .second, lv c2, .second, lv c3, .second, iv sl, lv z5, .second, rv b12, lv (0 : Int64), .second, lv (9223372036854775807 : Int64), .second, lv (-9223372036854775808 : Int64), .second] [] _
    refine own_go (fun t₀ k₀ => XS.lload X17.here hx rfl (Jvm.hb hby at_190) rfl k₀) ?_
    show Gm p e below T17 m 192 #[lv q0, .second, lv q1, .second, lv q2, .second, lv q3, .second, iv p4, iv p5, lv c1, .second, lv c2, .second, lv c3, .second, iv sl, lv z5, .second, rv b12, lv (0 : Int64), .second, lv (9223372036854775807 : Int64), .second, lv (-9223372036854775808 : Int64), .second] [(.long (0 : Int64))] _
    refine own_go (fun t₀ k₀ => XS.lload X17.here hx rfl (Jvm.hb hby at_192) rfl k₀) ?_
    show Gm p e below T17 m 194 #[lv q0, .second, lv q1, .second, lv q2, .second, lv q3, .second, iv p4, iv p5, lv c1, .second, lv c2, .second, lv c3, .second, iv sl, lv z5, .second, rv b12, lv (0 : Int64), .second, lv (9223372036854775807 : Int64), .second, lv (-9223372036854775808 : Int64), .second] [(.long c1), (.long (0 : Int64))] _
    refine own_go (fun t₀ k₀ => XS.ladd X17.here hx rfl (Jvm.hb hby at_194) rfl k₀) ?_
    show Gm p e below T17 m 195 #[lv q0, .second, lv q1, .second, lv q2, .second, lv q3, .second, iv p4, iv p5, lv c1, .second, lv c2, .second, lv c3, .second, iv sl, lv z5, .second, rv b12, lv (0 : Int64), .second, lv (9223372036854775807 : Int64), .second, lv (-9223372036854775808 : Int64), .second] [(.long ((0 : Int64) + c1))] _
    refine own_go (fun t₀ k₀ => XS.lstore X17.here hx rfl (Jvm.hb hby at_195) rfl (l' := #[lv q0, .second, lv q1, .second, lv q2, .second, lv q3, .second, iv p4, iv p5, lv c1, .second, lv c2, .second, lv c3, .second, iv sl, lv z5, .second, rv b12, lv ((0 : Int64) + c1), .second, lv (9223372036854775807 : Int64), .second, lv (-9223372036854775808 : Int64), .second]) rfl k₀) ?_
    show Gm p e below T17 m 197 #[lv q0, .second, lv q1, .second, lv q2, .second, lv q3, .second, iv p4, iv p5, lv c1, .second, lv c2, .second, lv c3, .second, iv sl, lv z5, .second, rv b12, lv ((0 : Int64) + c1), .second, lv (9223372036854775807 : Int64), .second, lv (-9223372036854775808 : Int64), .second] [] _
    refine own_go (fun t₀ k₀ => XS.lload X17.here hx rfl (Jvm.hb hby at_197) rfl k₀) ?_
    show Gm p e below T17 m 199 #[lv q0, .second, lv q1, .second, lv q2, .second, lv q3, .second, iv p4, iv p5, lv c1, .second, lv c2, .second, lv c3, .second, iv sl, lv z5, .second, rv b12, lv ((0 : Int64) + c1), .second, lv (9223372036854775807 : Int64), .second, lv (-9223372036854775808 : Int64), .second] [(.long (9223372036854775807 : Int64))] _
    refine own_go (fun t₀ k₀ => XS.lloadN X17.here hx rfl (Jvm.hb hby at_199) rfl k₀) ?_
    show Gm p e below T17 m 200 #[lv q0, .second, lv q1, .second, lv q2, .second, lv q3, .second, iv p4, iv p5, lv c1, .second, lv c2, .second, lv c3, .second, iv sl, lv z5, .second, rv b12, lv ((0 : Int64) + c1), .second, lv (9223372036854775807 : Int64), .second, lv (-9223372036854775808 : Int64), .second] [(.long q0), (.long (9223372036854775807 : Int64))] _
    obtain ⟨_, _, ⟨T19, L19, k19, n19⟩, -, X19, ⟨Lc19, hQ19, l19, y19, z19⟩, st19⟩ := Jvm.LawKit.callS X17 hx (y := (⟨"java/lang/Math", "min", "(JJ)J"⟩ : MethodName)) hown (mvT hZ (hw _ (List.mem_of_getElem? (i := 49) rfl))) (mvT hZ (hw _ (List.mem_of_getElem? (i := 50) rfl))) (mvT hZ (hw _ (List.mem_of_getElem? (i := 31) rfl))) (mvT hZ (hw _ (List.mem_of_getElem? (i := 51) rfl))) (by decide) (backOf (W := 0) (rm8 l Z a0 hw [] (9223372036854775807 : Int64) q0 T17.heap n0 Z17) hZ (hw _ (List.mem_of_getElem? (i := 51) rfl)) (hw _ (List.mem_of_getElem? (i := 31) rfl)) (by decide) (by decide)) (g := (mkF m 200 #[lv q0, .second, lv q1, .second, lv q2, .second, lv q3, .second, iv p4, iv p5, lv c1, .second, lv c2, .second, lv c3, .second, iv sl, lv z5, .second, rv b12, lv ((0 : Int64) + c1), .second, lv (9223372036854775807 : Int64), .second, lv (-9223372036854775808 : Int64), .second] [(.long q0), (.long (9223372036854775807 : Int64))])) rfl (by rw [hml]; rfl) (argsL := [(.long (9223372036854775807 : Int64)), (.long q0)]) (rest := []) (lenOf own_pd5 rfl) rfl (by show 2 * 0 + _ ≤ _; exact Nat.le_of_eq rfl) (Jvm.hb hby at_200) (fun _ _ => ⟨rfl, rfl, (by decide : 9 + 0 ≤ _), (by decide : 33 + 0 ≤ _)⟩)
    dsimp only [Pt.U, Pt.locs, Pt.cells, Pt.slots] at X19 l19 y19 z19 st19 hQ19
    subst l19 y19 z19
    obtain ⟨rfl, Nq19, eq19⟩ := hQ19
    have N19 := Fr.app N17 Nq19
    have e19 : T19.heap = T17.heap := eq19
    refine own_go st19 ?_
    show Gm p e below T19 m 203 #[lv q0, .second, lv q1, .second, lv q2, .second, lv q3, .second, iv p4, iv p5, lv c1, .second, lv c2, .second, lv c3, .second, iv sl, lv z5, .second, rv b12, lv ((0 : Int64) + c1), .second, lv (9223372036854775807 : Int64), .second, lv (-9223372036854775808 : Int64), .second] [(.long (fMin (9223372036854775807 : Int64) q0))] _
    refine own_go (fun t₀ k₀ => XS.lstore X19.here hx rfl (Jvm.hb hby at_203) rfl (l' := #[lv q0, .second, lv q1, .second, lv q2, .second, lv q3, .second, iv p4, iv p5, lv c1, .second, lv c2, .second, lv c3, .second, iv sl, lv z5, .second, rv b12, lv ((0 : Int64) + c1), .second, lv (fMin (9223372036854775807 : Int64) q0), .second, lv (-9223372036854775808 : Int64), .second]) rfl k₀) ?_
    show Gm p e below T19 m 205 #[lv q0, .second, lv q1, .second, lv q2, .second, lv q3, .second, iv p4, iv p5, lv c1, .second, lv c2, .second, lv c3, .second, iv sl, lv z5, .second, rv b12, lv ((0 : Int64) + c1), .second, lv (fMin (9223372036854775807 : Int64) q0), .second, lv (-9223372036854775808 : Int64), .second] [] _
    refine own_go (fun t₀ k₀ => XS.lload X19.here hx rfl (Jvm.hb hby at_205) rfl k₀) ?_
    show Gm p e below T19 m 207 #[lv q0, .second, lv q1, .second, lv q2, .second, lv q3, .second, iv p4, iv p5, lv c1, .second, lv c2, .second, lv c3, .second, iv sl, lv z5, .second, rv b12, lv ((0 : Int64) + c1), .second, lv (fMin (9223372036854775807 : Int64) q0), .second, lv (-9223372036854775808 : Int64), .second] [(.long (-9223372036854775808 : Int64))] _
    refine own_go (fun t₀ k₀ => XS.lloadN X19.here hx rfl (Jvm.hb hby at_207) rfl k₀) ?_
    show Gm p e below T19 m 208 #[lv q0, .second, lv q1, .second, lv q2, .second, lv q3, .second, iv p4, iv p5, lv c1, .second, lv c2, .second, lv c3, .second, iv sl, lv z5, .second, rv b12, lv ((0 : Int64) + c1), .second, lv (fMin (9223372036854775807 : Int64) q0), .second, lv (-9223372036854775808 : Int64), .second] [(.long q0), (.long (-9223372036854775808 : Int64))] _
    obtain ⟨_, _, ⟨T20, L20, k20, n20⟩, -, X20, ⟨Lc20, hQ20, l20, y20, z20⟩, st20⟩ := Jvm.LawKit.callS X19 hx (y := (⟨"java/lang/Math", "max", "(JJ)J"⟩ : MethodName)) hown (mvT hZ (hw _ (List.mem_of_getElem? (i := 52) rfl))) (mvT hZ (hw _ (List.mem_of_getElem? (i := 53) rfl))) (mvT hZ (hw _ (List.mem_of_getElem? (i := 31) rfl))) (mvT hZ (hw _ (List.mem_of_getElem? (i := 54) rfl))) (by decide) (backOf (W := 0) (rm9 l Z a0 hw [] (-9223372036854775808 : Int64) q0 T17.heap n0 Z17) hZ (hw _ (List.mem_of_getElem? (i := 54) rfl)) (hw _ (List.mem_of_getElem? (i := 31) rfl)) (by decide) (by decide)) (g := (mkF m 208 #[lv q0, .second, lv q1, .second, lv q2, .second, lv q3, .second, iv p4, iv p5, lv c1, .second, lv c2, .second, lv c3, .second, iv sl, lv z5, .second, rv b12, lv ((0 : Int64) + c1), .second, lv (fMin (9223372036854775807 : Int64) q0), .second, lv (-9223372036854775808 : Int64), .second] [(.long q0), (.long (-9223372036854775808 : Int64))])) rfl (by rw [hml]; rfl) (argsL := [(.long (-9223372036854775808 : Int64)), (.long q0)]) (rest := []) (lenOf own_pd5 rfl) rfl (by show 2 * 0 + _ ≤ _; exact Nat.le_of_eq rfl) (Jvm.hb hby at_208) (fun _ _ => ⟨rfl, e19, (by decide : 9 + 0 ≤ _), (by decide : 33 + 0 ≤ _)⟩)
    dsimp only [Pt.U, Pt.locs, Pt.cells, Pt.slots] at X20 l20 y20 z20 st20 hQ20
    subst l20 y20 z20
    obtain ⟨rfl, Nq20, eq20⟩ := hQ20
    have N20 := Fr.app N19 Nq20
    have e20 : T20.heap = T17.heap := eq20
    refine own_go st20 ?_
    show Gm p e below T20 m 211 #[lv q0, .second, lv q1, .second, lv q2, .second, lv q3, .second, iv p4, iv p5, lv c1, .second, lv c2, .second, lv c3, .second, iv sl, lv z5, .second, rv b12, lv ((0 : Int64) + c1), .second, lv (fMin (9223372036854775807 : Int64) q0), .second, lv (-9223372036854775808 : Int64), .second] [(.long (fMax (-9223372036854775808 : Int64) q0))] _
    refine own_go (fun t₀ k₀ => XS.lstore X20.here hx rfl (Jvm.hb hby at_211) rfl (l' := #[lv q0, .second, lv q1, .second, lv q2, .second, lv q3, .second, iv p4, iv p5, lv c1, .second, lv c2, .second, lv c3, .second, iv sl, lv z5, .second, rv b12, lv ((0 : Int64) + c1), .second, lv (fMin (9223372036854775807 : Int64) q0), .second, lv (fMax (-9223372036854775808 : Int64) q0), .second]) rfl k₀) ?_
    show Gm p e below T20 m 213 #[lv q0, .second, lv q1, .second, lv q2, .second, lv q3, .second, iv p4, iv p5, lv c1, .second, lv c2, .second, lv c3, .second, iv sl, lv z5, .second, rv b12, lv ((0 : Int64) + c1), .second, lv (fMin (9223372036854775807 : Int64) q0), .second, lv (fMax (-9223372036854775808 : Int64) q0), .second] [] _
    refine own_go (fun t₀ k₀ => XS.lloadN X20.here hx rfl (Jvm.hb hby at_213) rfl k₀) ?_
    show Gm p e below T20 m 214 #[lv q0, .second, lv q1, .second, lv q2, .second, lv q3, .second, iv p4, iv p5, lv c1, .second, lv c2, .second, lv c3, .second, iv sl, lv z5, .second, rv b12, lv ((0 : Int64) + c1), .second, lv (fMin (9223372036854775807 : Int64) q0), .second, lv (fMax (-9223372036854775808 : Int64) q0), .second] [(.long q1)] _
    refine own_go (fun t₀ k₀ => XS.lload X20.here hx rfl (Jvm.hb hby at_214) rfl k₀) ?_
    show Gm p e below T20 m 216 #[lv q0, .second, lv q1, .second, lv q2, .second, lv q3, .second, iv p4, iv p5, lv c1, .second, lv c2, .second, lv c3, .second, iv sl, lv z5, .second, rv b12, lv ((0 : Int64) + c1), .second, lv (fMin (9223372036854775807 : Int64) q0), .second, lv (fMax (-9223372036854775808 : Int64) q0), .second] [(.long z5), (.long q1)] _
    refine own_go (fun t₀ k₀ => XT.lcmp X20.here hx rfl (Jvm.hb hby at_216) rfl k₀) ?_
    show Gm p e below T20 m 217 #[lv q0, .second, lv q1, .second, lv q2, .second, lv q3, .second, iv p4, iv p5, lv c1, .second, lv c2, .second, lv c3, .second, iv sl, lv z5, .second, rv b12, lv ((0 : Int64) + c1), .second, lv (fMin (9223372036854775807 : Int64) q0), .second, lv (fMax (-9223372036854775808 : Int64) q0), .second] [(.int (XT.cmpL q1 z5))] _
    by_cases c21 : z5 < q1
    · have hfork := trivial
      refine own_go (fun t₀ k₀ => XS.ifNo X20.here hx rfl (Jvm.hb hby at_217) rfl (XT.ll_le_f c21) k₀) ?_
      show Gm p e below T20 m 220 #[lv q0, .second, lv q1, .second, lv q2, .second, lv q3, .second, iv p4, iv p5, lv c1, .second, lv c2, .second, lv c3, .second, iv sl, lv z5, .second, rv b12, lv ((0 : Int64) + c1), .second, lv (fMin (9223372036854775807 : Int64) q0), .second, lv (fMax (-9223372036854775808 : Int64) q0), .second] [] _
      refine own_go (fun t₀ k₀ => XS.lload X20.here hx rfl (Jvm.hb hby at_220) rfl k₀) ?_
      show Gm p e below T20 m 222 #[lv q0, .second, lv q1, .second, lv q2, .second, lv q3, .second, iv p4, iv p5, lv c1, .second, lv c2, .second, lv c3, .second, iv sl, lv z5, .second, rv b12, lv ((0 : Int64) + c1), .second, lv (fMin (9223372036854775807 : Int64) q0), .second, lv (fMax (-9223372036854775808 : Int64) q0), .second] [(.long ((0 : Int64) + c1))] _
      refine own_go (fun t₀ k₀ => XS.lload X20.here hx rfl (Jvm.hb hby at_222) rfl k₀) ?_
      show Gm p e below T20 m 224 #[lv q0, .second, lv q1, .second, lv q2, .second, lv q3, .second, iv p4, iv p5, lv c1, .second, lv c2, .second, lv c3, .second, iv sl, lv z5, .second, rv b12, lv ((0 : Int64) + c1), .second, lv (fMin (9223372036854775807 : Int64) q0), .second, lv (fMax (-9223372036854775808 : Int64) q0), .second] [(.long c2), (.long ((0 : Int64) + c1))] _
      refine own_go (fun t₀ k₀ => XS.ladd X20.here hx rfl (Jvm.hb hby at_224) rfl k₀) ?_
      show Gm p e below T20 m 225 #[lv q0, .second, lv q1, .second, lv q2, .second, lv q3, .second, iv p4, iv p5, lv c1, .second, lv c2, .second, lv c3, .second, iv sl, lv z5, .second, rv b12, lv ((0 : Int64) + c1), .second, lv (fMin (9223372036854775807 : Int64) q0), .second, lv (fMax (-9223372036854775808 : Int64) q0), .second] [(.long (((0 : Int64) + c1) + c2))] _
      refine own_go (fun t₀ k₀ => XS.lstore X20.here hx rfl (Jvm.hb hby at_225) rfl (l' := #[lv q0, .second, lv q1, .second, lv q2, .second, lv q3, .second, iv p4, iv p5, lv c1, .second, lv c2, .second, lv c3, .second, iv sl, lv z5, .second, rv b12, lv (((0 : Int64) + c1) + c2), .second, lv (fMin (9223372036854775807 : Int64) q0), .second, lv (fMax (-9223372036854775808 : Int64) q0), .second]) rfl k₀) ?_
      show Gm p e below T20 m 227 #[lv q0, .second, lv q1, .second, lv q2, .second, lv q3, .second, iv p4, iv p5, lv c1, .second, lv c2, .second, lv c3, .second, iv sl, lv z5, .second, rv b12, lv (((0 : Int64) + c1) + c2), .second, lv (fMin (9223372036854775807 : Int64) q0), .second, lv (fMax (-9223372036854775808 : Int64) q0), .second] [] _
      refine own_go (fun t₀ k₀ => XS.lload X20.here hx rfl (Jvm.hb hby at_227) rfl k₀) ?_
      show Gm p e below T20 m 229 #[lv q0, .second, lv q1, .second, lv q2, .second, lv q3, .second, iv p4, iv p5, lv c1, .second, lv c2, .second, lv c3, .second, iv sl, lv z5, .second, rv b12, lv (((0 : Int64) + c1) + c2), .second, lv (fMin (9223372036854775807 : Int64) q0), .second, lv (fMax (-9223372036854775808 : Int64) q0), .second] [(.long (fMin (9223372036854775807 : Int64) q0))] _
      refine own_go (fun t₀ k₀ => XS.lloadN X20.here hx rfl (Jvm.hb hby at_229) rfl k₀) ?_
      show Gm p e below T20 m 230 #[lv q0, .second, lv q1, .second, lv q2, .second, lv q3, .second, iv p4, iv p5, lv c1, .second, lv c2, .second, lv c3, .second, iv sl, lv z5, .second, rv b12, lv (((0 : Int64) + c1) + c2), .second, lv (fMin (9223372036854775807 : Int64) q0), .second, lv (fMax (-9223372036854775808 : Int64) q0), .second] [(.long q1), (.long (fMin (9223372036854775807 : Int64) q0))] _
      obtain ⟨_, _, ⟨T22, L22, k22, n22⟩, -, X22, ⟨Lc22, hQ22, l22, y22, z22⟩, st22⟩ := Jvm.LawKit.callS X20 hx (y := (⟨"java/lang/Math", "min", "(JJ)J"⟩ : MethodName)) hown (mvT hZ (hw _ (List.mem_of_getElem? (i := 49) rfl))) (mvT hZ (hw _ (List.mem_of_getElem? (i := 50) rfl))) (mvT hZ (hw _ (List.mem_of_getElem? (i := 31) rfl))) (mvT hZ (hw _ (List.mem_of_getElem? (i := 51) rfl))) (by decide) (backOf (W := 0) (rm8 l Z a0 hw [] (fMin (9223372036854775807 : Int64) q0) q1 T17.heap n0 Z17) hZ (hw _ (List.mem_of_getElem? (i := 51) rfl)) (hw _ (List.mem_of_getElem? (i := 31) rfl)) (by decide) (by decide)) (g := (mkF m 230 #[lv q0, .second, lv q1, .second, lv q2, .second, lv q3, .second, iv p4, iv p5, lv c1, .second, lv c2, .second, lv c3, .second, iv sl, lv z5, .second, rv b12, lv (((0 : Int64) + c1) + c2), .second, lv (fMin (9223372036854775807 : Int64) q0), .second, lv (fMax (-9223372036854775808 : Int64) q0), .second] [(.long q1), (.long (fMin (9223372036854775807 : Int64) q0))])) rfl (by rw [hml]; rfl) (argsL := [(.long (fMin (9223372036854775807 : Int64) q0)), (.long q1)]) (rest := []) (lenOf own_pd5 rfl) rfl (by show 2 * 0 + _ ≤ _; exact Nat.le_of_eq rfl) (Jvm.hb hby at_230) (fun _ _ => ⟨rfl, e20, (by decide : 9 + 0 ≤ _), (by decide : 33 + 0 ≤ _)⟩)
      dsimp only [Pt.U, Pt.locs, Pt.cells, Pt.slots] at X22 l22 y22 z22 st22 hQ22
      subst l22 y22 z22
      obtain ⟨rfl, Nq22, eq22⟩ := hQ22
      have N22 := Fr.app N20 Nq22
      have e22 : T22.heap = T17.heap := eq22
      refine own_go st22 ?_
      show Gm p e below T22 m 233 #[lv q0, .second, lv q1, .second, lv q2, .second, lv q3, .second, iv p4, iv p5, lv c1, .second, lv c2, .second, lv c3, .second, iv sl, lv z5, .second, rv b12, lv (((0 : Int64) + c1) + c2), .second, lv (fMin (9223372036854775807 : Int64) q0), .second, lv (fMax (-9223372036854775808 : Int64) q0), .second] [(.long (fMin (fMin (9223372036854775807 : Int64) q0) q1))] _
      refine own_go (fun t₀ k₀ => XS.lstore X22.here hx rfl (Jvm.hb hby at_233) rfl (l' := #[lv q0, .second, lv q1, .second, lv q2, .second, lv q3, .second, iv p4, iv p5, lv c1, .second, lv c2, .second, lv c3, .second, iv sl, lv z5, .second, rv b12, lv (((0 : Int64) + c1) + c2), .second, lv (fMin (fMin (9223372036854775807 : Int64) q0) q1), .second, lv (fMax (-9223372036854775808 : Int64) q0), .second]) rfl k₀) ?_
      show Gm p e below T22 m 235 #[lv q0, .second, lv q1, .second, lv q2, .second, lv q3, .second, iv p4, iv p5, lv c1, .second, lv c2, .second, lv c3, .second, iv sl, lv z5, .second, rv b12, lv (((0 : Int64) + c1) + c2), .second, lv (fMin (fMin (9223372036854775807 : Int64) q0) q1), .second, lv (fMax (-9223372036854775808 : Int64) q0), .second] [] _
      refine own_go (fun t₀ k₀ => XS.lload X22.here hx rfl (Jvm.hb hby at_235) rfl k₀) ?_
      show Gm p e below T22 m 237 #[lv q0, .second, lv q1, .second, lv q2, .second, lv q3, .second, iv p4, iv p5, lv c1, .second, lv c2, .second, lv c3, .second, iv sl, lv z5, .second, rv b12, lv (((0 : Int64) + c1) + c2), .second, lv (fMin (fMin (9223372036854775807 : Int64) q0) q1), .second, lv (fMax (-9223372036854775808 : Int64) q0), .second] [(.long (fMax (-9223372036854775808 : Int64) q0))] _
      refine own_go (fun t₀ k₀ => XS.lloadN X22.here hx rfl (Jvm.hb hby at_237) rfl k₀) ?_
      show Gm p e below T22 m 238 #[lv q0, .second, lv q1, .second, lv q2, .second, lv q3, .second, iv p4, iv p5, lv c1, .second, lv c2, .second, lv c3, .second, iv sl, lv z5, .second, rv b12, lv (((0 : Int64) + c1) + c2), .second, lv (fMin (fMin (9223372036854775807 : Int64) q0) q1), .second, lv (fMax (-9223372036854775808 : Int64) q0), .second] [(.long q1), (.long (fMax (-9223372036854775808 : Int64) q0))] _
      obtain ⟨_, _, ⟨T23, L23, k23, n23⟩, -, X23, ⟨Lc23, hQ23, l23, y23, z23⟩, st23⟩ := Jvm.LawKit.callS X22 hx (y := (⟨"java/lang/Math", "max", "(JJ)J"⟩ : MethodName)) hown (mvT hZ (hw _ (List.mem_of_getElem? (i := 52) rfl))) (mvT hZ (hw _ (List.mem_of_getElem? (i := 53) rfl))) (mvT hZ (hw _ (List.mem_of_getElem? (i := 31) rfl))) (mvT hZ (hw _ (List.mem_of_getElem? (i := 54) rfl))) (by decide) (backOf (W := 0) (rm9 l Z a0 hw [] (fMax (-9223372036854775808 : Int64) q0) q1 T17.heap n0 Z17) hZ (hw _ (List.mem_of_getElem? (i := 54) rfl)) (hw _ (List.mem_of_getElem? (i := 31) rfl)) (by decide) (by decide)) (g := (mkF m 238 #[lv q0, .second, lv q1, .second, lv q2, .second, lv q3, .second, iv p4, iv p5, lv c1, .second, lv c2, .second, lv c3, .second, iv sl, lv z5, .second, rv b12, lv (((0 : Int64) + c1) + c2), .second, lv (fMin (fMin (9223372036854775807 : Int64) q0) q1), .second, lv (fMax (-9223372036854775808 : Int64) q0), .second] [(.long q1), (.long (fMax (-9223372036854775808 : Int64) q0))])) rfl (by rw [hml]; rfl) (argsL := [(.long (fMax (-9223372036854775808 : Int64) q0)), (.long q1)]) (rest := []) (lenOf own_pd5 rfl) rfl (by show 2 * 0 + _ ≤ _; exact Nat.le_of_eq rfl) (Jvm.hb hby at_238) (fun _ _ => ⟨rfl, e22, (by decide : 9 + 0 ≤ _), (by decide : 33 + 0 ≤ _)⟩)
      dsimp only [Pt.U, Pt.locs, Pt.cells, Pt.slots] at X23 l23 y23 z23 st23 hQ23
      subst l23 y23 z23
      obtain ⟨rfl, Nq23, eq23⟩ := hQ23
      have N23 := Fr.app N22 Nq23
      have e23 : T23.heap = T17.heap := eq23
      refine own_go st23 ?_
      show Gm p e below T23 m 241 #[lv q0, .second, lv q1, .second, lv q2, .second, lv q3, .second, iv p4, iv p5, lv c1, .second, lv c2, .second, lv c3, .second, iv sl, lv z5, .second, rv b12, lv (((0 : Int64) + c1) + c2), .second, lv (fMin (fMin (9223372036854775807 : Int64) q0) q1), .second, lv (fMax (-9223372036854775808 : Int64) q0), .second] [(.long (fMax (fMax (-9223372036854775808 : Int64) q0) q1))] _
      refine own_go (fun t₀ k₀ => XS.lstore X23.here hx rfl (Jvm.hb hby at_241) rfl (l' := #[lv q0, .second, lv q1, .second, lv q2, .second, lv q3, .second, iv p4, iv p5, lv c1, .second, lv c2, .second, lv c3, .second, iv sl, lv z5, .second, rv b12, lv (((0 : Int64) + c1) + c2), .second, lv (fMin (fMin (9223372036854775807 : Int64) q0) q1), .second, lv (fMax (fMax (-9223372036854775808 : Int64) q0) q1), .second]) rfl k₀) ?_
      show Gm p e below T23 m 243 #[lv q0, .second, lv q1, .second, lv q2, .second, lv q3, .second, iv p4, iv p5, lv c1, .second, lv c2, .second, lv c3, .second, iv sl, lv z5, .second, rv b12, lv (((0 : Int64) + c1) + c2), .second, lv (fMin (fMin (9223372036854775807 : Int64) q0) q1), .second, lv (fMax (fMax (-9223372036854775808 : Int64) q0) q1), .second] [] _
      refine own_go (fun t₀ k₀ => XS.lload X23.here hx rfl (Jvm.hb hby at_243) rfl k₀) ?_
      show Gm p e below T23 m 245 #[lv q0, .second, lv q1, .second, lv q2, .second, lv q3, .second, iv p4, iv p5, lv c1, .second, lv c2, .second, lv c3, .second, iv sl, lv z5, .second, rv b12, lv (((0 : Int64) + c1) + c2), .second, lv (fMin (fMin (9223372036854775807 : Int64) q0) q1), .second, lv (fMax (fMax (-9223372036854775808 : Int64) q0) q1), .second] [(.long q2)] _
      refine own_go (fun t₀ k₀ => XS.lload X23.here hx rfl (Jvm.hb hby at_245) rfl k₀) ?_
      show Gm p e below T23 m 247 #[lv q0, .second, lv q1, .second, lv q2, .second, lv q3, .second, iv p4, iv p5, lv c1, .second, lv c2, .second, lv c3, .second, iv sl, lv z5, .second, rv b12, lv (((0 : Int64) + c1) + c2), .second, lv (fMin (fMin (9223372036854775807 : Int64) q0) q1), .second, lv (fMax (fMax (-9223372036854775808 : Int64) q0) q1), .second] [(.long z5), (.long q2)] _
      refine own_go (fun t₀ k₀ => XT.lcmp X23.here hx rfl (Jvm.hb hby at_247) rfl k₀) ?_
      show Gm p e below T23 m 248 #[lv q0, .second, lv q1, .second, lv q2, .second, lv q3, .second, iv p4, iv p5, lv c1, .second, lv c2, .second, lv c3, .second, iv sl, lv z5, .second, rv b12, lv (((0 : Int64) + c1) + c2), .second, lv (fMin (fMin (9223372036854775807 : Int64) q0) q1), .second, lv (fMax (fMax (-9223372036854775808 : Int64) q0) q1), .second] [(.int (XT.cmpL q2 z5))] _
      by_cases c24 : z5 < q2
      · have hfork := trivial
        refine own_go (fun t₀ k₀ => XS.ifNo X23.here hx rfl (Jvm.hb hby at_248) rfl (XT.ll_le_f c24) k₀) ?_
        show Gm p e below T23 m 251 #[lv q0, .second, lv q1, .second, lv q2, .second, lv q3, .second, iv p4, iv p5, lv c1, .second, lv c2, .second, lv c3, .second, iv sl, lv z5, .second, rv b12, lv (((0 : Int64) + c1) + c2), .second, lv (fMin (fMin (9223372036854775807 : Int64) q0) q1), .second, lv (fMax (fMax (-9223372036854775808 : Int64) q0) q1), .second] [] _
        refine own_go (fun t₀ k₀ => XS.lload X23.here hx rfl (Jvm.hb hby at_251) rfl k₀) ?_
        show Gm p e below T23 m 253 #[lv q0, .second, lv q1, .second, lv q2, .second, lv q3, .second, iv p4, iv p5, lv c1, .second, lv c2, .second, lv c3, .second, iv sl, lv z5, .second, rv b12, lv (((0 : Int64) + c1) + c2), .second, lv (fMin (fMin (9223372036854775807 : Int64) q0) q1), .second, lv (fMax (fMax (-9223372036854775808 : Int64) q0) q1), .second] [(.long (((0 : Int64) + c1) + c2))] _
        refine own_go (fun t₀ k₀ => XS.lload X23.here hx rfl (Jvm.hb hby at_253) rfl k₀) ?_
        show Gm p e below T23 m 255 #[lv q0, .second, lv q1, .second, lv q2, .second, lv q3, .second, iv p4, iv p5, lv c1, .second, lv c2, .second, lv c3, .second, iv sl, lv z5, .second, rv b12, lv (((0 : Int64) + c1) + c2), .second, lv (fMin (fMin (9223372036854775807 : Int64) q0) q1), .second, lv (fMax (fMax (-9223372036854775808 : Int64) q0) q1), .second] [(.long c3), (.long (((0 : Int64) + c1) + c2))] _
        refine own_go (fun t₀ k₀ => XS.ladd X23.here hx rfl (Jvm.hb hby at_255) rfl k₀) ?_
        show Gm p e below T23 m 256 #[lv q0, .second, lv q1, .second, lv q2, .second, lv q3, .second, iv p4, iv p5, lv c1, .second, lv c2, .second, lv c3, .second, iv sl, lv z5, .second, rv b12, lv (((0 : Int64) + c1) + c2), .second, lv (fMin (fMin (9223372036854775807 : Int64) q0) q1), .second, lv (fMax (fMax (-9223372036854775808 : Int64) q0) q1), .second] [(.long ((((0 : Int64) + c1) + c2) + c3))] _
        refine own_go (fun t₀ k₀ => XS.lstore X23.here hx rfl (Jvm.hb hby at_256) rfl (l' := #[lv q0, .second, lv q1, .second, lv q2, .second, lv q3, .second, iv p4, iv p5, lv c1, .second, lv c2, .second, lv c3, .second, iv sl, lv z5, .second, rv b12, lv ((((0 : Int64) + c1) + c2) + c3), .second, lv (fMin (fMin (9223372036854775807 : Int64) q0) q1), .second, lv (fMax (fMax (-9223372036854775808 : Int64) q0) q1), .second]) rfl k₀) ?_
        show Gm p e below T23 m 258 #[lv q0, .second, lv q1, .second, lv q2, .second, lv q3, .second, iv p4, iv p5, lv c1, .second, lv c2, .second, lv c3, .second, iv sl, lv z5, .second, rv b12, lv ((((0 : Int64) + c1) + c2) + c3), .second, lv (fMin (fMin (9223372036854775807 : Int64) q0) q1), .second, lv (fMax (fMax (-9223372036854775808 : Int64) q0) q1), .second] [] _
        refine own_go (fun t₀ k₀ => XS.lload X23.here hx rfl (Jvm.hb hby at_258) rfl k₀) ?_
        show Gm p e below T23 m 260 #[lv q0, .second, lv q1, .second, lv q2, .second, lv q3, .second, iv p4, iv p5, lv c1, .second, lv c2, .second, lv c3, .second, iv sl, lv z5, .second, rv b12, lv ((((0 : Int64) + c1) + c2) + c3), .second, lv (fMin (fMin (9223372036854775807 : Int64) q0) q1), .second, lv (fMax (fMax (-9223372036854775808 : Int64) q0) q1), .second] [(.long (fMin (fMin (9223372036854775807 : Int64) q0) q1))] _
        refine own_go (fun t₀ k₀ => XS.lload X23.here hx rfl (Jvm.hb hby at_260) rfl k₀) ?_
        show Gm p e below T23 m 262 #[lv q0, .second, lv q1, .second, lv q2, .second, lv q3, .second, iv p4, iv p5, lv c1, .second, lv c2, .second, lv c3, .second, iv sl, lv z5, .second, rv b12, lv ((((0 : Int64) + c1) + c2) + c3), .second, lv (fMin (fMin (9223372036854775807 : Int64) q0) q1), .second, lv (fMax (fMax (-9223372036854775808 : Int64) q0) q1), .second] [(.long q2), (.long (fMin (fMin (9223372036854775807 : Int64) q0) q1))] _
        obtain ⟨_, _, ⟨T25, L25, k25, n25⟩, -, X25, ⟨Lc25, hQ25, l25, y25, z25⟩, st25⟩ := Jvm.LawKit.callS X23 hx (y := (⟨"java/lang/Math", "min", "(JJ)J"⟩ : MethodName)) hown (mvT hZ (hw _ (List.mem_of_getElem? (i := 49) rfl))) (mvT hZ (hw _ (List.mem_of_getElem? (i := 50) rfl))) (mvT hZ (hw _ (List.mem_of_getElem? (i := 31) rfl))) (mvT hZ (hw _ (List.mem_of_getElem? (i := 51) rfl))) (by decide) (backOf (W := 0) (rm8 l Z a0 hw [] (fMin (fMin (9223372036854775807 : Int64) q0) q1) q2 T17.heap n0 Z17) hZ (hw _ (List.mem_of_getElem? (i := 51) rfl)) (hw _ (List.mem_of_getElem? (i := 31) rfl)) (by decide) (by decide)) (g := (mkF m 262 #[lv q0, .second, lv q1, .second, lv q2, .second, lv q3, .second, iv p4, iv p5, lv c1, .second, lv c2, .second, lv c3, .second, iv sl, lv z5, .second, rv b12, lv ((((0 : Int64) + c1) + c2) + c3), .second, lv (fMin (fMin (9223372036854775807 : Int64) q0) q1), .second, lv (fMax (fMax (-9223372036854775808 : Int64) q0) q1), .second] [(.long q2), (.long (fMin (fMin (9223372036854775807 : Int64) q0) q1))])) rfl (by rw [hml]; rfl) (argsL := [(.long (fMin (fMin (9223372036854775807 : Int64) q0) q1)), (.long q2)]) (rest := []) (lenOf own_pd5 rfl) rfl (by show 2 * 0 + _ ≤ _; exact Nat.le_of_eq rfl) (Jvm.hb hby at_262) (fun _ _ => ⟨rfl, e23, (by decide : 9 + 0 ≤ _), (by decide : 33 + 0 ≤ _)⟩)
        dsimp only [Pt.U, Pt.locs, Pt.cells, Pt.slots] at X25 l25 y25 z25 st25 hQ25
        subst l25 y25 z25
        obtain ⟨rfl, Nq25, eq25⟩ := hQ25
        have N25 := Fr.app N23 Nq25
        have e25 : T25.heap = T17.heap := eq25
        refine own_go st25 ?_
        show Gm p e below T25 m 265 #[lv q0, .second, lv q1, .second, lv q2, .second, lv q3, .second, iv p4, iv p5, lv c1, .second, lv c2, .second, lv c3, .second, iv sl, lv z5, .second, rv b12, lv ((((0 : Int64) + c1) + c2) + c3), .second, lv (fMin (fMin (9223372036854775807 : Int64) q0) q1), .second, lv (fMax (fMax (-9223372036854775808 : Int64) q0) q1), .second] [(.long (fMin (fMin (fMin (9223372036854775807 : Int64) q0) q1) q2))] _
        refine own_go (fun t₀ k₀ => XS.lstore X25.here hx rfl (Jvm.hb hby at_265) rfl (l' := #[lv q0, .second, lv q1, .second, lv q2, .second, lv q3, .second, iv p4, iv p5, lv c1, .second, lv c2, .second, lv c3, .second, iv sl, lv z5, .second, rv b12, lv ((((0 : Int64) + c1) + c2) + c3), .second, lv (fMin (fMin (fMin (9223372036854775807 : Int64) q0) q1) q2), .second, lv (fMax (fMax (-9223372036854775808 : Int64) q0) q1), .second]) rfl k₀) ?_
        show Gm p e below T25 m 267 #[lv q0, .second, lv q1, .second, lv q2, .second, lv q3, .second, iv p4, iv p5, lv c1, .second, lv c2, .second, lv c3, .second, iv sl, lv z5, .second, rv b12, lv ((((0 : Int64) + c1) + c2) + c3), .second, lv (fMin (fMin (fMin (9223372036854775807 : Int64) q0) q1) q2), .second, lv (fMax (fMax (-9223372036854775808 : Int64) q0) q1), .second] [] _
        refine own_go (fun t₀ k₀ => XS.lload X25.here hx rfl (Jvm.hb hby at_267) rfl k₀) ?_
        show Gm p e below T25 m 269 #[lv q0, .second, lv q1, .second, lv q2, .second, lv q3, .second, iv p4, iv p5, lv c1, .second, lv c2, .second, lv c3, .second, iv sl, lv z5, .second, rv b12, lv ((((0 : Int64) + c1) + c2) + c3), .second, lv (fMin (fMin (fMin (9223372036854775807 : Int64) q0) q1) q2), .second, lv (fMax (fMax (-9223372036854775808 : Int64) q0) q1), .second] [(.long (fMax (fMax (-9223372036854775808 : Int64) q0) q1))] _
        refine own_go (fun t₀ k₀ => XS.lload X25.here hx rfl (Jvm.hb hby at_269) rfl k₀) ?_
        show Gm p e below T25 m 271 #[lv q0, .second, lv q1, .second, lv q2, .second, lv q3, .second, iv p4, iv p5, lv c1, .second, lv c2, .second, lv c3, .second, iv sl, lv z5, .second, rv b12, lv ((((0 : Int64) + c1) + c2) + c3), .second, lv (fMin (fMin (fMin (9223372036854775807 : Int64) q0) q1) q2), .second, lv (fMax (fMax (-9223372036854775808 : Int64) q0) q1), .second] [(.long q2), (.long (fMax (fMax (-9223372036854775808 : Int64) q0) q1))] _
        obtain ⟨_, _, ⟨T26, L26, k26, n26⟩, -, X26, ⟨Lc26, hQ26, l26, y26, z26⟩, st26⟩ := Jvm.LawKit.callS X25 hx (y := (⟨"java/lang/Math", "max", "(JJ)J"⟩ : MethodName)) hown (mvT hZ (hw _ (List.mem_of_getElem? (i := 52) rfl))) (mvT hZ (hw _ (List.mem_of_getElem? (i := 53) rfl))) (mvT hZ (hw _ (List.mem_of_getElem? (i := 31) rfl))) (mvT hZ (hw _ (List.mem_of_getElem? (i := 54) rfl))) (by decide) (backOf (W := 0) (rm9 l Z a0 hw [] (fMax (fMax (-9223372036854775808 : Int64) q0) q1) q2 T17.heap n0 Z17) hZ (hw _ (List.mem_of_getElem? (i := 54) rfl)) (hw _ (List.mem_of_getElem? (i := 31) rfl)) (by decide) (by decide)) (g := (mkF m 271 #[lv q0, .second, lv q1, .second, lv q2, .second, lv q3, .second, iv p4, iv p5, lv c1, .second, lv c2, .second, lv c3, .second, iv sl, lv z5, .second, rv b12, lv ((((0 : Int64) + c1) + c2) + c3), .second, lv (fMin (fMin (fMin (9223372036854775807 : Int64) q0) q1) q2), .second, lv (fMax (fMax (-9223372036854775808 : Int64) q0) q1), .second] [(.long q2), (.long (fMax (fMax (-9223372036854775808 : Int64) q0) q1))])) rfl (by rw [hml]; rfl) (argsL := [(.long (fMax (fMax (-9223372036854775808 : Int64) q0) q1)), (.long q2)]) (rest := []) (lenOf own_pd5 rfl) rfl (by show 2 * 0 + _ ≤ _; exact Nat.le_of_eq rfl) (Jvm.hb hby at_271) (fun _ _ => ⟨rfl, e25, (by decide : 9 + 0 ≤ _), (by decide : 33 + 0 ≤ _)⟩)
        dsimp only [Pt.U, Pt.locs, Pt.cells, Pt.slots] at X26 l26 y26 z26 st26 hQ26
        subst l26 y26 z26
        obtain ⟨rfl, Nq26, eq26⟩ := hQ26
        have N26 := Fr.app N25 Nq26
        have e26 : T26.heap = T17.heap := eq26
        refine own_go st26 ?_
        show Gm p e below T26 m 274 #[lv q0, .second, lv q1, .second, lv q2, .second, lv q3, .second, iv p4, iv p5, lv c1, .second, lv c2, .second, lv c3, .second, iv sl, lv z5, .second, rv b12, lv ((((0 : Int64) + c1) + c2) + c3), .second, lv (fMin (fMin (fMin (9223372036854775807 : Int64) q0) q1) q2), .second, lv (fMax (fMax (-9223372036854775808 : Int64) q0) q1), .second] [(.long (fMax (fMax (fMax (-9223372036854775808 : Int64) q0) q1) q2))] _
        refine own_go (fun t₀ k₀ => XS.lstore X26.here hx rfl (Jvm.hb hby at_274) rfl (l' := #[lv q0, .second, lv q1, .second, lv q2, .second, lv q3, .second, iv p4, iv p5, lv c1, .second, lv c2, .second, lv c3, .second, iv sl, lv z5, .second, rv b12, lv ((((0 : Int64) + c1) + c2) + c3), .second, lv (fMin (fMin (fMin (9223372036854775807 : Int64) q0) q1) q2), .second, lv (fMax (fMax (fMax (-9223372036854775808 : Int64) q0) q1) q2), .second]) rfl k₀) ?_
        show Gm p e below T26 m 276 #[lv q0, .second, lv q1, .second, lv q2, .second, lv q3, .second, iv p4, iv p5, lv c1, .second, lv c2, .second, lv c3, .second, iv sl, lv z5, .second, rv b12, lv ((((0 : Int64) + c1) + c2) + c3), .second, lv (fMin (fMin (fMin (9223372036854775807 : Int64) q0) q1) q2), .second, lv (fMax (fMax (fMax (-9223372036854775808 : Int64) q0) q1) q2), .second] [] _
        refine own_go (fun t₀ k₀ => XS.aload X26.here hx rfl (Jvm.hb hby at_276) rfl rfl k₀) ?_
        show Gm p e below T26 m 278 #[lv q0, .second, lv q1, .second, lv q2, .second, lv q3, .second, iv p4, iv p5, lv c1, .second, lv c2, .second, lv c3, .second, iv sl, lv z5, .second, rv b12, lv ((((0 : Int64) + c1) + c2) + c3), .second, lv (fMin (fMin (fMin (9223372036854775807 : Int64) q0) q1) q2), .second, lv (fMax (fMax (fMax (-9223372036854775808 : Int64) q0) q1) q2), .second] [(.ref b12)] _
        obtain ⟨cq27, kq27, q27a, q27b, q27c⟩ := isOf hZ e26 HL17.exa
        obtain ⟨_, _, ⟨T27, L27, k27, n27⟩, -, X27, ⟨Lc27, hQ27, l27, y27, z27⟩, st27⟩ := X26.virtualBack hx (y := (⟨"com/example/libbrake/libbrake/AdmissionLog", "permits", "()J"⟩ : MethodName)) (z := (⟨"com/example/libbrake/libbrake/AdmissionLog", "permits", "()J"⟩ : MethodName)) hown (mvT hZ (hw _ (List.mem_of_getElem? (i := 44) rfl))) (mvT hZ (hw _ (List.mem_of_getElem? (i := 45) rfl))) (notFace_of_selects (args := #[]) (mvT hZ (hw _ (List.mem_of_getElem? (i := 47) rfl)))) (mvT hZ (hw _ (List.mem_of_getElem? (i := 47) rfl))) (mvT hZ (hw _ (List.mem_of_getElem? (i := 46) rfl))) (by decide) (backOf (W := 0) (rm7 l Z a0 hw [] b12 (pr z5 (ins q2 c3 (ins q1 c2 [(q0, c1)])) ((((0 : Int64) + c1) + c2) + c3)) T17.heap n0 Z17 HL17.per) hZ (hw _ (List.mem_of_getElem? (i := 48) rfl)) (hw _ (List.mem_of_getElem? (i := 2) rfl)) (by decide) (by decide)) q27a q27c (g := (mkF m 278 #[lv q0, .second, lv q1, .second, lv q2, .second, lv q3, .second, iv p4, iv p5, lv c1, .second, lv c2, .second, lv c3, .second, iv sl, lv z5, .second, rv b12, lv ((((0 : Int64) + c1) + c2) + c3), .second, lv (fMin (fMin (fMin (9223372036854775807 : Int64) q0) q1) q2), .second, lv (fMax (fMax (fMax (-9223372036854775808 : Int64) q0) q1) q2), .second] [(.ref b12)])) rfl (by rw [hml]; rfl) (Steps.refl _) (argsL := []) (rest := []) (lenOf own_pd6 rfl) rfl (by show 2 * 0 + _ ≤ _; exact Nat.le_of_eq rfl) (Jvm.hb hby at_278) (fun _ _ => ⟨rfl, e26, (by decide : 9 + 0 ≤ _), (by decide : 33 + 0 ≤ _)⟩)
        dsimp only [Pt.U, Pt.locs, Pt.cells, Pt.slots] at X27 l27 y27 z27 st27 hQ27
        subst l27 y27 z27
        obtain ⟨rfl, Nq27, eq27⟩ := hQ27
        have N27 := Fr.app N26 Nq27
        have e27 : T27.heap = T17.heap := eq27
        refine own_go (fun t k => st27.trans k) ?_
        show Gm p e below T27 m 281 #[lv q0, .second, lv q1, .second, lv q2, .second, lv q3, .second, iv p4, iv p5, lv c1, .second, lv c2, .second, lv c3, .second, iv sl, lv z5, .second, rv b12, lv ((((0 : Int64) + c1) + c2) + c3), .second, lv (fMin (fMin (fMin (9223372036854775807 : Int64) q0) q1) q2), .second, lv (fMax (fMax (fMax (-9223372036854775808 : Int64) q0) q1) q2), .second] [(.long (pr z5 (ins q2 c3 (ins q1 c2 [(q0, c1)])) ((((0 : Int64) + c1) + c2) + c3)))] _
        refine own_go (fun t₀ k₀ => XS.lload X27.here hx rfl (Jvm.hb hby at_281) rfl k₀) ?_
        show Gm p e below T27 m 283 #[lv q0, .second, lv q1, .second, lv q2, .second, lv q3, .second, iv p4, iv p5, lv c1, .second, lv c2, .second, lv c3, .second, iv sl, lv z5, .second, rv b12, lv ((((0 : Int64) + c1) + c2) + c3), .second, lv (fMin (fMin (fMin (9223372036854775807 : Int64) q0) q1) q2), .second, lv (fMax (fMax (fMax (-9223372036854775808 : Int64) q0) q1) q2), .second] [(.long ((((0 : Int64) + c1) + c2) + c3)), (.long (pr z5 (ins q2 c3 (ins q1 c2 [(q0, c1)])) ((((0 : Int64) + c1) + c2) + c3)))] _
        refine own_go (fun t₀ k₀ => XT.lcmp X27.here hx rfl (Jvm.hb hby at_283) rfl k₀) ?_
        show Gm p e below T27 m 284 #[lv q0, .second, lv q1, .second, lv q2, .second, lv q3, .second, iv p4, iv p5, lv c1, .second, lv c2, .second, lv c3, .second, iv sl, lv z5, .second, rv b12, lv ((((0 : Int64) + c1) + c2) + c3), .second, lv (fMin (fMin (fMin (9223372036854775807 : Int64) q0) q1) q2), .second, lv (fMax (fMax (fMax (-9223372036854775808 : Int64) q0) q1) q2), .second] [(.int (XT.cmpL (pr z5 (ins q2 c3 (ins q1 c2 [(q0, c1)])) ((((0 : Int64) + c1) + c2) + c3)) ((((0 : Int64) + c1) + c2) + c3)))] _
        have hex28 : ((((0 : Int64) + c1) + c2) + c3) = (eX z5 q0 c1 + eX z5 q1 c2) + eX z5 q2 c3 := by unfold eX; rw [if_pos c18, if_pos c21, if_pos c24]; try simp only [Int64.zero_add, Int64.add_zero]
        refine own_go (fun t₀ k₀ => XS.ifYes X27.here hx rfl (pc0 := 284) (pc' := 289) rfl (Jvm.hb hby at_284) rfl (XT.ll_eq_t (own_perm2 hc1 hc2 hc3 hex28)) (by decide) (by decide) k₀) ?_
        show Gm p e below T27 m 289 #[lv q0, .second, lv q1, .second, lv q2, .second, lv q3, .second, iv p4, iv p5, lv c1, .second, lv c2, .second, lv c3, .second, iv sl, lv z5, .second, rv b12, lv ((((0 : Int64) + c1) + c2) + c3), .second, lv (fMin (fMin (fMin (9223372036854775807 : Int64) q0) q1) q2), .second, lv (fMax (fMax (fMax (-9223372036854775808 : Int64) q0) q1) q2), .second] [] _
        refine own_go (fun t₀ k₀ => XS.lload X27.here hx rfl (Jvm.hb hby at_289) rfl k₀) ?_
        show Gm p e below T27 m 291 #[lv q0, .second, lv q1, .second, lv q2, .second, lv q3, .second, iv p4, iv p5, lv c1, .second, lv c2, .second, lv c3, .second, iv sl, lv z5, .second, rv b12, lv ((((0 : Int64) + c1) + c2) + c3), .second, lv (fMin (fMin (fMin (9223372036854775807 : Int64) q0) q1) q2), .second, lv (fMax (fMax (fMax (-9223372036854775808 : Int64) q0) q1) q2), .second] [(.long ((((0 : Int64) + c1) + c2) + c3))] _
        refine own_go (fun t₀ k₀ => XS.lconst X27.here hx rfl (Jvm.hb hby at_291) k₀) ?_
        show Gm p e below T27 m 292 #[lv q0, .second, lv q1, .second, lv q2, .second, lv q3, .second, iv p4, iv p5, lv c1, .second, lv c2, .second, lv c3, .second, iv sl, lv z5, .second, rv b12, lv ((((0 : Int64) + c1) + c2) + c3), .second, lv (fMin (fMin (fMin (9223372036854775807 : Int64) q0) q1) q2), .second, lv (fMax (fMax (fMax (-9223372036854775808 : Int64) q0) q1) q2), .second] [(.long (0 : Int64)), (.long ((((0 : Int64) + c1) + c2) + c3))] _
        refine own_go (fun t₀ k₀ => XT.lcmp X27.here hx rfl (Jvm.hb hby at_292) rfl k₀) ?_
        show Gm p e below T27 m 293 #[lv q0, .second, lv q1, .second, lv q2, .second, lv q3, .second, iv p4, iv p5, lv c1, .second, lv c2, .second, lv c3, .second, iv sl, lv z5, .second, rv b12, lv ((((0 : Int64) + c1) + c2) + c3), .second, lv (fMin (fMin (fMin (9223372036854775807 : Int64) q0) q1) q2), .second, lv (fMax (fMax (fMax (-9223372036854775808 : Int64) q0) q1) q2), .second] [(.int (XT.cmpL ((((0 : Int64) + c1) + c2) + c3) (0 : Int64)))] _
        by_cases c29 : ((((0 : Int64) + c1) + c2) + c3) = (0 : Int64)
        · have hfork := trivial
          refine own_go (fun t₀ k₀ => XS.ifNo X27.here hx rfl (Jvm.hb hby at_293) rfl (XT.ll_ne_f c29) k₀) ?_
          show Gm p e below T27 m 296 #[lv q0, .second, lv q1, .second, lv q2, .second, lv q3, .second, iv p4, iv p5, lv c1, .second, lv c2, .second, lv c3, .second, iv sl, lv z5, .second, rv b12, lv ((((0 : Int64) + c1) + c2) + c3), .second, lv (fMin (fMin (fMin (9223372036854775807 : Int64) q0) q1) q2), .second, lv (fMax (fMax (fMax (-9223372036854775808 : Int64) q0) q1) q2), .second] [] _
          refine own_go (fun t₀ k₀ => XS.iconst X27.here hx rfl (Jvm.hb hby at_296) k₀) ?_
          show Gm p e below T27 m 297 #[lv q0, .second, lv q1, .second, lv q2, .second, lv q3, .second, iv p4, iv p5, lv c1, .second, lv c2, .second, lv c3, .second, iv sl, lv z5, .second, rv b12, lv ((((0 : Int64) + c1) + c2) + c3), .second, lv (fMin (fMin (fMin (9223372036854775807 : Int64) q0) q1) q2), .second, lv (fMax (fMax (fMax (-9223372036854775808 : Int64) q0) q1) q2), .second] [(.int (1 : Int32))] _
          exact own_retI X27 hx hlk (t := .boolean) Bd.returns rfl (by simp) (Jvm.hb hby at_297) e27 ⟨rfl, N27⟩ (by decide) (by decide)
        · have hfork := trivial
          refine own_go (fun t₀ k₀ => XS.ifYes X27.here hx rfl (pc0 := 293) (pc' := 298) rfl (Jvm.hb hby at_293) rfl (XT.ll_ne_t c29) (by decide) (by decide) k₀) ?_
          show Gm p e below T27 m 298 #[lv q0, .second, lv q1, .second, lv q2, .second, lv q3, .second, iv p4, iv p5, lv c1, .second, lv c2, .second, lv c3, .second, iv sl, lv z5, .second, rv b12, lv ((((0 : Int64) + c1) + c2) + c3), .second, lv (fMin (fMin (fMin (9223372036854775807 : Int64) q0) q1) q2), .second, lv (fMax (fMax (fMax (-9223372036854775808 : Int64) q0) q1) q2), .second] [] _
          refine own_go (fun t₀ k₀ => XS.aload X27.here hx rfl (Jvm.hb hby at_298) rfl rfl k₀) ?_
          show Gm p e below T27 m 300 #[lv q0, .second, lv q1, .second, lv q2, .second, lv q3, .second, iv p4, iv p5, lv c1, .second, lv c2, .second, lv c3, .second, iv sl, lv z5, .second, rv b12, lv ((((0 : Int64) + c1) + c2) + c3), .second, lv (fMin (fMin (fMin (9223372036854775807 : Int64) q0) q1) q2), .second, lv (fMax (fMax (fMax (-9223372036854775808 : Int64) q0) q1) q2), .second] [(.ref b12)] _
          refine own_go (fun t₀ k₀ => XS.lconst X27.here hx rfl (Jvm.hb hby at_300) k₀) ?_
          show Gm p e below T27 m 301 #[lv q0, .second, lv q1, .second, lv q2, .second, lv q3, .second, iv p4, iv p5, lv c1, .second, lv c2, .second, lv c3, .second, iv sl, lv z5, .second, rv b12, lv ((((0 : Int64) + c1) + c2) + c3), .second, lv (fMin (fMin (fMin (9223372036854775807 : Int64) q0) q1) q2), .second, lv (fMax (fMax (fMax (-9223372036854775808 : Int64) q0) q1) q2), .second] [(.long (0 : Int64)), (.ref b12)] _
          obtain ⟨cq30, kq30, q30a, q30b, q30c⟩ := isOf hZ e27 HL17.exa
          obtain ⟨_, _, ⟨T30, L30, k30, n30⟩, -, X30, ⟨Lc30, hQ30, l30, y30, z30⟩, st30⟩ := X27.virtualBack hx (y := (⟨"com/example/libbrake/libbrake/AdmissionLog", "timeOf", "(J)J"⟩ : MethodName)) (z := (⟨"com/example/libbrake/libbrake/AdmissionLog", "timeOf", "(J)J"⟩ : MethodName)) hown (mvT hZ (hw _ (List.mem_of_getElem? (i := 55) rfl))) (mvT hZ (hw _ (List.mem_of_getElem? (i := 56) rfl))) (notFace_of_selects (args := #[]) (mvT hZ (hw _ (List.mem_of_getElem? (i := 58) rfl)))) (mvT hZ (hw _ (List.mem_of_getElem? (i := 58) rfl))) (mvT hZ (hw _ (List.mem_of_getElem? (i := 57) rfl))) (by decide) (backOf (W := 0) (rmT l Z a0 hw [] b12 (0 : Int64) NK16 s17 (dr z5 (ins q2 c3 (ins q1 c2 [(q0, c1)]))) (pr z5 (ins q2 c3 (ins q1 c2 [(q0, c1)])) ((((0 : Int64) + c1) + c2) + c3)) T17.heap n0 Z17 HL17 ⟨(own_ne2 hc1 hc2 hc3 hex28 c29).1, by rw [hsl17]; exact (own_len3 _ _ _ _ _ _).2⟩ (own_lt2 hc1 hc2 hc3 hex28 (by rw [(by decide : (0 : Int64).toInt = 0)]; exact (own_ne2 hc1 hc2 hc3 hex28 c29).2.1))) hZ (hw _ (List.mem_of_getElem? (i := 59) rfl)) (hw _ (List.mem_of_getElem? (i := 2) rfl)) (by decide) (by decide)) q30a q30c (g := (mkF m 301 #[lv q0, .second, lv q1, .second, lv q2, .second, lv q3, .second, iv p4, iv p5, lv c1, .second, lv c2, .second, lv c3, .second, iv sl, lv z5, .second, rv b12, lv ((((0 : Int64) + c1) + c2) + c3), .second, lv (fMin (fMin (fMin (9223372036854775807 : Int64) q0) q1) q2), .second, lv (fMax (fMax (fMax (-9223372036854775808 : Int64) q0) q1) q2), .second] [(.long (0 : Int64)), (.ref b12)])) rfl (by rw [hml]; rfl) (Steps.refl _) (argsL := [(.long (0 : Int64))]) (rest := []) (lenOf own_pd7 rfl) rfl (by show 2 * 0 + _ ≤ _; exact Nat.le_of_eq rfl) (Jvm.hb hby at_301) (fun _ _ => ⟨rfl, e27, (by decide : 9 + 0 ≤ _), (by decide : 33 + 0 ≤ _)⟩)
          dsimp only [Pt.U, Pt.locs, Pt.cells, Pt.slots] at X30 l30 y30 z30 st30 hQ30
          subst l30 y30 z30
          obtain ⟨rfl, Nq30, eq30⟩ := hQ30
          have N30 := Fr.app N27 Nq30
          have e30 : T30.heap = T17.heap := eq30
          refine own_go (fun t k => st30.trans k) ?_
          show Gm p e below T30 m 304 #[lv q0, .second, lv q1, .second, lv q2, .second, lv q3, .second, iv p4, iv p5, lv c1, .second, lv c2, .second, lv c3, .second, iv sl, lv z5, .second, rv b12, lv ((((0 : Int64) + c1) + c2) + c3), .second, lv (fMin (fMin (fMin (9223372036854775807 : Int64) q0) q1) q2), .second, lv (fMax (fMax (fMax (-9223372036854775808 : Int64) q0) q1) q2), .second] [(.long (tOf (0 : Int64) (dr z5 (ins q2 c3 (ins q1 c2 [(q0, c1)])))))] _
          refine own_go (fun t₀ k₀ => XS.lload X30.here hx rfl (Jvm.hb hby at_304) rfl k₀) ?_
          show Gm p e below T30 m 306 #[lv q0, .second, lv q1, .second, lv q2, .second, lv q3, .second, iv p4, iv p5, lv c1, .second, lv c2, .second, lv c3, .second, iv sl, lv z5, .second, rv b12, lv ((((0 : Int64) + c1) + c2) + c3), .second, lv (fMin (fMin (fMin (9223372036854775807 : Int64) q0) q1) q2), .second, lv (fMax (fMax (fMax (-9223372036854775808 : Int64) q0) q1) q2), .second] [(.long (fMin (fMin (fMin (9223372036854775807 : Int64) q0) q1) q2)), (.long (tOf (0 : Int64) (dr z5 (ins q2 c3 (ins q1 c2 [(q0, c1)])))))] _
          refine own_go (fun t₀ k₀ => XT.lcmp X30.here hx rfl (Jvm.hb hby at_306) rfl k₀) ?_
          show Gm p e below T30 m 307 #[lv q0, .second, lv q1, .second, lv q2, .second, lv q3, .second, iv p4, iv p5, lv c1, .second, lv c2, .second, lv c3, .second, iv sl, lv z5, .second, rv b12, lv ((((0 : Int64) + c1) + c2) + c3), .second, lv (fMin (fMin (fMin (9223372036854775807 : Int64) q0) q1) q2), .second, lv (fMax (fMax (fMax (-9223372036854775808 : Int64) q0) q1) q2), .second] [(.int (XT.cmpL (tOf (0 : Int64) (dr z5 (ins q2 c3 (ins q1 c2 [(q0, c1)])))) (fMin (fMin (fMin (9223372036854775807 : Int64) q0) q1) q2)))] _
          refine own_go (fun t₀ k₀ => XS.ifNo X30.here hx rfl (Jvm.hb hby at_307) rfl (XT.ll_ne_f (own_lo hc1 hc2 hc3 hex28 c29 (by unfold loF; rw [if_pos c18, if_pos c21, if_pos c24]))) k₀) ?_
          show Gm p e below T30 m 310 #[lv q0, .second, lv q1, .second, lv q2, .second, lv q3, .second, iv p4, iv p5, lv c1, .second, lv c2, .second, lv c3, .second, iv sl, lv z5, .second, rv b12, lv ((((0 : Int64) + c1) + c2) + c3), .second, lv (fMin (fMin (fMin (9223372036854775807 : Int64) q0) q1) q2), .second, lv (fMax (fMax (fMax (-9223372036854775808 : Int64) q0) q1) q2), .second] [] _
          refine own_go (fun t₀ k₀ => XS.aload X30.here hx rfl (Jvm.hb hby at_310) rfl rfl k₀) ?_
          show Gm p e below T30 m 312 #[lv q0, .second, lv q1, .second, lv q2, .second, lv q3, .second, iv p4, iv p5, lv c1, .second, lv c2, .second, lv c3, .second, iv sl, lv z5, .second, rv b12, lv ((((0 : Int64) + c1) + c2) + c3), .second, lv (fMin (fMin (fMin (9223372036854775807 : Int64) q0) q1) q2), .second, lv (fMax (fMax (fMax (-9223372036854775808 : Int64) q0) q1) q2), .second] [(.ref b12)] _
          refine own_go (fun t₀ k₀ => XS.lload X30.here hx rfl (Jvm.hb hby at_312) rfl k₀) ?_
          show Gm p e below T30 m 314 #[lv q0, .second, lv q1, .second, lv q2, .second, lv q3, .second, iv p4, iv p5, lv c1, .second, lv c2, .second, lv c3, .second, iv sl, lv z5, .second, rv b12, lv ((((0 : Int64) + c1) + c2) + c3), .second, lv (fMin (fMin (fMin (9223372036854775807 : Int64) q0) q1) q2), .second, lv (fMax (fMax (fMax (-9223372036854775808 : Int64) q0) q1) q2), .second] [(.long ((((0 : Int64) + c1) + c2) + c3)), (.ref b12)] _
          refine own_go (fun t₀ k₀ => XS.lconst X30.here hx rfl (Jvm.hb hby at_314) k₀) ?_
          show Gm p e below T30 m 315 #[lv q0, .second, lv q1, .second, lv q2, .second, lv q3, .second, iv p4, iv p5, lv c1, .second, lv c2, .second, lv c3, .second, iv sl, lv z5, .second, rv b12, lv ((((0 : Int64) + c1) + c2) + c3), .second, lv (fMin (fMin (fMin (9223372036854775807 : Int64) q0) q1) q2), .second, lv (fMax (fMax (fMax (-9223372036854775808 : Int64) q0) q1) q2), .second] [(.long (1 : Int64)), (.long ((((0 : Int64) + c1) + c2) + c3)), (.ref b12)] _
          refine own_go (fun t₀ k₀ => XS.lsub X30.here hx rfl (Jvm.hb hby at_315) rfl k₀) ?_
          show Gm p e below T30 m 316 #[lv q0, .second, lv q1, .second, lv q2, .second, lv q3, .second, iv p4, iv p5, lv c1, .second, lv c2, .second, lv c3, .second, iv sl, lv z5, .second, rv b12, lv ((((0 : Int64) + c1) + c2) + c3), .second, lv (fMin (fMin (fMin (9223372036854775807 : Int64) q0) q1) q2), .second, lv (fMax (fMax (fMax (-9223372036854775808 : Int64) q0) q1) q2), .second] [(.long (((((0 : Int64) + c1) + c2) + c3) - (1 : Int64))), (.ref b12)] _
          obtain ⟨cq31, kq31, q31a, q31b, q31c⟩ := isOf hZ e30 HL17.exa
          obtain ⟨_, _, ⟨T31, L31, k31, n31⟩, -, X31, ⟨Lc31, hQ31, l31, y31, z31⟩, st31⟩ := X30.virtualBack hx (y := (⟨"com/example/libbrake/libbrake/AdmissionLog", "timeOf", "(J)J"⟩ : MethodName)) (z := (⟨"com/example/libbrake/libbrake/AdmissionLog", "timeOf", "(J)J"⟩ : MethodName)) hown (mvT hZ (hw _ (List.mem_of_getElem? (i := 55) rfl))) (mvT hZ (hw _ (List.mem_of_getElem? (i := 56) rfl))) (notFace_of_selects (args := #[]) (mvT hZ (hw _ (List.mem_of_getElem? (i := 58) rfl)))) (mvT hZ (hw _ (List.mem_of_getElem? (i := 58) rfl))) (mvT hZ (hw _ (List.mem_of_getElem? (i := 57) rfl))) (by decide) (backOf (W := 0) (rmT l Z a0 hw [] b12 (((((0 : Int64) + c1) + c2) + c3) - (1 : Int64)) NK16 s17 (dr z5 (ins q2 c3 (ins q1 c2 [(q0, c1)]))) (pr z5 (ins q2 c3 (ins q1 c2 [(q0, c1)])) ((((0 : Int64) + c1) + c2) + c3)) T17.heap n0 Z17 HL17 ⟨(own_ne2 hc1 hc2 hc3 hex28 c29).1, by rw [hsl17]; exact (own_len3 _ _ _ _ _ _).2⟩ (own_lt2 hc1 hc2 hc3 hex28 (by rw [ex1 hc1 hc2 hc3 hex28 c29]; omega))) hZ (hw _ (List.mem_of_getElem? (i := 59) rfl)) (hw _ (List.mem_of_getElem? (i := 2) rfl)) (by decide) (by decide)) q31a q31c (g := (mkF m 316 #[lv q0, .second, lv q1, .second, lv q2, .second, lv q3, .second, iv p4, iv p5, lv c1, .second, lv c2, .second, lv c3, .second, iv sl, lv z5, .second, rv b12, lv ((((0 : Int64) + c1) + c2) + c3), .second, lv (fMin (fMin (fMin (9223372036854775807 : Int64) q0) q1) q2), .second, lv (fMax (fMax (fMax (-9223372036854775808 : Int64) q0) q1) q2), .second] [(.long (((((0 : Int64) + c1) + c2) + c3) - (1 : Int64))), (.ref b12)])) rfl (by rw [hml]; rfl) (Steps.refl _) (argsL := [(.long (((((0 : Int64) + c1) + c2) + c3) - (1 : Int64)))]) (rest := []) (lenOf own_pd7 rfl) rfl (by show 2 * 0 + _ ≤ _; exact Nat.le_of_eq rfl) (Jvm.hb hby at_316) (fun _ _ => ⟨rfl, e30, (by decide : 9 + 0 ≤ _), (by decide : 33 + 0 ≤ _)⟩)
          dsimp only [Pt.U, Pt.locs, Pt.cells, Pt.slots] at X31 l31 y31 z31 st31 hQ31
          subst l31 y31 z31
          obtain ⟨rfl, Nq31, eq31⟩ := hQ31
          have N31 := Fr.app N30 Nq31
          have e31 : T31.heap = T17.heap := eq31
          refine own_go (fun t k => st31.trans k) ?_
          show Gm p e below T31 m 319 #[lv q0, .second, lv q1, .second, lv q2, .second, lv q3, .second, iv p4, iv p5, lv c1, .second, lv c2, .second, lv c3, .second, iv sl, lv z5, .second, rv b12, lv ((((0 : Int64) + c1) + c2) + c3), .second, lv (fMin (fMin (fMin (9223372036854775807 : Int64) q0) q1) q2), .second, lv (fMax (fMax (fMax (-9223372036854775808 : Int64) q0) q1) q2), .second] [(.long (tOf (((((0 : Int64) + c1) + c2) + c3) - (1 : Int64)) (dr z5 (ins q2 c3 (ins q1 c2 [(q0, c1)])))))] _
          refine own_go (fun t₀ k₀ => XS.lload X31.here hx rfl (Jvm.hb hby at_319) rfl k₀) ?_
          show Gm p e below T31 m 321 #[lv q0, .second, lv q1, .second, lv q2, .second, lv q3, .second, iv p4, iv p5, lv c1, .second, lv c2, .second, lv c3, .second, iv sl, lv z5, .second, rv b12, lv ((((0 : Int64) + c1) + c2) + c3), .second, lv (fMin (fMin (fMin (9223372036854775807 : Int64) q0) q1) q2), .second, lv (fMax (fMax (fMax (-9223372036854775808 : Int64) q0) q1) q2), .second] [(.long (fMax (fMax (fMax (-9223372036854775808 : Int64) q0) q1) q2)), (.long (tOf (((((0 : Int64) + c1) + c2) + c3) - (1 : Int64)) (dr z5 (ins q2 c3 (ins q1 c2 [(q0, c1)])))))] _
          refine own_go (fun t₀ k₀ => XT.lcmp X31.here hx rfl (Jvm.hb hby at_321) rfl k₀) ?_
          show Gm p e below T31 m 322 #[lv q0, .second, lv q1, .second, lv q2, .second, lv q3, .second, iv p4, iv p5, lv c1, .second, lv c2, .second, lv c3, .second, iv sl, lv z5, .second, rv b12, lv ((((0 : Int64) + c1) + c2) + c3), .second, lv (fMin (fMin (fMin (9223372036854775807 : Int64) q0) q1) q2), .second, lv (fMax (fMax (fMax (-9223372036854775808 : Int64) q0) q1) q2), .second] [(.int (XT.cmpL (tOf (((((0 : Int64) + c1) + c2) + c3) - (1 : Int64)) (dr z5 (ins q2 c3 (ins q1 c2 [(q0, c1)])))) (fMax (fMax (fMax (-9223372036854775808 : Int64) q0) q1) q2)))] _
          refine own_go (fun t₀ k₀ => XS.ifNo X31.here hx rfl (Jvm.hb hby at_322) rfl (XT.ll_ne_f (own_hi hc1 hc2 hc3 hex28 c29 (by unfold hiF; rw [if_pos c18, if_pos c21, if_pos c24]))) k₀) ?_
          show Gm p e below T31 m 325 #[lv q0, .second, lv q1, .second, lv q2, .second, lv q3, .second, iv p4, iv p5, lv c1, .second, lv c2, .second, lv c3, .second, iv sl, lv z5, .second, rv b12, lv ((((0 : Int64) + c1) + c2) + c3), .second, lv (fMin (fMin (fMin (9223372036854775807 : Int64) q0) q1) q2), .second, lv (fMax (fMax (fMax (-9223372036854775808 : Int64) q0) q1) q2), .second] [] _
          refine own_go (fun t₀ k₀ => XS.iconst X31.here hx rfl (Jvm.hb hby at_325) k₀) ?_
          show Gm p e below T31 m 326 #[lv q0, .second, lv q1, .second, lv q2, .second, lv q3, .second, iv p4, iv p5, lv c1, .second, lv c2, .second, lv c3, .second, iv sl, lv z5, .second, rv b12, lv ((((0 : Int64) + c1) + c2) + c3), .second, lv (fMin (fMin (fMin (9223372036854775807 : Int64) q0) q1) q2), .second, lv (fMax (fMax (fMax (-9223372036854775808 : Int64) q0) q1) q2), .second] [(.int (1 : Int32))] _
          refine own_go (fun t₀ k₀ => XS.goto X31.here hx rfl (pc0 := 326) (pc' := 330) rfl (Jvm.hb hby at_326) (by decide) (by decide) k₀) ?_
          show Gm p e below T31 m 330 #[lv q0, .second, lv q1, .second, lv q2, .second, lv q3, .second, iv p4, iv p5, lv c1, .second, lv c2, .second, lv c3, .second, iv sl, lv z5, .second, rv b12, lv ((((0 : Int64) + c1) + c2) + c3), .second, lv (fMin (fMin (fMin (9223372036854775807 : Int64) q0) q1) q2), .second, lv (fMax (fMax (fMax (-9223372036854775808 : Int64) q0) q1) q2), .second] [(.int (1 : Int32))] _
          exact own_retI X31 hx hlk (t := .boolean) Bd.returns rfl (by simp) (Jvm.hb hby at_330) e31 ⟨rfl, N31⟩ (by decide) (by decide)
      · have hfork := trivial
        refine own_go (fun t₀ k₀ => XS.ifYes X23.here hx rfl (pc0 := 248) (pc' := 276) rfl (Jvm.hb hby at_248) rfl (XT.ll_le_t c24) (by decide) (by decide) k₀) ?_
        show Gm p e below T23 m 276 #[lv q0, .second, lv q1, .second, lv q2, .second, lv q3, .second, iv p4, iv p5, lv c1, .second, lv c2, .second, lv c3, .second, iv sl, lv z5, .second, rv b12, lv (((0 : Int64) + c1) + c2), .second, lv (fMin (fMin (9223372036854775807 : Int64) q0) q1), .second, lv (fMax (fMax (-9223372036854775808 : Int64) q0) q1), .second] [] _
        refine own_go (fun t₀ k₀ => XS.aload X23.here hx rfl (Jvm.hb hby at_276) rfl rfl k₀) ?_
        show Gm p e below T23 m 278 #[lv q0, .second, lv q1, .second, lv q2, .second, lv q3, .second, iv p4, iv p5, lv c1, .second, lv c2, .second, lv c3, .second, iv sl, lv z5, .second, rv b12, lv (((0 : Int64) + c1) + c2), .second, lv (fMin (fMin (9223372036854775807 : Int64) q0) q1), .second, lv (fMax (fMax (-9223372036854775808 : Int64) q0) q1), .second] [(.ref b12)] _
        obtain ⟨cq32, kq32, q32a, q32b, q32c⟩ := isOf hZ e23 HL17.exa
        obtain ⟨_, _, ⟨T32, L32, k32, n32⟩, -, X32, ⟨Lc32, hQ32, l32, y32, z32⟩, st32⟩ := X23.virtualBack hx (y := (⟨"com/example/libbrake/libbrake/AdmissionLog", "permits", "()J"⟩ : MethodName)) (z := (⟨"com/example/libbrake/libbrake/AdmissionLog", "permits", "()J"⟩ : MethodName)) hown (mvT hZ (hw _ (List.mem_of_getElem? (i := 44) rfl))) (mvT hZ (hw _ (List.mem_of_getElem? (i := 45) rfl))) (notFace_of_selects (args := #[]) (mvT hZ (hw _ (List.mem_of_getElem? (i := 47) rfl)))) (mvT hZ (hw _ (List.mem_of_getElem? (i := 47) rfl))) (mvT hZ (hw _ (List.mem_of_getElem? (i := 46) rfl))) (by decide) (backOf (W := 0) (rm7 l Z a0 hw [] b12 (pr z5 (ins q2 c3 (ins q1 c2 [(q0, c1)])) ((((0 : Int64) + c1) + c2) + c3)) T17.heap n0 Z17 HL17.per) hZ (hw _ (List.mem_of_getElem? (i := 48) rfl)) (hw _ (List.mem_of_getElem? (i := 2) rfl)) (by decide) (by decide)) q32a q32c (g := (mkF m 278 #[lv q0, .second, lv q1, .second, lv q2, .second, lv q3, .second, iv p4, iv p5, lv c1, .second, lv c2, .second, lv c3, .second, iv sl, lv z5, .second, rv b12, lv (((0 : Int64) + c1) + c2), .second, lv (fMin (fMin (9223372036854775807 : Int64) q0) q1), .second, lv (fMax (fMax (-9223372036854775808 : Int64) q0) q1), .second] [(.ref b12)])) rfl (by rw [hml]; rfl) (Steps.refl _) (argsL := []) (rest := []) (lenOf own_pd6 rfl) rfl (by show 2 * 0 + _ ≤ _; exact Nat.le_of_eq rfl) (Jvm.hb hby at_278) (fun _ _ => ⟨rfl, e23, (by decide : 9 + 0 ≤ _), (by decide : 33 + 0 ≤ _)⟩)
        dsimp only [Pt.U, Pt.locs, Pt.cells, Pt.slots] at X32 l32 y32 z32 st32 hQ32
        subst l32 y32 z32
        obtain ⟨rfl, Nq32, eq32⟩ := hQ32
        have N32 := Fr.app N23 Nq32
        have e32 : T32.heap = T17.heap := eq32
        refine own_go (fun t k => st32.trans k) ?_
        show Gm p e below T32 m 281 #[lv q0, .second, lv q1, .second, lv q2, .second, lv q3, .second, iv p4, iv p5, lv c1, .second, lv c2, .second, lv c3, .second, iv sl, lv z5, .second, rv b12, lv (((0 : Int64) + c1) + c2), .second, lv (fMin (fMin (9223372036854775807 : Int64) q0) q1), .second, lv (fMax (fMax (-9223372036854775808 : Int64) q0) q1), .second] [(.long (pr z5 (ins q2 c3 (ins q1 c2 [(q0, c1)])) ((((0 : Int64) + c1) + c2) + c3)))] _
        refine own_go (fun t₀ k₀ => XS.lload X32.here hx rfl (Jvm.hb hby at_281) rfl k₀) ?_
        show Gm p e below T32 m 283 #[lv q0, .second, lv q1, .second, lv q2, .second, lv q3, .second, iv p4, iv p5, lv c1, .second, lv c2, .second, lv c3, .second, iv sl, lv z5, .second, rv b12, lv (((0 : Int64) + c1) + c2), .second, lv (fMin (fMin (9223372036854775807 : Int64) q0) q1), .second, lv (fMax (fMax (-9223372036854775808 : Int64) q0) q1), .second] [(.long (((0 : Int64) + c1) + c2)), (.long (pr z5 (ins q2 c3 (ins q1 c2 [(q0, c1)])) ((((0 : Int64) + c1) + c2) + c3)))] _
        refine own_go (fun t₀ k₀ => XT.lcmp X32.here hx rfl (Jvm.hb hby at_283) rfl k₀) ?_
        show Gm p e below T32 m 284 #[lv q0, .second, lv q1, .second, lv q2, .second, lv q3, .second, iv p4, iv p5, lv c1, .second, lv c2, .second, lv c3, .second, iv sl, lv z5, .second, rv b12, lv (((0 : Int64) + c1) + c2), .second, lv (fMin (fMin (9223372036854775807 : Int64) q0) q1), .second, lv (fMax (fMax (-9223372036854775808 : Int64) q0) q1), .second] [(.int (XT.cmpL (pr z5 (ins q2 c3 (ins q1 c2 [(q0, c1)])) ((((0 : Int64) + c1) + c2) + c3)) (((0 : Int64) + c1) + c2)))] _
        have hex33 : (((0 : Int64) + c1) + c2) = (eX z5 q0 c1 + eX z5 q1 c2) + eX z5 q2 c3 := by unfold eX; rw [if_pos c18, if_pos c21, if_neg c24]; try simp only [Int64.zero_add, Int64.add_zero]
        refine own_go (fun t₀ k₀ => XS.ifYes X32.here hx rfl (pc0 := 284) (pc' := 289) rfl (Jvm.hb hby at_284) rfl (XT.ll_eq_t (own_perm2 hc1 hc2 hc3 hex33)) (by decide) (by decide) k₀) ?_
        show Gm p e below T32 m 289 #[lv q0, .second, lv q1, .second, lv q2, .second, lv q3, .second, iv p4, iv p5, lv c1, .second, lv c2, .second, lv c3, .second, iv sl, lv z5, .second, rv b12, lv (((0 : Int64) + c1) + c2), .second, lv (fMin (fMin (9223372036854775807 : Int64) q0) q1), .second, lv (fMax (fMax (-9223372036854775808 : Int64) q0) q1), .second] [] _
        refine own_go (fun t₀ k₀ => XS.lload X32.here hx rfl (Jvm.hb hby at_289) rfl k₀) ?_
        show Gm p e below T32 m 291 #[lv q0, .second, lv q1, .second, lv q2, .second, lv q3, .second, iv p4, iv p5, lv c1, .second, lv c2, .second, lv c3, .second, iv sl, lv z5, .second, rv b12, lv (((0 : Int64) + c1) + c2), .second, lv (fMin (fMin (9223372036854775807 : Int64) q0) q1), .second, lv (fMax (fMax (-9223372036854775808 : Int64) q0) q1), .second] [(.long (((0 : Int64) + c1) + c2))] _
        refine own_go (fun t₀ k₀ => XS.lconst X32.here hx rfl (Jvm.hb hby at_291) k₀) ?_
        show Gm p e below T32 m 292 #[lv q0, .second, lv q1, .second, lv q2, .second, lv q3, .second, iv p4, iv p5, lv c1, .second, lv c2, .second, lv c3, .second, iv sl, lv z5, .second, rv b12, lv (((0 : Int64) + c1) + c2), .second, lv (fMin (fMin (9223372036854775807 : Int64) q0) q1), .second, lv (fMax (fMax (-9223372036854775808 : Int64) q0) q1), .second] [(.long (0 : Int64)), (.long (((0 : Int64) + c1) + c2))] _
        refine own_go (fun t₀ k₀ => XT.lcmp X32.here hx rfl (Jvm.hb hby at_292) rfl k₀) ?_
        show Gm p e below T32 m 293 #[lv q0, .second, lv q1, .second, lv q2, .second, lv q3, .second, iv p4, iv p5, lv c1, .second, lv c2, .second, lv c3, .second, iv sl, lv z5, .second, rv b12, lv (((0 : Int64) + c1) + c2), .second, lv (fMin (fMin (9223372036854775807 : Int64) q0) q1), .second, lv (fMax (fMax (-9223372036854775808 : Int64) q0) q1), .second] [(.int (XT.cmpL (((0 : Int64) + c1) + c2) (0 : Int64)))] _
        by_cases c34 : (((0 : Int64) + c1) + c2) = (0 : Int64)
        · have hfork := trivial
          refine own_go (fun t₀ k₀ => XS.ifNo X32.here hx rfl (Jvm.hb hby at_293) rfl (XT.ll_ne_f c34) k₀) ?_
          show Gm p e below T32 m 296 #[lv q0, .second, lv q1, .second, lv q2, .second, lv q3, .second, iv p4, iv p5, lv c1, .second, lv c2, .second, lv c3, .second, iv sl, lv z5, .second, rv b12, lv (((0 : Int64) + c1) + c2), .second, lv (fMin (fMin (9223372036854775807 : Int64) q0) q1), .second, lv (fMax (fMax (-9223372036854775808 : Int64) q0) q1), .second] [] _
          refine own_go (fun t₀ k₀ => XS.iconst X32.here hx rfl (Jvm.hb hby at_296) k₀) ?_
          show Gm p e below T32 m 297 #[lv q0, .second, lv q1, .second, lv q2, .second, lv q3, .second, iv p4, iv p5, lv c1, .second, lv c2, .second, lv c3, .second, iv sl, lv z5, .second, rv b12, lv (((0 : Int64) + c1) + c2), .second, lv (fMin (fMin (9223372036854775807 : Int64) q0) q1), .second, lv (fMax (fMax (-9223372036854775808 : Int64) q0) q1), .second] [(.int (1 : Int32))] _
          exact own_retI X32 hx hlk (t := .boolean) Bd.returns rfl (by simp) (Jvm.hb hby at_297) e32 ⟨rfl, N32⟩ (by decide) (by decide)
        · have hfork := trivial
          refine own_go (fun t₀ k₀ => XS.ifYes X32.here hx rfl (pc0 := 293) (pc' := 298) rfl (Jvm.hb hby at_293) rfl (XT.ll_ne_t c34) (by decide) (by decide) k₀) ?_
          show Gm p e below T32 m 298 #[lv q0, .second, lv q1, .second, lv q2, .second, lv q3, .second, iv p4, iv p5, lv c1, .second, lv c2, .second, lv c3, .second, iv sl, lv z5, .second, rv b12, lv (((0 : Int64) + c1) + c2), .second, lv (fMin (fMin (9223372036854775807 : Int64) q0) q1), .second, lv (fMax (fMax (-9223372036854775808 : Int64) q0) q1), .second] [] _
          refine own_go (fun t₀ k₀ => XS.aload X32.here hx rfl (Jvm.hb hby at_298) rfl rfl k₀) ?_
          show Gm p e below T32 m 300 #[lv q0, .second, lv q1, .second, lv q2, .second, lv q3, .second, iv p4, iv p5, lv c1, .second, lv c2, .second, lv c3, .second, iv sl, lv z5, .second, rv b12, lv (((0 : Int64) + c1) + c2), .second, lv (fMin (fMin (9223372036854775807 : Int64) q0) q1), .second, lv (fMax (fMax (-9223372036854775808 : Int64) q0) q1), .second] [(.ref b12)] _
          refine own_go (fun t₀ k₀ => XS.lconst X32.here hx rfl (Jvm.hb hby at_300) k₀) ?_
          show Gm p e below T32 m 301 #[lv q0, .second, lv q1, .second, lv q2, .second, lv q3, .second, iv p4, iv p5, lv c1, .second, lv c2, .second, lv c3, .second, iv sl, lv z5, .second, rv b12, lv (((0 : Int64) + c1) + c2), .second, lv (fMin (fMin (9223372036854775807 : Int64) q0) q1), .second, lv (fMax (fMax (-9223372036854775808 : Int64) q0) q1), .second] [(.long (0 : Int64)), (.ref b12)] _
          obtain ⟨cq35, kq35, q35a, q35b, q35c⟩ := isOf hZ e32 HL17.exa
          obtain ⟨_, _, ⟨T35, L35, k35, n35⟩, -, X35, ⟨Lc35, hQ35, l35, y35, z35⟩, st35⟩ := X32.virtualBack hx (y := (⟨"com/example/libbrake/libbrake/AdmissionLog", "timeOf", "(J)J"⟩ : MethodName)) (z := (⟨"com/example/libbrake/libbrake/AdmissionLog", "timeOf", "(J)J"⟩ : MethodName)) hown (mvT hZ (hw _ (List.mem_of_getElem? (i := 55) rfl))) (mvT hZ (hw _ (List.mem_of_getElem? (i := 56) rfl))) (notFace_of_selects (args := #[]) (mvT hZ (hw _ (List.mem_of_getElem? (i := 58) rfl)))) (mvT hZ (hw _ (List.mem_of_getElem? (i := 58) rfl))) (mvT hZ (hw _ (List.mem_of_getElem? (i := 57) rfl))) (by decide) (backOf (W := 0) (rmT l Z a0 hw [] b12 (0 : Int64) NK16 s17 (dr z5 (ins q2 c3 (ins q1 c2 [(q0, c1)]))) (pr z5 (ins q2 c3 (ins q1 c2 [(q0, c1)])) ((((0 : Int64) + c1) + c2) + c3)) T17.heap n0 Z17 HL17 ⟨(own_ne2 hc1 hc2 hc3 hex33 c34).1, by rw [hsl17]; exact (own_len3 _ _ _ _ _ _).2⟩ (own_lt2 hc1 hc2 hc3 hex33 (by rw [(by decide : (0 : Int64).toInt = 0)]; exact (own_ne2 hc1 hc2 hc3 hex33 c34).2.1))) hZ (hw _ (List.mem_of_getElem? (i := 59) rfl)) (hw _ (List.mem_of_getElem? (i := 2) rfl)) (by decide) (by decide)) q35a q35c (g := (mkF m 301 #[lv q0, .second, lv q1, .second, lv q2, .second, lv q3, .second, iv p4, iv p5, lv c1, .second, lv c2, .second, lv c3, .second, iv sl, lv z5, .second, rv b12, lv (((0 : Int64) + c1) + c2), .second, lv (fMin (fMin (9223372036854775807 : Int64) q0) q1), .second, lv (fMax (fMax (-9223372036854775808 : Int64) q0) q1), .second] [(.long (0 : Int64)), (.ref b12)])) rfl (by rw [hml]; rfl) (Steps.refl _) (argsL := [(.long (0 : Int64))]) (rest := []) (lenOf own_pd7 rfl) rfl (by show 2 * 0 + _ ≤ _; exact Nat.le_of_eq rfl) (Jvm.hb hby at_301) (fun _ _ => ⟨rfl, e32, (by decide : 9 + 0 ≤ _), (by decide : 33 + 0 ≤ _)⟩)
          dsimp only [Pt.U, Pt.locs, Pt.cells, Pt.slots] at X35 l35 y35 z35 st35 hQ35
          subst l35 y35 z35
          obtain ⟨rfl, Nq35, eq35⟩ := hQ35
          have N35 := Fr.app N32 Nq35
          have e35 : T35.heap = T17.heap := eq35
          refine own_go (fun t k => st35.trans k) ?_
          show Gm p e below T35 m 304 #[lv q0, .second, lv q1, .second, lv q2, .second, lv q3, .second, iv p4, iv p5, lv c1, .second, lv c2, .second, lv c3, .second, iv sl, lv z5, .second, rv b12, lv (((0 : Int64) + c1) + c2), .second, lv (fMin (fMin (9223372036854775807 : Int64) q0) q1), .second, lv (fMax (fMax (-9223372036854775808 : Int64) q0) q1), .second] [(.long (tOf (0 : Int64) (dr z5 (ins q2 c3 (ins q1 c2 [(q0, c1)])))))] _
          refine own_go (fun t₀ k₀ => XS.lload X35.here hx rfl (Jvm.hb hby at_304) rfl k₀) ?_
          show Gm p e below T35 m 306 #[lv q0, .second, lv q1, .second, lv q2, .second, lv q3, .second, iv p4, iv p5, lv c1, .second, lv c2, .second, lv c3, .second, iv sl, lv z5, .second, rv b12, lv (((0 : Int64) + c1) + c2), .second, lv (fMin (fMin (9223372036854775807 : Int64) q0) q1), .second, lv (fMax (fMax (-9223372036854775808 : Int64) q0) q1), .second] [(.long (fMin (fMin (9223372036854775807 : Int64) q0) q1)), (.long (tOf (0 : Int64) (dr z5 (ins q2 c3 (ins q1 c2 [(q0, c1)])))))] _
          refine own_go (fun t₀ k₀ => XT.lcmp X35.here hx rfl (Jvm.hb hby at_306) rfl k₀) ?_
          show Gm p e below T35 m 307 #[lv q0, .second, lv q1, .second, lv q2, .second, lv q3, .second, iv p4, iv p5, lv c1, .second, lv c2, .second, lv c3, .second, iv sl, lv z5, .second, rv b12, lv (((0 : Int64) + c1) + c2), .second, lv (fMin (fMin (9223372036854775807 : Int64) q0) q1), .second, lv (fMax (fMax (-9223372036854775808 : Int64) q0) q1), .second] [(.int (XT.cmpL (tOf (0 : Int64) (dr z5 (ins q2 c3 (ins q1 c2 [(q0, c1)])))) (fMin (fMin (9223372036854775807 : Int64) q0) q1)))] _
          refine own_go (fun t₀ k₀ => XS.ifNo X35.here hx rfl (Jvm.hb hby at_307) rfl (XT.ll_ne_f (own_lo hc1 hc2 hc3 hex33 c34 (by unfold loF; rw [if_pos c18, if_pos c21, if_neg c24]))) k₀) ?_
          show Gm p e below T35 m 310 #[lv q0, .second, lv q1, .second, lv q2, .second, lv q3, .second, iv p4, iv p5, lv c1, .second, lv c2, .second, lv c3, .second, iv sl, lv z5, .second, rv b12, lv (((0 : Int64) + c1) + c2), .second, lv (fMin (fMin (9223372036854775807 : Int64) q0) q1), .second, lv (fMax (fMax (-9223372036854775808 : Int64) q0) q1), .second] [] _
          refine own_go (fun t₀ k₀ => XS.aload X35.here hx rfl (Jvm.hb hby at_310) rfl rfl k₀) ?_
          show Gm p e below T35 m 312 #[lv q0, .second, lv q1, .second, lv q2, .second, lv q3, .second, iv p4, iv p5, lv c1, .second, lv c2, .second, lv c3, .second, iv sl, lv z5, .second, rv b12, lv (((0 : Int64) + c1) + c2), .second, lv (fMin (fMin (9223372036854775807 : Int64) q0) q1), .second, lv (fMax (fMax (-9223372036854775808 : Int64) q0) q1), .second] [(.ref b12)] _
          refine own_go (fun t₀ k₀ => XS.lload X35.here hx rfl (Jvm.hb hby at_312) rfl k₀) ?_
          show Gm p e below T35 m 314 #[lv q0, .second, lv q1, .second, lv q2, .second, lv q3, .second, iv p4, iv p5, lv c1, .second, lv c2, .second, lv c3, .second, iv sl, lv z5, .second, rv b12, lv (((0 : Int64) + c1) + c2), .second, lv (fMin (fMin (9223372036854775807 : Int64) q0) q1), .second, lv (fMax (fMax (-9223372036854775808 : Int64) q0) q1), .second] [(.long (((0 : Int64) + c1) + c2)), (.ref b12)] _
          refine own_go (fun t₀ k₀ => XS.lconst X35.here hx rfl (Jvm.hb hby at_314) k₀) ?_
          show Gm p e below T35 m 315 #[lv q0, .second, lv q1, .second, lv q2, .second, lv q3, .second, iv p4, iv p5, lv c1, .second, lv c2, .second, lv c3, .second, iv sl, lv z5, .second, rv b12, lv (((0 : Int64) + c1) + c2), .second, lv (fMin (fMin (9223372036854775807 : Int64) q0) q1), .second, lv (fMax (fMax (-9223372036854775808 : Int64) q0) q1), .second] [(.long (1 : Int64)), (.long (((0 : Int64) + c1) + c2)), (.ref b12)] _
          refine own_go (fun t₀ k₀ => XS.lsub X35.here hx rfl (Jvm.hb hby at_315) rfl k₀) ?_
          show Gm p e below T35 m 316 #[lv q0, .second, lv q1, .second, lv q2, .second, lv q3, .second, iv p4, iv p5, lv c1, .second, lv c2, .second, lv c3, .second, iv sl, lv z5, .second, rv b12, lv (((0 : Int64) + c1) + c2), .second, lv (fMin (fMin (9223372036854775807 : Int64) q0) q1), .second, lv (fMax (fMax (-9223372036854775808 : Int64) q0) q1), .second] [(.long ((((0 : Int64) + c1) + c2) - (1 : Int64))), (.ref b12)] _
          obtain ⟨cq36, kq36, q36a, q36b, q36c⟩ := isOf hZ e35 HL17.exa
          obtain ⟨_, _, ⟨T36, L36, k36, n36⟩, -, X36, ⟨Lc36, hQ36, l36, y36, z36⟩, st36⟩ := X35.virtualBack hx (y := (⟨"com/example/libbrake/libbrake/AdmissionLog", "timeOf", "(J)J"⟩ : MethodName)) (z := (⟨"com/example/libbrake/libbrake/AdmissionLog", "timeOf", "(J)J"⟩ : MethodName)) hown (mvT hZ (hw _ (List.mem_of_getElem? (i := 55) rfl))) (mvT hZ (hw _ (List.mem_of_getElem? (i := 56) rfl))) (notFace_of_selects (args := #[]) (mvT hZ (hw _ (List.mem_of_getElem? (i := 58) rfl)))) (mvT hZ (hw _ (List.mem_of_getElem? (i := 58) rfl))) (mvT hZ (hw _ (List.mem_of_getElem? (i := 57) rfl))) (by decide) (backOf (W := 0) (rmT l Z a0 hw [] b12 ((((0 : Int64) + c1) + c2) - (1 : Int64)) NK16 s17 (dr z5 (ins q2 c3 (ins q1 c2 [(q0, c1)]))) (pr z5 (ins q2 c3 (ins q1 c2 [(q0, c1)])) ((((0 : Int64) + c1) + c2) + c3)) T17.heap n0 Z17 HL17 ⟨(own_ne2 hc1 hc2 hc3 hex33 c34).1, by rw [hsl17]; exact (own_len3 _ _ _ _ _ _).2⟩ (own_lt2 hc1 hc2 hc3 hex33 (by rw [ex1 hc1 hc2 hc3 hex33 c34]; omega))) hZ (hw _ (List.mem_of_getElem? (i := 59) rfl)) (hw _ (List.mem_of_getElem? (i := 2) rfl)) (by decide) (by decide)) q36a q36c (g := (mkF m 316 #[lv q0, .second, lv q1, .second, lv q2, .second, lv q3, .second, iv p4, iv p5, lv c1, .second, lv c2, .second, lv c3, .second, iv sl, lv z5, .second, rv b12, lv (((0 : Int64) + c1) + c2), .second, lv (fMin (fMin (9223372036854775807 : Int64) q0) q1), .second, lv (fMax (fMax (-9223372036854775808 : Int64) q0) q1), .second] [(.long ((((0 : Int64) + c1) + c2) - (1 : Int64))), (.ref b12)])) rfl (by rw [hml]; rfl) (Steps.refl _) (argsL := [(.long ((((0 : Int64) + c1) + c2) - (1 : Int64)))]) (rest := []) (lenOf own_pd7 rfl) rfl (by show 2 * 0 + _ ≤ _; exact Nat.le_of_eq rfl) (Jvm.hb hby at_316) (fun _ _ => ⟨rfl, e35, (by decide : 9 + 0 ≤ _), (by decide : 33 + 0 ≤ _)⟩)
          dsimp only [Pt.U, Pt.locs, Pt.cells, Pt.slots] at X36 l36 y36 z36 st36 hQ36
          subst l36 y36 z36
          obtain ⟨rfl, Nq36, eq36⟩ := hQ36
          have N36 := Fr.app N35 Nq36
          have e36 : T36.heap = T17.heap := eq36
          refine own_go (fun t k => st36.trans k) ?_
          show Gm p e below T36 m 319 #[lv q0, .second, lv q1, .second, lv q2, .second, lv q3, .second, iv p4, iv p5, lv c1, .second, lv c2, .second, lv c3, .second, iv sl, lv z5, .second, rv b12, lv (((0 : Int64) + c1) + c2), .second, lv (fMin (fMin (9223372036854775807 : Int64) q0) q1), .second, lv (fMax (fMax (-9223372036854775808 : Int64) q0) q1), .second] [(.long (tOf ((((0 : Int64) + c1) + c2) - (1 : Int64)) (dr z5 (ins q2 c3 (ins q1 c2 [(q0, c1)])))))] _
          refine own_go (fun t₀ k₀ => XS.lload X36.here hx rfl (Jvm.hb hby at_319) rfl k₀) ?_
          show Gm p e below T36 m 321 #[lv q0, .second, lv q1, .second, lv q2, .second, lv q3, .second, iv p4, iv p5, lv c1, .second, lv c2, .second, lv c3, .second, iv sl, lv z5, .second, rv b12, lv (((0 : Int64) + c1) + c2), .second, lv (fMin (fMin (9223372036854775807 : Int64) q0) q1), .second, lv (fMax (fMax (-9223372036854775808 : Int64) q0) q1), .second] [(.long (fMax (fMax (-9223372036854775808 : Int64) q0) q1)), (.long (tOf ((((0 : Int64) + c1) + c2) - (1 : Int64)) (dr z5 (ins q2 c3 (ins q1 c2 [(q0, c1)])))))] _
          refine own_go (fun t₀ k₀ => XT.lcmp X36.here hx rfl (Jvm.hb hby at_321) rfl k₀) ?_
          show Gm p e below T36 m 322 #[lv q0, .second, lv q1, .second, lv q2, .second, lv q3, .second, iv p4, iv p5, lv c1, .second, lv c2, .second, lv c3, .second, iv sl, lv z5, .second, rv b12, lv (((0 : Int64) + c1) + c2), .second, lv (fMin (fMin (9223372036854775807 : Int64) q0) q1), .second, lv (fMax (fMax (-9223372036854775808 : Int64) q0) q1), .second] [(.int (XT.cmpL (tOf ((((0 : Int64) + c1) + c2) - (1 : Int64)) (dr z5 (ins q2 c3 (ins q1 c2 [(q0, c1)])))) (fMax (fMax (-9223372036854775808 : Int64) q0) q1)))] _
          refine own_go (fun t₀ k₀ => XS.ifNo X36.here hx rfl (Jvm.hb hby at_322) rfl (XT.ll_ne_f (own_hi hc1 hc2 hc3 hex33 c34 (by unfold hiF; rw [if_pos c18, if_pos c21, if_neg c24]))) k₀) ?_
          show Gm p e below T36 m 325 #[lv q0, .second, lv q1, .second, lv q2, .second, lv q3, .second, iv p4, iv p5, lv c1, .second, lv c2, .second, lv c3, .second, iv sl, lv z5, .second, rv b12, lv (((0 : Int64) + c1) + c2), .second, lv (fMin (fMin (9223372036854775807 : Int64) q0) q1), .second, lv (fMax (fMax (-9223372036854775808 : Int64) q0) q1), .second] [] _
          refine own_go (fun t₀ k₀ => XS.iconst X36.here hx rfl (Jvm.hb hby at_325) k₀) ?_
          show Gm p e below T36 m 326 #[lv q0, .second, lv q1, .second, lv q2, .second, lv q3, .second, iv p4, iv p5, lv c1, .second, lv c2, .second, lv c3, .second, iv sl, lv z5, .second, rv b12, lv (((0 : Int64) + c1) + c2), .second, lv (fMin (fMin (9223372036854775807 : Int64) q0) q1), .second, lv (fMax (fMax (-9223372036854775808 : Int64) q0) q1), .second] [(.int (1 : Int32))] _
          refine own_go (fun t₀ k₀ => XS.goto X36.here hx rfl (pc0 := 326) (pc' := 330) rfl (Jvm.hb hby at_326) (by decide) (by decide) k₀) ?_
          show Gm p e below T36 m 330 #[lv q0, .second, lv q1, .second, lv q2, .second, lv q3, .second, iv p4, iv p5, lv c1, .second, lv c2, .second, lv c3, .second, iv sl, lv z5, .second, rv b12, lv (((0 : Int64) + c1) + c2), .second, lv (fMin (fMin (9223372036854775807 : Int64) q0) q1), .second, lv (fMax (fMax (-9223372036854775808 : Int64) q0) q1), .second] [(.int (1 : Int32))] _
          exact own_retI X36 hx hlk (t := .boolean) Bd.returns rfl (by simp) (Jvm.hb hby at_330) e36 ⟨rfl, N36⟩ (by decide) (by decide)
    · have hfork := trivial
      refine own_go (fun t₀ k₀ => XS.ifYes X20.here hx rfl (pc0 := 217) (pc' := 243) rfl (Jvm.hb hby at_217) rfl (XT.ll_le_t c21) (by decide) (by decide) k₀) ?_
      show Gm p e below T20 m 243 #[lv q0, .second, lv q1, .second, lv q2, .second, lv q3, .second, iv p4, iv p5, lv c1, .second, lv c2, .second, lv c3, .second, iv sl, lv z5, .second, rv b12, lv ((0 : Int64) + c1), .second, lv (fMin (9223372036854775807 : Int64) q0), .second, lv (fMax (-9223372036854775808 : Int64) q0), .second] [] _
      refine own_go (fun t₀ k₀ => XS.lload X20.here hx rfl (Jvm.hb hby at_243) rfl k₀) ?_
      show Gm p e below T20 m 245 #[lv q0, .second, lv q1, .second, lv q2, .second, lv q3, .second, iv p4, iv p5, lv c1, .second, lv c2, .second, lv c3, .second, iv sl, lv z5, .second, rv b12, lv ((0 : Int64) + c1), .second, lv (fMin (9223372036854775807 : Int64) q0), .second, lv (fMax (-9223372036854775808 : Int64) q0), .second] [(.long q2)] _
      refine own_go (fun t₀ k₀ => XS.lload X20.here hx rfl (Jvm.hb hby at_245) rfl k₀) ?_
      show Gm p e below T20 m 247 #[lv q0, .second, lv q1, .second, lv q2, .second, lv q3, .second, iv p4, iv p5, lv c1, .second, lv c2, .second, lv c3, .second, iv sl, lv z5, .second, rv b12, lv ((0 : Int64) + c1), .second, lv (fMin (9223372036854775807 : Int64) q0), .second, lv (fMax (-9223372036854775808 : Int64) q0), .second] [(.long z5), (.long q2)] _
      refine own_go (fun t₀ k₀ => XT.lcmp X20.here hx rfl (Jvm.hb hby at_247) rfl k₀) ?_
      show Gm p e below T20 m 248 #[lv q0, .second, lv q1, .second, lv q2, .second, lv q3, .second, iv p4, iv p5, lv c1, .second, lv c2, .second, lv c3, .second, iv sl, lv z5, .second, rv b12, lv ((0 : Int64) + c1), .second, lv (fMin (9223372036854775807 : Int64) q0), .second, lv (fMax (-9223372036854775808 : Int64) q0), .second] [(.int (XT.cmpL q2 z5))] _
      by_cases c37 : z5 < q2
      · have hfork := trivial
        refine own_go (fun t₀ k₀ => XS.ifNo X20.here hx rfl (Jvm.hb hby at_248) rfl (XT.ll_le_f c37) k₀) ?_
        show Gm p e below T20 m 251 #[lv q0, .second, lv q1, .second, lv q2, .second, lv q3, .second, iv p4, iv p5, lv c1, .second, lv c2, .second, lv c3, .second, iv sl, lv z5, .second, rv b12, lv ((0 : Int64) + c1), .second, lv (fMin (9223372036854775807 : Int64) q0), .second, lv (fMax (-9223372036854775808 : Int64) q0), .second] [] _
        refine own_go (fun t₀ k₀ => XS.lload X20.here hx rfl (Jvm.hb hby at_251) rfl k₀) ?_
        show Gm p e below T20 m 253 #[lv q0, .second, lv q1, .second, lv q2, .second, lv q3, .second, iv p4, iv p5, lv c1, .second, lv c2, .second, lv c3, .second, iv sl, lv z5, .second, rv b12, lv ((0 : Int64) + c1), .second, lv (fMin (9223372036854775807 : Int64) q0), .second, lv (fMax (-9223372036854775808 : Int64) q0), .second] [(.long ((0 : Int64) + c1))] _
        refine own_go (fun t₀ k₀ => XS.lload X20.here hx rfl (Jvm.hb hby at_253) rfl k₀) ?_
        show Gm p e below T20 m 255 #[lv q0, .second, lv q1, .second, lv q2, .second, lv q3, .second, iv p4, iv p5, lv c1, .second, lv c2, .second, lv c3, .second, iv sl, lv z5, .second, rv b12, lv ((0 : Int64) + c1), .second, lv (fMin (9223372036854775807 : Int64) q0), .second, lv (fMax (-9223372036854775808 : Int64) q0), .second] [(.long c3), (.long ((0 : Int64) + c1))] _
        refine own_go (fun t₀ k₀ => XS.ladd X20.here hx rfl (Jvm.hb hby at_255) rfl k₀) ?_
        show Gm p e below T20 m 256 #[lv q0, .second, lv q1, .second, lv q2, .second, lv q3, .second, iv p4, iv p5, lv c1, .second, lv c2, .second, lv c3, .second, iv sl, lv z5, .second, rv b12, lv ((0 : Int64) + c1), .second, lv (fMin (9223372036854775807 : Int64) q0), .second, lv (fMax (-9223372036854775808 : Int64) q0), .second] [(.long (((0 : Int64) + c1) + c3))] _
        refine own_go (fun t₀ k₀ => XS.lstore X20.here hx rfl (Jvm.hb hby at_256) rfl (l' := #[lv q0, .second, lv q1, .second, lv q2, .second, lv q3, .second, iv p4, iv p5, lv c1, .second, lv c2, .second, lv c3, .second, iv sl, lv z5, .second, rv b12, lv (((0 : Int64) + c1) + c3), .second, lv (fMin (9223372036854775807 : Int64) q0), .second, lv (fMax (-9223372036854775808 : Int64) q0), .second]) rfl k₀) ?_
        show Gm p e below T20 m 258 #[lv q0, .second, lv q1, .second, lv q2, .second, lv q3, .second, iv p4, iv p5, lv c1, .second, lv c2, .second, lv c3, .second, iv sl, lv z5, .second, rv b12, lv (((0 : Int64) + c1) + c3), .second, lv (fMin (9223372036854775807 : Int64) q0), .second, lv (fMax (-9223372036854775808 : Int64) q0), .second] [] _
        refine own_go (fun t₀ k₀ => XS.lload X20.here hx rfl (Jvm.hb hby at_258) rfl k₀) ?_
        show Gm p e below T20 m 260 #[lv q0, .second, lv q1, .second, lv q2, .second, lv q3, .second, iv p4, iv p5, lv c1, .second, lv c2, .second, lv c3, .second, iv sl, lv z5, .second, rv b12, lv (((0 : Int64) + c1) + c3), .second, lv (fMin (9223372036854775807 : Int64) q0), .second, lv (fMax (-9223372036854775808 : Int64) q0), .second] [(.long (fMin (9223372036854775807 : Int64) q0))] _
        refine own_go (fun t₀ k₀ => XS.lload X20.here hx rfl (Jvm.hb hby at_260) rfl k₀) ?_
        show Gm p e below T20 m 262 #[lv q0, .second, lv q1, .second, lv q2, .second, lv q3, .second, iv p4, iv p5, lv c1, .second, lv c2, .second, lv c3, .second, iv sl, lv z5, .second, rv b12, lv (((0 : Int64) + c1) + c3), .second, lv (fMin (9223372036854775807 : Int64) q0), .second, lv (fMax (-9223372036854775808 : Int64) q0), .second] [(.long q2), (.long (fMin (9223372036854775807 : Int64) q0))] _
        obtain ⟨_, _, ⟨T38, L38, k38, n38⟩, -, X38, ⟨Lc38, hQ38, l38, y38, z38⟩, st38⟩ := Jvm.LawKit.callS X20 hx (y := (⟨"java/lang/Math", "min", "(JJ)J"⟩ : MethodName)) hown (mvT hZ (hw _ (List.mem_of_getElem? (i := 49) rfl))) (mvT hZ (hw _ (List.mem_of_getElem? (i := 50) rfl))) (mvT hZ (hw _ (List.mem_of_getElem? (i := 31) rfl))) (mvT hZ (hw _ (List.mem_of_getElem? (i := 51) rfl))) (by decide) (backOf (W := 0) (rm8 l Z a0 hw [] (fMin (9223372036854775807 : Int64) q0) q2 T17.heap n0 Z17) hZ (hw _ (List.mem_of_getElem? (i := 51) rfl)) (hw _ (List.mem_of_getElem? (i := 31) rfl)) (by decide) (by decide)) (g := (mkF m 262 #[lv q0, .second, lv q1, .second, lv q2, .second, lv q3, .second, iv p4, iv p5, lv c1, .second, lv c2, .second, lv c3, .second, iv sl, lv z5, .second, rv b12, lv (((0 : Int64) + c1) + c3), .second, lv (fMin (9223372036854775807 : Int64) q0), .second, lv (fMax (-9223372036854775808 : Int64) q0), .second] [(.long q2), (.long (fMin (9223372036854775807 : Int64) q0))])) rfl (by rw [hml]; rfl) (argsL := [(.long (fMin (9223372036854775807 : Int64) q0)), (.long q2)]) (rest := []) (lenOf own_pd5 rfl) rfl (by show 2 * 0 + _ ≤ _; exact Nat.le_of_eq rfl) (Jvm.hb hby at_262) (fun _ _ => ⟨rfl, e20, (by decide : 9 + 0 ≤ _), (by decide : 33 + 0 ≤ _)⟩)
        dsimp only [Pt.U, Pt.locs, Pt.cells, Pt.slots] at X38 l38 y38 z38 st38 hQ38
        subst l38 y38 z38
        obtain ⟨rfl, Nq38, eq38⟩ := hQ38
        have N38 := Fr.app N20 Nq38
        have e38 : T38.heap = T17.heap := eq38
        refine own_go st38 ?_
        show Gm p e below T38 m 265 #[lv q0, .second, lv q1, .second, lv q2, .second, lv q3, .second, iv p4, iv p5, lv c1, .second, lv c2, .second, lv c3, .second, iv sl, lv z5, .second, rv b12, lv (((0 : Int64) + c1) + c3), .second, lv (fMin (9223372036854775807 : Int64) q0), .second, lv (fMax (-9223372036854775808 : Int64) q0), .second] [(.long (fMin (fMin (9223372036854775807 : Int64) q0) q2))] _
        refine own_go (fun t₀ k₀ => XS.lstore X38.here hx rfl (Jvm.hb hby at_265) rfl (l' := #[lv q0, .second, lv q1, .second, lv q2, .second, lv q3, .second, iv p4, iv p5, lv c1, .second, lv c2, .second, lv c3, .second, iv sl, lv z5, .second, rv b12, lv (((0 : Int64) + c1) + c3), .second, lv (fMin (fMin (9223372036854775807 : Int64) q0) q2), .second, lv (fMax (-9223372036854775808 : Int64) q0), .second]) rfl k₀) ?_
        show Gm p e below T38 m 267 #[lv q0, .second, lv q1, .second, lv q2, .second, lv q3, .second, iv p4, iv p5, lv c1, .second, lv c2, .second, lv c3, .second, iv sl, lv z5, .second, rv b12, lv (((0 : Int64) + c1) + c3), .second, lv (fMin (fMin (9223372036854775807 : Int64) q0) q2), .second, lv (fMax (-9223372036854775808 : Int64) q0), .second] [] _
        refine own_go (fun t₀ k₀ => XS.lload X38.here hx rfl (Jvm.hb hby at_267) rfl k₀) ?_
        show Gm p e below T38 m 269 #[lv q0, .second, lv q1, .second, lv q2, .second, lv q3, .second, iv p4, iv p5, lv c1, .second, lv c2, .second, lv c3, .second, iv sl, lv z5, .second, rv b12, lv (((0 : Int64) + c1) + c3), .second, lv (fMin (fMin (9223372036854775807 : Int64) q0) q2), .second, lv (fMax (-9223372036854775808 : Int64) q0), .second] [(.long (fMax (-9223372036854775808 : Int64) q0))] _
        refine own_go (fun t₀ k₀ => XS.lload X38.here hx rfl (Jvm.hb hby at_269) rfl k₀) ?_
        show Gm p e below T38 m 271 #[lv q0, .second, lv q1, .second, lv q2, .second, lv q3, .second, iv p4, iv p5, lv c1, .second, lv c2, .second, lv c3, .second, iv sl, lv z5, .second, rv b12, lv (((0 : Int64) + c1) + c3), .second, lv (fMin (fMin (9223372036854775807 : Int64) q0) q2), .second, lv (fMax (-9223372036854775808 : Int64) q0), .second] [(.long q2), (.long (fMax (-9223372036854775808 : Int64) q0))] _
        obtain ⟨_, _, ⟨T39, L39, k39, n39⟩, -, X39, ⟨Lc39, hQ39, l39, y39, z39⟩, st39⟩ := Jvm.LawKit.callS X38 hx (y := (⟨"java/lang/Math", "max", "(JJ)J"⟩ : MethodName)) hown (mvT hZ (hw _ (List.mem_of_getElem? (i := 52) rfl))) (mvT hZ (hw _ (List.mem_of_getElem? (i := 53) rfl))) (mvT hZ (hw _ (List.mem_of_getElem? (i := 31) rfl))) (mvT hZ (hw _ (List.mem_of_getElem? (i := 54) rfl))) (by decide) (backOf (W := 0) (rm9 l Z a0 hw [] (fMax (-9223372036854775808 : Int64) q0) q2 T17.heap n0 Z17) hZ (hw _ (List.mem_of_getElem? (i := 54) rfl)) (hw _ (List.mem_of_getElem? (i := 31) rfl)) (by decide) (by decide)) (g := (mkF m 271 #[lv q0, .second, lv q1, .second, lv q2, .second, lv q3, .second, iv p4, iv p5, lv c1, .second, lv c2, .second, lv c3, .second, iv sl, lv z5, .second, rv b12, lv (((0 : Int64) + c1) + c3), .second, lv (fMin (fMin (9223372036854775807 : Int64) q0) q2), .second, lv (fMax (-9223372036854775808 : Int64) q0), .second] [(.long q2), (.long (fMax (-9223372036854775808 : Int64) q0))])) rfl (by rw [hml]; rfl) (argsL := [(.long (fMax (-9223372036854775808 : Int64) q0)), (.long q2)]) (rest := []) (lenOf own_pd5 rfl) rfl (by show 2 * 0 + _ ≤ _; exact Nat.le_of_eq rfl) (Jvm.hb hby at_271) (fun _ _ => ⟨rfl, e38, (by decide : 9 + 0 ≤ _), (by decide : 33 + 0 ≤ _)⟩)
        dsimp only [Pt.U, Pt.locs, Pt.cells, Pt.slots] at X39 l39 y39 z39 st39 hQ39
        subst l39 y39 z39
        obtain ⟨rfl, Nq39, eq39⟩ := hQ39
        have N39 := Fr.app N38 Nq39
        have e39 : T39.heap = T17.heap := eq39
        refine own_go st39 ?_
        show Gm p e below T39 m 274 #[lv q0, .second, lv q1, .second, lv q2, .second, lv q3, .second, iv p4, iv p5, lv c1, .second, lv c2, .second, lv c3, .second, iv sl, lv z5, .second, rv b12, lv (((0 : Int64) + c1) + c3), .second, lv (fMin (fMin (9223372036854775807 : Int64) q0) q2), .second, lv (fMax (-9223372036854775808 : Int64) q0), .second] [(.long (fMax (fMax (-9223372036854775808 : Int64) q0) q2))] _
        refine own_go (fun t₀ k₀ => XS.lstore X39.here hx rfl (Jvm.hb hby at_274) rfl (l' := #[lv q0, .second, lv q1, .second, lv q2, .second, lv q3, .second, iv p4, iv p5, lv c1, .second, lv c2, .second, lv c3, .second, iv sl, lv z5, .second, rv b12, lv (((0 : Int64) + c1) + c3), .second, lv (fMin (fMin (9223372036854775807 : Int64) q0) q2), .second, lv (fMax (fMax (-9223372036854775808 : Int64) q0) q2), .second]) rfl k₀) ?_
        show Gm p e below T39 m 276 #[lv q0, .second, lv q1, .second, lv q2, .second, lv q3, .second, iv p4, iv p5, lv c1, .second, lv c2, .second, lv c3, .second, iv sl, lv z5, .second, rv b12, lv (((0 : Int64) + c1) + c3), .second, lv (fMin (fMin (9223372036854775807 : Int64) q0) q2), .second, lv (fMax (fMax (-9223372036854775808 : Int64) q0) q2), .second] [] _
        refine own_go (fun t₀ k₀ => XS.aload X39.here hx rfl (Jvm.hb hby at_276) rfl rfl k₀) ?_
        show Gm p e below T39 m 278 #[lv q0, .second, lv q1, .second, lv q2, .second, lv q3, .second, iv p4, iv p5, lv c1, .second, lv c2, .second, lv c3, .second, iv sl, lv z5, .second, rv b12, lv (((0 : Int64) + c1) + c3), .second, lv (fMin (fMin (9223372036854775807 : Int64) q0) q2), .second, lv (fMax (fMax (-9223372036854775808 : Int64) q0) q2), .second] [(.ref b12)] _
        obtain ⟨cq40, kq40, q40a, q40b, q40c⟩ := isOf hZ e39 HL17.exa
        obtain ⟨_, _, ⟨T40, L40, k40, n40⟩, -, X40, ⟨Lc40, hQ40, l40, y40, z40⟩, st40⟩ := X39.virtualBack hx (y := (⟨"com/example/libbrake/libbrake/AdmissionLog", "permits", "()J"⟩ : MethodName)) (z := (⟨"com/example/libbrake/libbrake/AdmissionLog", "permits", "()J"⟩ : MethodName)) hown (mvT hZ (hw _ (List.mem_of_getElem? (i := 44) rfl))) (mvT hZ (hw _ (List.mem_of_getElem? (i := 45) rfl))) (notFace_of_selects (args := #[]) (mvT hZ (hw _ (List.mem_of_getElem? (i := 47) rfl)))) (mvT hZ (hw _ (List.mem_of_getElem? (i := 47) rfl))) (mvT hZ (hw _ (List.mem_of_getElem? (i := 46) rfl))) (by decide) (backOf (W := 0) (rm7 l Z a0 hw [] b12 (pr z5 (ins q2 c3 (ins q1 c2 [(q0, c1)])) ((((0 : Int64) + c1) + c2) + c3)) T17.heap n0 Z17 HL17.per) hZ (hw _ (List.mem_of_getElem? (i := 48) rfl)) (hw _ (List.mem_of_getElem? (i := 2) rfl)) (by decide) (by decide)) q40a q40c (g := (mkF m 278 #[lv q0, .second, lv q1, .second, lv q2, .second, lv q3, .second, iv p4, iv p5, lv c1, .second, lv c2, .second, lv c3, .second, iv sl, lv z5, .second, rv b12, lv (((0 : Int64) + c1) + c3), .second, lv (fMin (fMin (9223372036854775807 : Int64) q0) q2), .second, lv (fMax (fMax (-9223372036854775808 : Int64) q0) q2), .second] [(.ref b12)])) rfl (by rw [hml]; rfl) (Steps.refl _) (argsL := []) (rest := []) (lenOf own_pd6 rfl) rfl (by show 2 * 0 + _ ≤ _; exact Nat.le_of_eq rfl) (Jvm.hb hby at_278) (fun _ _ => ⟨rfl, e39, (by decide : 9 + 0 ≤ _), (by decide : 33 + 0 ≤ _)⟩)
        dsimp only [Pt.U, Pt.locs, Pt.cells, Pt.slots] at X40 l40 y40 z40 st40 hQ40
        subst l40 y40 z40
        obtain ⟨rfl, Nq40, eq40⟩ := hQ40
        have N40 := Fr.app N39 Nq40
        have e40 : T40.heap = T17.heap := eq40
        refine own_go (fun t k => st40.trans k) ?_
        show Gm p e below T40 m 281 #[lv q0, .second, lv q1, .second, lv q2, .second, lv q3, .second, iv p4, iv p5, lv c1, .second, lv c2, .second, lv c3, .second, iv sl, lv z5, .second, rv b12, lv (((0 : Int64) + c1) + c3), .second, lv (fMin (fMin (9223372036854775807 : Int64) q0) q2), .second, lv (fMax (fMax (-9223372036854775808 : Int64) q0) q2), .second] [(.long (pr z5 (ins q2 c3 (ins q1 c2 [(q0, c1)])) ((((0 : Int64) + c1) + c2) + c3)))] _
        refine own_go (fun t₀ k₀ => XS.lload X40.here hx rfl (Jvm.hb hby at_281) rfl k₀) ?_
        show Gm p e below T40 m 283 #[lv q0, .second, lv q1, .second, lv q2, .second, lv q3, .second, iv p4, iv p5, lv c1, .second, lv c2, .second, lv c3, .second, iv sl, lv z5, .second, rv b12, lv (((0 : Int64) + c1) + c3), .second, lv (fMin (fMin (9223372036854775807 : Int64) q0) q2), .second, lv (fMax (fMax (-9223372036854775808 : Int64) q0) q2), .second] [(.long (((0 : Int64) + c1) + c3)), (.long (pr z5 (ins q2 c3 (ins q1 c2 [(q0, c1)])) ((((0 : Int64) + c1) + c2) + c3)))] _
        refine own_go (fun t₀ k₀ => XT.lcmp X40.here hx rfl (Jvm.hb hby at_283) rfl k₀) ?_
        show Gm p e below T40 m 284 #[lv q0, .second, lv q1, .second, lv q2, .second, lv q3, .second, iv p4, iv p5, lv c1, .second, lv c2, .second, lv c3, .second, iv sl, lv z5, .second, rv b12, lv (((0 : Int64) + c1) + c3), .second, lv (fMin (fMin (9223372036854775807 : Int64) q0) q2), .second, lv (fMax (fMax (-9223372036854775808 : Int64) q0) q2), .second] [(.int (XT.cmpL (pr z5 (ins q2 c3 (ins q1 c2 [(q0, c1)])) ((((0 : Int64) + c1) + c2) + c3)) (((0 : Int64) + c1) + c3)))] _
        have hex41 : (((0 : Int64) + c1) + c3) = (eX z5 q0 c1 + eX z5 q1 c2) + eX z5 q2 c3 := by unfold eX; rw [if_pos c18, if_neg c21, if_pos c37]; try simp only [Int64.zero_add, Int64.add_zero]
        refine own_go (fun t₀ k₀ => XS.ifYes X40.here hx rfl (pc0 := 284) (pc' := 289) rfl (Jvm.hb hby at_284) rfl (XT.ll_eq_t (own_perm2 hc1 hc2 hc3 hex41)) (by decide) (by decide) k₀) ?_
        show Gm p e below T40 m 289 #[lv q0, .second, lv q1, .second, lv q2, .second, lv q3, .second, iv p4, iv p5, lv c1, .second, lv c2, .second, lv c3, .second, iv sl, lv z5, .second, rv b12, lv (((0 : Int64) + c1) + c3), .second, lv (fMin (fMin (9223372036854775807 : Int64) q0) q2), .second, lv (fMax (fMax (-9223372036854775808 : Int64) q0) q2), .second] [] _
        refine own_go (fun t₀ k₀ => XS.lload X40.here hx rfl (Jvm.hb hby at_289) rfl k₀) ?_
        show Gm p e below T40 m 291 #[lv q0, .second, lv q1, .second, lv q2, .second, lv q3, .second, iv p4, iv p5, lv c1, .second, lv c2, .second, lv c3, .second, iv sl, lv z5, .second, rv b12, lv (((0 : Int64) + c1) + c3), .second, lv (fMin (fMin (9223372036854775807 : Int64) q0) q2), .second, lv (fMax (fMax (-9223372036854775808 : Int64) q0) q2), .second] [(.long (((0 : Int64) + c1) + c3))] _
        refine own_go (fun t₀ k₀ => XS.lconst X40.here hx rfl (Jvm.hb hby at_291) k₀) ?_
        show Gm p e below T40 m 292 #[lv q0, .second, lv q1, .second, lv q2, .second, lv q3, .second, iv p4, iv p5, lv c1, .second, lv c2, .second, lv c3, .second, iv sl, lv z5, .second, rv b12, lv (((0 : Int64) + c1) + c3), .second, lv (fMin (fMin (9223372036854775807 : Int64) q0) q2), .second, lv (fMax (fMax (-9223372036854775808 : Int64) q0) q2), .second] [(.long (0 : Int64)), (.long (((0 : Int64) + c1) + c3))] _
        refine own_go (fun t₀ k₀ => XT.lcmp X40.here hx rfl (Jvm.hb hby at_292) rfl k₀) ?_
        show Gm p e below T40 m 293 #[lv q0, .second, lv q1, .second, lv q2, .second, lv q3, .second, iv p4, iv p5, lv c1, .second, lv c2, .second, lv c3, .second, iv sl, lv z5, .second, rv b12, lv (((0 : Int64) + c1) + c3), .second, lv (fMin (fMin (9223372036854775807 : Int64) q0) q2), .second, lv (fMax (fMax (-9223372036854775808 : Int64) q0) q2), .second] [(.int (XT.cmpL (((0 : Int64) + c1) + c3) (0 : Int64)))] _
        by_cases c42 : (((0 : Int64) + c1) + c3) = (0 : Int64)
        · have hfork := trivial
          refine own_go (fun t₀ k₀ => XS.ifNo X40.here hx rfl (Jvm.hb hby at_293) rfl (XT.ll_ne_f c42) k₀) ?_
          show Gm p e below T40 m 296 #[lv q0, .second, lv q1, .second, lv q2, .second, lv q3, .second, iv p4, iv p5, lv c1, .second, lv c2, .second, lv c3, .second, iv sl, lv z5, .second, rv b12, lv (((0 : Int64) + c1) + c3), .second, lv (fMin (fMin (9223372036854775807 : Int64) q0) q2), .second, lv (fMax (fMax (-9223372036854775808 : Int64) q0) q2), .second] [] _
          refine own_go (fun t₀ k₀ => XS.iconst X40.here hx rfl (Jvm.hb hby at_296) k₀) ?_
          show Gm p e below T40 m 297 #[lv q0, .second, lv q1, .second, lv q2, .second, lv q3, .second, iv p4, iv p5, lv c1, .second, lv c2, .second, lv c3, .second, iv sl, lv z5, .second, rv b12, lv (((0 : Int64) + c1) + c3), .second, lv (fMin (fMin (9223372036854775807 : Int64) q0) q2), .second, lv (fMax (fMax (-9223372036854775808 : Int64) q0) q2), .second] [(.int (1 : Int32))] _
          exact own_retI X40 hx hlk (t := .boolean) Bd.returns rfl (by simp) (Jvm.hb hby at_297) e40 ⟨rfl, N40⟩ (by decide) (by decide)
        · have hfork := trivial
          refine own_go (fun t₀ k₀ => XS.ifYes X40.here hx rfl (pc0 := 293) (pc' := 298) rfl (Jvm.hb hby at_293) rfl (XT.ll_ne_t c42) (by decide) (by decide) k₀) ?_
          show Gm p e below T40 m 298 #[lv q0, .second, lv q1, .second, lv q2, .second, lv q3, .second, iv p4, iv p5, lv c1, .second, lv c2, .second, lv c3, .second, iv sl, lv z5, .second, rv b12, lv (((0 : Int64) + c1) + c3), .second, lv (fMin (fMin (9223372036854775807 : Int64) q0) q2), .second, lv (fMax (fMax (-9223372036854775808 : Int64) q0) q2), .second] [] _
          refine own_go (fun t₀ k₀ => XS.aload X40.here hx rfl (Jvm.hb hby at_298) rfl rfl k₀) ?_
          show Gm p e below T40 m 300 #[lv q0, .second, lv q1, .second, lv q2, .second, lv q3, .second, iv p4, iv p5, lv c1, .second, lv c2, .second, lv c3, .second, iv sl, lv z5, .second, rv b12, lv (((0 : Int64) + c1) + c3), .second, lv (fMin (fMin (9223372036854775807 : Int64) q0) q2), .second, lv (fMax (fMax (-9223372036854775808 : Int64) q0) q2), .second] [(.ref b12)] _
          refine own_go (fun t₀ k₀ => XS.lconst X40.here hx rfl (Jvm.hb hby at_300) k₀) ?_
          show Gm p e below T40 m 301 #[lv q0, .second, lv q1, .second, lv q2, .second, lv q3, .second, iv p4, iv p5, lv c1, .second, lv c2, .second, lv c3, .second, iv sl, lv z5, .second, rv b12, lv (((0 : Int64) + c1) + c3), .second, lv (fMin (fMin (9223372036854775807 : Int64) q0) q2), .second, lv (fMax (fMax (-9223372036854775808 : Int64) q0) q2), .second] [(.long (0 : Int64)), (.ref b12)] _
          obtain ⟨cq43, kq43, q43a, q43b, q43c⟩ := isOf hZ e40 HL17.exa
          obtain ⟨_, _, ⟨T43, L43, k43, n43⟩, -, X43, ⟨Lc43, hQ43, l43, y43, z43⟩, st43⟩ := X40.virtualBack hx (y := (⟨"com/example/libbrake/libbrake/AdmissionLog", "timeOf", "(J)J"⟩ : MethodName)) (z := (⟨"com/example/libbrake/libbrake/AdmissionLog", "timeOf", "(J)J"⟩ : MethodName)) hown (mvT hZ (hw _ (List.mem_of_getElem? (i := 55) rfl))) (mvT hZ (hw _ (List.mem_of_getElem? (i := 56) rfl))) (notFace_of_selects (args := #[]) (mvT hZ (hw _ (List.mem_of_getElem? (i := 58) rfl)))) (mvT hZ (hw _ (List.mem_of_getElem? (i := 58) rfl))) (mvT hZ (hw _ (List.mem_of_getElem? (i := 57) rfl))) (by decide) (backOf (W := 0) (rmT l Z a0 hw [] b12 (0 : Int64) NK16 s17 (dr z5 (ins q2 c3 (ins q1 c2 [(q0, c1)]))) (pr z5 (ins q2 c3 (ins q1 c2 [(q0, c1)])) ((((0 : Int64) + c1) + c2) + c3)) T17.heap n0 Z17 HL17 ⟨(own_ne2 hc1 hc2 hc3 hex41 c42).1, by rw [hsl17]; exact (own_len3 _ _ _ _ _ _).2⟩ (own_lt2 hc1 hc2 hc3 hex41 (by rw [(by decide : (0 : Int64).toInt = 0)]; exact (own_ne2 hc1 hc2 hc3 hex41 c42).2.1))) hZ (hw _ (List.mem_of_getElem? (i := 59) rfl)) (hw _ (List.mem_of_getElem? (i := 2) rfl)) (by decide) (by decide)) q43a q43c (g := (mkF m 301 #[lv q0, .second, lv q1, .second, lv q2, .second, lv q3, .second, iv p4, iv p5, lv c1, .second, lv c2, .second, lv c3, .second, iv sl, lv z5, .second, rv b12, lv (((0 : Int64) + c1) + c3), .second, lv (fMin (fMin (9223372036854775807 : Int64) q0) q2), .second, lv (fMax (fMax (-9223372036854775808 : Int64) q0) q2), .second] [(.long (0 : Int64)), (.ref b12)])) rfl (by rw [hml]; rfl) (Steps.refl _) (argsL := [(.long (0 : Int64))]) (rest := []) (lenOf own_pd7 rfl) rfl (by show 2 * 0 + _ ≤ _; exact Nat.le_of_eq rfl) (Jvm.hb hby at_301) (fun _ _ => ⟨rfl, e40, (by decide : 9 + 0 ≤ _), (by decide : 33 + 0 ≤ _)⟩)
          dsimp only [Pt.U, Pt.locs, Pt.cells, Pt.slots] at X43 l43 y43 z43 st43 hQ43
          subst l43 y43 z43
          obtain ⟨rfl, Nq43, eq43⟩ := hQ43
          have N43 := Fr.app N40 Nq43
          have e43 : T43.heap = T17.heap := eq43
          refine own_go (fun t k => st43.trans k) ?_
          show Gm p e below T43 m 304 #[lv q0, .second, lv q1, .second, lv q2, .second, lv q3, .second, iv p4, iv p5, lv c1, .second, lv c2, .second, lv c3, .second, iv sl, lv z5, .second, rv b12, lv (((0 : Int64) + c1) + c3), .second, lv (fMin (fMin (9223372036854775807 : Int64) q0) q2), .second, lv (fMax (fMax (-9223372036854775808 : Int64) q0) q2), .second] [(.long (tOf (0 : Int64) (dr z5 (ins q2 c3 (ins q1 c2 [(q0, c1)])))))] _
          refine own_go (fun t₀ k₀ => XS.lload X43.here hx rfl (Jvm.hb hby at_304) rfl k₀) ?_
          show Gm p e below T43 m 306 #[lv q0, .second, lv q1, .second, lv q2, .second, lv q3, .second, iv p4, iv p5, lv c1, .second, lv c2, .second, lv c3, .second, iv sl, lv z5, .second, rv b12, lv (((0 : Int64) + c1) + c3), .second, lv (fMin (fMin (9223372036854775807 : Int64) q0) q2), .second, lv (fMax (fMax (-9223372036854775808 : Int64) q0) q2), .second] [(.long (fMin (fMin (9223372036854775807 : Int64) q0) q2)), (.long (tOf (0 : Int64) (dr z5 (ins q2 c3 (ins q1 c2 [(q0, c1)])))))] _
          refine own_go (fun t₀ k₀ => XT.lcmp X43.here hx rfl (Jvm.hb hby at_306) rfl k₀) ?_
          show Gm p e below T43 m 307 #[lv q0, .second, lv q1, .second, lv q2, .second, lv q3, .second, iv p4, iv p5, lv c1, .second, lv c2, .second, lv c3, .second, iv sl, lv z5, .second, rv b12, lv (((0 : Int64) + c1) + c3), .second, lv (fMin (fMin (9223372036854775807 : Int64) q0) q2), .second, lv (fMax (fMax (-9223372036854775808 : Int64) q0) q2), .second] [(.int (XT.cmpL (tOf (0 : Int64) (dr z5 (ins q2 c3 (ins q1 c2 [(q0, c1)])))) (fMin (fMin (9223372036854775807 : Int64) q0) q2)))] _
          refine own_go (fun t₀ k₀ => XS.ifNo X43.here hx rfl (Jvm.hb hby at_307) rfl (XT.ll_ne_f (own_lo hc1 hc2 hc3 hex41 c42 (by unfold loF; rw [if_pos c18, if_neg c21, if_pos c37]))) k₀) ?_
          show Gm p e below T43 m 310 #[lv q0, .second, lv q1, .second, lv q2, .second, lv q3, .second, iv p4, iv p5, lv c1, .second, lv c2, .second, lv c3, .second, iv sl, lv z5, .second, rv b12, lv (((0 : Int64) + c1) + c3), .second, lv (fMin (fMin (9223372036854775807 : Int64) q0) q2), .second, lv (fMax (fMax (-9223372036854775808 : Int64) q0) q2), .second] [] _
          refine own_go (fun t₀ k₀ => XS.aload X43.here hx rfl (Jvm.hb hby at_310) rfl rfl k₀) ?_
          show Gm p e below T43 m 312 #[lv q0, .second, lv q1, .second, lv q2, .second, lv q3, .second, iv p4, iv p5, lv c1, .second, lv c2, .second, lv c3, .second, iv sl, lv z5, .second, rv b12, lv (((0 : Int64) + c1) + c3), .second, lv (fMin (fMin (9223372036854775807 : Int64) q0) q2), .second, lv (fMax (fMax (-9223372036854775808 : Int64) q0) q2), .second] [(.ref b12)] _
          refine own_go (fun t₀ k₀ => XS.lload X43.here hx rfl (Jvm.hb hby at_312) rfl k₀) ?_
          show Gm p e below T43 m 314 #[lv q0, .second, lv q1, .second, lv q2, .second, lv q3, .second, iv p4, iv p5, lv c1, .second, lv c2, .second, lv c3, .second, iv sl, lv z5, .second, rv b12, lv (((0 : Int64) + c1) + c3), .second, lv (fMin (fMin (9223372036854775807 : Int64) q0) q2), .second, lv (fMax (fMax (-9223372036854775808 : Int64) q0) q2), .second] [(.long (((0 : Int64) + c1) + c3)), (.ref b12)] _
          refine own_go (fun t₀ k₀ => XS.lconst X43.here hx rfl (Jvm.hb hby at_314) k₀) ?_
          show Gm p e below T43 m 315 #[lv q0, .second, lv q1, .second, lv q2, .second, lv q3, .second, iv p4, iv p5, lv c1, .second, lv c2, .second, lv c3, .second, iv sl, lv z5, .second, rv b12, lv (((0 : Int64) + c1) + c3), .second, lv (fMin (fMin (9223372036854775807 : Int64) q0) q2), .second, lv (fMax (fMax (-9223372036854775808 : Int64) q0) q2), .second] [(.long (1 : Int64)), (.long (((0 : Int64) + c1) + c3)), (.ref b12)] _
          refine own_go (fun t₀ k₀ => XS.lsub X43.here hx rfl (Jvm.hb hby at_315) rfl k₀) ?_
          show Gm p e below T43 m 316 #[lv q0, .second, lv q1, .second, lv q2, .second, lv q3, .second, iv p4, iv p5, lv c1, .second, lv c2, .second, lv c3, .second, iv sl, lv z5, .second, rv b12, lv (((0 : Int64) + c1) + c3), .second, lv (fMin (fMin (9223372036854775807 : Int64) q0) q2), .second, lv (fMax (fMax (-9223372036854775808 : Int64) q0) q2), .second] [(.long ((((0 : Int64) + c1) + c3) - (1 : Int64))), (.ref b12)] _
          obtain ⟨cq44, kq44, q44a, q44b, q44c⟩ := isOf hZ e43 HL17.exa
          obtain ⟨_, _, ⟨T44, L44, k44, n44⟩, -, X44, ⟨Lc44, hQ44, l44, y44, z44⟩, st44⟩ := X43.virtualBack hx (y := (⟨"com/example/libbrake/libbrake/AdmissionLog", "timeOf", "(J)J"⟩ : MethodName)) (z := (⟨"com/example/libbrake/libbrake/AdmissionLog", "timeOf", "(J)J"⟩ : MethodName)) hown (mvT hZ (hw _ (List.mem_of_getElem? (i := 55) rfl))) (mvT hZ (hw _ (List.mem_of_getElem? (i := 56) rfl))) (notFace_of_selects (args := #[]) (mvT hZ (hw _ (List.mem_of_getElem? (i := 58) rfl)))) (mvT hZ (hw _ (List.mem_of_getElem? (i := 58) rfl))) (mvT hZ (hw _ (List.mem_of_getElem? (i := 57) rfl))) (by decide) (backOf (W := 0) (rmT l Z a0 hw [] b12 ((((0 : Int64) + c1) + c3) - (1 : Int64)) NK16 s17 (dr z5 (ins q2 c3 (ins q1 c2 [(q0, c1)]))) (pr z5 (ins q2 c3 (ins q1 c2 [(q0, c1)])) ((((0 : Int64) + c1) + c2) + c3)) T17.heap n0 Z17 HL17 ⟨(own_ne2 hc1 hc2 hc3 hex41 c42).1, by rw [hsl17]; exact (own_len3 _ _ _ _ _ _).2⟩ (own_lt2 hc1 hc2 hc3 hex41 (by rw [ex1 hc1 hc2 hc3 hex41 c42]; omega))) hZ (hw _ (List.mem_of_getElem? (i := 59) rfl)) (hw _ (List.mem_of_getElem? (i := 2) rfl)) (by decide) (by decide)) q44a q44c (g := (mkF m 316 #[lv q0, .second, lv q1, .second, lv q2, .second, lv q3, .second, iv p4, iv p5, lv c1, .second, lv c2, .second, lv c3, .second, iv sl, lv z5, .second, rv b12, lv (((0 : Int64) + c1) + c3), .second, lv (fMin (fMin (9223372036854775807 : Int64) q0) q2), .second, lv (fMax (fMax (-9223372036854775808 : Int64) q0) q2), .second] [(.long ((((0 : Int64) + c1) + c3) - (1 : Int64))), (.ref b12)])) rfl (by rw [hml]; rfl) (Steps.refl _) (argsL := [(.long ((((0 : Int64) + c1) + c3) - (1 : Int64)))]) (rest := []) (lenOf own_pd7 rfl) rfl (by show 2 * 0 + _ ≤ _; exact Nat.le_of_eq rfl) (Jvm.hb hby at_316) (fun _ _ => ⟨rfl, e43, (by decide : 9 + 0 ≤ _), (by decide : 33 + 0 ≤ _)⟩)
          dsimp only [Pt.U, Pt.locs, Pt.cells, Pt.slots] at X44 l44 y44 z44 st44 hQ44
          subst l44 y44 z44
          obtain ⟨rfl, Nq44, eq44⟩ := hQ44
          have N44 := Fr.app N43 Nq44
          have e44 : T44.heap = T17.heap := eq44
          refine own_go (fun t k => st44.trans k) ?_
          show Gm p e below T44 m 319 #[lv q0, .second, lv q1, .second, lv q2, .second, lv q3, .second, iv p4, iv p5, lv c1, .second, lv c2, .second, lv c3, .second, iv sl, lv z5, .second, rv b12, lv (((0 : Int64) + c1) + c3), .second, lv (fMin (fMin (9223372036854775807 : Int64) q0) q2), .second, lv (fMax (fMax (-9223372036854775808 : Int64) q0) q2), .second] [(.long (tOf ((((0 : Int64) + c1) + c3) - (1 : Int64)) (dr z5 (ins q2 c3 (ins q1 c2 [(q0, c1)])))))] _
          refine own_go (fun t₀ k₀ => XS.lload X44.here hx rfl (Jvm.hb hby at_319) rfl k₀) ?_
          show Gm p e below T44 m 321 #[lv q0, .second, lv q1, .second, lv q2, .second, lv q3, .second, iv p4, iv p5, lv c1, .second, lv c2, .second, lv c3, .second, iv sl, lv z5, .second, rv b12, lv (((0 : Int64) + c1) + c3), .second, lv (fMin (fMin (9223372036854775807 : Int64) q0) q2), .second, lv (fMax (fMax (-9223372036854775808 : Int64) q0) q2), .second] [(.long (fMax (fMax (-9223372036854775808 : Int64) q0) q2)), (.long (tOf ((((0 : Int64) + c1) + c3) - (1 : Int64)) (dr z5 (ins q2 c3 (ins q1 c2 [(q0, c1)])))))] _
          refine own_go (fun t₀ k₀ => XT.lcmp X44.here hx rfl (Jvm.hb hby at_321) rfl k₀) ?_
          show Gm p e below T44 m 322 #[lv q0, .second, lv q1, .second, lv q2, .second, lv q3, .second, iv p4, iv p5, lv c1, .second, lv c2, .second, lv c3, .second, iv sl, lv z5, .second, rv b12, lv (((0 : Int64) + c1) + c3), .second, lv (fMin (fMin (9223372036854775807 : Int64) q0) q2), .second, lv (fMax (fMax (-9223372036854775808 : Int64) q0) q2), .second] [(.int (XT.cmpL (tOf ((((0 : Int64) + c1) + c3) - (1 : Int64)) (dr z5 (ins q2 c3 (ins q1 c2 [(q0, c1)])))) (fMax (fMax (-9223372036854775808 : Int64) q0) q2)))] _
          refine own_go (fun t₀ k₀ => XS.ifNo X44.here hx rfl (Jvm.hb hby at_322) rfl (XT.ll_ne_f (own_hi hc1 hc2 hc3 hex41 c42 (by unfold hiF; rw [if_pos c18, if_neg c21, if_pos c37]))) k₀) ?_
          show Gm p e below T44 m 325 #[lv q0, .second, lv q1, .second, lv q2, .second, lv q3, .second, iv p4, iv p5, lv c1, .second, lv c2, .second, lv c3, .second, iv sl, lv z5, .second, rv b12, lv (((0 : Int64) + c1) + c3), .second, lv (fMin (fMin (9223372036854775807 : Int64) q0) q2), .second, lv (fMax (fMax (-9223372036854775808 : Int64) q0) q2), .second] [] _
          refine own_go (fun t₀ k₀ => XS.iconst X44.here hx rfl (Jvm.hb hby at_325) k₀) ?_
          show Gm p e below T44 m 326 #[lv q0, .second, lv q1, .second, lv q2, .second, lv q3, .second, iv p4, iv p5, lv c1, .second, lv c2, .second, lv c3, .second, iv sl, lv z5, .second, rv b12, lv (((0 : Int64) + c1) + c3), .second, lv (fMin (fMin (9223372036854775807 : Int64) q0) q2), .second, lv (fMax (fMax (-9223372036854775808 : Int64) q0) q2), .second] [(.int (1 : Int32))] _
          refine own_go (fun t₀ k₀ => XS.goto X44.here hx rfl (pc0 := 326) (pc' := 330) rfl (Jvm.hb hby at_326) (by decide) (by decide) k₀) ?_
          show Gm p e below T44 m 330 #[lv q0, .second, lv q1, .second, lv q2, .second, lv q3, .second, iv p4, iv p5, lv c1, .second, lv c2, .second, lv c3, .second, iv sl, lv z5, .second, rv b12, lv (((0 : Int64) + c1) + c3), .second, lv (fMin (fMin (9223372036854775807 : Int64) q0) q2), .second, lv (fMax (fMax (-9223372036854775808 : Int64) q0) q2), .second] [(.int (1 : Int32))] _
          exact own_retI X44 hx hlk (t := .boolean) Bd.returns rfl (by simp) (Jvm.hb hby at_330) e44 ⟨rfl, N44⟩ (by decide) (by decide)
      · have hfork := trivial
        refine own_go (fun t₀ k₀ => XS.ifYes X20.here hx rfl (pc0 := 248) (pc' := 276) rfl (Jvm.hb hby at_248) rfl (XT.ll_le_t c37) (by decide) (by decide) k₀) ?_
        show Gm p e below T20 m 276 #[lv q0, .second, lv q1, .second, lv q2, .second, lv q3, .second, iv p4, iv p5, lv c1, .second, lv c2, .second, lv c3, .second, iv sl, lv z5, .second, rv b12, lv ((0 : Int64) + c1), .second, lv (fMin (9223372036854775807 : Int64) q0), .second, lv (fMax (-9223372036854775808 : Int64) q0), .second] [] _
        refine own_go (fun t₀ k₀ => XS.aload X20.here hx rfl (Jvm.hb hby at_276) rfl rfl k₀) ?_
        show Gm p e below T20 m 278 #[lv q0, .second, lv q1, .second, lv q2, .second, lv q3, .second, iv p4, iv p5, lv c1, .second, lv c2, .second, lv c3, .second, iv sl, lv z5, .second, rv b12, lv ((0 : Int64) + c1), .second, lv (fMin (9223372036854775807 : Int64) q0), .second, lv (fMax (-9223372036854775808 : Int64) q0), .second] [(.ref b12)] _
        obtain ⟨cq45, kq45, q45a, q45b, q45c⟩ := isOf hZ e20 HL17.exa
        obtain ⟨_, _, ⟨T45, L45, k45, n45⟩, -, X45, ⟨Lc45, hQ45, l45, y45, z45⟩, st45⟩ := X20.virtualBack hx (y := (⟨"com/example/libbrake/libbrake/AdmissionLog", "permits", "()J"⟩ : MethodName)) (z := (⟨"com/example/libbrake/libbrake/AdmissionLog", "permits", "()J"⟩ : MethodName)) hown (mvT hZ (hw _ (List.mem_of_getElem? (i := 44) rfl))) (mvT hZ (hw _ (List.mem_of_getElem? (i := 45) rfl))) (notFace_of_selects (args := #[]) (mvT hZ (hw _ (List.mem_of_getElem? (i := 47) rfl)))) (mvT hZ (hw _ (List.mem_of_getElem? (i := 47) rfl))) (mvT hZ (hw _ (List.mem_of_getElem? (i := 46) rfl))) (by decide) (backOf (W := 0) (rm7 l Z a0 hw [] b12 (pr z5 (ins q2 c3 (ins q1 c2 [(q0, c1)])) ((((0 : Int64) + c1) + c2) + c3)) T17.heap n0 Z17 HL17.per) hZ (hw _ (List.mem_of_getElem? (i := 48) rfl)) (hw _ (List.mem_of_getElem? (i := 2) rfl)) (by decide) (by decide)) q45a q45c (g := (mkF m 278 #[lv q0, .second, lv q1, .second, lv q2, .second, lv q3, .second, iv p4, iv p5, lv c1, .second, lv c2, .second, lv c3, .second, iv sl, lv z5, .second, rv b12, lv ((0 : Int64) + c1), .second, lv (fMin (9223372036854775807 : Int64) q0), .second, lv (fMax (-9223372036854775808 : Int64) q0), .second] [(.ref b12)])) rfl (by rw [hml]; rfl) (Steps.refl _) (argsL := []) (rest := []) (lenOf own_pd6 rfl) rfl (by show 2 * 0 + _ ≤ _; exact Nat.le_of_eq rfl) (Jvm.hb hby at_278) (fun _ _ => ⟨rfl, e20, (by decide : 9 + 0 ≤ _), (by decide : 33 + 0 ≤ _)⟩)
        dsimp only [Pt.U, Pt.locs, Pt.cells, Pt.slots] at X45 l45 y45 z45 st45 hQ45
        subst l45 y45 z45
        obtain ⟨rfl, Nq45, eq45⟩ := hQ45
        have N45 := Fr.app N20 Nq45
        have e45 : T45.heap = T17.heap := eq45
        refine own_go (fun t k => st45.trans k) ?_
        show Gm p e below T45 m 281 #[lv q0, .second, lv q1, .second, lv q2, .second, lv q3, .second, iv p4, iv p5, lv c1, .second, lv c2, .second, lv c3, .second, iv sl, lv z5, .second, rv b12, lv ((0 : Int64) + c1), .second, lv (fMin (9223372036854775807 : Int64) q0), .second, lv (fMax (-9223372036854775808 : Int64) q0), .second] [(.long (pr z5 (ins q2 c3 (ins q1 c2 [(q0, c1)])) ((((0 : Int64) + c1) + c2) + c3)))] _
        refine own_go (fun t₀ k₀ => XS.lload X45.here hx rfl (Jvm.hb hby at_281) rfl k₀) ?_
        show Gm p e below T45 m 283 #[lv q0, .second, lv q1, .second, lv q2, .second, lv q3, .second, iv p4, iv p5, lv c1, .second, lv c2, .second, lv c3, .second, iv sl, lv z5, .second, rv b12, lv ((0 : Int64) + c1), .second, lv (fMin (9223372036854775807 : Int64) q0), .second, lv (fMax (-9223372036854775808 : Int64) q0), .second] [(.long ((0 : Int64) + c1)), (.long (pr z5 (ins q2 c3 (ins q1 c2 [(q0, c1)])) ((((0 : Int64) + c1) + c2) + c3)))] _
        refine own_go (fun t₀ k₀ => XT.lcmp X45.here hx rfl (Jvm.hb hby at_283) rfl k₀) ?_
        show Gm p e below T45 m 284 #[lv q0, .second, lv q1, .second, lv q2, .second, lv q3, .second, iv p4, iv p5, lv c1, .second, lv c2, .second, lv c3, .second, iv sl, lv z5, .second, rv b12, lv ((0 : Int64) + c1), .second, lv (fMin (9223372036854775807 : Int64) q0), .second, lv (fMax (-9223372036854775808 : Int64) q0), .second] [(.int (XT.cmpL (pr z5 (ins q2 c3 (ins q1 c2 [(q0, c1)])) ((((0 : Int64) + c1) + c2) + c3)) ((0 : Int64) + c1)))] _
        have hex46 : ((0 : Int64) + c1) = (eX z5 q0 c1 + eX z5 q1 c2) + eX z5 q2 c3 := by unfold eX; rw [if_pos c18, if_neg c21, if_neg c37]; try simp only [Int64.zero_add, Int64.add_zero]
        refine own_go (fun t₀ k₀ => XS.ifYes X45.here hx rfl (pc0 := 284) (pc' := 289) rfl (Jvm.hb hby at_284) rfl (XT.ll_eq_t (own_perm2 hc1 hc2 hc3 hex46)) (by decide) (by decide) k₀) ?_
        show Gm p e below T45 m 289 #[lv q0, .second, lv q1, .second, lv q2, .second, lv q3, .second, iv p4, iv p5, lv c1, .second, lv c2, .second, lv c3, .second, iv sl, lv z5, .second, rv b12, lv ((0 : Int64) + c1), .second, lv (fMin (9223372036854775807 : Int64) q0), .second, lv (fMax (-9223372036854775808 : Int64) q0), .second] [] _
        refine own_go (fun t₀ k₀ => XS.lload X45.here hx rfl (Jvm.hb hby at_289) rfl k₀) ?_
        show Gm p e below T45 m 291 #[lv q0, .second, lv q1, .second, lv q2, .second, lv q3, .second, iv p4, iv p5, lv c1, .second, lv c2, .second, lv c3, .second, iv sl, lv z5, .second, rv b12, lv ((0 : Int64) + c1), .second, lv (fMin (9223372036854775807 : Int64) q0), .second, lv (fMax (-9223372036854775808 : Int64) q0), .second] [(.long ((0 : Int64) + c1))] _
        refine own_go (fun t₀ k₀ => XS.lconst X45.here hx rfl (Jvm.hb hby at_291) k₀) ?_
        show Gm p e below T45 m 292 #[lv q0, .second, lv q1, .second, lv q2, .second, lv q3, .second, iv p4, iv p5, lv c1, .second, lv c2, .second, lv c3, .second, iv sl, lv z5, .second, rv b12, lv ((0 : Int64) + c1), .second, lv (fMin (9223372036854775807 : Int64) q0), .second, lv (fMax (-9223372036854775808 : Int64) q0), .second] [(.long (0 : Int64)), (.long ((0 : Int64) + c1))] _
        refine own_go (fun t₀ k₀ => XT.lcmp X45.here hx rfl (Jvm.hb hby at_292) rfl k₀) ?_
        show Gm p e below T45 m 293 #[lv q0, .second, lv q1, .second, lv q2, .second, lv q3, .second, iv p4, iv p5, lv c1, .second, lv c2, .second, lv c3, .second, iv sl, lv z5, .second, rv b12, lv ((0 : Int64) + c1), .second, lv (fMin (9223372036854775807 : Int64) q0), .second, lv (fMax (-9223372036854775808 : Int64) q0), .second] [(.int (XT.cmpL ((0 : Int64) + c1) (0 : Int64)))] _
        by_cases c47 : ((0 : Int64) + c1) = (0 : Int64)
        · have hfork := trivial
          refine own_go (fun t₀ k₀ => XS.ifNo X45.here hx rfl (Jvm.hb hby at_293) rfl (XT.ll_ne_f c47) k₀) ?_
          show Gm p e below T45 m 296 #[lv q0, .second, lv q1, .second, lv q2, .second, lv q3, .second, iv p4, iv p5, lv c1, .second, lv c2, .second, lv c3, .second, iv sl, lv z5, .second, rv b12, lv ((0 : Int64) + c1), .second, lv (fMin (9223372036854775807 : Int64) q0), .second, lv (fMax (-9223372036854775808 : Int64) q0), .second] [] _
          refine own_go (fun t₀ k₀ => XS.iconst X45.here hx rfl (Jvm.hb hby at_296) k₀) ?_
          show Gm p e below T45 m 297 #[lv q0, .second, lv q1, .second, lv q2, .second, lv q3, .second, iv p4, iv p5, lv c1, .second, lv c2, .second, lv c3, .second, iv sl, lv z5, .second, rv b12, lv ((0 : Int64) + c1), .second, lv (fMin (9223372036854775807 : Int64) q0), .second, lv (fMax (-9223372036854775808 : Int64) q0), .second] [(.int (1 : Int32))] _
          exact own_retI X45 hx hlk (t := .boolean) Bd.returns rfl (by simp) (Jvm.hb hby at_297) e45 ⟨rfl, N45⟩ (by decide) (by decide)
        · have hfork := trivial
          refine own_go (fun t₀ k₀ => XS.ifYes X45.here hx rfl (pc0 := 293) (pc' := 298) rfl (Jvm.hb hby at_293) rfl (XT.ll_ne_t c47) (by decide) (by decide) k₀) ?_
          show Gm p e below T45 m 298 #[lv q0, .second, lv q1, .second, lv q2, .second, lv q3, .second, iv p4, iv p5, lv c1, .second, lv c2, .second, lv c3, .second, iv sl, lv z5, .second, rv b12, lv ((0 : Int64) + c1), .second, lv (fMin (9223372036854775807 : Int64) q0), .second, lv (fMax (-9223372036854775808 : Int64) q0), .second] [] _
          refine own_go (fun t₀ k₀ => XS.aload X45.here hx rfl (Jvm.hb hby at_298) rfl rfl k₀) ?_
          show Gm p e below T45 m 300 #[lv q0, .second, lv q1, .second, lv q2, .second, lv q3, .second, iv p4, iv p5, lv c1, .second, lv c2, .second, lv c3, .second, iv sl, lv z5, .second, rv b12, lv ((0 : Int64) + c1), .second, lv (fMin (9223372036854775807 : Int64) q0), .second, lv (fMax (-9223372036854775808 : Int64) q0), .second] [(.ref b12)] _
          refine own_go (fun t₀ k₀ => XS.lconst X45.here hx rfl (Jvm.hb hby at_300) k₀) ?_
          show Gm p e below T45 m 301 #[lv q0, .second, lv q1, .second, lv q2, .second, lv q3, .second, iv p4, iv p5, lv c1, .second, lv c2, .second, lv c3, .second, iv sl, lv z5, .second, rv b12, lv ((0 : Int64) + c1), .second, lv (fMin (9223372036854775807 : Int64) q0), .second, lv (fMax (-9223372036854775808 : Int64) q0), .second] [(.long (0 : Int64)), (.ref b12)] _
          obtain ⟨cq48, kq48, q48a, q48b, q48c⟩ := isOf hZ e45 HL17.exa
          obtain ⟨_, _, ⟨T48, L48, k48, n48⟩, -, X48, ⟨Lc48, hQ48, l48, y48, z48⟩, st48⟩ := X45.virtualBack hx (y := (⟨"com/example/libbrake/libbrake/AdmissionLog", "timeOf", "(J)J"⟩ : MethodName)) (z := (⟨"com/example/libbrake/libbrake/AdmissionLog", "timeOf", "(J)J"⟩ : MethodName)) hown (mvT hZ (hw _ (List.mem_of_getElem? (i := 55) rfl))) (mvT hZ (hw _ (List.mem_of_getElem? (i := 56) rfl))) (notFace_of_selects (args := #[]) (mvT hZ (hw _ (List.mem_of_getElem? (i := 58) rfl)))) (mvT hZ (hw _ (List.mem_of_getElem? (i := 58) rfl))) (mvT hZ (hw _ (List.mem_of_getElem? (i := 57) rfl))) (by decide) (backOf (W := 0) (rmT l Z a0 hw [] b12 (0 : Int64) NK16 s17 (dr z5 (ins q2 c3 (ins q1 c2 [(q0, c1)]))) (pr z5 (ins q2 c3 (ins q1 c2 [(q0, c1)])) ((((0 : Int64) + c1) + c2) + c3)) T17.heap n0 Z17 HL17 ⟨(own_ne2 hc1 hc2 hc3 hex46 c47).1, by rw [hsl17]; exact (own_len3 _ _ _ _ _ _).2⟩ (own_lt2 hc1 hc2 hc3 hex46 (by rw [(by decide : (0 : Int64).toInt = 0)]; exact (own_ne2 hc1 hc2 hc3 hex46 c47).2.1))) hZ (hw _ (List.mem_of_getElem? (i := 59) rfl)) (hw _ (List.mem_of_getElem? (i := 2) rfl)) (by decide) (by decide)) q48a q48c (g := (mkF m 301 #[lv q0, .second, lv q1, .second, lv q2, .second, lv q3, .second, iv p4, iv p5, lv c1, .second, lv c2, .second, lv c3, .second, iv sl, lv z5, .second, rv b12, lv ((0 : Int64) + c1), .second, lv (fMin (9223372036854775807 : Int64) q0), .second, lv (fMax (-9223372036854775808 : Int64) q0), .second] [(.long (0 : Int64)), (.ref b12)])) rfl (by rw [hml]; rfl) (Steps.refl _) (argsL := [(.long (0 : Int64))]) (rest := []) (lenOf own_pd7 rfl) rfl (by show 2 * 0 + _ ≤ _; exact Nat.le_of_eq rfl) (Jvm.hb hby at_301) (fun _ _ => ⟨rfl, e45, (by decide : 9 + 0 ≤ _), (by decide : 33 + 0 ≤ _)⟩)
          dsimp only [Pt.U, Pt.locs, Pt.cells, Pt.slots] at X48 l48 y48 z48 st48 hQ48
          subst l48 y48 z48
          obtain ⟨rfl, Nq48, eq48⟩ := hQ48
          have N48 := Fr.app N45 Nq48
          have e48 : T48.heap = T17.heap := eq48
          refine own_go (fun t k => st48.trans k) ?_
          show Gm p e below T48 m 304 #[lv q0, .second, lv q1, .second, lv q2, .second, lv q3, .second, iv p4, iv p5, lv c1, .second, lv c2, .second, lv c3, .second, iv sl, lv z5, .second, rv b12, lv ((0 : Int64) + c1), .second, lv (fMin (9223372036854775807 : Int64) q0), .second, lv (fMax (-9223372036854775808 : Int64) q0), .second] [(.long (tOf (0 : Int64) (dr z5 (ins q2 c3 (ins q1 c2 [(q0, c1)])))))] _
          refine own_go (fun t₀ k₀ => XS.lload X48.here hx rfl (Jvm.hb hby at_304) rfl k₀) ?_
          show Gm p e below T48 m 306 #[lv q0, .second, lv q1, .second, lv q2, .second, lv q3, .second, iv p4, iv p5, lv c1, .second, lv c2, .second, lv c3, .second, iv sl, lv z5, .second, rv b12, lv ((0 : Int64) + c1), .second, lv (fMin (9223372036854775807 : Int64) q0), .second, lv (fMax (-9223372036854775808 : Int64) q0), .second] [(.long (fMin (9223372036854775807 : Int64) q0)), (.long (tOf (0 : Int64) (dr z5 (ins q2 c3 (ins q1 c2 [(q0, c1)])))))] _
          refine own_go (fun t₀ k₀ => XT.lcmp X48.here hx rfl (Jvm.hb hby at_306) rfl k₀) ?_
          show Gm p e below T48 m 307 #[lv q0, .second, lv q1, .second, lv q2, .second, lv q3, .second, iv p4, iv p5, lv c1, .second, lv c2, .second, lv c3, .second, iv sl, lv z5, .second, rv b12, lv ((0 : Int64) + c1), .second, lv (fMin (9223372036854775807 : Int64) q0), .second, lv (fMax (-9223372036854775808 : Int64) q0), .second] [(.int (XT.cmpL (tOf (0 : Int64) (dr z5 (ins q2 c3 (ins q1 c2 [(q0, c1)])))) (fMin (9223372036854775807 : Int64) q0)))] _
          refine own_go (fun t₀ k₀ => XS.ifNo X48.here hx rfl (Jvm.hb hby at_307) rfl (XT.ll_ne_f (own_lo hc1 hc2 hc3 hex46 c47 (by unfold loF; rw [if_pos c18, if_neg c21, if_neg c37]))) k₀) ?_
          show Gm p e below T48 m 310 #[lv q0, .second, lv q1, .second, lv q2, .second, lv q3, .second, iv p4, iv p5, lv c1, .second, lv c2, .second, lv c3, .second, iv sl, lv z5, .second, rv b12, lv ((0 : Int64) + c1), .second, lv (fMin (9223372036854775807 : Int64) q0), .second, lv (fMax (-9223372036854775808 : Int64) q0), .second] [] _
          refine own_go (fun t₀ k₀ => XS.aload X48.here hx rfl (Jvm.hb hby at_310) rfl rfl k₀) ?_
          show Gm p e below T48 m 312 #[lv q0, .second, lv q1, .second, lv q2, .second, lv q3, .second, iv p4, iv p5, lv c1, .second, lv c2, .second, lv c3, .second, iv sl, lv z5, .second, rv b12, lv ((0 : Int64) + c1), .second, lv (fMin (9223372036854775807 : Int64) q0), .second, lv (fMax (-9223372036854775808 : Int64) q0), .second] [(.ref b12)] _
          refine own_go (fun t₀ k₀ => XS.lload X48.here hx rfl (Jvm.hb hby at_312) rfl k₀) ?_
          show Gm p e below T48 m 314 #[lv q0, .second, lv q1, .second, lv q2, .second, lv q3, .second, iv p4, iv p5, lv c1, .second, lv c2, .second, lv c3, .second, iv sl, lv z5, .second, rv b12, lv ((0 : Int64) + c1), .second, lv (fMin (9223372036854775807 : Int64) q0), .second, lv (fMax (-9223372036854775808 : Int64) q0), .second] [(.long ((0 : Int64) + c1)), (.ref b12)] _
          refine own_go (fun t₀ k₀ => XS.lconst X48.here hx rfl (Jvm.hb hby at_314) k₀) ?_
          show Gm p e below T48 m 315 #[lv q0, .second, lv q1, .second, lv q2, .second, lv q3, .second, iv p4, iv p5, lv c1, .second, lv c2, .second, lv c3, .second, iv sl, lv z5, .second, rv b12, lv ((0 : Int64) + c1), .second, lv (fMin (9223372036854775807 : Int64) q0), .second, lv (fMax (-9223372036854775808 : Int64) q0), .second] [(.long (1 : Int64)), (.long ((0 : Int64) + c1)), (.ref b12)] _
          refine own_go (fun t₀ k₀ => XS.lsub X48.here hx rfl (Jvm.hb hby at_315) rfl k₀) ?_
          show Gm p e below T48 m 316 #[lv q0, .second, lv q1, .second, lv q2, .second, lv q3, .second, iv p4, iv p5, lv c1, .second, lv c2, .second, lv c3, .second, iv sl, lv z5, .second, rv b12, lv ((0 : Int64) + c1), .second, lv (fMin (9223372036854775807 : Int64) q0), .second, lv (fMax (-9223372036854775808 : Int64) q0), .second] [(.long (((0 : Int64) + c1) - (1 : Int64))), (.ref b12)] _
          obtain ⟨cq49, kq49, q49a, q49b, q49c⟩ := isOf hZ e48 HL17.exa
          obtain ⟨_, _, ⟨T49, L49, k49, n49⟩, -, X49, ⟨Lc49, hQ49, l49, y49, z49⟩, st49⟩ := X48.virtualBack hx (y := (⟨"com/example/libbrake/libbrake/AdmissionLog", "timeOf", "(J)J"⟩ : MethodName)) (z := (⟨"com/example/libbrake/libbrake/AdmissionLog", "timeOf", "(J)J"⟩ : MethodName)) hown (mvT hZ (hw _ (List.mem_of_getElem? (i := 55) rfl))) (mvT hZ (hw _ (List.mem_of_getElem? (i := 56) rfl))) (notFace_of_selects (args := #[]) (mvT hZ (hw _ (List.mem_of_getElem? (i := 58) rfl)))) (mvT hZ (hw _ (List.mem_of_getElem? (i := 58) rfl))) (mvT hZ (hw _ (List.mem_of_getElem? (i := 57) rfl))) (by decide) (backOf (W := 0) (rmT l Z a0 hw [] b12 (((0 : Int64) + c1) - (1 : Int64)) NK16 s17 (dr z5 (ins q2 c3 (ins q1 c2 [(q0, c1)]))) (pr z5 (ins q2 c3 (ins q1 c2 [(q0, c1)])) ((((0 : Int64) + c1) + c2) + c3)) T17.heap n0 Z17 HL17 ⟨(own_ne2 hc1 hc2 hc3 hex46 c47).1, by rw [hsl17]; exact (own_len3 _ _ _ _ _ _).2⟩ (own_lt2 hc1 hc2 hc3 hex46 (by rw [ex1 hc1 hc2 hc3 hex46 c47]; omega))) hZ (hw _ (List.mem_of_getElem? (i := 59) rfl)) (hw _ (List.mem_of_getElem? (i := 2) rfl)) (by decide) (by decide)) q49a q49c (g := (mkF m 316 #[lv q0, .second, lv q1, .second, lv q2, .second, lv q3, .second, iv p4, iv p5, lv c1, .second, lv c2, .second, lv c3, .second, iv sl, lv z5, .second, rv b12, lv ((0 : Int64) + c1), .second, lv (fMin (9223372036854775807 : Int64) q0), .second, lv (fMax (-9223372036854775808 : Int64) q0), .second] [(.long (((0 : Int64) + c1) - (1 : Int64))), (.ref b12)])) rfl (by rw [hml]; rfl) (Steps.refl _) (argsL := [(.long (((0 : Int64) + c1) - (1 : Int64)))]) (rest := []) (lenOf own_pd7 rfl) rfl (by show 2 * 0 + _ ≤ _; exact Nat.le_of_eq rfl) (Jvm.hb hby at_316) (fun _ _ => ⟨rfl, e48, (by decide : 9 + 0 ≤ _), (by decide : 33 + 0 ≤ _)⟩)
          dsimp only [Pt.U, Pt.locs, Pt.cells, Pt.slots] at X49 l49 y49 z49 st49 hQ49
          subst l49 y49 z49
          obtain ⟨rfl, Nq49, eq49⟩ := hQ49
          have N49 := Fr.app N48 Nq49
          have e49 : T49.heap = T17.heap := eq49
          refine own_go (fun t k => st49.trans k) ?_
          show Gm p e below T49 m 319 #[lv q0, .second, lv q1, .second, lv q2, .second, lv q3, .second, iv p4, iv p5, lv c1, .second, lv c2, .second, lv c3, .second, iv sl, lv z5, .second, rv b12, lv ((0 : Int64) + c1), .second, lv (fMin (9223372036854775807 : Int64) q0), .second, lv (fMax (-9223372036854775808 : Int64) q0), .second] [(.long (tOf (((0 : Int64) + c1) - (1 : Int64)) (dr z5 (ins q2 c3 (ins q1 c2 [(q0, c1)])))))] _
          refine own_go (fun t₀ k₀ => XS.lload X49.here hx rfl (Jvm.hb hby at_319) rfl k₀) ?_
          show Gm p e below T49 m 321 #[lv q0, .second, lv q1, .second, lv q2, .second, lv q3, .second, iv p4, iv p5, lv c1, .second, lv c2, .second, lv c3, .second, iv sl, lv z5, .second, rv b12, lv ((0 : Int64) + c1), .second, lv (fMin (9223372036854775807 : Int64) q0), .second, lv (fMax (-9223372036854775808 : Int64) q0), .second] [(.long (fMax (-9223372036854775808 : Int64) q0)), (.long (tOf (((0 : Int64) + c1) - (1 : Int64)) (dr z5 (ins q2 c3 (ins q1 c2 [(q0, c1)])))))] _
          refine own_go (fun t₀ k₀ => XT.lcmp X49.here hx rfl (Jvm.hb hby at_321) rfl k₀) ?_
          show Gm p e below T49 m 322 #[lv q0, .second, lv q1, .second, lv q2, .second, lv q3, .second, iv p4, iv p5, lv c1, .second, lv c2, .second, lv c3, .second, iv sl, lv z5, .second, rv b12, lv ((0 : Int64) + c1), .second, lv (fMin (9223372036854775807 : Int64) q0), .second, lv (fMax (-9223372036854775808 : Int64) q0), .second] [(.int (XT.cmpL (tOf (((0 : Int64) + c1) - (1 : Int64)) (dr z5 (ins q2 c3 (ins q1 c2 [(q0, c1)])))) (fMax (-9223372036854775808 : Int64) q0)))] _
          refine own_go (fun t₀ k₀ => XS.ifNo X49.here hx rfl (Jvm.hb hby at_322) rfl (XT.ll_ne_f (own_hi hc1 hc2 hc3 hex46 c47 (by unfold hiF; rw [if_pos c18, if_neg c21, if_neg c37]))) k₀) ?_
          show Gm p e below T49 m 325 #[lv q0, .second, lv q1, .second, lv q2, .second, lv q3, .second, iv p4, iv p5, lv c1, .second, lv c2, .second, lv c3, .second, iv sl, lv z5, .second, rv b12, lv ((0 : Int64) + c1), .second, lv (fMin (9223372036854775807 : Int64) q0), .second, lv (fMax (-9223372036854775808 : Int64) q0), .second] [] _
          refine own_go (fun t₀ k₀ => XS.iconst X49.here hx rfl (Jvm.hb hby at_325) k₀) ?_
          show Gm p e below T49 m 326 #[lv q0, .second, lv q1, .second, lv q2, .second, lv q3, .second, iv p4, iv p5, lv c1, .second, lv c2, .second, lv c3, .second, iv sl, lv z5, .second, rv b12, lv ((0 : Int64) + c1), .second, lv (fMin (9223372036854775807 : Int64) q0), .second, lv (fMax (-9223372036854775808 : Int64) q0), .second] [(.int (1 : Int32))] _
          refine own_go (fun t₀ k₀ => XS.goto X49.here hx rfl (pc0 := 326) (pc' := 330) rfl (Jvm.hb hby at_326) (by decide) (by decide) k₀) ?_
          show Gm p e below T49 m 330 #[lv q0, .second, lv q1, .second, lv q2, .second, lv q3, .second, iv p4, iv p5, lv c1, .second, lv c2, .second, lv c3, .second, iv sl, lv z5, .second, rv b12, lv ((0 : Int64) + c1), .second, lv (fMin (9223372036854775807 : Int64) q0), .second, lv (fMax (-9223372036854775808 : Int64) q0), .second] [(.int (1 : Int32))] _
          exact own_retI X49 hx hlk (t := .boolean) Bd.returns rfl (by simp) (Jvm.hb hby at_330) e49 ⟨rfl, N49⟩ (by decide) (by decide)
  · have hfork := trivial
    refine own_go (fun t₀ k₀ => XS.ifYes X17.here hx rfl (pc0 := 187) (pc' := 213) rfl (Jvm.hb hby at_187) rfl (XT.ll_le_t c18) (by decide) (by decide) k₀) ?_
    show Gm p e below T17 m 213 #[lv q0, .second, lv q1, .second, lv q2, .second, lv q3, .second, iv p4, iv p5, lv c1, .second, lv c2, .second, lv c3, .second, iv sl, lv z5, .second, rv b12, lv (0 : Int64), .second, lv (9223372036854775807 : Int64), .second, lv (-9223372036854775808 : Int64), .second] [] _
    refine own_go (fun t₀ k₀ => XS.lloadN X17.here hx rfl (Jvm.hb hby at_213) rfl k₀) ?_
    show Gm p e below T17 m 214 #[lv q0, .second, lv q1, .second, lv q2, .second, lv q3, .second, iv p4, iv p5, lv c1, .second, lv c2, .second, lv c3, .second, iv sl, lv z5, .second, rv b12, lv (0 : Int64), .second, lv (9223372036854775807 : Int64), .second, lv (-9223372036854775808 : Int64), .second] [(.long q1)] _
    refine own_go (fun t₀ k₀ => XS.lload X17.here hx rfl (Jvm.hb hby at_214) rfl k₀) ?_
    show Gm p e below T17 m 216 #[lv q0, .second, lv q1, .second, lv q2, .second, lv q3, .second, iv p4, iv p5, lv c1, .second, lv c2, .second, lv c3, .second, iv sl, lv z5, .second, rv b12, lv (0 : Int64), .second, lv (9223372036854775807 : Int64), .second, lv (-9223372036854775808 : Int64), .second] [(.long z5), (.long q1)] _
    refine own_go (fun t₀ k₀ => XT.lcmp X17.here hx rfl (Jvm.hb hby at_216) rfl k₀) ?_
    show Gm p e below T17 m 217 #[lv q0, .second, lv q1, .second, lv q2, .second, lv q3, .second, iv p4, iv p5, lv c1, .second, lv c2, .second, lv c3, .second, iv sl, lv z5, .second, rv b12, lv (0 : Int64), .second, lv (9223372036854775807 : Int64), .second, lv (-9223372036854775808 : Int64), .second] [(.int (XT.cmpL q1 z5))] _
    by_cases c50 : z5 < q1
    · have hfork := trivial
      refine own_go (fun t₀ k₀ => XS.ifNo X17.here hx rfl (Jvm.hb hby at_217) rfl (XT.ll_le_f c50) k₀) ?_
      show Gm p e below T17 m 220 #[lv q0, .second, lv q1, .second, lv q2, .second, lv q3, .second, iv p4, iv p5, lv c1, .second, lv c2, .second, lv c3, .second, iv sl, lv z5, .second, rv b12, lv (0 : Int64), .second, lv (9223372036854775807 : Int64), .second, lv (-9223372036854775808 : Int64), .second] [] _
      refine own_go (fun t₀ k₀ => XS.lload X17.here hx rfl (Jvm.hb hby at_220) rfl k₀) ?_
      show Gm p e below T17 m 222 #[lv q0, .second, lv q1, .second, lv q2, .second, lv q3, .second, iv p4, iv p5, lv c1, .second, lv c2, .second, lv c3, .second, iv sl, lv z5, .second, rv b12, lv (0 : Int64), .second, lv (9223372036854775807 : Int64), .second, lv (-9223372036854775808 : Int64), .second] [(.long (0 : Int64))] _
      refine own_go (fun t₀ k₀ => XS.lload X17.here hx rfl (Jvm.hb hby at_222) rfl k₀) ?_
      show Gm p e below T17 m 224 #[lv q0, .second, lv q1, .second, lv q2, .second, lv q3, .second, iv p4, iv p5, lv c1, .second, lv c2, .second, lv c3, .second, iv sl, lv z5, .second, rv b12, lv (0 : Int64), .second, lv (9223372036854775807 : Int64), .second, lv (-9223372036854775808 : Int64), .second] [(.long c2), (.long (0 : Int64))] _
      refine own_go (fun t₀ k₀ => XS.ladd X17.here hx rfl (Jvm.hb hby at_224) rfl k₀) ?_
      show Gm p e below T17 m 225 #[lv q0, .second, lv q1, .second, lv q2, .second, lv q3, .second, iv p4, iv p5, lv c1, .second, lv c2, .second, lv c3, .second, iv sl, lv z5, .second, rv b12, lv (0 : Int64), .second, lv (9223372036854775807 : Int64), .second, lv (-9223372036854775808 : Int64), .second] [(.long ((0 : Int64) + c2))] _
      refine own_go (fun t₀ k₀ => XS.lstore X17.here hx rfl (Jvm.hb hby at_225) rfl (l' := #[lv q0, .second, lv q1, .second, lv q2, .second, lv q3, .second, iv p4, iv p5, lv c1, .second, lv c2, .second, lv c3, .second, iv sl, lv z5, .second, rv b12, lv ((0 : Int64) + c2), .second, lv (9223372036854775807 : Int64), .second, lv (-9223372036854775808 : Int64), .second]) rfl k₀) ?_
      show Gm p e below T17 m 227 #[lv q0, .second, lv q1, .second, lv q2, .second, lv q3, .second, iv p4, iv p5, lv c1, .second, lv c2, .second, lv c3, .second, iv sl, lv z5, .second, rv b12, lv ((0 : Int64) + c2), .second, lv (9223372036854775807 : Int64), .second, lv (-9223372036854775808 : Int64), .second] [] _
      refine own_go (fun t₀ k₀ => XS.lload X17.here hx rfl (Jvm.hb hby at_227) rfl k₀) ?_
      show Gm p e below T17 m 229 #[lv q0, .second, lv q1, .second, lv q2, .second, lv q3, .second, iv p4, iv p5, lv c1, .second, lv c2, .second, lv c3, .second, iv sl, lv z5, .second, rv b12, lv ((0 : Int64) + c2), .second, lv (9223372036854775807 : Int64), .second, lv (-9223372036854775808 : Int64), .second] [(.long (9223372036854775807 : Int64))] _
      refine own_go (fun t₀ k₀ => XS.lloadN X17.here hx rfl (Jvm.hb hby at_229) rfl k₀) ?_
      show Gm p e below T17 m 230 #[lv q0, .second, lv q1, .second, lv q2, .second, lv q3, .second, iv p4, iv p5, lv c1, .second, lv c2, .second, lv c3, .second, iv sl, lv z5, .second, rv b12, lv ((0 : Int64) + c2), .second, lv (9223372036854775807 : Int64), .second, lv (-9223372036854775808 : Int64), .second] [(.long q1), (.long (9223372036854775807 : Int64))] _
      obtain ⟨_, _, ⟨T51, L51, k51, n51⟩, -, X51, ⟨Lc51, hQ51, l51, y51, z51⟩, st51⟩ := Jvm.LawKit.callS X17 hx (y := (⟨"java/lang/Math", "min", "(JJ)J"⟩ : MethodName)) hown (mvT hZ (hw _ (List.mem_of_getElem? (i := 49) rfl))) (mvT hZ (hw _ (List.mem_of_getElem? (i := 50) rfl))) (mvT hZ (hw _ (List.mem_of_getElem? (i := 31) rfl))) (mvT hZ (hw _ (List.mem_of_getElem? (i := 51) rfl))) (by decide) (backOf (W := 0) (rm8 l Z a0 hw [] (9223372036854775807 : Int64) q1 T17.heap n0 Z17) hZ (hw _ (List.mem_of_getElem? (i := 51) rfl)) (hw _ (List.mem_of_getElem? (i := 31) rfl)) (by decide) (by decide)) (g := (mkF m 230 #[lv q0, .second, lv q1, .second, lv q2, .second, lv q3, .second, iv p4, iv p5, lv c1, .second, lv c2, .second, lv c3, .second, iv sl, lv z5, .second, rv b12, lv ((0 : Int64) + c2), .second, lv (9223372036854775807 : Int64), .second, lv (-9223372036854775808 : Int64), .second] [(.long q1), (.long (9223372036854775807 : Int64))])) rfl (by rw [hml]; rfl) (argsL := [(.long (9223372036854775807 : Int64)), (.long q1)]) (rest := []) (lenOf own_pd5 rfl) rfl (by show 2 * 0 + _ ≤ _; exact Nat.le_of_eq rfl) (Jvm.hb hby at_230) (fun _ _ => ⟨rfl, rfl, (by decide : 9 + 0 ≤ _), (by decide : 33 + 0 ≤ _)⟩)
      dsimp only [Pt.U, Pt.locs, Pt.cells, Pt.slots] at X51 l51 y51 z51 st51 hQ51
      subst l51 y51 z51
      obtain ⟨rfl, Nq51, eq51⟩ := hQ51
      have N51 := Fr.app N17 Nq51
      have e51 : T51.heap = T17.heap := eq51
      refine own_go st51 ?_
      show Gm p e below T51 m 233 #[lv q0, .second, lv q1, .second, lv q2, .second, lv q3, .second, iv p4, iv p5, lv c1, .second, lv c2, .second, lv c3, .second, iv sl, lv z5, .second, rv b12, lv ((0 : Int64) + c2), .second, lv (9223372036854775807 : Int64), .second, lv (-9223372036854775808 : Int64), .second] [(.long (fMin (9223372036854775807 : Int64) q1))] _
      refine own_go (fun t₀ k₀ => XS.lstore X51.here hx rfl (Jvm.hb hby at_233) rfl (l' := #[lv q0, .second, lv q1, .second, lv q2, .second, lv q3, .second, iv p4, iv p5, lv c1, .second, lv c2, .second, lv c3, .second, iv sl, lv z5, .second, rv b12, lv ((0 : Int64) + c2), .second, lv (fMin (9223372036854775807 : Int64) q1), .second, lv (-9223372036854775808 : Int64), .second]) rfl k₀) ?_
      show Gm p e below T51 m 235 #[lv q0, .second, lv q1, .second, lv q2, .second, lv q3, .second, iv p4, iv p5, lv c1, .second, lv c2, .second, lv c3, .second, iv sl, lv z5, .second, rv b12, lv ((0 : Int64) + c2), .second, lv (fMin (9223372036854775807 : Int64) q1), .second, lv (-9223372036854775808 : Int64), .second] [] _
      refine own_go (fun t₀ k₀ => XS.lload X51.here hx rfl (Jvm.hb hby at_235) rfl k₀) ?_
      show Gm p e below T51 m 237 #[lv q0, .second, lv q1, .second, lv q2, .second, lv q3, .second, iv p4, iv p5, lv c1, .second, lv c2, .second, lv c3, .second, iv sl, lv z5, .second, rv b12, lv ((0 : Int64) + c2), .second, lv (fMin (9223372036854775807 : Int64) q1), .second, lv (-9223372036854775808 : Int64), .second] [(.long (-9223372036854775808 : Int64))] _
      refine own_go (fun t₀ k₀ => XS.lloadN X51.here hx rfl (Jvm.hb hby at_237) rfl k₀) ?_
      show Gm p e below T51 m 238 #[lv q0, .second, lv q1, .second, lv q2, .second, lv q3, .second, iv p4, iv p5, lv c1, .second, lv c2, .second, lv c3, .second, iv sl, lv z5, .second, rv b12, lv ((0 : Int64) + c2), .second, lv (fMin (9223372036854775807 : Int64) q1), .second, lv (-9223372036854775808 : Int64), .second] [(.long q1), (.long (-9223372036854775808 : Int64))] _
      obtain ⟨_, _, ⟨T52, L52, k52, n52⟩, -, X52, ⟨Lc52, hQ52, l52, y52, z52⟩, st52⟩ := Jvm.LawKit.callS X51 hx (y := (⟨"java/lang/Math", "max", "(JJ)J"⟩ : MethodName)) hown (mvT hZ (hw _ (List.mem_of_getElem? (i := 52) rfl))) (mvT hZ (hw _ (List.mem_of_getElem? (i := 53) rfl))) (mvT hZ (hw _ (List.mem_of_getElem? (i := 31) rfl))) (mvT hZ (hw _ (List.mem_of_getElem? (i := 54) rfl))) (by decide) (backOf (W := 0) (rm9 l Z a0 hw [] (-9223372036854775808 : Int64) q1 T17.heap n0 Z17) hZ (hw _ (List.mem_of_getElem? (i := 54) rfl)) (hw _ (List.mem_of_getElem? (i := 31) rfl)) (by decide) (by decide)) (g := (mkF m 238 #[lv q0, .second, lv q1, .second, lv q2, .second, lv q3, .second, iv p4, iv p5, lv c1, .second, lv c2, .second, lv c3, .second, iv sl, lv z5, .second, rv b12, lv ((0 : Int64) + c2), .second, lv (fMin (9223372036854775807 : Int64) q1), .second, lv (-9223372036854775808 : Int64), .second] [(.long q1), (.long (-9223372036854775808 : Int64))])) rfl (by rw [hml]; rfl) (argsL := [(.long (-9223372036854775808 : Int64)), (.long q1)]) (rest := []) (lenOf own_pd5 rfl) rfl (by show 2 * 0 + _ ≤ _; exact Nat.le_of_eq rfl) (Jvm.hb hby at_238) (fun _ _ => ⟨rfl, e51, (by decide : 9 + 0 ≤ _), (by decide : 33 + 0 ≤ _)⟩)
      dsimp only [Pt.U, Pt.locs, Pt.cells, Pt.slots] at X52 l52 y52 z52 st52 hQ52
      subst l52 y52 z52
      obtain ⟨rfl, Nq52, eq52⟩ := hQ52
      have N52 := Fr.app N51 Nq52
      have e52 : T52.heap = T17.heap := eq52
      refine own_go st52 ?_
      show Gm p e below T52 m 241 #[lv q0, .second, lv q1, .second, lv q2, .second, lv q3, .second, iv p4, iv p5, lv c1, .second, lv c2, .second, lv c3, .second, iv sl, lv z5, .second, rv b12, lv ((0 : Int64) + c2), .second, lv (fMin (9223372036854775807 : Int64) q1), .second, lv (-9223372036854775808 : Int64), .second] [(.long (fMax (-9223372036854775808 : Int64) q1))] _
      refine own_go (fun t₀ k₀ => XS.lstore X52.here hx rfl (Jvm.hb hby at_241) rfl (l' := #[lv q0, .second, lv q1, .second, lv q2, .second, lv q3, .second, iv p4, iv p5, lv c1, .second, lv c2, .second, lv c3, .second, iv sl, lv z5, .second, rv b12, lv ((0 : Int64) + c2), .second, lv (fMin (9223372036854775807 : Int64) q1), .second, lv (fMax (-9223372036854775808 : Int64) q1), .second]) rfl k₀) ?_
      show Gm p e below T52 m 243 #[lv q0, .second, lv q1, .second, lv q2, .second, lv q3, .second, iv p4, iv p5, lv c1, .second, lv c2, .second, lv c3, .second, iv sl, lv z5, .second, rv b12, lv ((0 : Int64) + c2), .second, lv (fMin (9223372036854775807 : Int64) q1), .second, lv (fMax (-9223372036854775808 : Int64) q1), .second] [] _
      refine own_go (fun t₀ k₀ => XS.lload X52.here hx rfl (Jvm.hb hby at_243) rfl k₀) ?_
      show Gm p e below T52 m 245 #[lv q0, .second, lv q1, .second, lv q2, .second, lv q3, .second, iv p4, iv p5, lv c1, .second, lv c2, .second, lv c3, .second, iv sl, lv z5, .second, rv b12, lv ((0 : Int64) + c2), .second, lv (fMin (9223372036854775807 : Int64) q1), .second, lv (fMax (-9223372036854775808 : Int64) q1), .second] [(.long q2)] _
      refine own_go (fun t₀ k₀ => XS.lload X52.here hx rfl (Jvm.hb hby at_245) rfl k₀) ?_
      show Gm p e below T52 m 247 #[lv q0, .second, lv q1, .second, lv q2, .second, lv q3, .second, iv p4, iv p5, lv c1, .second, lv c2, .second, lv c3, .second, iv sl, lv z5, .second, rv b12, lv ((0 : Int64) + c2), .second, lv (fMin (9223372036854775807 : Int64) q1), .second, lv (fMax (-9223372036854775808 : Int64) q1), .second] [(.long z5), (.long q2)] _
      refine own_go (fun t₀ k₀ => XT.lcmp X52.here hx rfl (Jvm.hb hby at_247) rfl k₀) ?_
      show Gm p e below T52 m 248 #[lv q0, .second, lv q1, .second, lv q2, .second, lv q3, .second, iv p4, iv p5, lv c1, .second, lv c2, .second, lv c3, .second, iv sl, lv z5, .second, rv b12, lv ((0 : Int64) + c2), .second, lv (fMin (9223372036854775807 : Int64) q1), .second, lv (fMax (-9223372036854775808 : Int64) q1), .second] [(.int (XT.cmpL q2 z5))] _
      by_cases c53 : z5 < q2
      · have hfork := trivial
        refine own_go (fun t₀ k₀ => XS.ifNo X52.here hx rfl (Jvm.hb hby at_248) rfl (XT.ll_le_f c53) k₀) ?_
        show Gm p e below T52 m 251 #[lv q0, .second, lv q1, .second, lv q2, .second, lv q3, .second, iv p4, iv p5, lv c1, .second, lv c2, .second, lv c3, .second, iv sl, lv z5, .second, rv b12, lv ((0 : Int64) + c2), .second, lv (fMin (9223372036854775807 : Int64) q1), .second, lv (fMax (-9223372036854775808 : Int64) q1), .second] [] _
        refine own_go (fun t₀ k₀ => XS.lload X52.here hx rfl (Jvm.hb hby at_251) rfl k₀) ?_
        show Gm p e below T52 m 253 #[lv q0, .second, lv q1, .second, lv q2, .second, lv q3, .second, iv p4, iv p5, lv c1, .second, lv c2, .second, lv c3, .second, iv sl, lv z5, .second, rv b12, lv ((0 : Int64) + c2), .second, lv (fMin (9223372036854775807 : Int64) q1), .second, lv (fMax (-9223372036854775808 : Int64) q1), .second] [(.long ((0 : Int64) + c2))] _
        refine own_go (fun t₀ k₀ => XS.lload X52.here hx rfl (Jvm.hb hby at_253) rfl k₀) ?_
        show Gm p e below T52 m 255 #[lv q0, .second, lv q1, .second, lv q2, .second, lv q3, .second, iv p4, iv p5, lv c1, .second, lv c2, .second, lv c3, .second, iv sl, lv z5, .second, rv b12, lv ((0 : Int64) + c2), .second, lv (fMin (9223372036854775807 : Int64) q1), .second, lv (fMax (-9223372036854775808 : Int64) q1), .second] [(.long c3), (.long ((0 : Int64) + c2))] _
        refine own_go (fun t₀ k₀ => XS.ladd X52.here hx rfl (Jvm.hb hby at_255) rfl k₀) ?_
        show Gm p e below T52 m 256 #[lv q0, .second, lv q1, .second, lv q2, .second, lv q3, .second, iv p4, iv p5, lv c1, .second, lv c2, .second, lv c3, .second, iv sl, lv z5, .second, rv b12, lv ((0 : Int64) + c2), .second, lv (fMin (9223372036854775807 : Int64) q1), .second, lv (fMax (-9223372036854775808 : Int64) q1), .second] [(.long (((0 : Int64) + c2) + c3))] _
        refine own_go (fun t₀ k₀ => XS.lstore X52.here hx rfl (Jvm.hb hby at_256) rfl (l' := #[lv q0, .second, lv q1, .second, lv q2, .second, lv q3, .second, iv p4, iv p5, lv c1, .second, lv c2, .second, lv c3, .second, iv sl, lv z5, .second, rv b12, lv (((0 : Int64) + c2) + c3), .second, lv (fMin (9223372036854775807 : Int64) q1), .second, lv (fMax (-9223372036854775808 : Int64) q1), .second]) rfl k₀) ?_
        show Gm p e below T52 m 258 #[lv q0, .second, lv q1, .second, lv q2, .second, lv q3, .second, iv p4, iv p5, lv c1, .second, lv c2, .second, lv c3, .second, iv sl, lv z5, .second, rv b12, lv (((0 : Int64) + c2) + c3), .second, lv (fMin (9223372036854775807 : Int64) q1), .second, lv (fMax (-9223372036854775808 : Int64) q1), .second] [] _
        refine own_go (fun t₀ k₀ => XS.lload X52.here hx rfl (Jvm.hb hby at_258) rfl k₀) ?_
        show Gm p e below T52 m 260 #[lv q0, .second, lv q1, .second, lv q2, .second, lv q3, .second, iv p4, iv p5, lv c1, .second, lv c2, .second, lv c3, .second, iv sl, lv z5, .second, rv b12, lv (((0 : Int64) + c2) + c3), .second, lv (fMin (9223372036854775807 : Int64) q1), .second, lv (fMax (-9223372036854775808 : Int64) q1), .second] [(.long (fMin (9223372036854775807 : Int64) q1))] _
        refine own_go (fun t₀ k₀ => XS.lload X52.here hx rfl (Jvm.hb hby at_260) rfl k₀) ?_
        show Gm p e below T52 m 262 #[lv q0, .second, lv q1, .second, lv q2, .second, lv q3, .second, iv p4, iv p5, lv c1, .second, lv c2, .second, lv c3, .second, iv sl, lv z5, .second, rv b12, lv (((0 : Int64) + c2) + c3), .second, lv (fMin (9223372036854775807 : Int64) q1), .second, lv (fMax (-9223372036854775808 : Int64) q1), .second] [(.long q2), (.long (fMin (9223372036854775807 : Int64) q1))] _
        obtain ⟨_, _, ⟨T54, L54, k54, n54⟩, -, X54, ⟨Lc54, hQ54, l54, y54, z54⟩, st54⟩ := Jvm.LawKit.callS X52 hx (y := (⟨"java/lang/Math", "min", "(JJ)J"⟩ : MethodName)) hown (mvT hZ (hw _ (List.mem_of_getElem? (i := 49) rfl))) (mvT hZ (hw _ (List.mem_of_getElem? (i := 50) rfl))) (mvT hZ (hw _ (List.mem_of_getElem? (i := 31) rfl))) (mvT hZ (hw _ (List.mem_of_getElem? (i := 51) rfl))) (by decide) (backOf (W := 0) (rm8 l Z a0 hw [] (fMin (9223372036854775807 : Int64) q1) q2 T17.heap n0 Z17) hZ (hw _ (List.mem_of_getElem? (i := 51) rfl)) (hw _ (List.mem_of_getElem? (i := 31) rfl)) (by decide) (by decide)) (g := (mkF m 262 #[lv q0, .second, lv q1, .second, lv q2, .second, lv q3, .second, iv p4, iv p5, lv c1, .second, lv c2, .second, lv c3, .second, iv sl, lv z5, .second, rv b12, lv (((0 : Int64) + c2) + c3), .second, lv (fMin (9223372036854775807 : Int64) q1), .second, lv (fMax (-9223372036854775808 : Int64) q1), .second] [(.long q2), (.long (fMin (9223372036854775807 : Int64) q1))])) rfl (by rw [hml]; rfl) (argsL := [(.long (fMin (9223372036854775807 : Int64) q1)), (.long q2)]) (rest := []) (lenOf own_pd5 rfl) rfl (by show 2 * 0 + _ ≤ _; exact Nat.le_of_eq rfl) (Jvm.hb hby at_262) (fun _ _ => ⟨rfl, e52, (by decide : 9 + 0 ≤ _), (by decide : 33 + 0 ≤ _)⟩)
        dsimp only [Pt.U, Pt.locs, Pt.cells, Pt.slots] at X54 l54 y54 z54 st54 hQ54
        subst l54 y54 z54
        obtain ⟨rfl, Nq54, eq54⟩ := hQ54
        have N54 := Fr.app N52 Nq54
        have e54 : T54.heap = T17.heap := eq54
        refine own_go st54 ?_
        show Gm p e below T54 m 265 #[lv q0, .second, lv q1, .second, lv q2, .second, lv q3, .second, iv p4, iv p5, lv c1, .second, lv c2, .second, lv c3, .second, iv sl, lv z5, .second, rv b12, lv (((0 : Int64) + c2) + c3), .second, lv (fMin (9223372036854775807 : Int64) q1), .second, lv (fMax (-9223372036854775808 : Int64) q1), .second] [(.long (fMin (fMin (9223372036854775807 : Int64) q1) q2))] _
        refine own_go (fun t₀ k₀ => XS.lstore X54.here hx rfl (Jvm.hb hby at_265) rfl (l' := #[lv q0, .second, lv q1, .second, lv q2, .second, lv q3, .second, iv p4, iv p5, lv c1, .second, lv c2, .second, lv c3, .second, iv sl, lv z5, .second, rv b12, lv (((0 : Int64) + c2) + c3), .second, lv (fMin (fMin (9223372036854775807 : Int64) q1) q2), .second, lv (fMax (-9223372036854775808 : Int64) q1), .second]) rfl k₀) ?_
        show Gm p e below T54 m 267 #[lv q0, .second, lv q1, .second, lv q2, .second, lv q3, .second, iv p4, iv p5, lv c1, .second, lv c2, .second, lv c3, .second, iv sl, lv z5, .second, rv b12, lv (((0 : Int64) + c2) + c3), .second, lv (fMin (fMin (9223372036854775807 : Int64) q1) q2), .second, lv (fMax (-9223372036854775808 : Int64) q1), .second] [] _
        refine own_go (fun t₀ k₀ => XS.lload X54.here hx rfl (Jvm.hb hby at_267) rfl k₀) ?_
        show Gm p e below T54 m 269 #[lv q0, .second, lv q1, .second, lv q2, .second, lv q3, .second, iv p4, iv p5, lv c1, .second, lv c2, .second, lv c3, .second, iv sl, lv z5, .second, rv b12, lv (((0 : Int64) + c2) + c3), .second, lv (fMin (fMin (9223372036854775807 : Int64) q1) q2), .second, lv (fMax (-9223372036854775808 : Int64) q1), .second] [(.long (fMax (-9223372036854775808 : Int64) q1))] _
        refine own_go (fun t₀ k₀ => XS.lload X54.here hx rfl (Jvm.hb hby at_269) rfl k₀) ?_
        show Gm p e below T54 m 271 #[lv q0, .second, lv q1, .second, lv q2, .second, lv q3, .second, iv p4, iv p5, lv c1, .second, lv c2, .second, lv c3, .second, iv sl, lv z5, .second, rv b12, lv (((0 : Int64) + c2) + c3), .second, lv (fMin (fMin (9223372036854775807 : Int64) q1) q2), .second, lv (fMax (-9223372036854775808 : Int64) q1), .second] [(.long q2), (.long (fMax (-9223372036854775808 : Int64) q1))] _
        obtain ⟨_, _, ⟨T55, L55, k55, n55⟩, -, X55, ⟨Lc55, hQ55, l55, y55, z55⟩, st55⟩ := Jvm.LawKit.callS X54 hx (y := (⟨"java/lang/Math", "max", "(JJ)J"⟩ : MethodName)) hown (mvT hZ (hw _ (List.mem_of_getElem? (i := 52) rfl))) (mvT hZ (hw _ (List.mem_of_getElem? (i := 53) rfl))) (mvT hZ (hw _ (List.mem_of_getElem? (i := 31) rfl))) (mvT hZ (hw _ (List.mem_of_getElem? (i := 54) rfl))) (by decide) (backOf (W := 0) (rm9 l Z a0 hw [] (fMax (-9223372036854775808 : Int64) q1) q2 T17.heap n0 Z17) hZ (hw _ (List.mem_of_getElem? (i := 54) rfl)) (hw _ (List.mem_of_getElem? (i := 31) rfl)) (by decide) (by decide)) (g := (mkF m 271 #[lv q0, .second, lv q1, .second, lv q2, .second, lv q3, .second, iv p4, iv p5, lv c1, .second, lv c2, .second, lv c3, .second, iv sl, lv z5, .second, rv b12, lv (((0 : Int64) + c2) + c3), .second, lv (fMin (fMin (9223372036854775807 : Int64) q1) q2), .second, lv (fMax (-9223372036854775808 : Int64) q1), .second] [(.long q2), (.long (fMax (-9223372036854775808 : Int64) q1))])) rfl (by rw [hml]; rfl) (argsL := [(.long (fMax (-9223372036854775808 : Int64) q1)), (.long q2)]) (rest := []) (lenOf own_pd5 rfl) rfl (by show 2 * 0 + _ ≤ _; exact Nat.le_of_eq rfl) (Jvm.hb hby at_271) (fun _ _ => ⟨rfl, e54, (by decide : 9 + 0 ≤ _), (by decide : 33 + 0 ≤ _)⟩)
        dsimp only [Pt.U, Pt.locs, Pt.cells, Pt.slots] at X55 l55 y55 z55 st55 hQ55
        subst l55 y55 z55
        obtain ⟨rfl, Nq55, eq55⟩ := hQ55
        have N55 := Fr.app N54 Nq55
        have e55 : T55.heap = T17.heap := eq55
        refine own_go st55 ?_
        show Gm p e below T55 m 274 #[lv q0, .second, lv q1, .second, lv q2, .second, lv q3, .second, iv p4, iv p5, lv c1, .second, lv c2, .second, lv c3, .second, iv sl, lv z5, .second, rv b12, lv (((0 : Int64) + c2) + c3), .second, lv (fMin (fMin (9223372036854775807 : Int64) q1) q2), .second, lv (fMax (-9223372036854775808 : Int64) q1), .second] [(.long (fMax (fMax (-9223372036854775808 : Int64) q1) q2))] _
        refine own_go (fun t₀ k₀ => XS.lstore X55.here hx rfl (Jvm.hb hby at_274) rfl (l' := #[lv q0, .second, lv q1, .second, lv q2, .second, lv q3, .second, iv p4, iv p5, lv c1, .second, lv c2, .second, lv c3, .second, iv sl, lv z5, .second, rv b12, lv (((0 : Int64) + c2) + c3), .second, lv (fMin (fMin (9223372036854775807 : Int64) q1) q2), .second, lv (fMax (fMax (-9223372036854775808 : Int64) q1) q2), .second]) rfl k₀) ?_
        show Gm p e below T55 m 276 #[lv q0, .second, lv q1, .second, lv q2, .second, lv q3, .second, iv p4, iv p5, lv c1, .second, lv c2, .second, lv c3, .second, iv sl, lv z5, .second, rv b12, lv (((0 : Int64) + c2) + c3), .second, lv (fMin (fMin (9223372036854775807 : Int64) q1) q2), .second, lv (fMax (fMax (-9223372036854775808 : Int64) q1) q2), .second] [] _
        refine own_go (fun t₀ k₀ => XS.aload X55.here hx rfl (Jvm.hb hby at_276) rfl rfl k₀) ?_
        show Gm p e below T55 m 278 #[lv q0, .second, lv q1, .second, lv q2, .second, lv q3, .second, iv p4, iv p5, lv c1, .second, lv c2, .second, lv c3, .second, iv sl, lv z5, .second, rv b12, lv (((0 : Int64) + c2) + c3), .second, lv (fMin (fMin (9223372036854775807 : Int64) q1) q2), .second, lv (fMax (fMax (-9223372036854775808 : Int64) q1) q2), .second] [(.ref b12)] _
        obtain ⟨cq56, kq56, q56a, q56b, q56c⟩ := isOf hZ e55 HL17.exa
        obtain ⟨_, _, ⟨T56, L56, k56, n56⟩, -, X56, ⟨Lc56, hQ56, l56, y56, z56⟩, st56⟩ := X55.virtualBack hx (y := (⟨"com/example/libbrake/libbrake/AdmissionLog", "permits", "()J"⟩ : MethodName)) (z := (⟨"com/example/libbrake/libbrake/AdmissionLog", "permits", "()J"⟩ : MethodName)) hown (mvT hZ (hw _ (List.mem_of_getElem? (i := 44) rfl))) (mvT hZ (hw _ (List.mem_of_getElem? (i := 45) rfl))) (notFace_of_selects (args := #[]) (mvT hZ (hw _ (List.mem_of_getElem? (i := 47) rfl)))) (mvT hZ (hw _ (List.mem_of_getElem? (i := 47) rfl))) (mvT hZ (hw _ (List.mem_of_getElem? (i := 46) rfl))) (by decide) (backOf (W := 0) (rm7 l Z a0 hw [] b12 (pr z5 (ins q2 c3 (ins q1 c2 [(q0, c1)])) ((((0 : Int64) + c1) + c2) + c3)) T17.heap n0 Z17 HL17.per) hZ (hw _ (List.mem_of_getElem? (i := 48) rfl)) (hw _ (List.mem_of_getElem? (i := 2) rfl)) (by decide) (by decide)) q56a q56c (g := (mkF m 278 #[lv q0, .second, lv q1, .second, lv q2, .second, lv q3, .second, iv p4, iv p5, lv c1, .second, lv c2, .second, lv c3, .second, iv sl, lv z5, .second, rv b12, lv (((0 : Int64) + c2) + c3), .second, lv (fMin (fMin (9223372036854775807 : Int64) q1) q2), .second, lv (fMax (fMax (-9223372036854775808 : Int64) q1) q2), .second] [(.ref b12)])) rfl (by rw [hml]; rfl) (Steps.refl _) (argsL := []) (rest := []) (lenOf own_pd6 rfl) rfl (by show 2 * 0 + _ ≤ _; exact Nat.le_of_eq rfl) (Jvm.hb hby at_278) (fun _ _ => ⟨rfl, e55, (by decide : 9 + 0 ≤ _), (by decide : 33 + 0 ≤ _)⟩)
        dsimp only [Pt.U, Pt.locs, Pt.cells, Pt.slots] at X56 l56 y56 z56 st56 hQ56
        subst l56 y56 z56
        obtain ⟨rfl, Nq56, eq56⟩ := hQ56
        have N56 := Fr.app N55 Nq56
        have e56 : T56.heap = T17.heap := eq56
        refine own_go (fun t k => st56.trans k) ?_
        show Gm p e below T56 m 281 #[lv q0, .second, lv q1, .second, lv q2, .second, lv q3, .second, iv p4, iv p5, lv c1, .second, lv c2, .second, lv c3, .second, iv sl, lv z5, .second, rv b12, lv (((0 : Int64) + c2) + c3), .second, lv (fMin (fMin (9223372036854775807 : Int64) q1) q2), .second, lv (fMax (fMax (-9223372036854775808 : Int64) q1) q2), .second] [(.long (pr z5 (ins q2 c3 (ins q1 c2 [(q0, c1)])) ((((0 : Int64) + c1) + c2) + c3)))] _
        refine own_go (fun t₀ k₀ => XS.lload X56.here hx rfl (Jvm.hb hby at_281) rfl k₀) ?_
        show Gm p e below T56 m 283 #[lv q0, .second, lv q1, .second, lv q2, .second, lv q3, .second, iv p4, iv p5, lv c1, .second, lv c2, .second, lv c3, .second, iv sl, lv z5, .second, rv b12, lv (((0 : Int64) + c2) + c3), .second, lv (fMin (fMin (9223372036854775807 : Int64) q1) q2), .second, lv (fMax (fMax (-9223372036854775808 : Int64) q1) q2), .second] [(.long (((0 : Int64) + c2) + c3)), (.long (pr z5 (ins q2 c3 (ins q1 c2 [(q0, c1)])) ((((0 : Int64) + c1) + c2) + c3)))] _
        refine own_go (fun t₀ k₀ => XT.lcmp X56.here hx rfl (Jvm.hb hby at_283) rfl k₀) ?_
        show Gm p e below T56 m 284 #[lv q0, .second, lv q1, .second, lv q2, .second, lv q3, .second, iv p4, iv p5, lv c1, .second, lv c2, .second, lv c3, .second, iv sl, lv z5, .second, rv b12, lv (((0 : Int64) + c2) + c3), .second, lv (fMin (fMin (9223372036854775807 : Int64) q1) q2), .second, lv (fMax (fMax (-9223372036854775808 : Int64) q1) q2), .second] [(.int (XT.cmpL (pr z5 (ins q2 c3 (ins q1 c2 [(q0, c1)])) ((((0 : Int64) + c1) + c2) + c3)) (((0 : Int64) + c2) + c3)))] _
        have hex57 : (((0 : Int64) + c2) + c3) = (eX z5 q0 c1 + eX z5 q1 c2) + eX z5 q2 c3 := by unfold eX; rw [if_neg c18, if_pos c50, if_pos c53]; try simp only [Int64.zero_add, Int64.add_zero]
        refine own_go (fun t₀ k₀ => XS.ifYes X56.here hx rfl (pc0 := 284) (pc' := 289) rfl (Jvm.hb hby at_284) rfl (XT.ll_eq_t (own_perm2 hc1 hc2 hc3 hex57)) (by decide) (by decide) k₀) ?_
        show Gm p e below T56 m 289 #[lv q0, .second, lv q1, .second, lv q2, .second, lv q3, .second, iv p4, iv p5, lv c1, .second, lv c2, .second, lv c3, .second, iv sl, lv z5, .second, rv b12, lv (((0 : Int64) + c2) + c3), .second, lv (fMin (fMin (9223372036854775807 : Int64) q1) q2), .second, lv (fMax (fMax (-9223372036854775808 : Int64) q1) q2), .second] [] _
        refine own_go (fun t₀ k₀ => XS.lload X56.here hx rfl (Jvm.hb hby at_289) rfl k₀) ?_
        show Gm p e below T56 m 291 #[lv q0, .second, lv q1, .second, lv q2, .second, lv q3, .second, iv p4, iv p5, lv c1, .second, lv c2, .second, lv c3, .second, iv sl, lv z5, .second, rv b12, lv (((0 : Int64) + c2) + c3), .second, lv (fMin (fMin (9223372036854775807 : Int64) q1) q2), .second, lv (fMax (fMax (-9223372036854775808 : Int64) q1) q2), .second] [(.long (((0 : Int64) + c2) + c3))] _
        refine own_go (fun t₀ k₀ => XS.lconst X56.here hx rfl (Jvm.hb hby at_291) k₀) ?_
        show Gm p e below T56 m 292 #[lv q0, .second, lv q1, .second, lv q2, .second, lv q3, .second, iv p4, iv p5, lv c1, .second, lv c2, .second, lv c3, .second, iv sl, lv z5, .second, rv b12, lv (((0 : Int64) + c2) + c3), .second, lv (fMin (fMin (9223372036854775807 : Int64) q1) q2), .second, lv (fMax (fMax (-9223372036854775808 : Int64) q1) q2), .second] [(.long (0 : Int64)), (.long (((0 : Int64) + c2) + c3))] _
        refine own_go (fun t₀ k₀ => XT.lcmp X56.here hx rfl (Jvm.hb hby at_292) rfl k₀) ?_
        show Gm p e below T56 m 293 #[lv q0, .second, lv q1, .second, lv q2, .second, lv q3, .second, iv p4, iv p5, lv c1, .second, lv c2, .second, lv c3, .second, iv sl, lv z5, .second, rv b12, lv (((0 : Int64) + c2) + c3), .second, lv (fMin (fMin (9223372036854775807 : Int64) q1) q2), .second, lv (fMax (fMax (-9223372036854775808 : Int64) q1) q2), .second] [(.int (XT.cmpL (((0 : Int64) + c2) + c3) (0 : Int64)))] _
        by_cases c58 : (((0 : Int64) + c2) + c3) = (0 : Int64)
        · have hfork := trivial
          refine own_go (fun t₀ k₀ => XS.ifNo X56.here hx rfl (Jvm.hb hby at_293) rfl (XT.ll_ne_f c58) k₀) ?_
          show Gm p e below T56 m 296 #[lv q0, .second, lv q1, .second, lv q2, .second, lv q3, .second, iv p4, iv p5, lv c1, .second, lv c2, .second, lv c3, .second, iv sl, lv z5, .second, rv b12, lv (((0 : Int64) + c2) + c3), .second, lv (fMin (fMin (9223372036854775807 : Int64) q1) q2), .second, lv (fMax (fMax (-9223372036854775808 : Int64) q1) q2), .second] [] _
          refine own_go (fun t₀ k₀ => XS.iconst X56.here hx rfl (Jvm.hb hby at_296) k₀) ?_
          show Gm p e below T56 m 297 #[lv q0, .second, lv q1, .second, lv q2, .second, lv q3, .second, iv p4, iv p5, lv c1, .second, lv c2, .second, lv c3, .second, iv sl, lv z5, .second, rv b12, lv (((0 : Int64) + c2) + c3), .second, lv (fMin (fMin (9223372036854775807 : Int64) q1) q2), .second, lv (fMax (fMax (-9223372036854775808 : Int64) q1) q2), .second] [(.int (1 : Int32))] _
          exact own_retI X56 hx hlk (t := .boolean) Bd.returns rfl (by simp) (Jvm.hb hby at_297) e56 ⟨rfl, N56⟩ (by decide) (by decide)
        · have hfork := trivial
          refine own_go (fun t₀ k₀ => XS.ifYes X56.here hx rfl (pc0 := 293) (pc' := 298) rfl (Jvm.hb hby at_293) rfl (XT.ll_ne_t c58) (by decide) (by decide) k₀) ?_
          show Gm p e below T56 m 298 #[lv q0, .second, lv q1, .second, lv q2, .second, lv q3, .second, iv p4, iv p5, lv c1, .second, lv c2, .second, lv c3, .second, iv sl, lv z5, .second, rv b12, lv (((0 : Int64) + c2) + c3), .second, lv (fMin (fMin (9223372036854775807 : Int64) q1) q2), .second, lv (fMax (fMax (-9223372036854775808 : Int64) q1) q2), .second] [] _
          refine own_go (fun t₀ k₀ => XS.aload X56.here hx rfl (Jvm.hb hby at_298) rfl rfl k₀) ?_
          show Gm p e below T56 m 300 #[lv q0, .second, lv q1, .second, lv q2, .second, lv q3, .second, iv p4, iv p5, lv c1, .second, lv c2, .second, lv c3, .second, iv sl, lv z5, .second, rv b12, lv (((0 : Int64) + c2) + c3), .second, lv (fMin (fMin (9223372036854775807 : Int64) q1) q2), .second, lv (fMax (fMax (-9223372036854775808 : Int64) q1) q2), .second] [(.ref b12)] _
          refine own_go (fun t₀ k₀ => XS.lconst X56.here hx rfl (Jvm.hb hby at_300) k₀) ?_
          show Gm p e below T56 m 301 #[lv q0, .second, lv q1, .second, lv q2, .second, lv q3, .second, iv p4, iv p5, lv c1, .second, lv c2, .second, lv c3, .second, iv sl, lv z5, .second, rv b12, lv (((0 : Int64) + c2) + c3), .second, lv (fMin (fMin (9223372036854775807 : Int64) q1) q2), .second, lv (fMax (fMax (-9223372036854775808 : Int64) q1) q2), .second] [(.long (0 : Int64)), (.ref b12)] _
          obtain ⟨cq59, kq59, q59a, q59b, q59c⟩ := isOf hZ e56 HL17.exa
          obtain ⟨_, _, ⟨T59, L59, k59, n59⟩, -, X59, ⟨Lc59, hQ59, l59, y59, z59⟩, st59⟩ := X56.virtualBack hx (y := (⟨"com/example/libbrake/libbrake/AdmissionLog", "timeOf", "(J)J"⟩ : MethodName)) (z := (⟨"com/example/libbrake/libbrake/AdmissionLog", "timeOf", "(J)J"⟩ : MethodName)) hown (mvT hZ (hw _ (List.mem_of_getElem? (i := 55) rfl))) (mvT hZ (hw _ (List.mem_of_getElem? (i := 56) rfl))) (notFace_of_selects (args := #[]) (mvT hZ (hw _ (List.mem_of_getElem? (i := 58) rfl)))) (mvT hZ (hw _ (List.mem_of_getElem? (i := 58) rfl))) (mvT hZ (hw _ (List.mem_of_getElem? (i := 57) rfl))) (by decide) (backOf (W := 0) (rmT l Z a0 hw [] b12 (0 : Int64) NK16 s17 (dr z5 (ins q2 c3 (ins q1 c2 [(q0, c1)]))) (pr z5 (ins q2 c3 (ins q1 c2 [(q0, c1)])) ((((0 : Int64) + c1) + c2) + c3)) T17.heap n0 Z17 HL17 ⟨(own_ne2 hc1 hc2 hc3 hex57 c58).1, by rw [hsl17]; exact (own_len3 _ _ _ _ _ _).2⟩ (own_lt2 hc1 hc2 hc3 hex57 (by rw [(by decide : (0 : Int64).toInt = 0)]; exact (own_ne2 hc1 hc2 hc3 hex57 c58).2.1))) hZ (hw _ (List.mem_of_getElem? (i := 59) rfl)) (hw _ (List.mem_of_getElem? (i := 2) rfl)) (by decide) (by decide)) q59a q59c (g := (mkF m 301 #[lv q0, .second, lv q1, .second, lv q2, .second, lv q3, .second, iv p4, iv p5, lv c1, .second, lv c2, .second, lv c3, .second, iv sl, lv z5, .second, rv b12, lv (((0 : Int64) + c2) + c3), .second, lv (fMin (fMin (9223372036854775807 : Int64) q1) q2), .second, lv (fMax (fMax (-9223372036854775808 : Int64) q1) q2), .second] [(.long (0 : Int64)), (.ref b12)])) rfl (by rw [hml]; rfl) (Steps.refl _) (argsL := [(.long (0 : Int64))]) (rest := []) (lenOf own_pd7 rfl) rfl (by show 2 * 0 + _ ≤ _; exact Nat.le_of_eq rfl) (Jvm.hb hby at_301) (fun _ _ => ⟨rfl, e56, (by decide : 9 + 0 ≤ _), (by decide : 33 + 0 ≤ _)⟩)
          dsimp only [Pt.U, Pt.locs, Pt.cells, Pt.slots] at X59 l59 y59 z59 st59 hQ59
          subst l59 y59 z59
          obtain ⟨rfl, Nq59, eq59⟩ := hQ59
          have N59 := Fr.app N56 Nq59
          have e59 : T59.heap = T17.heap := eq59
          refine own_go (fun t k => st59.trans k) ?_
          show Gm p e below T59 m 304 #[lv q0, .second, lv q1, .second, lv q2, .second, lv q3, .second, iv p4, iv p5, lv c1, .second, lv c2, .second, lv c3, .second, iv sl, lv z5, .second, rv b12, lv (((0 : Int64) + c2) + c3), .second, lv (fMin (fMin (9223372036854775807 : Int64) q1) q2), .second, lv (fMax (fMax (-9223372036854775808 : Int64) q1) q2), .second] [(.long (tOf (0 : Int64) (dr z5 (ins q2 c3 (ins q1 c2 [(q0, c1)])))))] _
          refine own_go (fun t₀ k₀ => XS.lload X59.here hx rfl (Jvm.hb hby at_304) rfl k₀) ?_
          show Gm p e below T59 m 306 #[lv q0, .second, lv q1, .second, lv q2, .second, lv q3, .second, iv p4, iv p5, lv c1, .second, lv c2, .second, lv c3, .second, iv sl, lv z5, .second, rv b12, lv (((0 : Int64) + c2) + c3), .second, lv (fMin (fMin (9223372036854775807 : Int64) q1) q2), .second, lv (fMax (fMax (-9223372036854775808 : Int64) q1) q2), .second] [(.long (fMin (fMin (9223372036854775807 : Int64) q1) q2)), (.long (tOf (0 : Int64) (dr z5 (ins q2 c3 (ins q1 c2 [(q0, c1)])))))] _
          refine own_go (fun t₀ k₀ => XT.lcmp X59.here hx rfl (Jvm.hb hby at_306) rfl k₀) ?_
          show Gm p e below T59 m 307 #[lv q0, .second, lv q1, .second, lv q2, .second, lv q3, .second, iv p4, iv p5, lv c1, .second, lv c2, .second, lv c3, .second, iv sl, lv z5, .second, rv b12, lv (((0 : Int64) + c2) + c3), .second, lv (fMin (fMin (9223372036854775807 : Int64) q1) q2), .second, lv (fMax (fMax (-9223372036854775808 : Int64) q1) q2), .second] [(.int (XT.cmpL (tOf (0 : Int64) (dr z5 (ins q2 c3 (ins q1 c2 [(q0, c1)])))) (fMin (fMin (9223372036854775807 : Int64) q1) q2)))] _
          refine own_go (fun t₀ k₀ => XS.ifNo X59.here hx rfl (Jvm.hb hby at_307) rfl (XT.ll_ne_f (own_lo hc1 hc2 hc3 hex57 c58 (by unfold loF; rw [if_neg c18, if_pos c50, if_pos c53]))) k₀) ?_
          show Gm p e below T59 m 310 #[lv q0, .second, lv q1, .second, lv q2, .second, lv q3, .second, iv p4, iv p5, lv c1, .second, lv c2, .second, lv c3, .second, iv sl, lv z5, .second, rv b12, lv (((0 : Int64) + c2) + c3), .second, lv (fMin (fMin (9223372036854775807 : Int64) q1) q2), .second, lv (fMax (fMax (-9223372036854775808 : Int64) q1) q2), .second] [] _
          refine own_go (fun t₀ k₀ => XS.aload X59.here hx rfl (Jvm.hb hby at_310) rfl rfl k₀) ?_
          show Gm p e below T59 m 312 #[lv q0, .second, lv q1, .second, lv q2, .second, lv q3, .second, iv p4, iv p5, lv c1, .second, lv c2, .second, lv c3, .second, iv sl, lv z5, .second, rv b12, lv (((0 : Int64) + c2) + c3), .second, lv (fMin (fMin (9223372036854775807 : Int64) q1) q2), .second, lv (fMax (fMax (-9223372036854775808 : Int64) q1) q2), .second] [(.ref b12)] _
          refine own_go (fun t₀ k₀ => XS.lload X59.here hx rfl (Jvm.hb hby at_312) rfl k₀) ?_
          show Gm p e below T59 m 314 #[lv q0, .second, lv q1, .second, lv q2, .second, lv q3, .second, iv p4, iv p5, lv c1, .second, lv c2, .second, lv c3, .second, iv sl, lv z5, .second, rv b12, lv (((0 : Int64) + c2) + c3), .second, lv (fMin (fMin (9223372036854775807 : Int64) q1) q2), .second, lv (fMax (fMax (-9223372036854775808 : Int64) q1) q2), .second] [(.long (((0 : Int64) + c2) + c3)), (.ref b12)] _
          refine own_go (fun t₀ k₀ => XS.lconst X59.here hx rfl (Jvm.hb hby at_314) k₀) ?_
          show Gm p e below T59 m 315 #[lv q0, .second, lv q1, .second, lv q2, .second, lv q3, .second, iv p4, iv p5, lv c1, .second, lv c2, .second, lv c3, .second, iv sl, lv z5, .second, rv b12, lv (((0 : Int64) + c2) + c3), .second, lv (fMin (fMin (9223372036854775807 : Int64) q1) q2), .second, lv (fMax (fMax (-9223372036854775808 : Int64) q1) q2), .second] [(.long (1 : Int64)), (.long (((0 : Int64) + c2) + c3)), (.ref b12)] _
          refine own_go (fun t₀ k₀ => XS.lsub X59.here hx rfl (Jvm.hb hby at_315) rfl k₀) ?_
          show Gm p e below T59 m 316 #[lv q0, .second, lv q1, .second, lv q2, .second, lv q3, .second, iv p4, iv p5, lv c1, .second, lv c2, .second, lv c3, .second, iv sl, lv z5, .second, rv b12, lv (((0 : Int64) + c2) + c3), .second, lv (fMin (fMin (9223372036854775807 : Int64) q1) q2), .second, lv (fMax (fMax (-9223372036854775808 : Int64) q1) q2), .second] [(.long ((((0 : Int64) + c2) + c3) - (1 : Int64))), (.ref b12)] _
          obtain ⟨cq60, kq60, q60a, q60b, q60c⟩ := isOf hZ e59 HL17.exa
          obtain ⟨_, _, ⟨T60, L60, k60, n60⟩, -, X60, ⟨Lc60, hQ60, l60, y60, z60⟩, st60⟩ := X59.virtualBack hx (y := (⟨"com/example/libbrake/libbrake/AdmissionLog", "timeOf", "(J)J"⟩ : MethodName)) (z := (⟨"com/example/libbrake/libbrake/AdmissionLog", "timeOf", "(J)J"⟩ : MethodName)) hown (mvT hZ (hw _ (List.mem_of_getElem? (i := 55) rfl))) (mvT hZ (hw _ (List.mem_of_getElem? (i := 56) rfl))) (notFace_of_selects (args := #[]) (mvT hZ (hw _ (List.mem_of_getElem? (i := 58) rfl)))) (mvT hZ (hw _ (List.mem_of_getElem? (i := 58) rfl))) (mvT hZ (hw _ (List.mem_of_getElem? (i := 57) rfl))) (by decide) (backOf (W := 0) (rmT l Z a0 hw [] b12 ((((0 : Int64) + c2) + c3) - (1 : Int64)) NK16 s17 (dr z5 (ins q2 c3 (ins q1 c2 [(q0, c1)]))) (pr z5 (ins q2 c3 (ins q1 c2 [(q0, c1)])) ((((0 : Int64) + c1) + c2) + c3)) T17.heap n0 Z17 HL17 ⟨(own_ne2 hc1 hc2 hc3 hex57 c58).1, by rw [hsl17]; exact (own_len3 _ _ _ _ _ _).2⟩ (own_lt2 hc1 hc2 hc3 hex57 (by rw [ex1 hc1 hc2 hc3 hex57 c58]; omega))) hZ (hw _ (List.mem_of_getElem? (i := 59) rfl)) (hw _ (List.mem_of_getElem? (i := 2) rfl)) (by decide) (by decide)) q60a q60c (g := (mkF m 316 #[lv q0, .second, lv q1, .second, lv q2, .second, lv q3, .second, iv p4, iv p5, lv c1, .second, lv c2, .second, lv c3, .second, iv sl, lv z5, .second, rv b12, lv (((0 : Int64) + c2) + c3), .second, lv (fMin (fMin (9223372036854775807 : Int64) q1) q2), .second, lv (fMax (fMax (-9223372036854775808 : Int64) q1) q2), .second] [(.long ((((0 : Int64) + c2) + c3) - (1 : Int64))), (.ref b12)])) rfl (by rw [hml]; rfl) (Steps.refl _) (argsL := [(.long ((((0 : Int64) + c2) + c3) - (1 : Int64)))]) (rest := []) (lenOf own_pd7 rfl) rfl (by show 2 * 0 + _ ≤ _; exact Nat.le_of_eq rfl) (Jvm.hb hby at_316) (fun _ _ => ⟨rfl, e59, (by decide : 9 + 0 ≤ _), (by decide : 33 + 0 ≤ _)⟩)
          dsimp only [Pt.U, Pt.locs, Pt.cells, Pt.slots] at X60 l60 y60 z60 st60 hQ60
          subst l60 y60 z60
          obtain ⟨rfl, Nq60, eq60⟩ := hQ60
          have N60 := Fr.app N59 Nq60
          have e60 : T60.heap = T17.heap := eq60
          refine own_go (fun t k => st60.trans k) ?_
          show Gm p e below T60 m 319 #[lv q0, .second, lv q1, .second, lv q2, .second, lv q3, .second, iv p4, iv p5, lv c1, .second, lv c2, .second, lv c3, .second, iv sl, lv z5, .second, rv b12, lv (((0 : Int64) + c2) + c3), .second, lv (fMin (fMin (9223372036854775807 : Int64) q1) q2), .second, lv (fMax (fMax (-9223372036854775808 : Int64) q1) q2), .second] [(.long (tOf ((((0 : Int64) + c2) + c3) - (1 : Int64)) (dr z5 (ins q2 c3 (ins q1 c2 [(q0, c1)])))))] _
          refine own_go (fun t₀ k₀ => XS.lload X60.here hx rfl (Jvm.hb hby at_319) rfl k₀) ?_
          show Gm p e below T60 m 321 #[lv q0, .second, lv q1, .second, lv q2, .second, lv q3, .second, iv p4, iv p5, lv c1, .second, lv c2, .second, lv c3, .second, iv sl, lv z5, .second, rv b12, lv (((0 : Int64) + c2) + c3), .second, lv (fMin (fMin (9223372036854775807 : Int64) q1) q2), .second, lv (fMax (fMax (-9223372036854775808 : Int64) q1) q2), .second] [(.long (fMax (fMax (-9223372036854775808 : Int64) q1) q2)), (.long (tOf ((((0 : Int64) + c2) + c3) - (1 : Int64)) (dr z5 (ins q2 c3 (ins q1 c2 [(q0, c1)])))))] _
          refine own_go (fun t₀ k₀ => XT.lcmp X60.here hx rfl (Jvm.hb hby at_321) rfl k₀) ?_
          show Gm p e below T60 m 322 #[lv q0, .second, lv q1, .second, lv q2, .second, lv q3, .second, iv p4, iv p5, lv c1, .second, lv c2, .second, lv c3, .second, iv sl, lv z5, .second, rv b12, lv (((0 : Int64) + c2) + c3), .second, lv (fMin (fMin (9223372036854775807 : Int64) q1) q2), .second, lv (fMax (fMax (-9223372036854775808 : Int64) q1) q2), .second] [(.int (XT.cmpL (tOf ((((0 : Int64) + c2) + c3) - (1 : Int64)) (dr z5 (ins q2 c3 (ins q1 c2 [(q0, c1)])))) (fMax (fMax (-9223372036854775808 : Int64) q1) q2)))] _
          refine own_go (fun t₀ k₀ => XS.ifNo X60.here hx rfl (Jvm.hb hby at_322) rfl (XT.ll_ne_f (own_hi hc1 hc2 hc3 hex57 c58 (by unfold hiF; rw [if_neg c18, if_pos c50, if_pos c53]))) k₀) ?_
          show Gm p e below T60 m 325 #[lv q0, .second, lv q1, .second, lv q2, .second, lv q3, .second, iv p4, iv p5, lv c1, .second, lv c2, .second, lv c3, .second, iv sl, lv z5, .second, rv b12, lv (((0 : Int64) + c2) + c3), .second, lv (fMin (fMin (9223372036854775807 : Int64) q1) q2), .second, lv (fMax (fMax (-9223372036854775808 : Int64) q1) q2), .second] [] _
          refine own_go (fun t₀ k₀ => XS.iconst X60.here hx rfl (Jvm.hb hby at_325) k₀) ?_
          show Gm p e below T60 m 326 #[lv q0, .second, lv q1, .second, lv q2, .second, lv q3, .second, iv p4, iv p5, lv c1, .second, lv c2, .second, lv c3, .second, iv sl, lv z5, .second, rv b12, lv (((0 : Int64) + c2) + c3), .second, lv (fMin (fMin (9223372036854775807 : Int64) q1) q2), .second, lv (fMax (fMax (-9223372036854775808 : Int64) q1) q2), .second] [(.int (1 : Int32))] _
          refine own_go (fun t₀ k₀ => XS.goto X60.here hx rfl (pc0 := 326) (pc' := 330) rfl (Jvm.hb hby at_326) (by decide) (by decide) k₀) ?_
          show Gm p e below T60 m 330 #[lv q0, .second, lv q1, .second, lv q2, .second, lv q3, .second, iv p4, iv p5, lv c1, .second, lv c2, .second, lv c3, .second, iv sl, lv z5, .second, rv b12, lv (((0 : Int64) + c2) + c3), .second, lv (fMin (fMin (9223372036854775807 : Int64) q1) q2), .second, lv (fMax (fMax (-9223372036854775808 : Int64) q1) q2), .second] [(.int (1 : Int32))] _
          exact own_retI X60 hx hlk (t := .boolean) Bd.returns rfl (by simp) (Jvm.hb hby at_330) e60 ⟨rfl, N60⟩ (by decide) (by decide)
      · have hfork := trivial
        refine own_go (fun t₀ k₀ => XS.ifYes X52.here hx rfl (pc0 := 248) (pc' := 276) rfl (Jvm.hb hby at_248) rfl (XT.ll_le_t c53) (by decide) (by decide) k₀) ?_
        show Gm p e below T52 m 276 #[lv q0, .second, lv q1, .second, lv q2, .second, lv q3, .second, iv p4, iv p5, lv c1, .second, lv c2, .second, lv c3, .second, iv sl, lv z5, .second, rv b12, lv ((0 : Int64) + c2), .second, lv (fMin (9223372036854775807 : Int64) q1), .second, lv (fMax (-9223372036854775808 : Int64) q1), .second] [] _
        refine own_go (fun t₀ k₀ => XS.aload X52.here hx rfl (Jvm.hb hby at_276) rfl rfl k₀) ?_
        show Gm p e below T52 m 278 #[lv q0, .second, lv q1, .second, lv q2, .second, lv q3, .second, iv p4, iv p5, lv c1, .second, lv c2, .second, lv c3, .second, iv sl, lv z5, .second, rv b12, lv ((0 : Int64) + c2), .second, lv (fMin (9223372036854775807 : Int64) q1), .second, lv (fMax (-9223372036854775808 : Int64) q1), .second] [(.ref b12)] _
        obtain ⟨cq61, kq61, q61a, q61b, q61c⟩ := isOf hZ e52 HL17.exa
        obtain ⟨_, _, ⟨T61, L61, k61, n61⟩, -, X61, ⟨Lc61, hQ61, l61, y61, z61⟩, st61⟩ := X52.virtualBack hx (y := (⟨"com/example/libbrake/libbrake/AdmissionLog", "permits", "()J"⟩ : MethodName)) (z := (⟨"com/example/libbrake/libbrake/AdmissionLog", "permits", "()J"⟩ : MethodName)) hown (mvT hZ (hw _ (List.mem_of_getElem? (i := 44) rfl))) (mvT hZ (hw _ (List.mem_of_getElem? (i := 45) rfl))) (notFace_of_selects (args := #[]) (mvT hZ (hw _ (List.mem_of_getElem? (i := 47) rfl)))) (mvT hZ (hw _ (List.mem_of_getElem? (i := 47) rfl))) (mvT hZ (hw _ (List.mem_of_getElem? (i := 46) rfl))) (by decide) (backOf (W := 0) (rm7 l Z a0 hw [] b12 (pr z5 (ins q2 c3 (ins q1 c2 [(q0, c1)])) ((((0 : Int64) + c1) + c2) + c3)) T17.heap n0 Z17 HL17.per) hZ (hw _ (List.mem_of_getElem? (i := 48) rfl)) (hw _ (List.mem_of_getElem? (i := 2) rfl)) (by decide) (by decide)) q61a q61c (g := (mkF m 278 #[lv q0, .second, lv q1, .second, lv q2, .second, lv q3, .second, iv p4, iv p5, lv c1, .second, lv c2, .second, lv c3, .second, iv sl, lv z5, .second, rv b12, lv ((0 : Int64) + c2), .second, lv (fMin (9223372036854775807 : Int64) q1), .second, lv (fMax (-9223372036854775808 : Int64) q1), .second] [(.ref b12)])) rfl (by rw [hml]; rfl) (Steps.refl _) (argsL := []) (rest := []) (lenOf own_pd6 rfl) rfl (by show 2 * 0 + _ ≤ _; exact Nat.le_of_eq rfl) (Jvm.hb hby at_278) (fun _ _ => ⟨rfl, e52, (by decide : 9 + 0 ≤ _), (by decide : 33 + 0 ≤ _)⟩)
        dsimp only [Pt.U, Pt.locs, Pt.cells, Pt.slots] at X61 l61 y61 z61 st61 hQ61
        subst l61 y61 z61
        obtain ⟨rfl, Nq61, eq61⟩ := hQ61
        have N61 := Fr.app N52 Nq61
        have e61 : T61.heap = T17.heap := eq61
        refine own_go (fun t k => st61.trans k) ?_
        show Gm p e below T61 m 281 #[lv q0, .second, lv q1, .second, lv q2, .second, lv q3, .second, iv p4, iv p5, lv c1, .second, lv c2, .second, lv c3, .second, iv sl, lv z5, .second, rv b12, lv ((0 : Int64) + c2), .second, lv (fMin (9223372036854775807 : Int64) q1), .second, lv (fMax (-9223372036854775808 : Int64) q1), .second] [(.long (pr z5 (ins q2 c3 (ins q1 c2 [(q0, c1)])) ((((0 : Int64) + c1) + c2) + c3)))] _
        refine own_go (fun t₀ k₀ => XS.lload X61.here hx rfl (Jvm.hb hby at_281) rfl k₀) ?_
        show Gm p e below T61 m 283 #[lv q0, .second, lv q1, .second, lv q2, .second, lv q3, .second, iv p4, iv p5, lv c1, .second, lv c2, .second, lv c3, .second, iv sl, lv z5, .second, rv b12, lv ((0 : Int64) + c2), .second, lv (fMin (9223372036854775807 : Int64) q1), .second, lv (fMax (-9223372036854775808 : Int64) q1), .second] [(.long ((0 : Int64) + c2)), (.long (pr z5 (ins q2 c3 (ins q1 c2 [(q0, c1)])) ((((0 : Int64) + c1) + c2) + c3)))] _
        refine own_go (fun t₀ k₀ => XT.lcmp X61.here hx rfl (Jvm.hb hby at_283) rfl k₀) ?_
        show Gm p e below T61 m 284 #[lv q0, .second, lv q1, .second, lv q2, .second, lv q3, .second, iv p4, iv p5, lv c1, .second, lv c2, .second, lv c3, .second, iv sl, lv z5, .second, rv b12, lv ((0 : Int64) + c2), .second, lv (fMin (9223372036854775807 : Int64) q1), .second, lv (fMax (-9223372036854775808 : Int64) q1), .second] [(.int (XT.cmpL (pr z5 (ins q2 c3 (ins q1 c2 [(q0, c1)])) ((((0 : Int64) + c1) + c2) + c3)) ((0 : Int64) + c2)))] _
        have hex62 : ((0 : Int64) + c2) = (eX z5 q0 c1 + eX z5 q1 c2) + eX z5 q2 c3 := by unfold eX; rw [if_neg c18, if_pos c50, if_neg c53]; try simp only [Int64.zero_add, Int64.add_zero]
        refine own_go (fun t₀ k₀ => XS.ifYes X61.here hx rfl (pc0 := 284) (pc' := 289) rfl (Jvm.hb hby at_284) rfl (XT.ll_eq_t (own_perm2 hc1 hc2 hc3 hex62)) (by decide) (by decide) k₀) ?_
        show Gm p e below T61 m 289 #[lv q0, .second, lv q1, .second, lv q2, .second, lv q3, .second, iv p4, iv p5, lv c1, .second, lv c2, .second, lv c3, .second, iv sl, lv z5, .second, rv b12, lv ((0 : Int64) + c2), .second, lv (fMin (9223372036854775807 : Int64) q1), .second, lv (fMax (-9223372036854775808 : Int64) q1), .second] [] _
        refine own_go (fun t₀ k₀ => XS.lload X61.here hx rfl (Jvm.hb hby at_289) rfl k₀) ?_
        show Gm p e below T61 m 291 #[lv q0, .second, lv q1, .second, lv q2, .second, lv q3, .second, iv p4, iv p5, lv c1, .second, lv c2, .second, lv c3, .second, iv sl, lv z5, .second, rv b12, lv ((0 : Int64) + c2), .second, lv (fMin (9223372036854775807 : Int64) q1), .second, lv (fMax (-9223372036854775808 : Int64) q1), .second] [(.long ((0 : Int64) + c2))] _
        refine own_go (fun t₀ k₀ => XS.lconst X61.here hx rfl (Jvm.hb hby at_291) k₀) ?_
        show Gm p e below T61 m 292 #[lv q0, .second, lv q1, .second, lv q2, .second, lv q3, .second, iv p4, iv p5, lv c1, .second, lv c2, .second, lv c3, .second, iv sl, lv z5, .second, rv b12, lv ((0 : Int64) + c2), .second, lv (fMin (9223372036854775807 : Int64) q1), .second, lv (fMax (-9223372036854775808 : Int64) q1), .second] [(.long (0 : Int64)), (.long ((0 : Int64) + c2))] _
        refine own_go (fun t₀ k₀ => XT.lcmp X61.here hx rfl (Jvm.hb hby at_292) rfl k₀) ?_
        show Gm p e below T61 m 293 #[lv q0, .second, lv q1, .second, lv q2, .second, lv q3, .second, iv p4, iv p5, lv c1, .second, lv c2, .second, lv c3, .second, iv sl, lv z5, .second, rv b12, lv ((0 : Int64) + c2), .second, lv (fMin (9223372036854775807 : Int64) q1), .second, lv (fMax (-9223372036854775808 : Int64) q1), .second] [(.int (XT.cmpL ((0 : Int64) + c2) (0 : Int64)))] _
        by_cases c63 : ((0 : Int64) + c2) = (0 : Int64)
        · have hfork := trivial
          refine own_go (fun t₀ k₀ => XS.ifNo X61.here hx rfl (Jvm.hb hby at_293) rfl (XT.ll_ne_f c63) k₀) ?_
          show Gm p e below T61 m 296 #[lv q0, .second, lv q1, .second, lv q2, .second, lv q3, .second, iv p4, iv p5, lv c1, .second, lv c2, .second, lv c3, .second, iv sl, lv z5, .second, rv b12, lv ((0 : Int64) + c2), .second, lv (fMin (9223372036854775807 : Int64) q1), .second, lv (fMax (-9223372036854775808 : Int64) q1), .second] [] _
          refine own_go (fun t₀ k₀ => XS.iconst X61.here hx rfl (Jvm.hb hby at_296) k₀) ?_
          show Gm p e below T61 m 297 #[lv q0, .second, lv q1, .second, lv q2, .second, lv q3, .second, iv p4, iv p5, lv c1, .second, lv c2, .second, lv c3, .second, iv sl, lv z5, .second, rv b12, lv ((0 : Int64) + c2), .second, lv (fMin (9223372036854775807 : Int64) q1), .second, lv (fMax (-9223372036854775808 : Int64) q1), .second] [(.int (1 : Int32))] _
          exact own_retI X61 hx hlk (t := .boolean) Bd.returns rfl (by simp) (Jvm.hb hby at_297) e61 ⟨rfl, N61⟩ (by decide) (by decide)
        · have hfork := trivial
          refine own_go (fun t₀ k₀ => XS.ifYes X61.here hx rfl (pc0 := 293) (pc' := 298) rfl (Jvm.hb hby at_293) rfl (XT.ll_ne_t c63) (by decide) (by decide) k₀) ?_
          show Gm p e below T61 m 298 #[lv q0, .second, lv q1, .second, lv q2, .second, lv q3, .second, iv p4, iv p5, lv c1, .second, lv c2, .second, lv c3, .second, iv sl, lv z5, .second, rv b12, lv ((0 : Int64) + c2), .second, lv (fMin (9223372036854775807 : Int64) q1), .second, lv (fMax (-9223372036854775808 : Int64) q1), .second] [] _
          refine own_go (fun t₀ k₀ => XS.aload X61.here hx rfl (Jvm.hb hby at_298) rfl rfl k₀) ?_
          show Gm p e below T61 m 300 #[lv q0, .second, lv q1, .second, lv q2, .second, lv q3, .second, iv p4, iv p5, lv c1, .second, lv c2, .second, lv c3, .second, iv sl, lv z5, .second, rv b12, lv ((0 : Int64) + c2), .second, lv (fMin (9223372036854775807 : Int64) q1), .second, lv (fMax (-9223372036854775808 : Int64) q1), .second] [(.ref b12)] _
          refine own_go (fun t₀ k₀ => XS.lconst X61.here hx rfl (Jvm.hb hby at_300) k₀) ?_
          show Gm p e below T61 m 301 #[lv q0, .second, lv q1, .second, lv q2, .second, lv q3, .second, iv p4, iv p5, lv c1, .second, lv c2, .second, lv c3, .second, iv sl, lv z5, .second, rv b12, lv ((0 : Int64) + c2), .second, lv (fMin (9223372036854775807 : Int64) q1), .second, lv (fMax (-9223372036854775808 : Int64) q1), .second] [(.long (0 : Int64)), (.ref b12)] _
          obtain ⟨cq64, kq64, q64a, q64b, q64c⟩ := isOf hZ e61 HL17.exa
          obtain ⟨_, _, ⟨T64, L64, k64, n64⟩, -, X64, ⟨Lc64, hQ64, l64, y64, z64⟩, st64⟩ := X61.virtualBack hx (y := (⟨"com/example/libbrake/libbrake/AdmissionLog", "timeOf", "(J)J"⟩ : MethodName)) (z := (⟨"com/example/libbrake/libbrake/AdmissionLog", "timeOf", "(J)J"⟩ : MethodName)) hown (mvT hZ (hw _ (List.mem_of_getElem? (i := 55) rfl))) (mvT hZ (hw _ (List.mem_of_getElem? (i := 56) rfl))) (notFace_of_selects (args := #[]) (mvT hZ (hw _ (List.mem_of_getElem? (i := 58) rfl)))) (mvT hZ (hw _ (List.mem_of_getElem? (i := 58) rfl))) (mvT hZ (hw _ (List.mem_of_getElem? (i := 57) rfl))) (by decide) (backOf (W := 0) (rmT l Z a0 hw [] b12 (0 : Int64) NK16 s17 (dr z5 (ins q2 c3 (ins q1 c2 [(q0, c1)]))) (pr z5 (ins q2 c3 (ins q1 c2 [(q0, c1)])) ((((0 : Int64) + c1) + c2) + c3)) T17.heap n0 Z17 HL17 ⟨(own_ne2 hc1 hc2 hc3 hex62 c63).1, by rw [hsl17]; exact (own_len3 _ _ _ _ _ _).2⟩ (own_lt2 hc1 hc2 hc3 hex62 (by rw [(by decide : (0 : Int64).toInt = 0)]; exact (own_ne2 hc1 hc2 hc3 hex62 c63).2.1))) hZ (hw _ (List.mem_of_getElem? (i := 59) rfl)) (hw _ (List.mem_of_getElem? (i := 2) rfl)) (by decide) (by decide)) q64a q64c (g := (mkF m 301 #[lv q0, .second, lv q1, .second, lv q2, .second, lv q3, .second, iv p4, iv p5, lv c1, .second, lv c2, .second, lv c3, .second, iv sl, lv z5, .second, rv b12, lv ((0 : Int64) + c2), .second, lv (fMin (9223372036854775807 : Int64) q1), .second, lv (fMax (-9223372036854775808 : Int64) q1), .second] [(.long (0 : Int64)), (.ref b12)])) rfl (by rw [hml]; rfl) (Steps.refl _) (argsL := [(.long (0 : Int64))]) (rest := []) (lenOf own_pd7 rfl) rfl (by show 2 * 0 + _ ≤ _; exact Nat.le_of_eq rfl) (Jvm.hb hby at_301) (fun _ _ => ⟨rfl, e61, (by decide : 9 + 0 ≤ _), (by decide : 33 + 0 ≤ _)⟩)
          dsimp only [Pt.U, Pt.locs, Pt.cells, Pt.slots] at X64 l64 y64 z64 st64 hQ64
          subst l64 y64 z64
          obtain ⟨rfl, Nq64, eq64⟩ := hQ64
          have N64 := Fr.app N61 Nq64
          have e64 : T64.heap = T17.heap := eq64
          refine own_go (fun t k => st64.trans k) ?_
          show Gm p e below T64 m 304 #[lv q0, .second, lv q1, .second, lv q2, .second, lv q3, .second, iv p4, iv p5, lv c1, .second, lv c2, .second, lv c3, .second, iv sl, lv z5, .second, rv b12, lv ((0 : Int64) + c2), .second, lv (fMin (9223372036854775807 : Int64) q1), .second, lv (fMax (-9223372036854775808 : Int64) q1), .second] [(.long (tOf (0 : Int64) (dr z5 (ins q2 c3 (ins q1 c2 [(q0, c1)])))))] _
          refine own_go (fun t₀ k₀ => XS.lload X64.here hx rfl (Jvm.hb hby at_304) rfl k₀) ?_
          show Gm p e below T64 m 306 #[lv q0, .second, lv q1, .second, lv q2, .second, lv q3, .second, iv p4, iv p5, lv c1, .second, lv c2, .second, lv c3, .second, iv sl, lv z5, .second, rv b12, lv ((0 : Int64) + c2), .second, lv (fMin (9223372036854775807 : Int64) q1), .second, lv (fMax (-9223372036854775808 : Int64) q1), .second] [(.long (fMin (9223372036854775807 : Int64) q1)), (.long (tOf (0 : Int64) (dr z5 (ins q2 c3 (ins q1 c2 [(q0, c1)])))))] _
          refine own_go (fun t₀ k₀ => XT.lcmp X64.here hx rfl (Jvm.hb hby at_306) rfl k₀) ?_
          show Gm p e below T64 m 307 #[lv q0, .second, lv q1, .second, lv q2, .second, lv q3, .second, iv p4, iv p5, lv c1, .second, lv c2, .second, lv c3, .second, iv sl, lv z5, .second, rv b12, lv ((0 : Int64) + c2), .second, lv (fMin (9223372036854775807 : Int64) q1), .second, lv (fMax (-9223372036854775808 : Int64) q1), .second] [(.int (XT.cmpL (tOf (0 : Int64) (dr z5 (ins q2 c3 (ins q1 c2 [(q0, c1)])))) (fMin (9223372036854775807 : Int64) q1)))] _
          refine own_go (fun t₀ k₀ => XS.ifNo X64.here hx rfl (Jvm.hb hby at_307) rfl (XT.ll_ne_f (own_lo hc1 hc2 hc3 hex62 c63 (by unfold loF; rw [if_neg c18, if_pos c50, if_neg c53]))) k₀) ?_
          show Gm p e below T64 m 310 #[lv q0, .second, lv q1, .second, lv q2, .second, lv q3, .second, iv p4, iv p5, lv c1, .second, lv c2, .second, lv c3, .second, iv sl, lv z5, .second, rv b12, lv ((0 : Int64) + c2), .second, lv (fMin (9223372036854775807 : Int64) q1), .second, lv (fMax (-9223372036854775808 : Int64) q1), .second] [] _
          refine own_go (fun t₀ k₀ => XS.aload X64.here hx rfl (Jvm.hb hby at_310) rfl rfl k₀) ?_
          show Gm p e below T64 m 312 #[lv q0, .second, lv q1, .second, lv q2, .second, lv q3, .second, iv p4, iv p5, lv c1, .second, lv c2, .second, lv c3, .second, iv sl, lv z5, .second, rv b12, lv ((0 : Int64) + c2), .second, lv (fMin (9223372036854775807 : Int64) q1), .second, lv (fMax (-9223372036854775808 : Int64) q1), .second] [(.ref b12)] _
          refine own_go (fun t₀ k₀ => XS.lload X64.here hx rfl (Jvm.hb hby at_312) rfl k₀) ?_
          show Gm p e below T64 m 314 #[lv q0, .second, lv q1, .second, lv q2, .second, lv q3, .second, iv p4, iv p5, lv c1, .second, lv c2, .second, lv c3, .second, iv sl, lv z5, .second, rv b12, lv ((0 : Int64) + c2), .second, lv (fMin (9223372036854775807 : Int64) q1), .second, lv (fMax (-9223372036854775808 : Int64) q1), .second] [(.long ((0 : Int64) + c2)), (.ref b12)] _
          refine own_go (fun t₀ k₀ => XS.lconst X64.here hx rfl (Jvm.hb hby at_314) k₀) ?_
          show Gm p e below T64 m 315 #[lv q0, .second, lv q1, .second, lv q2, .second, lv q3, .second, iv p4, iv p5, lv c1, .second, lv c2, .second, lv c3, .second, iv sl, lv z5, .second, rv b12, lv ((0 : Int64) + c2), .second, lv (fMin (9223372036854775807 : Int64) q1), .second, lv (fMax (-9223372036854775808 : Int64) q1), .second] [(.long (1 : Int64)), (.long ((0 : Int64) + c2)), (.ref b12)] _
          refine own_go (fun t₀ k₀ => XS.lsub X64.here hx rfl (Jvm.hb hby at_315) rfl k₀) ?_
          show Gm p e below T64 m 316 #[lv q0, .second, lv q1, .second, lv q2, .second, lv q3, .second, iv p4, iv p5, lv c1, .second, lv c2, .second, lv c3, .second, iv sl, lv z5, .second, rv b12, lv ((0 : Int64) + c2), .second, lv (fMin (9223372036854775807 : Int64) q1), .second, lv (fMax (-9223372036854775808 : Int64) q1), .second] [(.long (((0 : Int64) + c2) - (1 : Int64))), (.ref b12)] _
          obtain ⟨cq65, kq65, q65a, q65b, q65c⟩ := isOf hZ e64 HL17.exa
          obtain ⟨_, _, ⟨T65, L65, k65, n65⟩, -, X65, ⟨Lc65, hQ65, l65, y65, z65⟩, st65⟩ := X64.virtualBack hx (y := (⟨"com/example/libbrake/libbrake/AdmissionLog", "timeOf", "(J)J"⟩ : MethodName)) (z := (⟨"com/example/libbrake/libbrake/AdmissionLog", "timeOf", "(J)J"⟩ : MethodName)) hown (mvT hZ (hw _ (List.mem_of_getElem? (i := 55) rfl))) (mvT hZ (hw _ (List.mem_of_getElem? (i := 56) rfl))) (notFace_of_selects (args := #[]) (mvT hZ (hw _ (List.mem_of_getElem? (i := 58) rfl)))) (mvT hZ (hw _ (List.mem_of_getElem? (i := 58) rfl))) (mvT hZ (hw _ (List.mem_of_getElem? (i := 57) rfl))) (by decide) (backOf (W := 0) (rmT l Z a0 hw [] b12 (((0 : Int64) + c2) - (1 : Int64)) NK16 s17 (dr z5 (ins q2 c3 (ins q1 c2 [(q0, c1)]))) (pr z5 (ins q2 c3 (ins q1 c2 [(q0, c1)])) ((((0 : Int64) + c1) + c2) + c3)) T17.heap n0 Z17 HL17 ⟨(own_ne2 hc1 hc2 hc3 hex62 c63).1, by rw [hsl17]; exact (own_len3 _ _ _ _ _ _).2⟩ (own_lt2 hc1 hc2 hc3 hex62 (by rw [ex1 hc1 hc2 hc3 hex62 c63]; omega))) hZ (hw _ (List.mem_of_getElem? (i := 59) rfl)) (hw _ (List.mem_of_getElem? (i := 2) rfl)) (by decide) (by decide)) q65a q65c (g := (mkF m 316 #[lv q0, .second, lv q1, .second, lv q2, .second, lv q3, .second, iv p4, iv p5, lv c1, .second, lv c2, .second, lv c3, .second, iv sl, lv z5, .second, rv b12, lv ((0 : Int64) + c2), .second, lv (fMin (9223372036854775807 : Int64) q1), .second, lv (fMax (-9223372036854775808 : Int64) q1), .second] [(.long (((0 : Int64) + c2) - (1 : Int64))), (.ref b12)])) rfl (by rw [hml]; rfl) (Steps.refl _) (argsL := [(.long (((0 : Int64) + c2) - (1 : Int64)))]) (rest := []) (lenOf own_pd7 rfl) rfl (by show 2 * 0 + _ ≤ _; exact Nat.le_of_eq rfl) (Jvm.hb hby at_316) (fun _ _ => ⟨rfl, e64, (by decide : 9 + 0 ≤ _), (by decide : 33 + 0 ≤ _)⟩)
          dsimp only [Pt.U, Pt.locs, Pt.cells, Pt.slots] at X65 l65 y65 z65 st65 hQ65
          subst l65 y65 z65
          obtain ⟨rfl, Nq65, eq65⟩ := hQ65
          have N65 := Fr.app N64 Nq65
          have e65 : T65.heap = T17.heap := eq65
          refine own_go (fun t k => st65.trans k) ?_
          show Gm p e below T65 m 319 #[lv q0, .second, lv q1, .second, lv q2, .second, lv q3, .second, iv p4, iv p5, lv c1, .second, lv c2, .second, lv c3, .second, iv sl, lv z5, .second, rv b12, lv ((0 : Int64) + c2), .second, lv (fMin (9223372036854775807 : Int64) q1), .second, lv (fMax (-9223372036854775808 : Int64) q1), .second] [(.long (tOf (((0 : Int64) + c2) - (1 : Int64)) (dr z5 (ins q2 c3 (ins q1 c2 [(q0, c1)])))))] _
          refine own_go (fun t₀ k₀ => XS.lload X65.here hx rfl (Jvm.hb hby at_319) rfl k₀) ?_
          show Gm p e below T65 m 321 #[lv q0, .second, lv q1, .second, lv q2, .second, lv q3, .second, iv p4, iv p5, lv c1, .second, lv c2, .second, lv c3, .second, iv sl, lv z5, .second, rv b12, lv ((0 : Int64) + c2), .second, lv (fMin (9223372036854775807 : Int64) q1), .second, lv (fMax (-9223372036854775808 : Int64) q1), .second] [(.long (fMax (-9223372036854775808 : Int64) q1)), (.long (tOf (((0 : Int64) + c2) - (1 : Int64)) (dr z5 (ins q2 c3 (ins q1 c2 [(q0, c1)])))))] _
          refine own_go (fun t₀ k₀ => XT.lcmp X65.here hx rfl (Jvm.hb hby at_321) rfl k₀) ?_
          show Gm p e below T65 m 322 #[lv q0, .second, lv q1, .second, lv q2, .second, lv q3, .second, iv p4, iv p5, lv c1, .second, lv c2, .second, lv c3, .second, iv sl, lv z5, .second, rv b12, lv ((0 : Int64) + c2), .second, lv (fMin (9223372036854775807 : Int64) q1), .second, lv (fMax (-9223372036854775808 : Int64) q1), .second] [(.int (XT.cmpL (tOf (((0 : Int64) + c2) - (1 : Int64)) (dr z5 (ins q2 c3 (ins q1 c2 [(q0, c1)])))) (fMax (-9223372036854775808 : Int64) q1)))] _
          refine own_go (fun t₀ k₀ => XS.ifNo X65.here hx rfl (Jvm.hb hby at_322) rfl (XT.ll_ne_f (own_hi hc1 hc2 hc3 hex62 c63 (by unfold hiF; rw [if_neg c18, if_pos c50, if_neg c53]))) k₀) ?_
          show Gm p e below T65 m 325 #[lv q0, .second, lv q1, .second, lv q2, .second, lv q3, .second, iv p4, iv p5, lv c1, .second, lv c2, .second, lv c3, .second, iv sl, lv z5, .second, rv b12, lv ((0 : Int64) + c2), .second, lv (fMin (9223372036854775807 : Int64) q1), .second, lv (fMax (-9223372036854775808 : Int64) q1), .second] [] _
          refine own_go (fun t₀ k₀ => XS.iconst X65.here hx rfl (Jvm.hb hby at_325) k₀) ?_
          show Gm p e below T65 m 326 #[lv q0, .second, lv q1, .second, lv q2, .second, lv q3, .second, iv p4, iv p5, lv c1, .second, lv c2, .second, lv c3, .second, iv sl, lv z5, .second, rv b12, lv ((0 : Int64) + c2), .second, lv (fMin (9223372036854775807 : Int64) q1), .second, lv (fMax (-9223372036854775808 : Int64) q1), .second] [(.int (1 : Int32))] _
          refine own_go (fun t₀ k₀ => XS.goto X65.here hx rfl (pc0 := 326) (pc' := 330) rfl (Jvm.hb hby at_326) (by decide) (by decide) k₀) ?_
          show Gm p e below T65 m 330 #[lv q0, .second, lv q1, .second, lv q2, .second, lv q3, .second, iv p4, iv p5, lv c1, .second, lv c2, .second, lv c3, .second, iv sl, lv z5, .second, rv b12, lv ((0 : Int64) + c2), .second, lv (fMin (9223372036854775807 : Int64) q1), .second, lv (fMax (-9223372036854775808 : Int64) q1), .second] [(.int (1 : Int32))] _
          exact own_retI X65 hx hlk (t := .boolean) Bd.returns rfl (by simp) (Jvm.hb hby at_330) e65 ⟨rfl, N65⟩ (by decide) (by decide)
    · have hfork := trivial
      refine own_go (fun t₀ k₀ => XS.ifYes X17.here hx rfl (pc0 := 217) (pc' := 243) rfl (Jvm.hb hby at_217) rfl (XT.ll_le_t c50) (by decide) (by decide) k₀) ?_
      show Gm p e below T17 m 243 #[lv q0, .second, lv q1, .second, lv q2, .second, lv q3, .second, iv p4, iv p5, lv c1, .second, lv c2, .second, lv c3, .second, iv sl, lv z5, .second, rv b12, lv (0 : Int64), .second, lv (9223372036854775807 : Int64), .second, lv (-9223372036854775808 : Int64), .second] [] _
      refine own_go (fun t₀ k₀ => XS.lload X17.here hx rfl (Jvm.hb hby at_243) rfl k₀) ?_
      show Gm p e below T17 m 245 #[lv q0, .second, lv q1, .second, lv q2, .second, lv q3, .second, iv p4, iv p5, lv c1, .second, lv c2, .second, lv c3, .second, iv sl, lv z5, .second, rv b12, lv (0 : Int64), .second, lv (9223372036854775807 : Int64), .second, lv (-9223372036854775808 : Int64), .second] [(.long q2)] _
      refine own_go (fun t₀ k₀ => XS.lload X17.here hx rfl (Jvm.hb hby at_245) rfl k₀) ?_
      show Gm p e below T17 m 247 #[lv q0, .second, lv q1, .second, lv q2, .second, lv q3, .second, iv p4, iv p5, lv c1, .second, lv c2, .second, lv c3, .second, iv sl, lv z5, .second, rv b12, lv (0 : Int64), .second, lv (9223372036854775807 : Int64), .second, lv (-9223372036854775808 : Int64), .second] [(.long z5), (.long q2)] _
      refine own_go (fun t₀ k₀ => XT.lcmp X17.here hx rfl (Jvm.hb hby at_247) rfl k₀) ?_
      show Gm p e below T17 m 248 #[lv q0, .second, lv q1, .second, lv q2, .second, lv q3, .second, iv p4, iv p5, lv c1, .second, lv c2, .second, lv c3, .second, iv sl, lv z5, .second, rv b12, lv (0 : Int64), .second, lv (9223372036854775807 : Int64), .second, lv (-9223372036854775808 : Int64), .second] [(.int (XT.cmpL q2 z5))] _
      by_cases c66 : z5 < q2
      · have hfork := trivial
        refine own_go (fun t₀ k₀ => XS.ifNo X17.here hx rfl (Jvm.hb hby at_248) rfl (XT.ll_le_f c66) k₀) ?_
        show Gm p e below T17 m 251 #[lv q0, .second, lv q1, .second, lv q2, .second, lv q3, .second, iv p4, iv p5, lv c1, .second, lv c2, .second, lv c3, .second, iv sl, lv z5, .second, rv b12, lv (0 : Int64), .second, lv (9223372036854775807 : Int64), .second, lv (-9223372036854775808 : Int64), .second] [] _
        refine own_go (fun t₀ k₀ => XS.lload X17.here hx rfl (Jvm.hb hby at_251) rfl k₀) ?_
        show Gm p e below T17 m 253 #[lv q0, .second, lv q1, .second, lv q2, .second, lv q3, .second, iv p4, iv p5, lv c1, .second, lv c2, .second, lv c3, .second, iv sl, lv z5, .second, rv b12, lv (0 : Int64), .second, lv (9223372036854775807 : Int64), .second, lv (-9223372036854775808 : Int64), .second] [(.long (0 : Int64))] _
        refine own_go (fun t₀ k₀ => XS.lload X17.here hx rfl (Jvm.hb hby at_253) rfl k₀) ?_
        show Gm p e below T17 m 255 #[lv q0, .second, lv q1, .second, lv q2, .second, lv q3, .second, iv p4, iv p5, lv c1, .second, lv c2, .second, lv c3, .second, iv sl, lv z5, .second, rv b12, lv (0 : Int64), .second, lv (9223372036854775807 : Int64), .second, lv (-9223372036854775808 : Int64), .second] [(.long c3), (.long (0 : Int64))] _
        refine own_go (fun t₀ k₀ => XS.ladd X17.here hx rfl (Jvm.hb hby at_255) rfl k₀) ?_
        show Gm p e below T17 m 256 #[lv q0, .second, lv q1, .second, lv q2, .second, lv q3, .second, iv p4, iv p5, lv c1, .second, lv c2, .second, lv c3, .second, iv sl, lv z5, .second, rv b12, lv (0 : Int64), .second, lv (9223372036854775807 : Int64), .second, lv (-9223372036854775808 : Int64), .second] [(.long ((0 : Int64) + c3))] _
        refine own_go (fun t₀ k₀ => XS.lstore X17.here hx rfl (Jvm.hb hby at_256) rfl (l' := #[lv q0, .second, lv q1, .second, lv q2, .second, lv q3, .second, iv p4, iv p5, lv c1, .second, lv c2, .second, lv c3, .second, iv sl, lv z5, .second, rv b12, lv ((0 : Int64) + c3), .second, lv (9223372036854775807 : Int64), .second, lv (-9223372036854775808 : Int64), .second]) rfl k₀) ?_
        show Gm p e below T17 m 258 #[lv q0, .second, lv q1, .second, lv q2, .second, lv q3, .second, iv p4, iv p5, lv c1, .second, lv c2, .second, lv c3, .second, iv sl, lv z5, .second, rv b12, lv ((0 : Int64) + c3), .second, lv (9223372036854775807 : Int64), .second, lv (-9223372036854775808 : Int64), .second] [] _
        refine own_go (fun t₀ k₀ => XS.lload X17.here hx rfl (Jvm.hb hby at_258) rfl k₀) ?_
        show Gm p e below T17 m 260 #[lv q0, .second, lv q1, .second, lv q2, .second, lv q3, .second, iv p4, iv p5, lv c1, .second, lv c2, .second, lv c3, .second, iv sl, lv z5, .second, rv b12, lv ((0 : Int64) + c3), .second, lv (9223372036854775807 : Int64), .second, lv (-9223372036854775808 : Int64), .second] [(.long (9223372036854775807 : Int64))] _
        refine own_go (fun t₀ k₀ => XS.lload X17.here hx rfl (Jvm.hb hby at_260) rfl k₀) ?_
        show Gm p e below T17 m 262 #[lv q0, .second, lv q1, .second, lv q2, .second, lv q3, .second, iv p4, iv p5, lv c1, .second, lv c2, .second, lv c3, .second, iv sl, lv z5, .second, rv b12, lv ((0 : Int64) + c3), .second, lv (9223372036854775807 : Int64), .second, lv (-9223372036854775808 : Int64), .second] [(.long q2), (.long (9223372036854775807 : Int64))] _
        obtain ⟨_, _, ⟨T67, L67, k67, n67⟩, -, X67, ⟨Lc67, hQ67, l67, y67, z67⟩, st67⟩ := Jvm.LawKit.callS X17 hx (y := (⟨"java/lang/Math", "min", "(JJ)J"⟩ : MethodName)) hown (mvT hZ (hw _ (List.mem_of_getElem? (i := 49) rfl))) (mvT hZ (hw _ (List.mem_of_getElem? (i := 50) rfl))) (mvT hZ (hw _ (List.mem_of_getElem? (i := 31) rfl))) (mvT hZ (hw _ (List.mem_of_getElem? (i := 51) rfl))) (by decide) (backOf (W := 0) (rm8 l Z a0 hw [] (9223372036854775807 : Int64) q2 T17.heap n0 Z17) hZ (hw _ (List.mem_of_getElem? (i := 51) rfl)) (hw _ (List.mem_of_getElem? (i := 31) rfl)) (by decide) (by decide)) (g := (mkF m 262 #[lv q0, .second, lv q1, .second, lv q2, .second, lv q3, .second, iv p4, iv p5, lv c1, .second, lv c2, .second, lv c3, .second, iv sl, lv z5, .second, rv b12, lv ((0 : Int64) + c3), .second, lv (9223372036854775807 : Int64), .second, lv (-9223372036854775808 : Int64), .second] [(.long q2), (.long (9223372036854775807 : Int64))])) rfl (by rw [hml]; rfl) (argsL := [(.long (9223372036854775807 : Int64)), (.long q2)]) (rest := []) (lenOf own_pd5 rfl) rfl (by show 2 * 0 + _ ≤ _; exact Nat.le_of_eq rfl) (Jvm.hb hby at_262) (fun _ _ => ⟨rfl, rfl, (by decide : 9 + 0 ≤ _), (by decide : 33 + 0 ≤ _)⟩)
        dsimp only [Pt.U, Pt.locs, Pt.cells, Pt.slots] at X67 l67 y67 z67 st67 hQ67
        subst l67 y67 z67
        obtain ⟨rfl, Nq67, eq67⟩ := hQ67
        have N67 := Fr.app N17 Nq67
        have e67 : T67.heap = T17.heap := eq67
        refine own_go st67 ?_
        show Gm p e below T67 m 265 #[lv q0, .second, lv q1, .second, lv q2, .second, lv q3, .second, iv p4, iv p5, lv c1, .second, lv c2, .second, lv c3, .second, iv sl, lv z5, .second, rv b12, lv ((0 : Int64) + c3), .second, lv (9223372036854775807 : Int64), .second, lv (-9223372036854775808 : Int64), .second] [(.long (fMin (9223372036854775807 : Int64) q2))] _
        refine own_go (fun t₀ k₀ => XS.lstore X67.here hx rfl (Jvm.hb hby at_265) rfl (l' := #[lv q0, .second, lv q1, .second, lv q2, .second, lv q3, .second, iv p4, iv p5, lv c1, .second, lv c2, .second, lv c3, .second, iv sl, lv z5, .second, rv b12, lv ((0 : Int64) + c3), .second, lv (fMin (9223372036854775807 : Int64) q2), .second, lv (-9223372036854775808 : Int64), .second]) rfl k₀) ?_
        show Gm p e below T67 m 267 #[lv q0, .second, lv q1, .second, lv q2, .second, lv q3, .second, iv p4, iv p5, lv c1, .second, lv c2, .second, lv c3, .second, iv sl, lv z5, .second, rv b12, lv ((0 : Int64) + c3), .second, lv (fMin (9223372036854775807 : Int64) q2), .second, lv (-9223372036854775808 : Int64), .second] [] _
        refine own_go (fun t₀ k₀ => XS.lload X67.here hx rfl (Jvm.hb hby at_267) rfl k₀) ?_
        show Gm p e below T67 m 269 #[lv q0, .second, lv q1, .second, lv q2, .second, lv q3, .second, iv p4, iv p5, lv c1, .second, lv c2, .second, lv c3, .second, iv sl, lv z5, .second, rv b12, lv ((0 : Int64) + c3), .second, lv (fMin (9223372036854775807 : Int64) q2), .second, lv (-9223372036854775808 : Int64), .second] [(.long (-9223372036854775808 : Int64))] _
        refine own_go (fun t₀ k₀ => XS.lload X67.here hx rfl (Jvm.hb hby at_269) rfl k₀) ?_
        show Gm p e below T67 m 271 #[lv q0, .second, lv q1, .second, lv q2, .second, lv q3, .second, iv p4, iv p5, lv c1, .second, lv c2, .second, lv c3, .second, iv sl, lv z5, .second, rv b12, lv ((0 : Int64) + c3), .second, lv (fMin (9223372036854775807 : Int64) q2), .second, lv (-9223372036854775808 : Int64), .second] [(.long q2), (.long (-9223372036854775808 : Int64))] _
        obtain ⟨_, _, ⟨T68, L68, k68, n68⟩, -, X68, ⟨Lc68, hQ68, l68, y68, z68⟩, st68⟩ := Jvm.LawKit.callS X67 hx (y := (⟨"java/lang/Math", "max", "(JJ)J"⟩ : MethodName)) hown (mvT hZ (hw _ (List.mem_of_getElem? (i := 52) rfl))) (mvT hZ (hw _ (List.mem_of_getElem? (i := 53) rfl))) (mvT hZ (hw _ (List.mem_of_getElem? (i := 31) rfl))) (mvT hZ (hw _ (List.mem_of_getElem? (i := 54) rfl))) (by decide) (backOf (W := 0) (rm9 l Z a0 hw [] (-9223372036854775808 : Int64) q2 T17.heap n0 Z17) hZ (hw _ (List.mem_of_getElem? (i := 54) rfl)) (hw _ (List.mem_of_getElem? (i := 31) rfl)) (by decide) (by decide)) (g := (mkF m 271 #[lv q0, .second, lv q1, .second, lv q2, .second, lv q3, .second, iv p4, iv p5, lv c1, .second, lv c2, .second, lv c3, .second, iv sl, lv z5, .second, rv b12, lv ((0 : Int64) + c3), .second, lv (fMin (9223372036854775807 : Int64) q2), .second, lv (-9223372036854775808 : Int64), .second] [(.long q2), (.long (-9223372036854775808 : Int64))])) rfl (by rw [hml]; rfl) (argsL := [(.long (-9223372036854775808 : Int64)), (.long q2)]) (rest := []) (lenOf own_pd5 rfl) rfl (by show 2 * 0 + _ ≤ _; exact Nat.le_of_eq rfl) (Jvm.hb hby at_271) (fun _ _ => ⟨rfl, e67, (by decide : 9 + 0 ≤ _), (by decide : 33 + 0 ≤ _)⟩)
        dsimp only [Pt.U, Pt.locs, Pt.cells, Pt.slots] at X68 l68 y68 z68 st68 hQ68
        subst l68 y68 z68
        obtain ⟨rfl, Nq68, eq68⟩ := hQ68
        have N68 := Fr.app N67 Nq68
        have e68 : T68.heap = T17.heap := eq68
        refine own_go st68 ?_
        show Gm p e below T68 m 274 #[lv q0, .second, lv q1, .second, lv q2, .second, lv q3, .second, iv p4, iv p5, lv c1, .second, lv c2, .second, lv c3, .second, iv sl, lv z5, .second, rv b12, lv ((0 : Int64) + c3), .second, lv (fMin (9223372036854775807 : Int64) q2), .second, lv (-9223372036854775808 : Int64), .second] [(.long (fMax (-9223372036854775808 : Int64) q2))] _
        refine own_go (fun t₀ k₀ => XS.lstore X68.here hx rfl (Jvm.hb hby at_274) rfl (l' := #[lv q0, .second, lv q1, .second, lv q2, .second, lv q3, .second, iv p4, iv p5, lv c1, .second, lv c2, .second, lv c3, .second, iv sl, lv z5, .second, rv b12, lv ((0 : Int64) + c3), .second, lv (fMin (9223372036854775807 : Int64) q2), .second, lv (fMax (-9223372036854775808 : Int64) q2), .second]) rfl k₀) ?_
        show Gm p e below T68 m 276 #[lv q0, .second, lv q1, .second, lv q2, .second, lv q3, .second, iv p4, iv p5, lv c1, .second, lv c2, .second, lv c3, .second, iv sl, lv z5, .second, rv b12, lv ((0 : Int64) + c3), .second, lv (fMin (9223372036854775807 : Int64) q2), .second, lv (fMax (-9223372036854775808 : Int64) q2), .second] [] _
        refine own_go (fun t₀ k₀ => XS.aload X68.here hx rfl (Jvm.hb hby at_276) rfl rfl k₀) ?_
        show Gm p e below T68 m 278 #[lv q0, .second, lv q1, .second, lv q2, .second, lv q3, .second, iv p4, iv p5, lv c1, .second, lv c2, .second, lv c3, .second, iv sl, lv z5, .second, rv b12, lv ((0 : Int64) + c3), .second, lv (fMin (9223372036854775807 : Int64) q2), .second, lv (fMax (-9223372036854775808 : Int64) q2), .second] [(.ref b12)] _
        obtain ⟨cq69, kq69, q69a, q69b, q69c⟩ := isOf hZ e68 HL17.exa
        obtain ⟨_, _, ⟨T69, L69, k69, n69⟩, -, X69, ⟨Lc69, hQ69, l69, y69, z69⟩, st69⟩ := X68.virtualBack hx (y := (⟨"com/example/libbrake/libbrake/AdmissionLog", "permits", "()J"⟩ : MethodName)) (z := (⟨"com/example/libbrake/libbrake/AdmissionLog", "permits", "()J"⟩ : MethodName)) hown (mvT hZ (hw _ (List.mem_of_getElem? (i := 44) rfl))) (mvT hZ (hw _ (List.mem_of_getElem? (i := 45) rfl))) (notFace_of_selects (args := #[]) (mvT hZ (hw _ (List.mem_of_getElem? (i := 47) rfl)))) (mvT hZ (hw _ (List.mem_of_getElem? (i := 47) rfl))) (mvT hZ (hw _ (List.mem_of_getElem? (i := 46) rfl))) (by decide) (backOf (W := 0) (rm7 l Z a0 hw [] b12 (pr z5 (ins q2 c3 (ins q1 c2 [(q0, c1)])) ((((0 : Int64) + c1) + c2) + c3)) T17.heap n0 Z17 HL17.per) hZ (hw _ (List.mem_of_getElem? (i := 48) rfl)) (hw _ (List.mem_of_getElem? (i := 2) rfl)) (by decide) (by decide)) q69a q69c (g := (mkF m 278 #[lv q0, .second, lv q1, .second, lv q2, .second, lv q3, .second, iv p4, iv p5, lv c1, .second, lv c2, .second, lv c3, .second, iv sl, lv z5, .second, rv b12, lv ((0 : Int64) + c3), .second, lv (fMin (9223372036854775807 : Int64) q2), .second, lv (fMax (-9223372036854775808 : Int64) q2), .second] [(.ref b12)])) rfl (by rw [hml]; rfl) (Steps.refl _) (argsL := []) (rest := []) (lenOf own_pd6 rfl) rfl (by show 2 * 0 + _ ≤ _; exact Nat.le_of_eq rfl) (Jvm.hb hby at_278) (fun _ _ => ⟨rfl, e68, (by decide : 9 + 0 ≤ _), (by decide : 33 + 0 ≤ _)⟩)
        dsimp only [Pt.U, Pt.locs, Pt.cells, Pt.slots] at X69 l69 y69 z69 st69 hQ69
        subst l69 y69 z69
        obtain ⟨rfl, Nq69, eq69⟩ := hQ69
        have N69 := Fr.app N68 Nq69
        have e69 : T69.heap = T17.heap := eq69
        refine own_go (fun t k => st69.trans k) ?_
        show Gm p e below T69 m 281 #[lv q0, .second, lv q1, .second, lv q2, .second, lv q3, .second, iv p4, iv p5, lv c1, .second, lv c2, .second, lv c3, .second, iv sl, lv z5, .second, rv b12, lv ((0 : Int64) + c3), .second, lv (fMin (9223372036854775807 : Int64) q2), .second, lv (fMax (-9223372036854775808 : Int64) q2), .second] [(.long (pr z5 (ins q2 c3 (ins q1 c2 [(q0, c1)])) ((((0 : Int64) + c1) + c2) + c3)))] _
        refine own_go (fun t₀ k₀ => XS.lload X69.here hx rfl (Jvm.hb hby at_281) rfl k₀) ?_
        show Gm p e below T69 m 283 #[lv q0, .second, lv q1, .second, lv q2, .second, lv q3, .second, iv p4, iv p5, lv c1, .second, lv c2, .second, lv c3, .second, iv sl, lv z5, .second, rv b12, lv ((0 : Int64) + c3), .second, lv (fMin (9223372036854775807 : Int64) q2), .second, lv (fMax (-9223372036854775808 : Int64) q2), .second] [(.long ((0 : Int64) + c3)), (.long (pr z5 (ins q2 c3 (ins q1 c2 [(q0, c1)])) ((((0 : Int64) + c1) + c2) + c3)))] _
        refine own_go (fun t₀ k₀ => XT.lcmp X69.here hx rfl (Jvm.hb hby at_283) rfl k₀) ?_
        show Gm p e below T69 m 284 #[lv q0, .second, lv q1, .second, lv q2, .second, lv q3, .second, iv p4, iv p5, lv c1, .second, lv c2, .second, lv c3, .second, iv sl, lv z5, .second, rv b12, lv ((0 : Int64) + c3), .second, lv (fMin (9223372036854775807 : Int64) q2), .second, lv (fMax (-9223372036854775808 : Int64) q2), .second] [(.int (XT.cmpL (pr z5 (ins q2 c3 (ins q1 c2 [(q0, c1)])) ((((0 : Int64) + c1) + c2) + c3)) ((0 : Int64) + c3)))] _
        have hex70 : ((0 : Int64) + c3) = (eX z5 q0 c1 + eX z5 q1 c2) + eX z5 q2 c3 := by unfold eX; rw [if_neg c18, if_neg c50, if_pos c66]; try simp only [Int64.zero_add, Int64.add_zero]
        refine own_go (fun t₀ k₀ => XS.ifYes X69.here hx rfl (pc0 := 284) (pc' := 289) rfl (Jvm.hb hby at_284) rfl (XT.ll_eq_t (own_perm2 hc1 hc2 hc3 hex70)) (by decide) (by decide) k₀) ?_
        show Gm p e below T69 m 289 #[lv q0, .second, lv q1, .second, lv q2, .second, lv q3, .second, iv p4, iv p5, lv c1, .second, lv c2, .second, lv c3, .second, iv sl, lv z5, .second, rv b12, lv ((0 : Int64) + c3), .second, lv (fMin (9223372036854775807 : Int64) q2), .second, lv (fMax (-9223372036854775808 : Int64) q2), .second] [] _
        refine own_go (fun t₀ k₀ => XS.lload X69.here hx rfl (Jvm.hb hby at_289) rfl k₀) ?_
        show Gm p e below T69 m 291 #[lv q0, .second, lv q1, .second, lv q2, .second, lv q3, .second, iv p4, iv p5, lv c1, .second, lv c2, .second, lv c3, .second, iv sl, lv z5, .second, rv b12, lv ((0 : Int64) + c3), .second, lv (fMin (9223372036854775807 : Int64) q2), .second, lv (fMax (-9223372036854775808 : Int64) q2), .second] [(.long ((0 : Int64) + c3))] _
        refine own_go (fun t₀ k₀ => XS.lconst X69.here hx rfl (Jvm.hb hby at_291) k₀) ?_
        show Gm p e below T69 m 292 #[lv q0, .second, lv q1, .second, lv q2, .second, lv q3, .second, iv p4, iv p5, lv c1, .second, lv c2, .second, lv c3, .second, iv sl, lv z5, .second, rv b12, lv ((0 : Int64) + c3), .second, lv (fMin (9223372036854775807 : Int64) q2), .second, lv (fMax (-9223372036854775808 : Int64) q2), .second] [(.long (0 : Int64)), (.long ((0 : Int64) + c3))] _
        refine own_go (fun t₀ k₀ => XT.lcmp X69.here hx rfl (Jvm.hb hby at_292) rfl k₀) ?_
        show Gm p e below T69 m 293 #[lv q0, .second, lv q1, .second, lv q2, .second, lv q3, .second, iv p4, iv p5, lv c1, .second, lv c2, .second, lv c3, .second, iv sl, lv z5, .second, rv b12, lv ((0 : Int64) + c3), .second, lv (fMin (9223372036854775807 : Int64) q2), .second, lv (fMax (-9223372036854775808 : Int64) q2), .second] [(.int (XT.cmpL ((0 : Int64) + c3) (0 : Int64)))] _
        by_cases c71 : ((0 : Int64) + c3) = (0 : Int64)
        · have hfork := trivial
          refine own_go (fun t₀ k₀ => XS.ifNo X69.here hx rfl (Jvm.hb hby at_293) rfl (XT.ll_ne_f c71) k₀) ?_
          show Gm p e below T69 m 296 #[lv q0, .second, lv q1, .second, lv q2, .second, lv q3, .second, iv p4, iv p5, lv c1, .second, lv c2, .second, lv c3, .second, iv sl, lv z5, .second, rv b12, lv ((0 : Int64) + c3), .second, lv (fMin (9223372036854775807 : Int64) q2), .second, lv (fMax (-9223372036854775808 : Int64) q2), .second] [] _
          refine own_go (fun t₀ k₀ => XS.iconst X69.here hx rfl (Jvm.hb hby at_296) k₀) ?_
          show Gm p e below T69 m 297 #[lv q0, .second, lv q1, .second, lv q2, .second, lv q3, .second, iv p4, iv p5, lv c1, .second, lv c2, .second, lv c3, .second, iv sl, lv z5, .second, rv b12, lv ((0 : Int64) + c3), .second, lv (fMin (9223372036854775807 : Int64) q2), .second, lv (fMax (-9223372036854775808 : Int64) q2), .second] [(.int (1 : Int32))] _
          exact own_retI X69 hx hlk (t := .boolean) Bd.returns rfl (by simp) (Jvm.hb hby at_297) e69 ⟨rfl, N69⟩ (by decide) (by decide)
        · have hfork := trivial
          refine own_go (fun t₀ k₀ => XS.ifYes X69.here hx rfl (pc0 := 293) (pc' := 298) rfl (Jvm.hb hby at_293) rfl (XT.ll_ne_t c71) (by decide) (by decide) k₀) ?_
          show Gm p e below T69 m 298 #[lv q0, .second, lv q1, .second, lv q2, .second, lv q3, .second, iv p4, iv p5, lv c1, .second, lv c2, .second, lv c3, .second, iv sl, lv z5, .second, rv b12, lv ((0 : Int64) + c3), .second, lv (fMin (9223372036854775807 : Int64) q2), .second, lv (fMax (-9223372036854775808 : Int64) q2), .second] [] _
          refine own_go (fun t₀ k₀ => XS.aload X69.here hx rfl (Jvm.hb hby at_298) rfl rfl k₀) ?_
          show Gm p e below T69 m 300 #[lv q0, .second, lv q1, .second, lv q2, .second, lv q3, .second, iv p4, iv p5, lv c1, .second, lv c2, .second, lv c3, .second, iv sl, lv z5, .second, rv b12, lv ((0 : Int64) + c3), .second, lv (fMin (9223372036854775807 : Int64) q2), .second, lv (fMax (-9223372036854775808 : Int64) q2), .second] [(.ref b12)] _
          refine own_go (fun t₀ k₀ => XS.lconst X69.here hx rfl (Jvm.hb hby at_300) k₀) ?_
          show Gm p e below T69 m 301 #[lv q0, .second, lv q1, .second, lv q2, .second, lv q3, .second, iv p4, iv p5, lv c1, .second, lv c2, .second, lv c3, .second, iv sl, lv z5, .second, rv b12, lv ((0 : Int64) + c3), .second, lv (fMin (9223372036854775807 : Int64) q2), .second, lv (fMax (-9223372036854775808 : Int64) q2), .second] [(.long (0 : Int64)), (.ref b12)] _
          obtain ⟨cq72, kq72, q72a, q72b, q72c⟩ := isOf hZ e69 HL17.exa
          obtain ⟨_, _, ⟨T72, L72, k72, n72⟩, -, X72, ⟨Lc72, hQ72, l72, y72, z72⟩, st72⟩ := X69.virtualBack hx (y := (⟨"com/example/libbrake/libbrake/AdmissionLog", "timeOf", "(J)J"⟩ : MethodName)) (z := (⟨"com/example/libbrake/libbrake/AdmissionLog", "timeOf", "(J)J"⟩ : MethodName)) hown (mvT hZ (hw _ (List.mem_of_getElem? (i := 55) rfl))) (mvT hZ (hw _ (List.mem_of_getElem? (i := 56) rfl))) (notFace_of_selects (args := #[]) (mvT hZ (hw _ (List.mem_of_getElem? (i := 58) rfl)))) (mvT hZ (hw _ (List.mem_of_getElem? (i := 58) rfl))) (mvT hZ (hw _ (List.mem_of_getElem? (i := 57) rfl))) (by decide) (backOf (W := 0) (rmT l Z a0 hw [] b12 (0 : Int64) NK16 s17 (dr z5 (ins q2 c3 (ins q1 c2 [(q0, c1)]))) (pr z5 (ins q2 c3 (ins q1 c2 [(q0, c1)])) ((((0 : Int64) + c1) + c2) + c3)) T17.heap n0 Z17 HL17 ⟨(own_ne2 hc1 hc2 hc3 hex70 c71).1, by rw [hsl17]; exact (own_len3 _ _ _ _ _ _).2⟩ (own_lt2 hc1 hc2 hc3 hex70 (by rw [(by decide : (0 : Int64).toInt = 0)]; exact (own_ne2 hc1 hc2 hc3 hex70 c71).2.1))) hZ (hw _ (List.mem_of_getElem? (i := 59) rfl)) (hw _ (List.mem_of_getElem? (i := 2) rfl)) (by decide) (by decide)) q72a q72c (g := (mkF m 301 #[lv q0, .second, lv q1, .second, lv q2, .second, lv q3, .second, iv p4, iv p5, lv c1, .second, lv c2, .second, lv c3, .second, iv sl, lv z5, .second, rv b12, lv ((0 : Int64) + c3), .second, lv (fMin (9223372036854775807 : Int64) q2), .second, lv (fMax (-9223372036854775808 : Int64) q2), .second] [(.long (0 : Int64)), (.ref b12)])) rfl (by rw [hml]; rfl) (Steps.refl _) (argsL := [(.long (0 : Int64))]) (rest := []) (lenOf own_pd7 rfl) rfl (by show 2 * 0 + _ ≤ _; exact Nat.le_of_eq rfl) (Jvm.hb hby at_301) (fun _ _ => ⟨rfl, e69, (by decide : 9 + 0 ≤ _), (by decide : 33 + 0 ≤ _)⟩)
          dsimp only [Pt.U, Pt.locs, Pt.cells, Pt.slots] at X72 l72 y72 z72 st72 hQ72
          subst l72 y72 z72
          obtain ⟨rfl, Nq72, eq72⟩ := hQ72
          have N72 := Fr.app N69 Nq72
          have e72 : T72.heap = T17.heap := eq72
          refine own_go (fun t k => st72.trans k) ?_
          show Gm p e below T72 m 304 #[lv q0, .second, lv q1, .second, lv q2, .second, lv q3, .second, iv p4, iv p5, lv c1, .second, lv c2, .second, lv c3, .second, iv sl, lv z5, .second, rv b12, lv ((0 : Int64) + c3), .second, lv (fMin (9223372036854775807 : Int64) q2), .second, lv (fMax (-9223372036854775808 : Int64) q2), .second] [(.long (tOf (0 : Int64) (dr z5 (ins q2 c3 (ins q1 c2 [(q0, c1)])))))] _
          refine own_go (fun t₀ k₀ => XS.lload X72.here hx rfl (Jvm.hb hby at_304) rfl k₀) ?_
          show Gm p e below T72 m 306 #[lv q0, .second, lv q1, .second, lv q2, .second, lv q3, .second, iv p4, iv p5, lv c1, .second, lv c2, .second, lv c3, .second, iv sl, lv z5, .second, rv b12, lv ((0 : Int64) + c3), .second, lv (fMin (9223372036854775807 : Int64) q2), .second, lv (fMax (-9223372036854775808 : Int64) q2), .second] [(.long (fMin (9223372036854775807 : Int64) q2)), (.long (tOf (0 : Int64) (dr z5 (ins q2 c3 (ins q1 c2 [(q0, c1)])))))] _
          refine own_go (fun t₀ k₀ => XT.lcmp X72.here hx rfl (Jvm.hb hby at_306) rfl k₀) ?_
          show Gm p e below T72 m 307 #[lv q0, .second, lv q1, .second, lv q2, .second, lv q3, .second, iv p4, iv p5, lv c1, .second, lv c2, .second, lv c3, .second, iv sl, lv z5, .second, rv b12, lv ((0 : Int64) + c3), .second, lv (fMin (9223372036854775807 : Int64) q2), .second, lv (fMax (-9223372036854775808 : Int64) q2), .second] [(.int (XT.cmpL (tOf (0 : Int64) (dr z5 (ins q2 c3 (ins q1 c2 [(q0, c1)])))) (fMin (9223372036854775807 : Int64) q2)))] _
          refine own_go (fun t₀ k₀ => XS.ifNo X72.here hx rfl (Jvm.hb hby at_307) rfl (XT.ll_ne_f (own_lo hc1 hc2 hc3 hex70 c71 (by unfold loF; rw [if_neg c18, if_neg c50, if_pos c66]))) k₀) ?_
          show Gm p e below T72 m 310 #[lv q0, .second, lv q1, .second, lv q2, .second, lv q3, .second, iv p4, iv p5, lv c1, .second, lv c2, .second, lv c3, .second, iv sl, lv z5, .second, rv b12, lv ((0 : Int64) + c3), .second, lv (fMin (9223372036854775807 : Int64) q2), .second, lv (fMax (-9223372036854775808 : Int64) q2), .second] [] _
          refine own_go (fun t₀ k₀ => XS.aload X72.here hx rfl (Jvm.hb hby at_310) rfl rfl k₀) ?_
          show Gm p e below T72 m 312 #[lv q0, .second, lv q1, .second, lv q2, .second, lv q3, .second, iv p4, iv p5, lv c1, .second, lv c2, .second, lv c3, .second, iv sl, lv z5, .second, rv b12, lv ((0 : Int64) + c3), .second, lv (fMin (9223372036854775807 : Int64) q2), .second, lv (fMax (-9223372036854775808 : Int64) q2), .second] [(.ref b12)] _
          refine own_go (fun t₀ k₀ => XS.lload X72.here hx rfl (Jvm.hb hby at_312) rfl k₀) ?_
          show Gm p e below T72 m 314 #[lv q0, .second, lv q1, .second, lv q2, .second, lv q3, .second, iv p4, iv p5, lv c1, .second, lv c2, .second, lv c3, .second, iv sl, lv z5, .second, rv b12, lv ((0 : Int64) + c3), .second, lv (fMin (9223372036854775807 : Int64) q2), .second, lv (fMax (-9223372036854775808 : Int64) q2), .second] [(.long ((0 : Int64) + c3)), (.ref b12)] _
          refine own_go (fun t₀ k₀ => XS.lconst X72.here hx rfl (Jvm.hb hby at_314) k₀) ?_
          show Gm p e below T72 m 315 #[lv q0, .second, lv q1, .second, lv q2, .second, lv q3, .second, iv p4, iv p5, lv c1, .second, lv c2, .second, lv c3, .second, iv sl, lv z5, .second, rv b12, lv ((0 : Int64) + c3), .second, lv (fMin (9223372036854775807 : Int64) q2), .second, lv (fMax (-9223372036854775808 : Int64) q2), .second] [(.long (1 : Int64)), (.long ((0 : Int64) + c3)), (.ref b12)] _
          refine own_go (fun t₀ k₀ => XS.lsub X72.here hx rfl (Jvm.hb hby at_315) rfl k₀) ?_
          show Gm p e below T72 m 316 #[lv q0, .second, lv q1, .second, lv q2, .second, lv q3, .second, iv p4, iv p5, lv c1, .second, lv c2, .second, lv c3, .second, iv sl, lv z5, .second, rv b12, lv ((0 : Int64) + c3), .second, lv (fMin (9223372036854775807 : Int64) q2), .second, lv (fMax (-9223372036854775808 : Int64) q2), .second] [(.long (((0 : Int64) + c3) - (1 : Int64))), (.ref b12)] _
          obtain ⟨cq73, kq73, q73a, q73b, q73c⟩ := isOf hZ e72 HL17.exa
          obtain ⟨_, _, ⟨T73, L73, k73, n73⟩, -, X73, ⟨Lc73, hQ73, l73, y73, z73⟩, st73⟩ := X72.virtualBack hx (y := (⟨"com/example/libbrake/libbrake/AdmissionLog", "timeOf", "(J)J"⟩ : MethodName)) (z := (⟨"com/example/libbrake/libbrake/AdmissionLog", "timeOf", "(J)J"⟩ : MethodName)) hown (mvT hZ (hw _ (List.mem_of_getElem? (i := 55) rfl))) (mvT hZ (hw _ (List.mem_of_getElem? (i := 56) rfl))) (notFace_of_selects (args := #[]) (mvT hZ (hw _ (List.mem_of_getElem? (i := 58) rfl)))) (mvT hZ (hw _ (List.mem_of_getElem? (i := 58) rfl))) (mvT hZ (hw _ (List.mem_of_getElem? (i := 57) rfl))) (by decide) (backOf (W := 0) (rmT l Z a0 hw [] b12 (((0 : Int64) + c3) - (1 : Int64)) NK16 s17 (dr z5 (ins q2 c3 (ins q1 c2 [(q0, c1)]))) (pr z5 (ins q2 c3 (ins q1 c2 [(q0, c1)])) ((((0 : Int64) + c1) + c2) + c3)) T17.heap n0 Z17 HL17 ⟨(own_ne2 hc1 hc2 hc3 hex70 c71).1, by rw [hsl17]; exact (own_len3 _ _ _ _ _ _).2⟩ (own_lt2 hc1 hc2 hc3 hex70 (by rw [ex1 hc1 hc2 hc3 hex70 c71]; omega))) hZ (hw _ (List.mem_of_getElem? (i := 59) rfl)) (hw _ (List.mem_of_getElem? (i := 2) rfl)) (by decide) (by decide)) q73a q73c (g := (mkF m 316 #[lv q0, .second, lv q1, .second, lv q2, .second, lv q3, .second, iv p4, iv p5, lv c1, .second, lv c2, .second, lv c3, .second, iv sl, lv z5, .second, rv b12, lv ((0 : Int64) + c3), .second, lv (fMin (9223372036854775807 : Int64) q2), .second, lv (fMax (-9223372036854775808 : Int64) q2), .second] [(.long (((0 : Int64) + c3) - (1 : Int64))), (.ref b12)])) rfl (by rw [hml]; rfl) (Steps.refl _) (argsL := [(.long (((0 : Int64) + c3) - (1 : Int64)))]) (rest := []) (lenOf own_pd7 rfl) rfl (by show 2 * 0 + _ ≤ _; exact Nat.le_of_eq rfl) (Jvm.hb hby at_316) (fun _ _ => ⟨rfl, e72, (by decide : 9 + 0 ≤ _), (by decide : 33 + 0 ≤ _)⟩)
          dsimp only [Pt.U, Pt.locs, Pt.cells, Pt.slots] at X73 l73 y73 z73 st73 hQ73
          subst l73 y73 z73
          obtain ⟨rfl, Nq73, eq73⟩ := hQ73
          have N73 := Fr.app N72 Nq73
          have e73 : T73.heap = T17.heap := eq73
          refine own_go (fun t k => st73.trans k) ?_
          show Gm p e below T73 m 319 #[lv q0, .second, lv q1, .second, lv q2, .second, lv q3, .second, iv p4, iv p5, lv c1, .second, lv c2, .second, lv c3, .second, iv sl, lv z5, .second, rv b12, lv ((0 : Int64) + c3), .second, lv (fMin (9223372036854775807 : Int64) q2), .second, lv (fMax (-9223372036854775808 : Int64) q2), .second] [(.long (tOf (((0 : Int64) + c3) - (1 : Int64)) (dr z5 (ins q2 c3 (ins q1 c2 [(q0, c1)])))))] _
          refine own_go (fun t₀ k₀ => XS.lload X73.here hx rfl (Jvm.hb hby at_319) rfl k₀) ?_
          show Gm p e below T73 m 321 #[lv q0, .second, lv q1, .second, lv q2, .second, lv q3, .second, iv p4, iv p5, lv c1, .second, lv c2, .second, lv c3, .second, iv sl, lv z5, .second, rv b12, lv ((0 : Int64) + c3), .second, lv (fMin (9223372036854775807 : Int64) q2), .second, lv (fMax (-9223372036854775808 : Int64) q2), .second] [(.long (fMax (-9223372036854775808 : Int64) q2)), (.long (tOf (((0 : Int64) + c3) - (1 : Int64)) (dr z5 (ins q2 c3 (ins q1 c2 [(q0, c1)])))))] _
          refine own_go (fun t₀ k₀ => XT.lcmp X73.here hx rfl (Jvm.hb hby at_321) rfl k₀) ?_
          show Gm p e below T73 m 322 #[lv q0, .second, lv q1, .second, lv q2, .second, lv q3, .second, iv p4, iv p5, lv c1, .second, lv c2, .second, lv c3, .second, iv sl, lv z5, .second, rv b12, lv ((0 : Int64) + c3), .second, lv (fMin (9223372036854775807 : Int64) q2), .second, lv (fMax (-9223372036854775808 : Int64) q2), .second] [(.int (XT.cmpL (tOf (((0 : Int64) + c3) - (1 : Int64)) (dr z5 (ins q2 c3 (ins q1 c2 [(q0, c1)])))) (fMax (-9223372036854775808 : Int64) q2)))] _
          refine own_go (fun t₀ k₀ => XS.ifNo X73.here hx rfl (Jvm.hb hby at_322) rfl (XT.ll_ne_f (own_hi hc1 hc2 hc3 hex70 c71 (by unfold hiF; rw [if_neg c18, if_neg c50, if_pos c66]))) k₀) ?_
          show Gm p e below T73 m 325 #[lv q0, .second, lv q1, .second, lv q2, .second, lv q3, .second, iv p4, iv p5, lv c1, .second, lv c2, .second, lv c3, .second, iv sl, lv z5, .second, rv b12, lv ((0 : Int64) + c3), .second, lv (fMin (9223372036854775807 : Int64) q2), .second, lv (fMax (-9223372036854775808 : Int64) q2), .second] [] _
          refine own_go (fun t₀ k₀ => XS.iconst X73.here hx rfl (Jvm.hb hby at_325) k₀) ?_
          show Gm p e below T73 m 326 #[lv q0, .second, lv q1, .second, lv q2, .second, lv q3, .second, iv p4, iv p5, lv c1, .second, lv c2, .second, lv c3, .second, iv sl, lv z5, .second, rv b12, lv ((0 : Int64) + c3), .second, lv (fMin (9223372036854775807 : Int64) q2), .second, lv (fMax (-9223372036854775808 : Int64) q2), .second] [(.int (1 : Int32))] _
          refine own_go (fun t₀ k₀ => XS.goto X73.here hx rfl (pc0 := 326) (pc' := 330) rfl (Jvm.hb hby at_326) (by decide) (by decide) k₀) ?_
          show Gm p e below T73 m 330 #[lv q0, .second, lv q1, .second, lv q2, .second, lv q3, .second, iv p4, iv p5, lv c1, .second, lv c2, .second, lv c3, .second, iv sl, lv z5, .second, rv b12, lv ((0 : Int64) + c3), .second, lv (fMin (9223372036854775807 : Int64) q2), .second, lv (fMax (-9223372036854775808 : Int64) q2), .second] [(.int (1 : Int32))] _
          exact own_retI X73 hx hlk (t := .boolean) Bd.returns rfl (by simp) (Jvm.hb hby at_330) e73 ⟨rfl, N73⟩ (by decide) (by decide)
      · have hfork := trivial
        refine own_go (fun t₀ k₀ => XS.ifYes X17.here hx rfl (pc0 := 248) (pc' := 276) rfl (Jvm.hb hby at_248) rfl (XT.ll_le_t c66) (by decide) (by decide) k₀) ?_
        show Gm p e below T17 m 276 #[lv q0, .second, lv q1, .second, lv q2, .second, lv q3, .second, iv p4, iv p5, lv c1, .second, lv c2, .second, lv c3, .second, iv sl, lv z5, .second, rv b12, lv (0 : Int64), .second, lv (9223372036854775807 : Int64), .second, lv (-9223372036854775808 : Int64), .second] [] _
        refine own_go (fun t₀ k₀ => XS.aload X17.here hx rfl (Jvm.hb hby at_276) rfl rfl k₀) ?_
        show Gm p e below T17 m 278 #[lv q0, .second, lv q1, .second, lv q2, .second, lv q3, .second, iv p4, iv p5, lv c1, .second, lv c2, .second, lv c3, .second, iv sl, lv z5, .second, rv b12, lv (0 : Int64), .second, lv (9223372036854775807 : Int64), .second, lv (-9223372036854775808 : Int64), .second] [(.ref b12)] _
        obtain ⟨cq74, kq74, q74a, q74b, q74c⟩ := isOf hZ rfl HL17.exa
        obtain ⟨_, _, ⟨T74, L74, k74, n74⟩, -, X74, ⟨Lc74, hQ74, l74, y74, z74⟩, st74⟩ := X17.virtualBack hx (y := (⟨"com/example/libbrake/libbrake/AdmissionLog", "permits", "()J"⟩ : MethodName)) (z := (⟨"com/example/libbrake/libbrake/AdmissionLog", "permits", "()J"⟩ : MethodName)) hown (mvT hZ (hw _ (List.mem_of_getElem? (i := 44) rfl))) (mvT hZ (hw _ (List.mem_of_getElem? (i := 45) rfl))) (notFace_of_selects (args := #[]) (mvT hZ (hw _ (List.mem_of_getElem? (i := 47) rfl)))) (mvT hZ (hw _ (List.mem_of_getElem? (i := 47) rfl))) (mvT hZ (hw _ (List.mem_of_getElem? (i := 46) rfl))) (by decide) (backOf (W := 0) (rm7 l Z a0 hw [] b12 (pr z5 (ins q2 c3 (ins q1 c2 [(q0, c1)])) ((((0 : Int64) + c1) + c2) + c3)) T17.heap n0 Z17 HL17.per) hZ (hw _ (List.mem_of_getElem? (i := 48) rfl)) (hw _ (List.mem_of_getElem? (i := 2) rfl)) (by decide) (by decide)) q74a q74c (g := (mkF m 278 #[lv q0, .second, lv q1, .second, lv q2, .second, lv q3, .second, iv p4, iv p5, lv c1, .second, lv c2, .second, lv c3, .second, iv sl, lv z5, .second, rv b12, lv (0 : Int64), .second, lv (9223372036854775807 : Int64), .second, lv (-9223372036854775808 : Int64), .second] [(.ref b12)])) rfl (by rw [hml]; rfl) (Steps.refl _) (argsL := []) (rest := []) (lenOf own_pd6 rfl) rfl (by show 2 * 0 + _ ≤ _; exact Nat.le_of_eq rfl) (Jvm.hb hby at_278) (fun _ _ => ⟨rfl, rfl, (by decide : 9 + 0 ≤ _), (by decide : 33 + 0 ≤ _)⟩)
        dsimp only [Pt.U, Pt.locs, Pt.cells, Pt.slots] at X74 l74 y74 z74 st74 hQ74
        subst l74 y74 z74
        obtain ⟨rfl, Nq74, eq74⟩ := hQ74
        have N74 := Fr.app N17 Nq74
        have e74 : T74.heap = T17.heap := eq74
        refine own_go (fun t k => st74.trans k) ?_
        show Gm p e below T74 m 281 #[lv q0, .second, lv q1, .second, lv q2, .second, lv q3, .second, iv p4, iv p5, lv c1, .second, lv c2, .second, lv c3, .second, iv sl, lv z5, .second, rv b12, lv (0 : Int64), .second, lv (9223372036854775807 : Int64), .second, lv (-9223372036854775808 : Int64), .second] [(.long (pr z5 (ins q2 c3 (ins q1 c2 [(q0, c1)])) ((((0 : Int64) + c1) + c2) + c3)))] _
        refine own_go (fun t₀ k₀ => XS.lload X74.here hx rfl (Jvm.hb hby at_281) rfl k₀) ?_
        show Gm p e below T74 m 283 #[lv q0, .second, lv q1, .second, lv q2, .second, lv q3, .second, iv p4, iv p5, lv c1, .second, lv c2, .second, lv c3, .second, iv sl, lv z5, .second, rv b12, lv (0 : Int64), .second, lv (9223372036854775807 : Int64), .second, lv (-9223372036854775808 : Int64), .second] [(.long (0 : Int64)), (.long (pr z5 (ins q2 c3 (ins q1 c2 [(q0, c1)])) ((((0 : Int64) + c1) + c2) + c3)))] _
        refine own_go (fun t₀ k₀ => XT.lcmp X74.here hx rfl (Jvm.hb hby at_283) rfl k₀) ?_
        show Gm p e below T74 m 284 #[lv q0, .second, lv q1, .second, lv q2, .second, lv q3, .second, iv p4, iv p5, lv c1, .second, lv c2, .second, lv c3, .second, iv sl, lv z5, .second, rv b12, lv (0 : Int64), .second, lv (9223372036854775807 : Int64), .second, lv (-9223372036854775808 : Int64), .second] [(.int (XT.cmpL (pr z5 (ins q2 c3 (ins q1 c2 [(q0, c1)])) ((((0 : Int64) + c1) + c2) + c3)) (0 : Int64)))] _
        have hex75 : (0 : Int64) = (eX z5 q0 c1 + eX z5 q1 c2) + eX z5 q2 c3 := by unfold eX; rw [if_neg c18, if_neg c50, if_neg c66]; try simp only [Int64.zero_add, Int64.add_zero]
        refine own_go (fun t₀ k₀ => XS.ifYes X74.here hx rfl (pc0 := 284) (pc' := 289) rfl (Jvm.hb hby at_284) rfl (XT.ll_eq_t (own_perm2 hc1 hc2 hc3 hex75)) (by decide) (by decide) k₀) ?_
        show Gm p e below T74 m 289 #[lv q0, .second, lv q1, .second, lv q2, .second, lv q3, .second, iv p4, iv p5, lv c1, .second, lv c2, .second, lv c3, .second, iv sl, lv z5, .second, rv b12, lv (0 : Int64), .second, lv (9223372036854775807 : Int64), .second, lv (-9223372036854775808 : Int64), .second] [] _
        refine own_go (fun t₀ k₀ => XS.lload X74.here hx rfl (Jvm.hb hby at_289) rfl k₀) ?_
        show Gm p e below T74 m 291 #[lv q0, .second, lv q1, .second, lv q2, .second, lv q3, .second, iv p4, iv p5, lv c1, .second, lv c2, .second, lv c3, .second, iv sl, lv z5, .second, rv b12, lv (0 : Int64), .second, lv (9223372036854775807 : Int64), .second, lv (-9223372036854775808 : Int64), .second] [(.long (0 : Int64))] _
        refine own_go (fun t₀ k₀ => XS.lconst X74.here hx rfl (Jvm.hb hby at_291) k₀) ?_
        show Gm p e below T74 m 292 #[lv q0, .second, lv q1, .second, lv q2, .second, lv q3, .second, iv p4, iv p5, lv c1, .second, lv c2, .second, lv c3, .second, iv sl, lv z5, .second, rv b12, lv (0 : Int64), .second, lv (9223372036854775807 : Int64), .second, lv (-9223372036854775808 : Int64), .second] [(.long (0 : Int64)), (.long (0 : Int64))] _
        refine own_go (fun t₀ k₀ => XT.lcmp X74.here hx rfl (Jvm.hb hby at_292) rfl k₀) ?_
        show Gm p e below T74 m 293 #[lv q0, .second, lv q1, .second, lv q2, .second, lv q3, .second, iv p4, iv p5, lv c1, .second, lv c2, .second, lv c3, .second, iv sl, lv z5, .second, rv b12, lv (0 : Int64), .second, lv (9223372036854775807 : Int64), .second, lv (-9223372036854775808 : Int64), .second] [(.int (XT.cmpL (0 : Int64) (0 : Int64)))] _
        refine own_go (fun t₀ k₀ => XS.ifNo X74.here hx rfl (Jvm.hb hby at_293) rfl (XT.ll_ne_f (by decide)) k₀) ?_
        show Gm p e below T74 m 296 #[lv q0, .second, lv q1, .second, lv q2, .second, lv q3, .second, iv p4, iv p5, lv c1, .second, lv c2, .second, lv c3, .second, iv sl, lv z5, .second, rv b12, lv (0 : Int64), .second, lv (9223372036854775807 : Int64), .second, lv (-9223372036854775808 : Int64), .second] [] _
        refine own_go (fun t₀ k₀ => XS.iconst X74.here hx rfl (Jvm.hb hby at_296) k₀) ?_
        show Gm p e below T74 m 297 #[lv q0, .second, lv q1, .second, lv q2, .second, lv q3, .second, iv p4, iv p5, lv c1, .second, lv c2, .second, lv c3, .second, iv sl, lv z5, .second, rv b12, lv (0 : Int64), .second, lv (9223372036854775807 : Int64), .second, lv (-9223372036854775808 : Int64), .second] [(.int (1 : Int32))] _
        exact own_retI X74 hx hlk (t := .boolean) Bd.returns rfl (by simp) (Jvm.hb hby at_297) e74 ⟨rfl, N74⟩ (by decide) (by decide)
set_option maxRecDepth 65536 in
set_option maxHeartbeats 40000000 in
theorem comes_1 {Post : Tables → Env → Array Value → State → Outcome → State → Prop} (hpost : ∀ tb e args s v u, (limb_1_1.after args s (.returned v) u = true ∧ limb_1_2.after args s (.returned v) u = true ∧ True) → FrameEnd s (.returned v) u (Jvm.fieldLocs frame_1_writes args s ++ Jvm.arrayLocs frame_1_arrays args s ++ Jvm.staticLocs frame_1_statics s) 24 128 → Post tb e args s (.returned v) u) :
    ArmFor flags0 classFile x code maxLocals ret World_1 tables_1 room_1 Calls_1 rest_1 Pre_1 Post := by
  intro l hfl _ _ p e ha hc hk s m args below hf hA hF happ hP
  obtain ⟨hcalls, hrest, hpre⟩ := hP
  obtain ⟨-, -, -, hnamed, -, -, -, hat⟩ := (Spec.applies_iff hf).mp happ
  obtain ⟨hg, hn⟩ := and_e (Cond.before_iff.mp (show (Jvm.Cond.and given_1 narrow_1).before args s = true from hpre))
  obtain ⟨g1, g2⟩ := and_e hg
  obtain ⟨g3, g4⟩ := and_e g2
  obtain ⟨g5, g6⟩ := and_e g4
  obtain ⟨g7, g8⟩ := and_e g6
  obtain ⟨g9, g10⟩ := and_e g8
  obtain ⟨g11, g12⟩ := and_e g10
  obtain ⟨w0, w1, w2, w3, w4, w5, rfl⟩ : ∃ w0 w1 w2 w3 w4 w5 : Value, args = #[w0, w1, w2, w3, w4, w5] := by
    have hs : args.size = 6 := by simpa [Cond.value, given_1] using g1
    obtain ⟨L⟩ := args
    match L, hs with
    | [w0, w1, w2, w3, w4, w5], _ => exact ⟨w0, w1, w2, w3, w4, w5, rfl⟩
  have hw := fun d (hd : d ∈ tables_1) => atoms_spec (ws := Jvm.Cond.code x code maxLocals ret :: tables_1) hat d (List.mem_cons_of_mem _ hd)
  have hfit : Fit s := fun {y c} hc i hi => by
    obtain ⟨ha, rfl⟩ := Array.getElem?_eq_some_iff.mp hc
    have q := List.all_eq_true.mp ((Array.all_eq_true_iff_forall_mem.mp hF) _ (Array.getElem_mem ha)) i (List.mem_range.mpr hi)
    simpa [Array.getElem?_eq_getElem hi] using q
  obtain ⟨i0, ei0⟩ := isL_v g3
  obtain rfl : w0 = (.long i0) := Option.some.inj ei0
  obtain ⟨i1, ei1⟩ := isL_v g5
  obtain rfl : w1 = (.long i1) := Option.some.inj ei1
  obtain ⟨i2, ei2⟩ := isL_v g7
  obtain rfl : w2 = (.long i2) := Option.some.inj ei2
  obtain ⟨i3, ei3⟩ := isL_v g9
  obtain rfl : w3 = (.long i3) := Option.some.inj ei3
  obtain ⟨i4, ei4⟩ := is_v g11
  obtain rfl : w4 = (.int i4) := Option.some.inj ei4
  obtain ⟨i5, ei5⟩ := is_v g12
  obtain rfl : w5 = (.int i5) := Option.some.inj ei5
  obtain ⟨n, o, h1, h2, h3, _, L, rfl, ⟨rfl, N⟩, hq⟩ := rm0 l s _ hw tables_1 i0 i1 i2 i3 i4 i5  s.heap s.heap.size (Nat.le_refl _)  p e ha hc hk s m _ below hf ((Spec.applies_iff_loose hf).mp happ).1 ⟨rfl, State.Warmed39.refl s, rfl⟩ trivial
  refine ⟨n, _, h1, h2, h3, hpost _ _ _ _ _ _ ⟨Cond.after_iff.mpr rfl, Cond.after_iff.mpr (eq_i res_at (Term.int_eval (1)) rfl), trivial⟩ ⟨hq.1, hq.2.1, (hq.2.2.sift fun y hy => Or.inr (N y hy)).mono (by decide) (by decide)⟩⟩
theorem main_1_1 : Claimed_1_1 := comes_1 fun _ _ _ _ _ _ h hF => ⟨h.1, hF⟩
theorem main_1_2 : Claimed_1_2 := comes_1 fun _ _ _ _ _ _ h hF => ⟨h.2.1, hF⟩
end Jvm.Pilot.@@N@@
namespace Jvm.Pilot.@@N@@
open Jvm Jvm.ClassFile Sem Op Lib Jvm.Free Jvm.Stand Jvm.Pilot.@@N@@.Jvm.D
/-! MADE BY PROGRAM (witnessworld.py) out of the Statement's table words and the real class files: 13 classes; the members and pool entries that the words name. The judged class is class 1, her method 1. -/
namespace start1
open Jvm.ClassFile
def u (s : String) : CpInfo := .utf8 (stringToUtf16 s)
/-- a pool by its gaps: so many unusable entries, then the entry; so many at the end -/
def gap : Nat → List CpInfo → List CpInfo
  | 0, r => r
  | n + 1, r => .unusable :: gap n r
def poolList (es : List (Nat × CpInfo)) (last : Nat) : List CpInfo := es.foldr (fun e r => gap e.1 (e.2 :: r)) (gap last [])
def pool (es : List (Nat × CpInfo)) (last : Nat) : Array CpInfo := ⟨poolList es last⟩
def fileOf (pool : Array CpInfo) (this : Nat) (attrs : Array Attribute := #[]) (ms : Array MethodInfo := #[]) (fl : Nat := 33) (sup : Nat := 0) (ifs : Array Nat := #[]) (fds : Array FieldInfo := #[]) : ClassFile where
  minorVersion := 0
  majorVersion := 65
  constantPool := pool
  accessFlags := fl
  thisClass := this
  superClass := sup
  interfaces := ifs
  fields := fds
  methods := ms
  attributes := attrs
def plain (name : String) (sup : Option ClassId) : Class where
  name := name
  kind := .ordinary
  loader := none
  accessFlags := 33
  super := sup
  interfaces := #[]
  cf := none
  fields := #[]
  methods := #[]
  instanceTypes := #[]
  staticTypes := #[]
  resolved := #[]
  callSites := []
  init := .initialized
  statics := none
  mirror := none

def pool0 : Array CpInfo := pool [(5, u "<init>"), (0, u "()V"), (1, .class_ 10), (1, u "java/lang/Object")] 113

def k0c0 : Code := { maxStack := 0, maxLocals := 1, code := object_method_1_code, exceptionTable := #[], attributes := #[] }
def k0m0 : Method := { name := "<init>", desc := "()V", sig := { parameters := [], returnType := none }, accessFlags := 1, code := some k0c0 }
/-- java/lang/Object -/
def k0 : Class := { plain "java/lang/Object" none with
  accessFlags := 33
  interfaces := #[]
  cf := some (fileOf pool0 8 #[] #[{ accessFlags := 1, nameIndex := 5, descriptorIndex := 6, attributes := #[] }] 33 0 #[] #[])
  fields := #[]
  methods := #[k0m0]
  instanceTypes := #[]
  staticTypes := #[]
  resolved := Array.replicate 124 none
  statics := none }

def pool1 : Array CpInfo := pool [(2, .class_ 4), (0, .nameAndType 5 6), (0, u "java/lang/Object"), (0, u "<init>"), (0, u "()V"), (0, .class_ 8), (0, u "com/example/libbrake/libbrake/AdmissionLog"), (0, .methodref 7 3), (0, .methodref 7 11), (0, .nameAndType 12 13), (0, u "add"), (0, u "(JJ)V"), (0, .methodref 7 15), (0, .nameAndType 16 17), (0, u "removeUpTo"), (0, u "(J)V"), (2, .long 9223372036854775807), (1, .long 9223372036854775808), (1, .methodref 25 26), (0, .class_ 27), (0, .nameAndType 28 29), (0, u "java/lang/Math"), (0, u "min"), (0, u "(JJ)J"), (0, .methodref 25 31), (0, .nameAndType 32 29), (0, u "max"), (0, .methodref 7 34), (0, .nameAndType 35 36), (0, u "permits"), (0, u "()J"), (0, .methodref 7 38), (0, .nameAndType 39 40), (0, u "timeOf"), (0, u "(J)J"), (0, .class_ 42), (0, u "com/example/libbrake/libbrake/AdmissionLogRemoveUpToPinLaw"), (2, u "law"), (0, u "(JJJJII)Z")] 3

def k1m0 : Method := { name := "<init>", desc := "()V", sig := { parameters := [], returnType := none }, accessFlags := 1, code := none }
def k1c1 : Code := { maxStack := 5, maxLocals := 26, code := code, exceptionTable := #[], attributes := #[] }
def k1m1 : Method := { name := "law", desc := "(JJJJII)Z", sig := { parameters := [.long, .long, .long, .long, .int, .int], returnType := some .boolean }, accessFlags := 9, code := some k1c1 }
/-- com/example/libbrake/libbrake/AdmissionLogRemoveUpToPinLaw -/
def k1 : Class := { plain "com/example/libbrake/libbrake/AdmissionLogRemoveUpToPinLaw" (some 0) with
  accessFlags := 49
  interfaces := #[]
  cf := some (fileOf pool1 41 #[] #[{ accessFlags := 1, nameIndex := 5, descriptorIndex := 6, attributes := #[] }, { accessFlags := 9, nameIndex := 45, descriptorIndex := 46, attributes := #[] }] 49 2 #[] #[])
  fields := #[]
  methods := #[k1m0, k1m1]
  instanceTypes := #[]
  staticTypes := #[]
  resolved := Array.replicate 50 none
  statics := none }

def pool2 : Array CpInfo := pool [(1, .methodref 2 3), (0, .class_ 4), (0, .nameAndType 5 6), (0, u "java/lang/Object"), (0, u "<init>"), (0, u "()V"), (0, .class_ 8), (0, u "com/example/libbrake/libbrake/AdmissionLog"), (0, .fieldref 7 10), (0, .nameAndType 11 12), (0, u "times"), (0, u "[J"), (0, .fieldref 7 14), (0, .nameAndType 15 12), (0, u "counts"), (0, .fieldref 7 17), (0, .nameAndType 18 19), (0, u "permits"), (0, u "J"), (0, .fieldref 7 21), (0, .nameAndType 22 23), (0, u "start"), (0, u "I"), (0, .fieldref 7 25), (0, .nameAndType 26 23), (0, u "end"), (0, .methodref 28 29), (0, .class_ 30), (0, .nameAndType 31 32), (0, u "java/lang/Math"), (0, u "max"), (0, u "(II)I"), (0, .methodref 7 34), (0, .nameAndType 35 36), (0, u "moveTo"), (0, u "(I)V"), (0, .methodref 38 39), (0, .class_ 40), (0, .nameAndType 41 42), (0, u "java/lang/System"), (0, u "arraycopy"), (0, u "(Ljava/lang/Object;ILjava/lang/Object;II)V"), (0, u "INITIAL_RUNS"), (4, u "()J"), (0, u "removeUpTo"), (0, u "(J)V"), (1, u "add"), (0, u "(JJ)V"), (0, u "timeOf"), (0, u "(J)J")] 2

def k2c0 : Code := { maxStack := 2, maxLocals := 1, code := prog_1_method_1_code, exceptionTable := #[], attributes := #[] }
def k2m0 : Method := { name := "<init>", desc := "()V", sig := { parameters := [], returnType := none }, accessFlags := 0, code := some k2c0 }
def k2c1 : Code := { maxStack := 2, maxLocals := 1, code := prog_1_method_2_code, exceptionTable := #[], attributes := #[] }
def k2m1 : Method := { name := "permits", desc := "()J", sig := { parameters := [], returnType := some .long }, accessFlags := 0, code := some k2c1 }
def k2c2 : Code := { maxStack := 5, maxLocals := 3, code := prog_1_method_3_code, exceptionTable := #[], attributes := #[] }
def k2m2 : Method := { name := "removeUpTo", desc := "(J)V", sig := { parameters := [.long], returnType := none }, accessFlags := 0, code := some k2c2 }
def k2c3 : Code := { maxStack := 6, maxLocals := 7, code := prog_1_method_4_code, exceptionTable := #[], attributes := #[] }
def k2m3 : Method := { name := "add", desc := "(JJ)V", sig := { parameters := [.long, .long], returnType := none }, accessFlags := 0, code := some k2c3 }
def k2c4 : Code := { maxStack := 4, maxLocals := 6, code := prog_1_method_5_code, exceptionTable := #[], attributes := #[] }
def k2m4 : Method := { name := "timeOf", desc := "(J)J", sig := { parameters := [.long], returnType := some .long }, accessFlags := 0, code := some k2c4 }
def k2c5 : Code := { maxStack := 6, maxLocals := 4, code := prog_1_method_6_code, exceptionTable := #[], attributes := #[] }
def k2m5 : Method := { name := "moveTo", desc := "(I)V", sig := { parameters := [.int], returnType := none }, accessFlags := 2, code := some k2c5 }
/-- com/example/libbrake/libbrake/AdmissionLog -/
def k2 : Class := { plain "com/example/libbrake/libbrake/AdmissionLog" (some 0) with
  accessFlags := 32
  interfaces := #[]
  cf := some (fileOf pool2 7 #[] #[{ accessFlags := 0, nameIndex := 5, descriptorIndex := 6, attributes := #[] }, { accessFlags := 0, nameIndex := 18, descriptorIndex := 48, attributes := #[] }, { accessFlags := 0, nameIndex := 49, descriptorIndex := 50, attributes := #[] }, { accessFlags := 0, nameIndex := 52, descriptorIndex := 53, attributes := #[] }, { accessFlags := 0, nameIndex := 54, descriptorIndex := 55, attributes := #[] }, { accessFlags := 2, nameIndex := 35, descriptorIndex := 36, attributes := #[] }] 32 2 #[] #[{ accessFlags := 26, nameIndex := 43, descriptorIndex := 23, attributes := #[] }, { accessFlags := 2, nameIndex := 11, descriptorIndex := 12, attributes := #[] }, { accessFlags := 2, nameIndex := 15, descriptorIndex := 12, attributes := #[] }, { accessFlags := 2, nameIndex := 22, descriptorIndex := 23, attributes := #[] }, { accessFlags := 2, nameIndex := 26, descriptorIndex := 23, attributes := #[] }, { accessFlags := 2, nameIndex := 18, descriptorIndex := 19, attributes := #[] }])
  fields := #[{ name := "INITIAL_RUNS", type := .int, accessFlags := 26, slot := 0, constantValue := 0 }, { name := "times", type := (.array .long), accessFlags := 2, slot := 0, constantValue := 0 }, { name := "counts", type := (.array .long), accessFlags := 2, slot := 1, constantValue := 0 }, { name := "start", type := .int, accessFlags := 2, slot := 2, constantValue := 0 }, { name := "end", type := .int, accessFlags := 2, slot := 3, constantValue := 0 }, { name := "permits", type := .long, accessFlags := 2, slot := 4, constantValue := 0 }]
  methods := #[k2m0, k2m1, k2m2, k2m3, k2m4, k2m5]
  instanceTypes := #[(.array .long), (.array .long), .int, .int, .long]
  staticTypes := #[.int]
  resolved := Array.replicate 58 none
  statics := none }

def pool3 : Array CpInfo := pool [(2, .class_ 4), (1, u "java/lang/Object"), (0, u "<init>"), (0, u "()V"), (1, .class_ 10), (1, u "java/lang/System"), (0, u "allowSecurityManager"), (0, u "I"), (16, u "cons"), (0, u "Ljava/io/Console;"), (77, .class_ 110), (1, u "java/lang/System$CallersHolder"), (43, u "initialErrStream"), (0, u "Ljava/io/PrintStream;"), (19, u "security"), (0, u "Ljava/lang/SecurityManager;"), (31, .class_ 209), (0, u "java/lang/System$1"), (7, u "props"), (0, u "Ljava/util/Properties;"), (2, u "lineSeparator"), (0, u "Ljava/lang/String;"), (96, .class_ 321), (1, u "java/lang/System$LoggerFinder"), (5, .class_ 328), (0, u "java/lang/System$Logger"), (67, u "err"), (2, u "out"), (91, u "notSupportedJnuEncoding"), (15, u "in"), (17, u "initialIn"), (0, u "Ljava/io/InputStream;"), (35, u "bootLayer"), (0, u "Ljava/lang/ModuleLayer;"), (99, .class_ 664), (0, u "java/lang/System$2"), (9, u "NEVER"), (2, u "MAYBE"), (49, u "arraycopy"), (0, u "(Ljava/lang/Object;ILjava/lang/Object;II)V"), (72, .class_ 802), (0, u "java/lang/System$Logger$Level")] 31

def k3m0 : Method := { name := "<init>", desc := "()V", sig := { parameters := [], returnType := none }, accessFlags := 2, code := none }
def k3m1 : Method := { name := "arraycopy", desc := "(Ljava/lang/Object;ILjava/lang/Object;II)V", sig := { parameters := [(.object "java/lang/Object"), .int, (.object "java/lang/Object"), .int, .int], returnType := none }, accessFlags := 265, code := none }
/-- java/lang/System -/
def k3 : Class := { plain "java/lang/System" (some 0) with
  accessFlags := 49
  interfaces := #[]
  cf := some (fileOf pool3 8 #[.nestMembers #[319, 327, 801, 108, 663, 208]] #[{ accessFlags := 2, nameIndex := 5, descriptorIndex := 6, attributes := #[] }, { accessFlags := 265, nameIndex := 727, descriptorIndex := 728, attributes := #[] }] 49 2 #[] #[{ accessFlags := 25, nameIndex := 507, descriptorIndex := 526, attributes := #[] }, { accessFlags := 25, nameIndex := 399, descriptorIndex := 155, attributes := #[] }, { accessFlags := 25, nameIndex := 396, descriptorIndex := 155, attributes := #[] }, { accessFlags := 10, nameIndex := 525, descriptorIndex := 526, attributes := #[] }, { accessFlags := 26, nameIndex := 674, descriptorIndex := 12, attributes := #[] }, { accessFlags := 26, nameIndex := 677, descriptorIndex := 12, attributes := #[] }, { accessFlags := 10, nameIndex := 11, descriptorIndex := 12, attributes := #[] }, { accessFlags := 74, nameIndex := 175, descriptorIndex := 176, attributes := #[] }, { accessFlags := 10, nameIndex := 491, descriptorIndex := 222, attributes := #[] }, { accessFlags := 74, nameIndex := 29, descriptorIndex := 30, attributes := #[] }, { accessFlags := 74, nameIndex := 154, descriptorIndex := 155, attributes := #[] }, { accessFlags := 10, nameIndex := 217, descriptorIndex := 218, attributes := #[] }, { accessFlags := 10, nameIndex := 221, descriptorIndex := 222, attributes := #[] }, { accessFlags := 8, nameIndex := 562, descriptorIndex := 563, attributes := #[] }])
  fields := #[{ name := "in", type := (.object "java/io/InputStream"), accessFlags := 25, slot := 0, constantValue := 0 }, { name := "out", type := (.object "java/io/PrintStream"), accessFlags := 25, slot := 1, constantValue := 0 }, { name := "err", type := (.object "java/io/PrintStream"), accessFlags := 25, slot := 2, constantValue := 0 }, { name := "initialIn", type := (.object "java/io/InputStream"), accessFlags := 10, slot := 3, constantValue := 0 }, { name := "NEVER", type := .int, accessFlags := 26, slot := 4, constantValue := 0 }, { name := "MAYBE", type := .int, accessFlags := 26, slot := 5, constantValue := 0 }, { name := "allowSecurityManager", type := .int, accessFlags := 10, slot := 6, constantValue := 0 }, { name := "security", type := (.object "java/lang/SecurityManager"), accessFlags := 74, slot := 7, constantValue := 0 }, { name := "notSupportedJnuEncoding", type := (.object "java/lang/String"), accessFlags := 10, slot := 8, constantValue := 0 }, { name := "cons", type := (.object "java/io/Console"), accessFlags := 74, slot := 9, constantValue := 0 }, { name := "initialErrStream", type := (.object "java/io/PrintStream"), accessFlags := 74, slot := 10, constantValue := 0 }, { name := "props", type := (.object "java/util/Properties"), accessFlags := 10, slot := 11, constantValue := 0 }, { name := "lineSeparator", type := (.object "java/lang/String"), accessFlags := 10, slot := 12, constantValue := 0 }, { name := "bootLayer", type := (.object "java/lang/ModuleLayer"), accessFlags := 8, slot := 13, constantValue := 0 }]
  methods := #[k3m0, k3m1]
  instanceTypes := #[]
  staticTypes := #[(.object "java/io/InputStream"), (.object "java/io/PrintStream"), (.object "java/io/PrintStream"), (.object "java/io/InputStream"), .int, .int, .int, (.object "java/lang/SecurityManager"), (.object "java/lang/String"), (.object "java/io/Console"), (.object "java/io/PrintStream"), (.object "java/util/Properties"), (.object "java/lang/String"), (.object "java/lang/ModuleLayer")]
  resolved := Array.replicate 834 none
  statics := none }

def pool4 : Array CpInfo := pool [(1, .class_ 2), (0, u "java/lang/Math"), (1, .class_ 6), (1, u "java/lang/Object"), (0, u "<init>"), (0, u "()V"), (89, .class_ 100), (1, u "java/lang/Math$RandomNumberGeneratorHolder"), (20, u "(JJ)J"), (50, u "negativeZeroFloatBits"), (0, u "J"), (2, u "negativeZeroDoubleBits"), (21, u "max"), (2, u "min"), (43, u "$assertionsDisabled"), (0, u "Z"), (88, u "(II)I"), (2, u "twoToTheDoubleScaleDown"), (0, u "D"), (4, u "twoToTheDoubleScaleUp"), (9, u "E"), (3, u "PI"), (2, u "TAU"), (2, u "DEGREES_TO_RADIANS"), (0, u "RADIANS_TO_DEGREES")] 94

def k4m0 : Method := { name := "<init>", desc := "()V", sig := { parameters := [], returnType := none }, accessFlags := 2, code := none }
def k4c1 : Code := { maxStack := 2, maxLocals := 2, code := jdk_29_method_65_code, exceptionTable := #[], attributes := #[] }
def k4m1 : Method := { name := "max", desc := "(II)I", sig := { parameters := [.int, .int], returnType := some .int }, accessFlags := 9, code := some k4c1 }
def k4c2 : Code := { maxStack := 4, maxLocals := 4, code := jdk_29_method_66_code, exceptionTable := #[], attributes := #[] }
def k4m2 : Method := { name := "max", desc := "(JJ)J", sig := { parameters := [.long, .long], returnType := some .long }, accessFlags := 9, code := some k4c2 }
def k4c3 : Code := { maxStack := 4, maxLocals := 4, code := jdk_29_method_70_code, exceptionTable := #[], attributes := #[] }
def k4m3 : Method := { name := "min", desc := "(JJ)J", sig := { parameters := [.long, .long], returnType := some .long }, accessFlags := 9, code := some k4c3 }
/-- java/lang/Math -/
def k4 : Class := { plain "java/lang/Math" (some 0) with
  accessFlags := 49
  interfaces := #[]
  cf := some (fileOf pool4 1 #[.nestMembers #[98]] #[{ accessFlags := 2, nameIndex := 7, descriptorIndex := 8, attributes := #[] }, { accessFlags := 9, nameIndex := 198, descriptorIndex := 335, attributes := #[] }, { accessFlags := 9, nameIndex := 198, descriptorIndex := 121, attributes := #[] }, { accessFlags := 9, nameIndex := 201, descriptorIndex := 121, attributes := #[] }] 49 4 #[] #[{ accessFlags := 25, nameIndex := 354, descriptorIndex := 339, attributes := #[] }, { accessFlags := 25, nameIndex := 358, descriptorIndex := 339, attributes := #[] }, { accessFlags := 25, nameIndex := 361, descriptorIndex := 339, attributes := #[] }, { accessFlags := 26, nameIndex := 364, descriptorIndex := 339, attributes := #[] }, { accessFlags := 26, nameIndex := 365, descriptorIndex := 339, attributes := #[] }, { accessFlags := 26, nameIndex := 172, descriptorIndex := 173, attributes := #[] }, { accessFlags := 26, nameIndex := 176, descriptorIndex := 173, attributes := #[] }, { accessFlags := 8, nameIndex := 344, descriptorIndex := 339, attributes := #[] }, { accessFlags := 8, nameIndex := 338, descriptorIndex := 339, attributes := #[] }, { accessFlags := 4120, nameIndex := 245, descriptorIndex := 246, attributes := #[] }])
  fields := #[{ name := "E", type := .double, accessFlags := 25, slot := 0, constantValue := 0 }, { name := "PI", type := .double, accessFlags := 25, slot := 1, constantValue := 0 }, { name := "TAU", type := .double, accessFlags := 25, slot := 2, constantValue := 0 }, { name := "DEGREES_TO_RADIANS", type := .double, accessFlags := 26, slot := 3, constantValue := 0 }, { name := "RADIANS_TO_DEGREES", type := .double, accessFlags := 26, slot := 4, constantValue := 0 }, { name := "negativeZeroFloatBits", type := .long, accessFlags := 26, slot := 5, constantValue := 0 }, { name := "negativeZeroDoubleBits", type := .long, accessFlags := 26, slot := 6, constantValue := 0 }, { name := "twoToTheDoubleScaleUp", type := .double, accessFlags := 8, slot := 7, constantValue := 0 }, { name := "twoToTheDoubleScaleDown", type := .double, accessFlags := 8, slot := 8, constantValue := 0 }, { name := "$assertionsDisabled", type := .boolean, accessFlags := 4120, slot := 9, constantValue := 0 }]
  methods := #[k4m0, k4m1, k4m2, k4m3]
  instanceTypes := #[]
  staticTypes := #[.double, .double, .double, .double, .double, .long, .long, .double, .double, .boolean]
  resolved := Array.replicate 460 none
  statics := none }

def pool5 : Array CpInfo := pool [(1, u "java/lang/Cloneable"), (0, .class_ 1), (0, u "java/lang/Object"), (0, .class_ 3)] 3

/-- java/lang/Cloneable -/
def k5 : Class := { plain "java/lang/Cloneable" (some 0) with
  accessFlags := 1537
  interfaces := #[]
  cf := some (fileOf pool5 2 #[] #[] 1537 4 #[] #[])
  fields := #[]
  methods := #[]
  instanceTypes := #[]
  staticTypes := #[]
  resolved := Array.replicate 8 none
  statics := none }

def pool6 : Array CpInfo := pool [(1, u "java/io/Serializable"), (0, .class_ 1), (0, u "java/lang/Object"), (0, .class_ 3)] 3

/-- java/io/Serializable -/
def k6 : Class := { plain "java/io/Serializable" (some 0) with
  accessFlags := 1537
  interfaces := #[]
  cf := some (fileOf pool6 2 #[] #[] 1537 4 #[] #[])
  fields := #[]
  methods := #[]
  instanceTypes := #[]
  staticTypes := #[]
  resolved := Array.replicate 8 none
  statics := none }

/-- the primitive byte -/
def k7 : Class := { plain "byte" none with kind := .primitive 'B', accessFlags := 0x411 }
/-- [B -/
def k8 : Class := { plain "[B" (some 0) with kind := .array 7 .byte, interfaces := #[5, 6], accessFlags := 1041 }

/-- the primitive int -/
def k9 : Class := { plain "int" none with kind := .primitive 'I', accessFlags := 0x411 }
/-- [I -/
def k10 : Class := { plain "[I" (some 0) with kind := .array 9 .int, interfaces := #[5, 6], accessFlags := 1041 }

/-- the primitive long -/
def k11 : Class := { plain "long" none with kind := .primitive 'J', accessFlags := 0x411 }
/-- [J -/
def k12 : Class := { plain "[J" (some 0) with kind := .array 11 .long, interfaces := #[5, 6], accessFlags := 1041 }

def heap : Heap := #[]
def classes : Array Class := #[k0, k1, k2, k3, k4, k5, k6, k7, k8, k9, k10, k11, k12]
def interned : List (Array UInt16 × Addr) := []
def slotsUsed : Nat := 0
def theMethod : MethodId := ⟨1, 1⟩
def args0 : Array Value := #[.long 3, .long 5, .long 1, .long 2, .int 7, .int 9]
def aboutOver (below : List Frame) : State where
  vm := { classes := classes, interned := interned.toArray }
  heap := heap
  slotsUsed := slotsUsed
  threads := #[{ frames := .invoking theMethod args0 :: below }]
def below0 : List Frame := [.native { method := ⟨0, 0⟩, args := #[] }]
def about1 : State := aboutOver below0
def p0 : Program := .bare "" "" ""
def e0 : Env := launch0.env 0 0 0
theorem w_frames : about1.frames = Frame.invoking theMethod args0 :: below0 := rfl
set_option maxRecDepth 65536 in
theorem w_args : argsFit about1.vm theMethod args0 = true := by decide +kernel
set_option maxRecDepth 65536 in
theorem w_heap : heapFits about1 = true := by decide +kernel
set_option maxRecDepth 65536 in
theorem w_runnable : about1.curStatus? = some .runnable := by decide +kernel
set_option maxRecDepth 65536 in
theorem w_alone : about1.alone = true := by decide +kernel
set_option maxRecDepth 65536 in
theorem w_named : about1.methodNamed? x = some theMethod := by decide +kernel
set_option maxRecDepth 65536 in
theorem w_hears : about1.hears theMethod below0 = true := by decide +kernel
set_option maxRecDepth 65536 in
theorem w_ripe : about1.ripe theMethod args0 below0 = true := by decide +kernel
theorem w_running : about1.status = .running := rfl
set_option maxRecDepth 65536 in
theorem w_room : about1.hasRoom e0.platform room_1 = true :=
  launch0.hasRoom_least _ room_1 (by decide +kernel) (by decide +kernel) (by decide +kernel) (by decide +kernel) (by decide +kernel) (by decide +kernel)
theorem allAtoms_all (ts : List Jvm.Cond) (a : Array Jvm.Value) (st : Jvm.State) : (allAtoms ts).before a st = ts.all (fun c => c.before a st) := by
  induction ts with
  | nil => rfl
  | cons c t ih =>
    show (Jvm.Cond.and c (allAtoms t)).before a st = _
    rw [Jvm.Cond.before_and, ih, List.all_cons]
def words1 : List Jvm.Cond := Jvm.Cond.code x code maxLocals ret :: tables_1
/-- a 'code' word, met by the world's own term for the bytes: nothing is compared byte by byte -/
theorem code_word {y : MethodName} {bytes : ByteArray} {mx : Nat} {rt : Option FieldType} {a : Array Value} {s : State} {m : MethodId} {meth : Method} {c : Code} (h1 : s.methodNamed? y = some m) (h2 : s.vm.method? m = some meth) (h3 : meth.code = some c) (h4 : c.code = bytes)
    (h5 : (c.maxLocals == mx && c.exceptionTable.isEmpty && decide (c.maxStack ≤ mostOperands) && decide (meth.sig.returnType = rt) && !meth.locks && decide (parseMethodDescriptor y.desc = some meth.sig)) = true) : (Jvm.Cond.code y bytes mx rt).before a s = true := by
  simp only [Bool.and_eq_true, beq_iff_eq, Bool.not_eq_true', decide_eq_true_eq] at h5
  obtain ⟨⟨⟨⟨⟨g1, g2⟩, g3⟩, g4⟩, g5⟩, g6⟩ := h5
  simp [Cond.before, Cond.holds, Cond.value, h1, h2, h3, h4, g1, g2, g3, g4, g5, g6]
def isCode : Jvm.Cond → Bool
  | .code _ _ _ _ => true
  | _ => false
theorem all_split {L : List Jvm.Cond} {P : Jvm.Cond → Bool} (h1 : L.all (fun c => isCode c || P c) = true) (h2 : ∀ c ∈ L.filter isCode, P c = true) : L.all P = true := by
  refine List.all_eq_true.mpr fun c hc => ?_
  have h := List.all_eq_true.mp h1 c hc
  rcases Bool.eq_false_or_eq_true (isCode c) with hi | hi
  · exact h2 c (List.mem_filter.mpr ⟨hc, hi⟩)
  · simpa [hi] using h
set_option maxRecDepth 65536 in
theorem w_c0 : (Jvm.Cond.code x code maxLocals ret).before args0 about1 = true := code_word (m := ⟨1, 1⟩) (meth := k1m1) (c := k1c1) (by decide +kernel) rfl rfl rfl (by decide +kernel)
set_option maxRecDepth 65536 in
theorem w_c1 : (Jvm.Cond.code ({ cls := "com/example/libbrake/libbrake/AdmissionLog", name := "<init>", desc := "()V" } : Jvm.MethodName) prog_1_method_1_code (1 : Nat) (Option.none : Option Jvm.ClassFile.FieldType)).before args0 about1 = true := code_word (m := ⟨2, 0⟩) (meth := k2m0) (c := k2c0) (by decide +kernel) rfl rfl rfl (by decide +kernel)
set_option maxRecDepth 65536 in
theorem w_c2 : (Jvm.Cond.code ({ cls := "java/lang/Object", name := "<init>", desc := "()V" } : Jvm.MethodName) object_method_1_code (1 : Nat) (Option.none : Option Jvm.ClassFile.FieldType)).before args0 about1 = true := code_word (m := ⟨0, 0⟩) (meth := k0m0) (c := k0c0) (by decide +kernel) rfl rfl rfl (by decide +kernel)
set_option maxRecDepth 65536 in
theorem w_c3 : (Jvm.Cond.code ({ cls := "com/example/libbrake/libbrake/AdmissionLog", name := "add", desc := "(JJ)V" } : Jvm.MethodName) prog_1_method_4_code (7 : Nat) (Option.none : Option Jvm.ClassFile.FieldType)).before args0 about1 = true := code_word (m := ⟨2, 3⟩) (meth := k2m3) (c := k2c3) (by decide +kernel) rfl rfl rfl (by decide +kernel)
set_option maxRecDepth 65536 in
theorem w_c4 : (Jvm.Cond.code ({ cls := "java/lang/Math", name := "max", desc := "(II)I" } : Jvm.MethodName) jdk_29_method_65_code (2 : Nat) (Option.some Jvm.ClassFile.FieldType.int)).before args0 about1 = true := code_word (m := ⟨4, 1⟩) (meth := k4m1) (c := k4c1) (by decide +kernel) rfl rfl rfl (by decide +kernel)
set_option maxRecDepth 65536 in
theorem w_c5 : (Jvm.Cond.code ({ cls := "com/example/libbrake/libbrake/AdmissionLog", name := "moveTo", desc := "(I)V" } : Jvm.MethodName) prog_1_method_6_code (4 : Nat) (Option.none : Option Jvm.ClassFile.FieldType)).before args0 about1 = true := code_word (m := ⟨2, 5⟩) (meth := k2m5) (c := k2c5) (by decide +kernel) rfl rfl rfl (by decide +kernel)
set_option maxRecDepth 65536 in
theorem w_c6 : (Jvm.Cond.code ({ cls := "com/example/libbrake/libbrake/AdmissionLog", name := "removeUpTo", desc := "(J)V" } : Jvm.MethodName) prog_1_method_3_code (3 : Nat) (Option.none : Option Jvm.ClassFile.FieldType)).before args0 about1 = true := code_word (m := ⟨2, 2⟩) (meth := k2m2) (c := k2c2) (by decide +kernel) rfl rfl rfl (by decide +kernel)
set_option maxRecDepth 65536 in
theorem w_c7 : (Jvm.Cond.code ({ cls := "com/example/libbrake/libbrake/AdmissionLog", name := "permits", desc := "()J" } : Jvm.MethodName) prog_1_method_2_code (1 : Nat) (Option.some Jvm.ClassFile.FieldType.long)).before args0 about1 = true := code_word (m := ⟨2, 1⟩) (meth := k2m1) (c := k2c1) (by decide +kernel) rfl rfl rfl (by decide +kernel)
set_option maxRecDepth 65536 in
theorem w_c8 : (Jvm.Cond.code ({ cls := "java/lang/Math", name := "min", desc := "(JJ)J" } : Jvm.MethodName) jdk_29_method_70_code (4 : Nat) (Option.some Jvm.ClassFile.FieldType.long)).before args0 about1 = true := code_word (m := ⟨4, 3⟩) (meth := k4m3) (c := k4c3) (by decide +kernel) rfl rfl rfl (by decide +kernel)
set_option maxRecDepth 65536 in
theorem w_c9 : (Jvm.Cond.code ({ cls := "java/lang/Math", name := "max", desc := "(JJ)J" } : Jvm.MethodName) jdk_29_method_66_code (4 : Nat) (Option.some Jvm.ClassFile.FieldType.long)).before args0 about1 = true := code_word (m := ⟨4, 2⟩) (meth := k4m2) (c := k4c2) (by decide +kernel) rfl rfl rfl (by decide +kernel)
set_option maxRecDepth 65536 in
theorem w_c10 : (Jvm.Cond.code ({ cls := "com/example/libbrake/libbrake/AdmissionLog", name := "timeOf", desc := "(J)J" } : Jvm.MethodName) prog_1_method_5_code (6 : Nat) (Option.some Jvm.ClassFile.FieldType.long)).before args0 about1 = true := code_word (m := ⟨2, 4⟩) (meth := k2m4) (c := k2c4) (by decide +kernel) rfl rfl rfl (by decide +kernel)
def codes1 : List Jvm.Cond := [Jvm.Cond.code x code maxLocals ret, Jvm.Cond.code ({ cls := "com/example/libbrake/libbrake/AdmissionLog", name := "<init>", desc := "()V" } : Jvm.MethodName) prog_1_method_1_code (1 : Nat) (Option.none : Option Jvm.ClassFile.FieldType), Jvm.Cond.code ({ cls := "java/lang/Object", name := "<init>", desc := "()V" } : Jvm.MethodName) object_method_1_code (1 : Nat) (Option.none : Option Jvm.ClassFile.FieldType), Jvm.Cond.code ({ cls := "com/example/libbrake/libbrake/AdmissionLog", name := "add", desc := "(JJ)V" } : Jvm.MethodName) prog_1_method_4_code (7 : Nat) (Option.none : Option Jvm.ClassFile.FieldType), Jvm.Cond.code ({ cls := "java/lang/Math", name := "max", desc := "(II)I" } : Jvm.MethodName) jdk_29_method_65_code (2 : Nat) (Option.some Jvm.ClassFile.FieldType.int), Jvm.Cond.code ({ cls := "com/example/libbrake/libbrake/AdmissionLog", name := "moveTo", desc := "(I)V" } : Jvm.MethodName) prog_1_method_6_code (4 : Nat) (Option.none : Option Jvm.ClassFile.FieldType), Jvm.Cond.code ({ cls := "com/example/libbrake/libbrake/AdmissionLog", name := "removeUpTo", desc := "(J)V" } : Jvm.MethodName) prog_1_method_3_code (3 : Nat) (Option.none : Option Jvm.ClassFile.FieldType), Jvm.Cond.code ({ cls := "com/example/libbrake/libbrake/AdmissionLog", name := "permits", desc := "()J" } : Jvm.MethodName) prog_1_method_2_code (1 : Nat) (Option.some Jvm.ClassFile.FieldType.long), Jvm.Cond.code ({ cls := "java/lang/Math", name := "min", desc := "(JJ)J" } : Jvm.MethodName) jdk_29_method_70_code (4 : Nat) (Option.some Jvm.ClassFile.FieldType.long), Jvm.Cond.code ({ cls := "java/lang/Math", name := "max", desc := "(JJ)J" } : Jvm.MethodName) jdk_29_method_66_code (4 : Nat) (Option.some Jvm.ClassFile.FieldType.long), Jvm.Cond.code ({ cls := "com/example/libbrake/libbrake/AdmissionLog", name := "timeOf", desc := "(J)J" } : Jvm.MethodName) prog_1_method_5_code (6 : Nat) (Option.some Jvm.ClassFile.FieldType.long)]
set_option maxRecDepth 65536 in
theorem codes_eq : words1.filter isCode = codes1 := rfl
theorem w_codes : ∀ c ∈ words1.filter isCode, c.before args0 about1 = true := by
  rw [codes_eq]
  intro c hc
  simp only [codes1, List.mem_cons, List.not_mem_nil, or_false] at hc
  rcases hc with rfl | rfl | rfl | rfl | rfl | rfl | rfl | rfl | rfl | rfl | rfl
  · exact w_c0
  · exact w_c1
  · exact w_c2
  · exact w_c3
  · exact w_c4
  · exact w_c5
  · exact w_c6
  · exact w_c7
  · exact w_c8
  · exact w_c9
  · exact w_c10
set_option maxRecDepth 65536 in
theorem w_t1 : (words1.take 24).all (fun c => isCode c || c.before args0 about1) = true := by decide +kernel
set_option maxRecDepth 65536 in
theorem w_t2 : ((words1.drop 24).take 24).all (fun c => isCode c || c.before args0 about1) = true := by decide +kernel
set_option maxRecDepth 65536 in
theorem w_t3 : ((words1.drop 24).drop 24).all (fun c => isCode c || c.before args0 about1) = true := by decide +kernel
theorem w_tables : (allAtoms (Jvm.Cond.code x code maxLocals ret :: tables_1)).before args0 about1 = true := by
  rw [allAtoms_all]
  show words1.all (fun c => c.before args0 about1) = true
  refine all_split ?_ w_codes
  rw [← List.take_append_drop 24 words1, List.all_append, w_t1, ← List.take_append_drop 24 (words1.drop 24), List.all_append, w_t2, w_t3]
  rfl
set_option maxRecDepth 65536 in
theorem w_case : (Jvm.Cond.and given_1 narrow_1).before args0 about1 = true := by decide +kernel
theorem w_applies : (headSpec (Jvm.Cond.code x code maxLocals ret :: tables_1) room_1).applies x e0.platform about1 = true :=
  (Spec.applies_iff w_frames).mpr ⟨w_running, w_runnable, w_alone, w_named, w_hears, w_ripe, w_room, w_tables⟩
theorem atStart : AtStart classFile x code maxLocals ret World_1 tables_1 room_1 Calls_1 rest_1 Pre_1 launch0 p0 e0 about1 theMethod args0 below0 :=
  ⟨lists_1, trivial, launch0.admits_env _ _ _, launch0.least_env, fairChoices_fair.cas, fairChoices_fair.clock, w_frames, w_args, w_heap, w_applies, trivial, trivial, w_case⟩
end start1
theorem witness_1 : WitnessClaimed_1 := ⟨start1.p0, start1.e0, start1.about1, start1.theMethod, start1.args0, start1.below0, start1.atStart⟩
end Jvm.Pilot.@@N@@
