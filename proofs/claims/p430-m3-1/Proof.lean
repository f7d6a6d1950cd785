import JvmDerived
import JvmDerived.Pilot.@@N@@Statement
import JvmDerived.Pilot.@@N@@Code
set_option linter.unusedVariables false
set_option linter.unusedSimpArgs false
namespace Jvm.Pilot.@@N@@
open Jvm Jvm.ClassFile Sem Op Lib Jvm.Free Jvm.Stand Jvm.LawKit Jvm.RoadKit Bundle Jvm.Pilot.@@N@@.Jvm.D
def Go (p : Program) (e : Env) (below : List Frame) (S : State) (P : State → Outcome → Prop) : Prop := ∃ t o, Steps p.tables e below S t ∧ P t o
abbrev Gm (p : Program) (e : Env) (below : List Frame) (T : State) (m : MethodId) (pc : Nat) (ls : Array Slot) (st : List Value) (P : State → Outcome → Prop) : Prop := Go p e below (T.setTop (mkF m pc ls st)) P
abbrev lv (x : Int64) : Slot := .val (.long x)
theorem own_in {p : Program} {e : Env} {below : List Frame} {T : State} {g g' : JFrame} {P : State → Outcome → Prop} (q : g = g') (h : Go p e below (T.setTop g') P) : ∃ s₂ o, Steps p.tables e below (T.setTop g) s₂ ∧ P s₂ o := q ▸ h
theorem own_go {p : Program} {e : Env} {below : List Frame} {S S' : State} {P : State → Outcome → Prop} (k : ∀ t, Steps p.tables e below S' t → Steps p.tables e below S t) (h : Go p e below S' P) : Go p e below S P := by
  obtain ⟨t, o, h1, h2⟩ := h
  exact ⟨t, o, k t h1, h2⟩
section Rets
variable {p : Program} {l : Launch} {e : Env} {R : Room} {s : State} {m : MethodId} {args : Array Value} {below : List Frame} {meth : Method} {c : Code} {T : State} {locs : List Loc} {cells slots : Nat}
theorem own_retI (X : Stand p l e R s m args below meth c T locs cells slots) (hx : p.tables.exec = Jvm.exec) (hlk : meth.locks = false) {pc : Nat} {Ls : Array Slot} {z : Int32} {t : FieldType} {Q : Option Value → Heap → List Loc → Prop} {C N : Nat} (hret : meth.sig.returnType = some t) (hn : narrow t (.int z) = .int z) (ht : t = .int ∨ t = .boolean ∨ t = .byte ∨ t = .char ∨ t = .short)
    (hd : decode c.code pc = .ok (.ireturn, 1)) {h : Heap} (eh : T.heap = h) (hq : Q (some (.int z)) h locs) (hC : cells ≤ C) (hN : slots ≤ N) : Go p e below (T.setTop (mkF m pc Ls [.int z])) (fun t o => t.status = .running ∧ Ended t below o ∧ ∃ v L, o = .returned v ∧ Q v t.heap L ∧ FrameEnd s o t L C N) := by
  subst eh
  obtain ⟨fs, hr, hrun, hended, hW, hsame⟩ := X.leave (v := some (.int z)) (fun h => by rw [hret] at h; cases h) hlk
  exact ⟨_, _, X.ireturnOut hx hret hn ht hd hr, hrun, hended, _, _, rfl, hq, ⟨_, rfl⟩, hW, hsame.mono hC hN⟩
theorem own_retL (X : Stand p l e R s m args below meth c T locs cells slots) (hx : p.tables.exec = Jvm.exec) (hlk : meth.locks = false) {pc : Nat} {Ls : Array Slot} {z : Int64} {Q : Option Value → Heap → List Loc → Prop} {C N : Nat} (hret : meth.sig.returnType = some .long)
    (hd : decode c.code pc = .ok (.lreturn, 1)) {h : Heap} (eh : T.heap = h) (hq : Q (some (.long z)) h locs) (hC : cells ≤ C) (hN : slots ≤ N) : Go p e below (T.setTop (mkF m pc Ls [.long z])) (fun t o => t.status = .running ∧ Ended t below o ∧ ∃ v L, o = .returned v ∧ Q v t.heap L ∧ FrameEnd s o t L C N) := by
  subst eh
  obtain ⟨fs, hr, hrun, hended, hW, hsame⟩ := X.leave (v := some (.long z)) (fun h => by rw [hret] at h; cases h) hlk
  exact ⟨_, _, X.lreturnOut hx hret hd hr, hrun, hended, _, _, rfl, hq, ⟨_, rfl⟩, hW, hsame.mono hC hN⟩
theorem own_retA (X : Stand p l e R s m args below meth c T locs cells slots) (hx : p.tables.exec = Jvm.exec) (hlk : meth.locks = false) {pc : Nat} {Ls : Array Slot} {w : Value} {t : FieldType} {Q : Option Value → Heap → List Loc → Prop} {C N : Nat} (hw : w.isRef = true) (hret : meth.sig.returnType = some t) (ht : t.isReference = true)
    (hd : decode c.code pc = .ok (.areturn, 1)) {h : Heap} (eh : T.heap = h) (hq : Q (some w) h locs) (hC : cells ≤ C) (hN : slots ≤ N) : Go p e below (T.setTop (mkF m pc Ls [w])) (fun t o => t.status = .running ∧ Ended t below o ∧ ∃ v L, o = .returned v ∧ Q v t.heap L ∧ FrameEnd s o t L C N) := by
  subst eh
  obtain ⟨fs, hr, hrun, hended, hW, hsame⟩ := X.leave (v := some w) (fun h => by rw [hret] at h; cases h) hlk
  exact ⟨_, _, X.areturnOut hx hw hret ht hd hr, hrun, hended, _, _, rfl, hq, ⟨_, rfl⟩, hW, hsame.mono hC hN⟩
theorem own_retV (X : Stand p l e R s m args below meth c T locs cells slots) (hx : p.tables.exec = Jvm.exec) (hlk : meth.locks = false) {pc : Nat} {Ls : Array Slot} {Q : Option Value → Heap → List Loc → Prop} {C N : Nat} (hret : meth.sig.returnType = none)
    (hd : decode c.code pc = .ok (.return_, 1)) {h : Heap} (eh : T.heap = h) (hq : Q none h locs) (hC : cells ≤ C) (hN : slots ≤ N) : Go p e below (T.setTop (mkF m pc Ls [])) (fun t o => t.status = .running ∧ Ended t below o ∧ ∃ v L, o = .returned v ∧ Q v t.heap L ∧ FrameEnd s o t L C N) := by
  subst eh
  obtain ⟨fs, hr, hrun, hended, hW, hsame⟩ := X.leave (v := none) (fun _ => rfl) hlk
  exact ⟨_, _, X.returnOut hx hret hd hr, hrun, hended, _, _, rfl, hq, ⟨_, rfl⟩, hW, hsame.mono hC hN⟩
end Rets
theorem own_eqI {args : Array Value} {first s : State} {o : Option Outcome} {idx : List Nat} {a : Term} {k : Int32} (h : (Jvm.Cond.eq a (.int k)).value args first o s idx = some true) : a.eval args first o idx s = some (.int k) := by
  cases ha : a.eval args first o idx s with
  | none => simp [Cond.value, ha, Term.eval] at h
  | some v => cases v <;> simp [Cond.value, ha, Term.eval] at h <;> first | (subst h; rfl) | (rw [h])
theorem d1_0 : decode prog_53_method_4_code 0 = .ok (.aload_n 0, 1) := by decide +kernel
theorem d1_1 : decode prog_53_method_4_code 1 = .ok (.getfield 47, 3) := by decide +kernel
theorem d1_4 : decode prog_53_method_4_code 4 = .ok (.ifCond .eq 14, 3) := by decide +kernel
theorem d1_7 : decode prog_53_method_4_code 7 = .ok (.aload_n 0, 1) := by decide +kernel
theorem d1_8 : decode prog_53_method_4_code 8 = .ok (.getfield 51, 3) := by decide +kernel
theorem d1_11 : decode prog_53_method_4_code 11 = .ok (.ifCond .eq 7, 3) := by decide +kernel
theorem d1_14 : decode prog_53_method_4_code 14 = .ok (.iconst 1, 1) := by decide +kernel
theorem d1_15 : decode prog_53_method_4_code 15 = .ok (.goto 4, 3) := by decide +kernel
theorem d1_18 : decode prog_53_method_4_code 18 = .ok (.iconst 0, 1) := by decide +kernel
theorem d1_19 : decode prog_53_method_4_code 19 = .ok (.ireturn, 1) := by decide +kernel
theorem own_pn_rm1 : plainName "com/example/throughfare/throughfare/simulation/Move" = true := by first | (simp [plainName, overriddenIn]; done) | decide +kernel
theorem own_ef_rm1 (m : MethodId) (r0 : Addr) : entryFrame m #[(.ref r0)] 1 = mkF m 0 #[.val (.ref r0)] [] := by first | (simp [entryFrame, mkF, argsToLocals, Value.category]; done) | rfl
def fD (r0 : Addr) (di : Int32) (dj : Int32) : Int32 := if di = (0 : Int32) then (0 : Int32) else (if dj = (0 : Int32) then (0 : Int32) else ((1 : Int32)))
def Q1 (Z : State) (r0 : Addr) (di : Int32) (dj : Int32) (h0 : Heap) (n0 : Nat) (v : Option Value) (h : Heap) (L : List Loc) : Prop := v = some (.int (fD r0 di dj)) ∧ Fr n0 L ∧ h = h0
set_option maxRecDepth 65536 in
set_option maxHeartbeats 40000000 in
theorem rm1 (l : Launch) (Z : State) (a0 : Array Value) (hw : ∀ d ∈ tables_1, d.before a0 Z = true) (ws : List Jvm.Cond) (r0 : Addr) (di : Int32) (dj : Int32) (h0 : Heap) (n0 : Nat) (Z0 : n0 ≤ h0.size) (F_di : Fld Z h0 r0 "com/example/throughfare/throughfare/simulation/Move" "di" "I" (.int di)) (F_dj : Fld Z h0 r0 "com/example/throughfare/throughfare/simulation/Move" "dj" "I" (.int dj)) :
    MetFree l (⟨"com/example/throughfare/throughfare/simulation/Move", "isDiagonal", "()Z"⟩ : MethodName) (head1 (Jvm.Cond.code (⟨"com/example/throughfare/throughfare/simulation/Move", "isDiagonal", "()Z"⟩ : MethodName) prog_53_method_4_code 1 (some .boolean) :: ws) ({ frames := 0, cells := 0, slots := 0, locals := 0 } : Room)) (fun a U => a = #[(.ref r0)] ∧ Z.Warmed39 U.vm ∧ U.heap = h0) (fun _ _ _ _ _ => True) (fun _ U o U' => ∃ v L, o = .returned v ∧ Q1 Z r0 di dj h0 n0 v U'.heap L ∧ FrameEnd U o U' L ({ frames := 0, cells := 0, slots := 0, locals := 0 } : Room).cells ({ frames := 0, cells := 0, slots := 0, locals := 0 } : Room).slots) := by
  refine MetFree.of_bodySF (plainFor_of_name own_pn_rm1) hisR ?_
  intro p e s m args below meth c s₁ Bd hml0 hP hK
  obtain ⟨rfl, hZ, hh⟩ := hP
  have hx := Bd.exec
  have hby := Bd.bytes
  have hml : c.maxLocals = 1 := hml0
  have hown : s.vm.findClass "com/example/throughfare/throughfare/simulation/Move" = some m.cls := findClass_of_methodNamed Bd.named
  have hnm := (name_of_methodNamed Bd.named Bd.method).1
  have hlk : meth.locks = false := BodyLoose.notSynchronized Bd
  have X0 : Stand p l e ({ frames := 0, cells := 0, slots := 0, locals := 0 } : Room) s m #[(.ref r0)] below meth c s₁ [] 0 0 := Stand.of_body Bd
  have e0 : s₁.heap = h0 := by rw [← hh, Bd.state]; rfl
  have N0 := Fr.nil n0
  refine own_in (own_ef_rm1 m r0) ?_
  show Gm p e below s₁ m 0 #[rv r0] [] _
  refine own_go (fun t₀ k₀ => XS.aloadN X0.here hx rfl (Jvm.hb hby d1_0) rfl rfl k₀) ?_
  show Gm p e below s₁ m 1 #[rv r0] [(.ref r0)] _
  obtain ⟨T1, X1, e1, st1⟩ := getF X0 hx hZ hown (host := "") (Or.inl (hw _ (List.mem_of_getElem? (i := 8) rfl))) Via.refl e0 F_di (g := (mkF m 1 #[rv r0] [(.ref r0)])) rfl rfl (Jvm.hb hby d1_1)
  refine own_go st1 ?_
  show Gm p e below T1 m 4 #[rv r0] [(.int di)] _
  by_cases c2 : di = (0 : Int32)
  · have hfork := trivial
    refine own_go (fun t₀ k₀ => XS.ifYes X1.here hx rfl (pc0 := 4) (pc' := 18) rfl (Jvm.hb hby d1_4) rfl (XT.i0_eq_t c2) (by decide) (by decide) k₀) ?_
    show Gm p e below T1 m 18 #[rv r0] [] _
    refine own_go (fun t₀ k₀ => XS.iconst X1.here hx rfl (Jvm.hb hby d1_18) k₀) ?_
    show Gm p e below T1 m 19 #[rv r0] [(.int (0 : Int32))] _
    exact own_retI X1 hx hlk (t := .boolean) Bd.returns rfl (by simp) (Jvm.hb hby d1_19) e1 ⟨(by unfold fD; rw [if_pos c2]), N0, rfl⟩ (by decide) (by decide)
  · have hfork := trivial
    refine own_go (fun t₀ k₀ => XS.ifNo X1.here hx rfl (Jvm.hb hby d1_4) rfl (XT.i0_eq_f c2) k₀) ?_
    show Gm p e below T1 m 7 #[rv r0] [] _
    refine own_go (fun t₀ k₀ => XS.aloadN X1.here hx rfl (Jvm.hb hby d1_7) rfl rfl k₀) ?_
    show Gm p e below T1 m 8 #[rv r0] [(.ref r0)] _
    obtain ⟨T3, X3, e3, st3⟩ := getF X1 hx hZ hown (host := "") (Or.inl (hw _ (List.mem_of_getElem? (i := 10) rfl))) Via.refl e1 F_dj (g := (mkF m 8 #[rv r0] [(.ref r0)])) rfl rfl (Jvm.hb hby d1_8)
    refine own_go st3 ?_
    show Gm p e below T3 m 11 #[rv r0] [(.int dj)] _
    by_cases c4 : dj = (0 : Int32)
    · have hfork := trivial
      refine own_go (fun t₀ k₀ => XS.ifYes X3.here hx rfl (pc0 := 11) (pc' := 18) rfl (Jvm.hb hby d1_11) rfl (XT.i0_eq_t c4) (by decide) (by decide) k₀) ?_
      show Gm p e below T3 m 18 #[rv r0] [] _
      refine own_go (fun t₀ k₀ => XS.iconst X3.here hx rfl (Jvm.hb hby d1_18) k₀) ?_
      show Gm p e below T3 m 19 #[rv r0] [(.int (0 : Int32))] _
      exact own_retI X3 hx hlk (t := .boolean) Bd.returns rfl (by simp) (Jvm.hb hby d1_19) e3 ⟨(by unfold fD; rw [if_neg c2, if_pos c4]), N0, rfl⟩ (by decide) (by decide)
    · have hfork := trivial
      refine own_go (fun t₀ k₀ => XS.ifNo X3.here hx rfl (Jvm.hb hby d1_11) rfl (XT.i0_eq_f c4) k₀) ?_
      show Gm p e below T3 m 14 #[rv r0] [] _
      refine own_go (fun t₀ k₀ => XS.iconst X3.here hx rfl (Jvm.hb hby d1_14) k₀) ?_
      show Gm p e below T3 m 15 #[rv r0] [(.int (1 : Int32))] _
      refine own_go (fun t₀ k₀ => XS.goto X3.here hx rfl (pc0 := 15) (pc' := 19) rfl (Jvm.hb hby d1_15) (by decide) (by decide) k₀) ?_
      show Gm p e below T3 m 19 #[rv r0] [(.int (1 : Int32))] _
      exact own_retI X3 hx hlk (t := .boolean) Bd.returns rfl (by simp) (Jvm.hb hby d1_19) e3 ⟨(by unfold fD; rw [if_neg c2, if_neg c4]), N0, rfl⟩ (by decide) (by decide)
theorem own_pd0 : parseMethodDescriptor "()Z" = some ⟨[], some .boolean⟩ := by decide +kernel
theorem own_pn_rm0 : plainName "com/example/throughfare/throughfare/simulation/MoveIsDiagonalPinLaw" = true := by first | (simp [plainName, overriddenIn]; done) | decide +kernel
theorem own_ef_rm0 (m : MethodId) (p0 : Int32) : entryFrame m #[(.int p0)] maxLocals = mkF m 0 #[.val (.int p0), .unset, .unset, .unset] [] := by first | (simp [entryFrame, mkF, argsToLocals, Value.category, maxLocals]; done) | rfl
def Q0 (Z : State) (p0 : Int32) (w0 : Addr) (w1 : Addr) (w2 : Addr) (w3 : Addr) (w4 : Addr) (w5 : Addr) (w6 : Addr) (w7 : Addr) (h0 : Heap) (n0 : Nat) (v : Option Value) (h : Heap) (L : List Loc) : Prop := v = some (.int 1) ∧ Fr n0 L
set_option maxRecDepth 65536 in
set_option maxHeartbeats 40000000 in
theorem rm0 (l : Launch) (Z : State) (a0 : Array Value) (hw : ∀ d ∈ tables_1, d.before a0 Z = true) (ws : List Jvm.Cond) (p0 : Int32) (w0 : Addr) (w1 : Addr) (w2 : Addr) (w3 : Addr) (w4 : Addr) (w5 : Addr) (w6 : Addr) (w7 : Addr) (h0 : Heap) (n0 : Nat) (Z0 : n0 ≤ h0.size) (S_w0 : Sta Z h0 "com/example/throughfare/throughfare/simulation/Move" "EAST" "Lcom/example/throughfare/throughfare/simulation/Move;" (.ref w0)) (S_w1 : Sta Z h0 "com/example/throughfare/throughfare/simulation/Move" "NORTH_EAST" "Lcom/example/throughfare/throughfare/simulation/Move;" (.ref w1)) (S_w2 : Sta Z h0 "com/example/throughfare/throughfare/simulation/Move" "NORTH" "Lcom/example/throughfare/throughfare/simulation/Move;" (.ref w2)) (S_w3 : Sta Z h0 "com/example/throughfare/throughfare/simulation/Move" "NORTH_WEST" "Lcom/example/throughfare/throughfare/simulation/Move;" (.ref w3)) (S_w4 : Sta Z h0 "com/example/throughfare/throughfare/simulation/Move" "WEST" "Lcom/example/throughfare/throughfare/simulation/Move;" (.ref w4)) (S_w5 : Sta Z h0 "com/example/throughfare/throughfare/simulation/Move" "SOUTH_WEST" "Lcom/example/throughfare/throughfare/simulation/Move;" (.ref w5)) (S_w6 : Sta Z h0 "com/example/throughfare/throughfare/simulation/Move" "SOUTH" "Lcom/example/throughfare/throughfare/simulation/Move;" (.ref w6)) (S_w7 : Sta Z h0 "com/example/throughfare/throughfare/simulation/Move" "SOUTH_EAST" "Lcom/example/throughfare/throughfare/simulation/Move;" (.ref w7)) (E_w0 : Exa Z h0 w0 "com/example/throughfare/throughfare/simulation/Move") (E_w1 : Exa Z h0 w1 "com/example/throughfare/throughfare/simulation/Move") (E_w2 : Exa Z h0 w2 "com/example/throughfare/throughfare/simulation/Move") (E_w3 : Exa Z h0 w3 "com/example/throughfare/throughfare/simulation/Move") (E_w4 : Exa Z h0 w4 "com/example/throughfare/throughfare/simulation/Move") (E_w5 : Exa Z h0 w5 "com/example/throughfare/throughfare/simulation/Move") (E_w6 : Exa Z h0 w6 "com/example/throughfare/throughfare/simulation/Move") (E_w7 : Exa Z h0 w7 "com/example/throughfare/throughfare/simulation/Move") (F_w0_di : Fld Z h0 w0 "com/example/throughfare/throughfare/simulation/Move" "di" "I" (.int (1 : Int32))) (F_w0_dj : Fld Z h0 w0 "com/example/throughfare/throughfare/simulation/Move" "dj" "I" (.int (0 : Int32))) (F_w1_di : Fld Z h0 w1 "com/example/throughfare/throughfare/simulation/Move" "di" "I" (.int (1 : Int32))) (F_w1_dj : Fld Z h0 w1 "com/example/throughfare/throughfare/simulation/Move" "dj" "I" (.int (1 : Int32))) (F_w2_di : Fld Z h0 w2 "com/example/throughfare/throughfare/simulation/Move" "di" "I" (.int (0 : Int32))) (F_w2_dj : Fld Z h0 w2 "com/example/throughfare/throughfare/simulation/Move" "dj" "I" (.int (1 : Int32))) (F_w3_di : Fld Z h0 w3 "com/example/throughfare/throughfare/simulation/Move" "di" "I" (.int (-1 : Int32))) (F_w3_dj : Fld Z h0 w3 "com/example/throughfare/throughfare/simulation/Move" "dj" "I" (.int (1 : Int32))) (F_w4_di : Fld Z h0 w4 "com/example/throughfare/throughfare/simulation/Move" "di" "I" (.int (-1 : Int32))) (F_w4_dj : Fld Z h0 w4 "com/example/throughfare/throughfare/simulation/Move" "dj" "I" (.int (0 : Int32))) (F_w5_di : Fld Z h0 w5 "com/example/throughfare/throughfare/simulation/Move" "di" "I" (.int (-1 : Int32))) (F_w5_dj : Fld Z h0 w5 "com/example/throughfare/throughfare/simulation/Move" "dj" "I" (.int (-1 : Int32))) (F_w6_di : Fld Z h0 w6 "com/example/throughfare/throughfare/simulation/Move" "di" "I" (.int (0 : Int32))) (F_w6_dj : Fld Z h0 w6 "com/example/throughfare/throughfare/simulation/Move" "dj" "I" (.int (-1 : Int32))) (F_w7_di : Fld Z h0 w7 "com/example/throughfare/throughfare/simulation/Move" "di" "I" (.int (1 : Int32))) (F_w7_dj : Fld Z h0 w7 "com/example/throughfare/throughfare/simulation/Move" "dj" "I" (.int (-1 : Int32))) :
    MetFree l x (head1 (Jvm.Cond.code x code maxLocals ret :: ws) room_1) (fun a U => a = #[(.int p0)] ∧ Z.Warmed39 U.vm ∧ U.heap = h0) (fun _ _ _ _ _ => True) (fun _ U o U' => ∃ v L, o = .returned v ∧ Q0 Z p0 w0 w1 w2 w3 w4 w5 w6 w7 h0 n0 v U'.heap L ∧ FrameEnd U o U' L room_1.cells room_1.slots) := by
  refine MetFree.of_bodySF (plainFor_of_name own_pn_rm0) hisR ?_
  intro p e s m args below meth c s₁ Bd hml0 hP hK
  obtain ⟨rfl, hZ, hh⟩ := hP
  have hx := Bd.exec
  have hby := Bd.bytes
  have hml : c.maxLocals = 4 := hml0
  have hown : s.vm.findClass "com/example/throughfare/throughfare/simulation/MoveIsDiagonalPinLaw" = some m.cls := findClass_of_methodNamed Bd.named
  have hnm := (name_of_methodNamed Bd.named Bd.method).1
  have hlk : meth.locks = false := BodyLoose.notSynchronized Bd
  have X0 : Stand p l e room_1 s m #[(.int p0)] below meth c s₁ [] 0 0 := Stand.of_body Bd
  have e0 : s₁.heap = h0 := by rw [← hh, Bd.state]; rfl
  have N0 := Fr.nil n0
  refine own_in (own_ef_rm0 m p0) ?_
  show Gm p e below s₁ m 0 #[iv p0, .unset, .unset, .unset] [] _
  refine own_go (fun t₀ k₀ => XS.iloadN X0.here hx rfl (Jvm.hb hby at_0) rfl k₀) ?_
  show Gm p e below s₁ m 1 #[iv p0, .unset, .unset, .unset] [(.int p0)] _
  refine own_go (fun t₀ k₀ => XS.bipush X0.here hx rfl (Jvm.hb hby at_1) k₀) ?_
  show Gm p e below s₁ m 3 #[iv p0, .unset, .unset, .unset] [(.int (7 : Int32)), (.int p0)] _
  refine own_go (fun t₀ k₀ => XS.iand X0.here hx rfl (Jvm.hb hby at_3) rfl k₀) ?_
  show Gm p e below s₁ m 4 #[iv p0, .unset, .unset, .unset] [(.int (p0 &&& (7 : Int32)))] _
  refine own_go (fun t₀ k₀ => XS.istoreN X0.here hx rfl (Jvm.hb hby at_4) rfl (l' := #[iv p0, iv (p0 &&& (7 : Int32)), .unset, .unset]) rfl k₀) ?_
  show Gm p e below s₁ m 5 #[iv p0, iv (p0 &&& (7 : Int32)), .unset, .unset] [] _
  obtain ⟨k, h_k⟩ : ∃ z : Int32, z = (p0 &&& (7 : Int32)) := ⟨_, rfl⟩
  rw [← h_k]
  show Gm p e below s₁ m 5 #[iv p0, iv k, .unset, .unset] [] _
  refine own_go (fun t₀ k₀ => XS.iloadN X0.here hx rfl (Jvm.hb hby at_5) rfl k₀) ?_
  show Gm p e below s₁ m 6 #[iv p0, iv k, .unset, .unset] [(.int k)] _
  by_cases c2 : k = (0 : Int32)
  · have hfork := trivial
    refine own_go (fun t₀ k₀ => XS.ifNo X0.here hx rfl (Jvm.hb hby at_6) rfl (XT.i0_ne_f c2) k₀) ?_
    show Gm p e below s₁ m 9 #[iv p0, iv k, .unset, .unset] [] _
    obtain ⟨T3, X3, e3, st3⟩ := getS2 X0 hx hZ hown (host := "") (Or.inl (hw _ (List.mem_of_getElem? (i := 0) rfl))) Via.refl e0 S_w0 (g := (mkF m 9 #[iv p0, iv k, .unset, .unset] [])) rfl (Jvm.hb hby at_9)
    refine own_go st3 ?_
    show Gm p e below T3 m 12 #[iv p0, iv k, .unset, .unset] [(.ref w0)] _
    refine own_go (fun t₀ k₀ => XS.astoreN X3.here hx rfl (Jvm.hb hby at_12) rfl rfl (l' := #[iv p0, iv k, rv w0, .unset]) rfl k₀) ?_
    show Gm p e below T3 m 13 #[iv p0, iv k, rv w0, .unset] [] _
    refine own_go (fun t₀ k₀ => XS.iconst X3.here hx rfl (Jvm.hb hby at_13) k₀) ?_
    show Gm p e below T3 m 14 #[iv p0, iv k, rv w0, .unset] [(.int (0 : Int32))] _
    refine own_go (fun t₀ k₀ => XS.istoreN X3.here hx rfl (Jvm.hb hby at_14) rfl (l' := #[iv p0, iv k, rv w0, iv (0 : Int32)]) rfl k₀) ?_
    show Gm p e below T3 m 15 #[iv p0, iv k, rv w0, iv (0 : Int32)] [] _
    refine own_go (fun t₀ k₀ => XS.goto X3.here hx rfl (pc0 := 15) (pc' := 109) rfl (Jvm.hb hby at_15) (by decide) (by decide) k₀) ?_
    show Gm p e below T3 m 109 #[iv p0, iv k, rv w0, iv (0 : Int32)] [] _
    refine own_go (fun t₀ k₀ => XS.aloadN X3.here hx rfl (Jvm.hb hby at_109) rfl rfl k₀) ?_
    show Gm p e below T3 m 110 #[iv p0, iv k, rv w0, iv (0 : Int32)] [(.ref w0)] _
    obtain ⟨cq4, kq4, q4a, q4b, q4c⟩ := isOf hZ e3 E_w0
    obtain ⟨_, _, ⟨T4, L4, k4, n4⟩, -, X4, ⟨Lc4, hQ4, l4, y4, z4⟩, st4⟩ := X3.virtualBack hx (y := (⟨"com/example/throughfare/throughfare/simulation/Move", "isDiagonal", "()Z"⟩ : MethodName)) (z := (⟨"com/example/throughfare/throughfare/simulation/Move", "isDiagonal", "()Z"⟩ : MethodName)) hown (mvT hZ (hw _ (List.mem_of_getElem? (i := 3) rfl))) (mvT hZ (hw _ (List.mem_of_getElem? (i := 4) rfl))) (notFace_of_selects (args := #[]) (mvT hZ (hw _ (List.mem_of_getElem? (i := 6) rfl)))) (mvT hZ (hw _ (List.mem_of_getElem? (i := 6) rfl))) (mvT hZ (hw _ (List.mem_of_getElem? (i := 5) rfl))) (by decide) (backOf (W := 0) (rm1 l Z a0 hw [] w0 (1 : Int32) (0 : Int32) h0 n0 Z0 F_w0_di F_w0_dj) hZ (hw _ (List.mem_of_getElem? (i := 7) rfl)) (hw _ (List.mem_of_getElem? (i := 1) rfl)) (by decide) (by decide)) q4a q4c (g := (mkF m 110 #[iv p0, iv k, rv w0, iv (0 : Int32)] [(.ref w0)])) rfl (by rw [hml]; rfl) (Steps.refl _) (argsL := []) (rest := []) (lenOf own_pd0 rfl) rfl (by show 2 * 0 + _ ≤ _; exact Nat.le_of_eq rfl) (Jvm.hb hby at_110) (fun _ _ => ⟨rfl, e3, (by decide : 0 + 0 ≤ _), (by decide : 0 + 0 ≤ _)⟩)
    dsimp only [Pt.U, Pt.locs, Pt.cells, Pt.slots] at X4 l4 y4 z4 st4 hQ4
    subst l4 y4 z4
    obtain ⟨rfl, Nq4, eq4⟩ := hQ4
    have N4 := Fr.app N0 Nq4
    have e4 : T4.heap = h0 := eq4
    refine own_go (fun t k => st4.trans k) ?_
    show Gm p e below T4 m 113 #[iv p0, iv k, rv w0, iv (0 : Int32)] [(.int (fD w0 (1 : Int32) (0 : Int32)))] _
    refine own_go (fun t₀ k₀ => XS.iloadN X4.here hx rfl (Jvm.hb hby at_113) rfl k₀) ?_
    show Gm p e below T4 m 114 #[iv p0, iv k, rv w0, iv (0 : Int32)] [(.int (0 : Int32)), (.int (fD w0 (1 : Int32) (0 : Int32)))] _
    refine own_go (fun t₀ k₀ => XS.icmpNo X4.here hx rfl (Jvm.hb hby at_114) rfl (XT.ii_ne_f (by unfold fD; decide)) k₀) ?_
    show Gm p e below T4 m 117 #[iv p0, iv k, rv w0, iv (0 : Int32)] [] _
    refine own_go (fun t₀ k₀ => XS.iconst X4.here hx rfl (Jvm.hb hby at_117) k₀) ?_
    show Gm p e below T4 m 118 #[iv p0, iv k, rv w0, iv (0 : Int32)] [(.int (1 : Int32))] _
    refine own_go (fun t₀ k₀ => XS.goto X4.here hx rfl (pc0 := 118) (pc' := 122) rfl (Jvm.hb hby at_118) (by decide) (by decide) k₀) ?_
    show Gm p e below T4 m 122 #[iv p0, iv k, rv w0, iv (0 : Int32)] [(.int (1 : Int32))] _
    exact own_retI X4 hx hlk (t := .boolean) Bd.returns rfl (by simp) (Jvm.hb hby at_122) e4 ⟨rfl, N4⟩ (by decide) (by decide)
  · have hfork := trivial
    refine own_go (fun t₀ k₀ => XS.ifYes X0.here hx rfl (pc0 := 6) (pc' := 18) rfl (Jvm.hb hby at_6) rfl (XT.i0_ne_t c2) (by decide) (by decide) k₀) ?_
    show Gm p e below s₁ m 18 #[iv p0, iv k, .unset, .unset] [] _
    refine own_go (fun t₀ k₀ => XS.iloadN X0.here hx rfl (Jvm.hb hby at_18) rfl k₀) ?_
    show Gm p e below s₁ m 19 #[iv p0, iv k, .unset, .unset] [(.int k)] _
    refine own_go (fun t₀ k₀ => XS.iconst X0.here hx rfl (Jvm.hb hby at_19) k₀) ?_
    show Gm p e below s₁ m 20 #[iv p0, iv k, .unset, .unset] [(.int (1 : Int32)), (.int k)] _
    by_cases c5 : k = (1 : Int32)
    · have hfork := trivial
      refine own_go (fun t₀ k₀ => XS.icmpNo X0.here hx rfl (Jvm.hb hby at_20) rfl (XT.ii_ne_f c5) k₀) ?_
      show Gm p e below s₁ m 23 #[iv p0, iv k, .unset, .unset] [] _
      obtain ⟨T6, X6, e6, st6⟩ := getS2 X0 hx hZ hown (host := "") (Or.inl (hw _ (List.mem_of_getElem? (i := 20) rfl))) Via.refl e0 S_w1 (g := (mkF m 23 #[iv p0, iv k, .unset, .unset] [])) rfl (Jvm.hb hby at_23)
      refine own_go st6 ?_
      show Gm p e below T6 m 26 #[iv p0, iv k, .unset, .unset] [(.ref w1)] _
      refine own_go (fun t₀ k₀ => XS.astoreN X6.here hx rfl (Jvm.hb hby at_26) rfl rfl (l' := #[iv p0, iv k, rv w1, .unset]) rfl k₀) ?_
      show Gm p e below T6 m 27 #[iv p0, iv k, rv w1, .unset] [] _
      refine own_go (fun t₀ k₀ => XS.iconst X6.here hx rfl (Jvm.hb hby at_27) k₀) ?_
      show Gm p e below T6 m 28 #[iv p0, iv k, rv w1, .unset] [(.int (1 : Int32))] _
      refine own_go (fun t₀ k₀ => XS.istoreN X6.here hx rfl (Jvm.hb hby at_28) rfl (l' := #[iv p0, iv k, rv w1, iv (1 : Int32)]) rfl k₀) ?_
      show Gm p e below T6 m 29 #[iv p0, iv k, rv w1, iv (1 : Int32)] [] _
      refine own_go (fun t₀ k₀ => XS.goto X6.here hx rfl (pc0 := 29) (pc' := 109) rfl (Jvm.hb hby at_29) (by decide) (by decide) k₀) ?_
      show Gm p e below T6 m 109 #[iv p0, iv k, rv w1, iv (1 : Int32)] [] _
      refine own_go (fun t₀ k₀ => XS.aloadN X6.here hx rfl (Jvm.hb hby at_109) rfl rfl k₀) ?_
      show Gm p e below T6 m 110 #[iv p0, iv k, rv w1, iv (1 : Int32)] [(.ref w1)] _
      obtain ⟨cq7, kq7, q7a, q7b, q7c⟩ := isOf hZ e6 E_w1
      obtain ⟨_, _, ⟨T7, L7, k7, n7⟩, -, X7, ⟨Lc7, hQ7, l7, y7, z7⟩, st7⟩ := X6.virtualBack hx (y := (⟨"com/example/throughfare/throughfare/simulation/Move", "isDiagonal", "()Z"⟩ : MethodName)) (z := (⟨"com/example/throughfare/throughfare/simulation/Move", "isDiagonal", "()Z"⟩ : MethodName)) hown (mvT hZ (hw _ (List.mem_of_getElem? (i := 3) rfl))) (mvT hZ (hw _ (List.mem_of_getElem? (i := 4) rfl))) (notFace_of_selects (args := #[]) (mvT hZ (hw _ (List.mem_of_getElem? (i := 6) rfl)))) (mvT hZ (hw _ (List.mem_of_getElem? (i := 6) rfl))) (mvT hZ (hw _ (List.mem_of_getElem? (i := 5) rfl))) (by decide) (backOf (W := 0) (rm1 l Z a0 hw [] w1 (1 : Int32) (1 : Int32) h0 n0 Z0 F_w1_di F_w1_dj) hZ (hw _ (List.mem_of_getElem? (i := 7) rfl)) (hw _ (List.mem_of_getElem? (i := 1) rfl)) (by decide) (by decide)) q7a q7c (g := (mkF m 110 #[iv p0, iv k, rv w1, iv (1 : Int32)] [(.ref w1)])) rfl (by rw [hml]; rfl) (Steps.refl _) (argsL := []) (rest := []) (lenOf own_pd0 rfl) rfl (by show 2 * 0 + _ ≤ _; exact Nat.le_of_eq rfl) (Jvm.hb hby at_110) (fun _ _ => ⟨rfl, e6, (by decide : 0 + 0 ≤ _), (by decide : 0 + 0 ≤ _)⟩)
      dsimp only [Pt.U, Pt.locs, Pt.cells, Pt.slots] at X7 l7 y7 z7 st7 hQ7
      subst l7 y7 z7
      obtain ⟨rfl, Nq7, eq7⟩ := hQ7
      have N7 := Fr.app N0 Nq7
      have e7 : T7.heap = h0 := eq7
      refine own_go (fun t k => st7.trans k) ?_
      show Gm p e below T7 m 113 #[iv p0, iv k, rv w1, iv (1 : Int32)] [(.int (fD w1 (1 : Int32) (1 : Int32)))] _
      refine own_go (fun t₀ k₀ => XS.iloadN X7.here hx rfl (Jvm.hb hby at_113) rfl k₀) ?_
      show Gm p e below T7 m 114 #[iv p0, iv k, rv w1, iv (1 : Int32)] [(.int (1 : Int32)), (.int (fD w1 (1 : Int32) (1 : Int32)))] _
      refine own_go (fun t₀ k₀ => XS.icmpNo X7.here hx rfl (Jvm.hb hby at_114) rfl (XT.ii_ne_f (by unfold fD; decide)) k₀) ?_
      show Gm p e below T7 m 117 #[iv p0, iv k, rv w1, iv (1 : Int32)] [] _
      refine own_go (fun t₀ k₀ => XS.iconst X7.here hx rfl (Jvm.hb hby at_117) k₀) ?_
      show Gm p e below T7 m 118 #[iv p0, iv k, rv w1, iv (1 : Int32)] [(.int (1 : Int32))] _
      refine own_go (fun t₀ k₀ => XS.goto X7.here hx rfl (pc0 := 118) (pc' := 122) rfl (Jvm.hb hby at_118) (by decide) (by decide) k₀) ?_
      show Gm p e below T7 m 122 #[iv p0, iv k, rv w1, iv (1 : Int32)] [(.int (1 : Int32))] _
      exact own_retI X7 hx hlk (t := .boolean) Bd.returns rfl (by simp) (Jvm.hb hby at_122) e7 ⟨rfl, N7⟩ (by decide) (by decide)
    · have hfork := trivial
      refine own_go (fun t₀ k₀ => XS.icmpYes X0.here hx rfl (pc0 := 20) (pc' := 32) rfl (Jvm.hb hby at_20) rfl (XT.ii_ne_t c5) (by decide) (by decide) k₀) ?_
      show Gm p e below s₁ m 32 #[iv p0, iv k, .unset, .unset] [] _
      refine own_go (fun t₀ k₀ => XS.iloadN X0.here hx rfl (Jvm.hb hby at_32) rfl k₀) ?_
      show Gm p e below s₁ m 33 #[iv p0, iv k, .unset, .unset] [(.int k)] _
      refine own_go (fun t₀ k₀ => XS.iconst X0.here hx rfl (Jvm.hb hby at_33) k₀) ?_
      show Gm p e below s₁ m 34 #[iv p0, iv k, .unset, .unset] [(.int (2 : Int32)), (.int k)] _
      by_cases c8 : k = (2 : Int32)
      · have hfork := trivial
        refine own_go (fun t₀ k₀ => XS.icmpNo X0.here hx rfl (Jvm.hb hby at_34) rfl (XT.ii_ne_f c8) k₀) ?_
        show Gm p e below s₁ m 37 #[iv p0, iv k, .unset, .unset] [] _
        obtain ⟨T9, X9, e9, st9⟩ := getS2 X0 hx hZ hown (host := "") (Or.inl (hw _ (List.mem_of_getElem? (i := 18) rfl))) Via.refl e0 S_w2 (g := (mkF m 37 #[iv p0, iv k, .unset, .unset] [])) rfl (Jvm.hb hby at_37)
        refine own_go st9 ?_
        show Gm p e below T9 m 40 #[iv p0, iv k, .unset, .unset] [(.ref w2)] _
        refine own_go (fun t₀ k₀ => XS.astoreN X9.here hx rfl (Jvm.hb hby at_40) rfl rfl (l' := #[iv p0, iv k, rv w2, .unset]) rfl k₀) ?_
        show Gm p e below T9 m 41 #[iv p0, iv k, rv w2, .unset] [] _
        refine own_go (fun t₀ k₀ => XS.iconst X9.here hx rfl (Jvm.hb hby at_41) k₀) ?_
        show Gm p e below T9 m 42 #[iv p0, iv k, rv w2, .unset] [(.int (0 : Int32))] _
        refine own_go (fun t₀ k₀ => XS.istoreN X9.here hx rfl (Jvm.hb hby at_42) rfl (l' := #[iv p0, iv k, rv w2, iv (0 : Int32)]) rfl k₀) ?_
        show Gm p e below T9 m 43 #[iv p0, iv k, rv w2, iv (0 : Int32)] [] _
        refine own_go (fun t₀ k₀ => XS.goto X9.here hx rfl (pc0 := 43) (pc' := 109) rfl (Jvm.hb hby at_43) (by decide) (by decide) k₀) ?_
        show Gm p e below T9 m 109 #[iv p0, iv k, rv w2, iv (0 : Int32)] [] _
        refine own_go (fun t₀ k₀ => XS.aloadN X9.here hx rfl (Jvm.hb hby at_109) rfl rfl k₀) ?_
        show Gm p e below T9 m 110 #[iv p0, iv k, rv w2, iv (0 : Int32)] [(.ref w2)] _
        obtain ⟨cq10, kq10, q10a, q10b, q10c⟩ := isOf hZ e9 E_w2
        obtain ⟨_, _, ⟨T10, L10, k10, n10⟩, -, X10, ⟨Lc10, hQ10, l10, y10, z10⟩, st10⟩ := X9.virtualBack hx (y := (⟨"com/example/throughfare/throughfare/simulation/Move", "isDiagonal", "()Z"⟩ : MethodName)) (z := (⟨"com/example/throughfare/throughfare/simulation/Move", "isDiagonal", "()Z"⟩ : MethodName)) hown (mvT hZ (hw _ (List.mem_of_getElem? (i := 3) rfl))) (mvT hZ (hw _ (List.mem_of_getElem? (i := 4) rfl))) (notFace_of_selects (args := #[]) (mvT hZ (hw _ (List.mem_of_getElem? (i := 6) rfl)))) (mvT hZ (hw _ (List.mem_of_getElem? (i := 6) rfl))) (mvT hZ (hw _ (List.mem_of_getElem? (i := 5) rfl))) (by decide) (backOf (W := 0) (rm1 l Z a0 hw [] w2 (0 : Int32) (1 : Int32) h0 n0 Z0 F_w2_di F_w2_dj) hZ (hw _ (List.mem_of_getElem? (i := 7) rfl)) (hw _ (List.mem_of_getElem? (i := 1) rfl)) (by decide) (by decide)) q10a q10c (g := (mkF m 110 #[iv p0, iv k, rv w2, iv (0 : Int32)] [(.ref w2)])) rfl (by rw [hml]; rfl) (Steps.refl _) (argsL := []) (rest := []) (lenOf own_pd0 rfl) rfl (by show 2 * 0 + _ ≤ _; exact Nat.le_of_eq rfl) (Jvm.hb hby at_110) (fun _ _ => ⟨rfl, e9, (by decide : 0 + 0 ≤ _), (by decide : 0 + 0 ≤ _)⟩)
        dsimp only [Pt.U, Pt.locs, Pt.cells, Pt.slots] at X10 l10 y10 z10 st10 hQ10
        subst l10 y10 z10
        obtain ⟨rfl, Nq10, eq10⟩ := hQ10
        have N10 := Fr.app N0 Nq10
        have e10 : T10.heap = h0 := eq10
        refine own_go (fun t k => st10.trans k) ?_
        show Gm p e below T10 m 113 #[iv p0, iv k, rv w2, iv (0 : Int32)] [(.int (fD w2 (0 : Int32) (1 : Int32)))] _
        refine own_go (fun t₀ k₀ => XS.iloadN X10.here hx rfl (Jvm.hb hby at_113) rfl k₀) ?_
        show Gm p e below T10 m 114 #[iv p0, iv k, rv w2, iv (0 : Int32)] [(.int (0 : Int32)), (.int (fD w2 (0 : Int32) (1 : Int32)))] _
        refine own_go (fun t₀ k₀ => XS.icmpNo X10.here hx rfl (Jvm.hb hby at_114) rfl (XT.ii_ne_f (by unfold fD; decide)) k₀) ?_
        show Gm p e below T10 m 117 #[iv p0, iv k, rv w2, iv (0 : Int32)] [] _
        refine own_go (fun t₀ k₀ => XS.iconst X10.here hx rfl (Jvm.hb hby at_117) k₀) ?_
        show Gm p e below T10 m 118 #[iv p0, iv k, rv w2, iv (0 : Int32)] [(.int (1 : Int32))] _
        refine own_go (fun t₀ k₀ => XS.goto X10.here hx rfl (pc0 := 118) (pc' := 122) rfl (Jvm.hb hby at_118) (by decide) (by decide) k₀) ?_
        show Gm p e below T10 m 122 #[iv p0, iv k, rv w2, iv (0 : Int32)] [(.int (1 : Int32))] _
        exact own_retI X10 hx hlk (t := .boolean) Bd.returns rfl (by simp) (Jvm.hb hby at_122) e10 ⟨rfl, N10⟩ (by decide) (by decide)
      · have hfork := trivial
        refine own_go (fun t₀ k₀ => XS.icmpYes X0.here hx rfl (pc0 := 34) (pc' := 46) rfl (Jvm.hb hby at_34) rfl (XT.ii_ne_t c8) (by decide) (by decide) k₀) ?_
        show Gm p e below s₁ m 46 #[iv p0, iv k, .unset, .unset] [] _
        refine own_go (fun t₀ k₀ => XS.iloadN X0.here hx rfl (Jvm.hb hby at_46) rfl k₀) ?_
        show Gm p e below s₁ m 47 #[iv p0, iv k, .unset, .unset] [(.int k)] _
        refine own_go (fun t₀ k₀ => XS.iconst X0.here hx rfl (Jvm.hb hby at_47) k₀) ?_
        show Gm p e below s₁ m 48 #[iv p0, iv k, .unset, .unset] [(.int (3 : Int32)), (.int k)] _
        by_cases c11 : k = (3 : Int32)
        · have hfork := trivial
          refine own_go (fun t₀ k₀ => XS.icmpNo X0.here hx rfl (Jvm.hb hby at_48) rfl (XT.ii_ne_f c11) k₀) ?_
          show Gm p e below s₁ m 51 #[iv p0, iv k, .unset, .unset] [] _
          obtain ⟨T12, X12, e12, st12⟩ := getS2 X0 hx hZ hown (host := "") (Or.inl (hw _ (List.mem_of_getElem? (i := 12) rfl))) Via.refl e0 S_w3 (g := (mkF m 51 #[iv p0, iv k, .unset, .unset] [])) rfl (Jvm.hb hby at_51)
          refine own_go st12 ?_
          show Gm p e below T12 m 54 #[iv p0, iv k, .unset, .unset] [(.ref w3)] _
          refine own_go (fun t₀ k₀ => XS.astoreN X12.here hx rfl (Jvm.hb hby at_54) rfl rfl (l' := #[iv p0, iv k, rv w3, .unset]) rfl k₀) ?_
          show Gm p e below T12 m 55 #[iv p0, iv k, rv w3, .unset] [] _
          refine own_go (fun t₀ k₀ => XS.iconst X12.here hx rfl (Jvm.hb hby at_55) k₀) ?_
          show Gm p e below T12 m 56 #[iv p0, iv k, rv w3, .unset] [(.int (1 : Int32))] _
          refine own_go (fun t₀ k₀ => XS.istoreN X12.here hx rfl (Jvm.hb hby at_56) rfl (l' := #[iv p0, iv k, rv w3, iv (1 : Int32)]) rfl k₀) ?_
          show Gm p e below T12 m 57 #[iv p0, iv k, rv w3, iv (1 : Int32)] [] _
          refine own_go (fun t₀ k₀ => XS.goto X12.here hx rfl (pc0 := 57) (pc' := 109) rfl (Jvm.hb hby at_57) (by decide) (by decide) k₀) ?_
          show Gm p e below T12 m 109 #[iv p0, iv k, rv w3, iv (1 : Int32)] [] _
          refine own_go (fun t₀ k₀ => XS.aloadN X12.here hx rfl (Jvm.hb hby at_109) rfl rfl k₀) ?_
          show Gm p e below T12 m 110 #[iv p0, iv k, rv w3, iv (1 : Int32)] [(.ref w3)] _
          obtain ⟨cq13, kq13, q13a, q13b, q13c⟩ := isOf hZ e12 E_w3
          obtain ⟨_, _, ⟨T13, L13, k13, n13⟩, -, X13, ⟨Lc13, hQ13, l13, y13, z13⟩, st13⟩ := X12.virtualBack hx (y := (⟨"com/example/throughfare/throughfare/simulation/Move", "isDiagonal", "()Z"⟩ : MethodName)) (z := (⟨"com/example/throughfare/throughfare/simulation/Move", "isDiagonal", "()Z"⟩ : MethodName)) hown (mvT hZ (hw _ (List.mem_of_getElem? (i := 3) rfl))) (mvT hZ (hw _ (List.mem_of_getElem? (i := 4) rfl))) (notFace_of_selects (args := #[]) (mvT hZ (hw _ (List.mem_of_getElem? (i := 6) rfl)))) (mvT hZ (hw _ (List.mem_of_getElem? (i := 6) rfl))) (mvT hZ (hw _ (List.mem_of_getElem? (i := 5) rfl))) (by decide) (backOf (W := 0) (rm1 l Z a0 hw [] w3 (-1 : Int32) (1 : Int32) h0 n0 Z0 F_w3_di F_w3_dj) hZ (hw _ (List.mem_of_getElem? (i := 7) rfl)) (hw _ (List.mem_of_getElem? (i := 1) rfl)) (by decide) (by decide)) q13a q13c (g := (mkF m 110 #[iv p0, iv k, rv w3, iv (1 : Int32)] [(.ref w3)])) rfl (by rw [hml]; rfl) (Steps.refl _) (argsL := []) (rest := []) (lenOf own_pd0 rfl) rfl (by show 2 * 0 + _ ≤ _; exact Nat.le_of_eq rfl) (Jvm.hb hby at_110) (fun _ _ => ⟨rfl, e12, (by decide : 0 + 0 ≤ _), (by decide : 0 + 0 ≤ _)⟩)
          dsimp only [Pt.U, Pt.locs, Pt.cells, Pt.slots] at X13 l13 y13 z13 st13 hQ13
          subst l13 y13 z13
          obtain ⟨rfl, Nq13, eq13⟩ := hQ13
          have N13 := Fr.app N0 Nq13
          have e13 : T13.heap = h0 := eq13
          refine own_go (fun t k => st13.trans k) ?_
          show Gm p e below T13 m 113 #[iv p0, iv k, rv w3, iv (1 : Int32)] [(.int (fD w3 (-1 : Int32) (1 : Int32)))] _
          refine own_go (fun t₀ k₀ => XS.iloadN X13.here hx rfl (Jvm.hb hby at_113) rfl k₀) ?_
          show Gm p e below T13 m 114 #[iv p0, iv k, rv w3, iv (1 : Int32)] [(.int (1 : Int32)), (.int (fD w3 (-1 : Int32) (1 : Int32)))] _
          refine own_go (fun t₀ k₀ => XS.icmpNo X13.here hx rfl (Jvm.hb hby at_114) rfl (XT.ii_ne_f (by unfold fD; decide)) k₀) ?_
          show Gm p e below T13 m 117 #[iv p0, iv k, rv w3, iv (1 : Int32)] [] _
          refine own_go (fun t₀ k₀ => XS.iconst X13.here hx rfl (Jvm.hb hby at_117) k₀) ?_
          show Gm p e below T13 m 118 #[iv p0, iv k, rv w3, iv (1 : Int32)] [(.int (1 : Int32))] _
          refine own_go (fun t₀ k₀ => XS.goto X13.here hx rfl (pc0 := 118) (pc' := 122) rfl (Jvm.hb hby at_118) (by decide) (by decide) k₀) ?_
          show Gm p e below T13 m 122 #[iv p0, iv k, rv w3, iv (1 : Int32)] [(.int (1 : Int32))] _
          exact own_retI X13 hx hlk (t := .boolean) Bd.returns rfl (by simp) (Jvm.hb hby at_122) e13 ⟨rfl, N13⟩ (by decide) (by decide)
        · have hfork := trivial
          refine own_go (fun t₀ k₀ => XS.icmpYes X0.here hx rfl (pc0 := 48) (pc' := 60) rfl (Jvm.hb hby at_48) rfl (XT.ii_ne_t c11) (by decide) (by decide) k₀) ?_
          show Gm p e below s₁ m 60 #[iv p0, iv k, .unset, .unset] [] _
          refine own_go (fun t₀ k₀ => XS.iloadN X0.here hx rfl (Jvm.hb hby at_60) rfl k₀) ?_
          show Gm p e below s₁ m 61 #[iv p0, iv k, .unset, .unset] [(.int k)] _
          refine own_go (fun t₀ k₀ => XS.iconst X0.here hx rfl (Jvm.hb hby at_61) k₀) ?_
          show Gm p e below s₁ m 62 #[iv p0, iv k, .unset, .unset] [(.int (4 : Int32)), (.int k)] _
          by_cases c14 : k = (4 : Int32)
          · have hfork := trivial
            refine own_go (fun t₀ k₀ => XS.icmpNo X0.here hx rfl (Jvm.hb hby at_62) rfl (XT.ii_ne_f c14) k₀) ?_
            show Gm p e below s₁ m 65 #[iv p0, iv k, .unset, .unset] [] _
            obtain ⟨T15, X15, e15, st15⟩ := getS2 X0 hx hZ hown (host := "") (Or.inl (hw _ (List.mem_of_getElem? (i := 22) rfl))) Via.refl e0 S_w4 (g := (mkF m 65 #[iv p0, iv k, .unset, .unset] [])) rfl (Jvm.hb hby at_65)
            refine own_go st15 ?_
            show Gm p e below T15 m 68 #[iv p0, iv k, .unset, .unset] [(.ref w4)] _
            refine own_go (fun t₀ k₀ => XS.astoreN X15.here hx rfl (Jvm.hb hby at_68) rfl rfl (l' := #[iv p0, iv k, rv w4, .unset]) rfl k₀) ?_
            show Gm p e below T15 m 69 #[iv p0, iv k, rv w4, .unset] [] _
            refine own_go (fun t₀ k₀ => XS.iconst X15.here hx rfl (Jvm.hb hby at_69) k₀) ?_
            show Gm p e below T15 m 70 #[iv p0, iv k, rv w4, .unset] [(.int (0 : Int32))] _
            refine own_go (fun t₀ k₀ => XS.istoreN X15.here hx rfl (Jvm.hb hby at_70) rfl (l' := #[iv p0, iv k, rv w4, iv (0 : Int32)]) rfl k₀) ?_
            show Gm p e below T15 m 71 #[iv p0, iv k, rv w4, iv (0 : Int32)] [] _
            refine own_go (fun t₀ k₀ => XS.goto X15.here hx rfl (pc0 := 71) (pc' := 109) rfl (Jvm.hb hby at_71) (by decide) (by decide) k₀) ?_
            show Gm p e below T15 m 109 #[iv p0, iv k, rv w4, iv (0 : Int32)] [] _
            refine own_go (fun t₀ k₀ => XS.aloadN X15.here hx rfl (Jvm.hb hby at_109) rfl rfl k₀) ?_
            show Gm p e below T15 m 110 #[iv p0, iv k, rv w4, iv (0 : Int32)] [(.ref w4)] _
            obtain ⟨cq16, kq16, q16a, q16b, q16c⟩ := isOf hZ e15 E_w4
            obtain ⟨_, _, ⟨T16, L16, k16, n16⟩, -, X16, ⟨Lc16, hQ16, l16, y16, z16⟩, st16⟩ := X15.virtualBack hx (y := (⟨"com/example/throughfare/throughfare/simulation/Move", "isDiagonal", "()Z"⟩ : MethodName)) (z := (⟨"com/example/throughfare/throughfare/simulation/Move", "isDiagonal", "()Z"⟩ : MethodName)) hown (mvT hZ (hw _ (List.mem_of_getElem? (i := 3) rfl))) (mvT hZ (hw _ (List.mem_of_getElem? (i := 4) rfl))) (notFace_of_selects (args := #[]) (mvT hZ (hw _ (List.mem_of_getElem? (i := 6) rfl)))) (mvT hZ (hw _ (List.mem_of_getElem? (i := 6) rfl))) (mvT hZ (hw _ (List.mem_of_getElem? (i := 5) rfl))) (by decide) (backOf (W := 0) (rm1 l Z a0 hw [] w4 (-1 : Int32) (0 : Int32) h0 n0 Z0 F_w4_di F_w4_dj) hZ (hw _ (List.mem_of_getElem? (i := 7) rfl)) (hw _ (List.mem_of_getElem? (i := 1) rfl)) (by decide) (by decide)) q16a q16c (g := (mkF m 110 #[iv p0, iv k, rv w4, iv (0 : Int32)] [(.ref w4)])) rfl (by rw [hml]; rfl) (Steps.refl _) (argsL := []) (rest := []) (lenOf own_pd0 rfl) rfl (by show 2 * 0 + _ ≤ _; exact Nat.le_of_eq rfl) (Jvm.hb hby at_110) (fun _ _ => ⟨rfl, e15, (by decide : 0 + 0 ≤ _), (by decide : 0 + 0 ≤ _)⟩)
            dsimp only [Pt.U, Pt.locs, Pt.cells, Pt.slots] at X16 l16 y16 z16 st16 hQ16
            subst l16 y16 z16
            obtain ⟨rfl, Nq16, eq16⟩ := hQ16
            have N16 := Fr.app N0 Nq16
            have e16 : T16.heap = h0 := eq16
            refine own_go (fun t k => st16.trans k) ?_
            show Gm p e below T16 m 113 #[iv p0, iv k, rv w4, iv (0 : Int32)] [(.int (fD w4 (-1 : Int32) (0 : Int32)))] _
            refine own_go (fun t₀ k₀ => XS.iloadN X16.here hx rfl (Jvm.hb hby at_113) rfl k₀) ?_
            show Gm p e below T16 m 114 #[iv p0, iv k, rv w4, iv (0 : Int32)] [(.int (0 : Int32)), (.int (fD w4 (-1 : Int32) (0 : Int32)))] _
            refine own_go (fun t₀ k₀ => XS.icmpNo X16.here hx rfl (Jvm.hb hby at_114) rfl (XT.ii_ne_f (by unfold fD; decide)) k₀) ?_
            show Gm p e below T16 m 117 #[iv p0, iv k, rv w4, iv (0 : Int32)] [] _
            refine own_go (fun t₀ k₀ => XS.iconst X16.here hx rfl (Jvm.hb hby at_117) k₀) ?_
            show Gm p e below T16 m 118 #[iv p0, iv k, rv w4, iv (0 : Int32)] [(.int (1 : Int32))] _
            refine own_go (fun t₀ k₀ => XS.goto X16.here hx rfl (pc0 := 118) (pc' := 122) rfl (Jvm.hb hby at_118) (by decide) (by decide) k₀) ?_
            show Gm p e below T16 m 122 #[iv p0, iv k, rv w4, iv (0 : Int32)] [(.int (1 : Int32))] _
            exact own_retI X16 hx hlk (t := .boolean) Bd.returns rfl (by simp) (Jvm.hb hby at_122) e16 ⟨rfl, N16⟩ (by decide) (by decide)
          · have hfork := trivial
            refine own_go (fun t₀ k₀ => XS.icmpYes X0.here hx rfl (pc0 := 62) (pc' := 74) rfl (Jvm.hb hby at_62) rfl (XT.ii_ne_t c14) (by decide) (by decide) k₀) ?_
            show Gm p e below s₁ m 74 #[iv p0, iv k, .unset, .unset] [] _
            refine own_go (fun t₀ k₀ => XS.iloadN X0.here hx rfl (Jvm.hb hby at_74) rfl k₀) ?_
            show Gm p e below s₁ m 75 #[iv p0, iv k, .unset, .unset] [(.int k)] _
            refine own_go (fun t₀ k₀ => XS.iconst X0.here hx rfl (Jvm.hb hby at_75) k₀) ?_
            show Gm p e below s₁ m 76 #[iv p0, iv k, .unset, .unset] [(.int (5 : Int32)), (.int k)] _
            by_cases c17 : k = (5 : Int32)
            · have hfork := trivial
              refine own_go (fun t₀ k₀ => XS.icmpNo X0.here hx rfl (Jvm.hb hby at_76) rfl (XT.ii_ne_f c17) k₀) ?_
              show Gm p e below s₁ m 79 #[iv p0, iv k, .unset, .unset] [] _
              obtain ⟨T18, X18, e18, st18⟩ := getS2 X0 hx hZ hown (host := "") (Or.inl (hw _ (List.mem_of_getElem? (i := 24) rfl))) Via.refl e0 S_w5 (g := (mkF m 79 #[iv p0, iv k, .unset, .unset] [])) rfl (Jvm.hb hby at_79)
              refine own_go st18 ?_
              show Gm p e below T18 m 82 #[iv p0, iv k, .unset, .unset] [(.ref w5)] _
              refine own_go (fun t₀ k₀ => XS.astoreN X18.here hx rfl (Jvm.hb hby at_82) rfl rfl (l' := #[iv p0, iv k, rv w5, .unset]) rfl k₀) ?_
              show Gm p e below T18 m 83 #[iv p0, iv k, rv w5, .unset] [] _
              refine own_go (fun t₀ k₀ => XS.iconst X18.here hx rfl (Jvm.hb hby at_83) k₀) ?_
              show Gm p e below T18 m 84 #[iv p0, iv k, rv w5, .unset] [(.int (1 : Int32))] _
              refine own_go (fun t₀ k₀ => XS.istoreN X18.here hx rfl (Jvm.hb hby at_84) rfl (l' := #[iv p0, iv k, rv w5, iv (1 : Int32)]) rfl k₀) ?_
              show Gm p e below T18 m 85 #[iv p0, iv k, rv w5, iv (1 : Int32)] [] _
              refine own_go (fun t₀ k₀ => XS.goto X18.here hx rfl (pc0 := 85) (pc' := 109) rfl (Jvm.hb hby at_85) (by decide) (by decide) k₀) ?_
              show Gm p e below T18 m 109 #[iv p0, iv k, rv w5, iv (1 : Int32)] [] _
              refine own_go (fun t₀ k₀ => XS.aloadN X18.here hx rfl (Jvm.hb hby at_109) rfl rfl k₀) ?_
              show Gm p e below T18 m 110 #[iv p0, iv k, rv w5, iv (1 : Int32)] [(.ref w5)] _
              obtain ⟨cq19, kq19, q19a, q19b, q19c⟩ := isOf hZ e18 E_w5
              obtain ⟨_, _, ⟨T19, L19, k19, n19⟩, -, X19, ⟨Lc19, hQ19, l19, y19, z19⟩, st19⟩ := X18.virtualBack hx (y := (⟨"com/example/throughfare/throughfare/simulation/Move", "isDiagonal", "()Z"⟩ : MethodName)) (z := (⟨"com/example/throughfare/throughfare/simulation/Move", "isDiagonal", "()Z"⟩ : MethodName)) hown (mvT hZ (hw _ (List.mem_of_getElem? (i := 3) rfl))) (mvT hZ (hw _ (List.mem_of_getElem? (i := 4) rfl))) (notFace_of_selects (args := #[]) (mvT hZ (hw _ (List.mem_of_getElem? (i := 6) rfl)))) (mvT hZ (hw _ (List.mem_of_getElem? (i := 6) rfl))) (mvT hZ (hw _ (List.mem_of_getElem? (i := 5) rfl))) (by decide) (backOf (W := 0) (rm1 l Z a0 hw [] w5 (-1 : Int32) (-1 : Int32) h0 n0 Z0 F_w5_di F_w5_dj) hZ (hw _ (List.mem_of_getElem? (i := 7) rfl)) (hw _ (List.mem_of_getElem? (i := 1) rfl)) (by decide) (by decide)) q19a q19c (g := (mkF m 110 #[iv p0, iv k, rv w5, iv (1 : Int32)] [(.ref w5)])) rfl (by rw [hml]; rfl) (Steps.refl _) (argsL := []) (rest := []) (lenOf own_pd0 rfl) rfl (by show 2 * 0 + _ ≤ _; exact Nat.le_of_eq rfl) (Jvm.hb hby at_110) (fun _ _ => ⟨rfl, e18, (by decide : 0 + 0 ≤ _), (by decide : 0 + 0 ≤ _)⟩)
              dsimp only [Pt.U, Pt.locs, Pt.cells, Pt.slots] at X19 l19 y19 z19 st19 hQ19
              subst l19 y19 z19
              obtain ⟨rfl, Nq19, eq19⟩ := hQ19
              have N19 := Fr.app N0 Nq19
              have e19 : T19.heap = h0 := eq19
              refine own_go (fun t k => st19.trans k) ?_
              show Gm p e below T19 m 113 #[iv p0, iv k, rv w5, iv (1 : Int32)] [(.int (fD w5 (-1 : Int32) (-1 : Int32)))] _
              refine own_go (fun t₀ k₀ => XS.iloadN X19.here hx rfl (Jvm.hb hby at_113) rfl k₀) ?_
              show Gm p e below T19 m 114 #[iv p0, iv k, rv w5, iv (1 : Int32)] [(.int (1 : Int32)), (.int (fD w5 (-1 : Int32) (-1 : Int32)))] _
              refine own_go (fun t₀ k₀ => XS.icmpNo X19.here hx rfl (Jvm.hb hby at_114) rfl (XT.ii_ne_f (by unfold fD; decide)) k₀) ?_
              show Gm p e below T19 m 117 #[iv p0, iv k, rv w5, iv (1 : Int32)] [] _
              refine own_go (fun t₀ k₀ => XS.iconst X19.here hx rfl (Jvm.hb hby at_117) k₀) ?_
              show Gm p e below T19 m 118 #[iv p0, iv k, rv w5, iv (1 : Int32)] [(.int (1 : Int32))] _
              refine own_go (fun t₀ k₀ => XS.goto X19.here hx rfl (pc0 := 118) (pc' := 122) rfl (Jvm.hb hby at_118) (by decide) (by decide) k₀) ?_
              show Gm p e below T19 m 122 #[iv p0, iv k, rv w5, iv (1 : Int32)] [(.int (1 : Int32))] _
              exact own_retI X19 hx hlk (t := .boolean) Bd.returns rfl (by simp) (Jvm.hb hby at_122) e19 ⟨rfl, N19⟩ (by decide) (by decide)
            · have hfork := trivial
              refine own_go (fun t₀ k₀ => XS.icmpYes X0.here hx rfl (pc0 := 76) (pc' := 88) rfl (Jvm.hb hby at_76) rfl (XT.ii_ne_t c17) (by decide) (by decide) k₀) ?_
              show Gm p e below s₁ m 88 #[iv p0, iv k, .unset, .unset] [] _
              refine own_go (fun t₀ k₀ => XS.iloadN X0.here hx rfl (Jvm.hb hby at_88) rfl k₀) ?_
              show Gm p e below s₁ m 89 #[iv p0, iv k, .unset, .unset] [(.int k)] _
              refine own_go (fun t₀ k₀ => XS.bipush X0.here hx rfl (Jvm.hb hby at_89) k₀) ?_
              show Gm p e below s₁ m 91 #[iv p0, iv k, .unset, .unset] [(.int (6 : Int32)), (.int k)] _
              by_cases c20 : k = (6 : Int32)
              · have hfork := trivial
                refine own_go (fun t₀ k₀ => XS.icmpNo X0.here hx rfl (Jvm.hb hby at_91) rfl (XT.ii_ne_f c20) k₀) ?_
                show Gm p e below s₁ m 94 #[iv p0, iv k, .unset, .unset] [] _
                obtain ⟨T21, X21, e21, st21⟩ := getS2 X0 hx hZ hown (host := "") (Or.inl (hw _ (List.mem_of_getElem? (i := 14) rfl))) Via.refl e0 S_w6 (g := (mkF m 94 #[iv p0, iv k, .unset, .unset] [])) rfl (Jvm.hb hby at_94)
                refine own_go st21 ?_
                show Gm p e below T21 m 97 #[iv p0, iv k, .unset, .unset] [(.ref w6)] _
                refine own_go (fun t₀ k₀ => XS.astoreN X21.here hx rfl (Jvm.hb hby at_97) rfl rfl (l' := #[iv p0, iv k, rv w6, .unset]) rfl k₀) ?_
                show Gm p e below T21 m 98 #[iv p0, iv k, rv w6, .unset] [] _
                refine own_go (fun t₀ k₀ => XS.iconst X21.here hx rfl (Jvm.hb hby at_98) k₀) ?_
                show Gm p e below T21 m 99 #[iv p0, iv k, rv w6, .unset] [(.int (0 : Int32))] _
                refine own_go (fun t₀ k₀ => XS.istoreN X21.here hx rfl (Jvm.hb hby at_99) rfl (l' := #[iv p0, iv k, rv w6, iv (0 : Int32)]) rfl k₀) ?_
                show Gm p e below T21 m 100 #[iv p0, iv k, rv w6, iv (0 : Int32)] [] _
                refine own_go (fun t₀ k₀ => XS.goto X21.here hx rfl (pc0 := 100) (pc' := 109) rfl (Jvm.hb hby at_100) (by decide) (by decide) k₀) ?_
                show Gm p e below T21 m 109 #[iv p0, iv k, rv w6, iv (0 : Int32)] [] _
                refine own_go (fun t₀ k₀ => XS.aloadN X21.here hx rfl (Jvm.hb hby at_109) rfl rfl k₀) ?_
                show Gm p e below T21 m 110 #[iv p0, iv k, rv w6, iv (0 : Int32)] [(.ref w6)] _
                obtain ⟨cq22, kq22, q22a, q22b, q22c⟩ := isOf hZ e21 E_w6
                obtain ⟨_, _, ⟨T22, L22, k22, n22⟩, -, X22, ⟨Lc22, hQ22, l22, y22, z22⟩, st22⟩ := X21.virtualBack hx (y := (⟨"com/example/throughfare/throughfare/simulation/Move", "isDiagonal", "()Z"⟩ : MethodName)) (z := (⟨"com/example/throughfare/throughfare/simulation/Move", "isDiagonal", "()Z"⟩ : MethodName)) hown (mvT hZ (hw _ (List.mem_of_getElem? (i := 3) rfl))) (mvT hZ (hw _ (List.mem_of_getElem? (i := 4) rfl))) (notFace_of_selects (args := #[]) (mvT hZ (hw _ (List.mem_of_getElem? (i := 6) rfl)))) (mvT hZ (hw _ (List.mem_of_getElem? (i := 6) rfl))) (mvT hZ (hw _ (List.mem_of_getElem? (i := 5) rfl))) (by decide) (backOf (W := 0) (rm1 l Z a0 hw [] w6 (0 : Int32) (-1 : Int32) h0 n0 Z0 F_w6_di F_w6_dj) hZ (hw _ (List.mem_of_getElem? (i := 7) rfl)) (hw _ (List.mem_of_getElem? (i := 1) rfl)) (by decide) (by decide)) q22a q22c (g := (mkF m 110 #[iv p0, iv k, rv w6, iv (0 : Int32)] [(.ref w6)])) rfl (by rw [hml]; rfl) (Steps.refl _) (argsL := []) (rest := []) (lenOf own_pd0 rfl) rfl (by show 2 * 0 + _ ≤ _; exact Nat.le_of_eq rfl) (Jvm.hb hby at_110) (fun _ _ => ⟨rfl, e21, (by decide : 0 + 0 ≤ _), (by decide : 0 + 0 ≤ _)⟩)
                dsimp only [Pt.U, Pt.locs, Pt.cells, Pt.slots] at X22 l22 y22 z22 st22 hQ22
                subst l22 y22 z22
                obtain ⟨rfl, Nq22, eq22⟩ := hQ22
                have N22 := Fr.app N0 Nq22
                have e22 : T22.heap = h0 := eq22
                refine own_go (fun t k => st22.trans k) ?_
                show Gm p e below T22 m 113 #[iv p0, iv k, rv w6, iv (0 : Int32)] [(.int (fD w6 (0 : Int32) (-1 : Int32)))] _
                refine own_go (fun t₀ k₀ => XS.iloadN X22.here hx rfl (Jvm.hb hby at_113) rfl k₀) ?_
                show Gm p e below T22 m 114 #[iv p0, iv k, rv w6, iv (0 : Int32)] [(.int (0 : Int32)), (.int (fD w6 (0 : Int32) (-1 : Int32)))] _
                refine own_go (fun t₀ k₀ => XS.icmpNo X22.here hx rfl (Jvm.hb hby at_114) rfl (XT.ii_ne_f (by unfold fD; decide)) k₀) ?_
                show Gm p e below T22 m 117 #[iv p0, iv k, rv w6, iv (0 : Int32)] [] _
                refine own_go (fun t₀ k₀ => XS.iconst X22.here hx rfl (Jvm.hb hby at_117) k₀) ?_
                show Gm p e below T22 m 118 #[iv p0, iv k, rv w6, iv (0 : Int32)] [(.int (1 : Int32))] _
                refine own_go (fun t₀ k₀ => XS.goto X22.here hx rfl (pc0 := 118) (pc' := 122) rfl (Jvm.hb hby at_118) (by decide) (by decide) k₀) ?_
                show Gm p e below T22 m 122 #[iv p0, iv k, rv w6, iv (0 : Int32)] [(.int (1 : Int32))] _
                exact own_retI X22 hx hlk (t := .boolean) Bd.returns rfl (by simp) (Jvm.hb hby at_122) e22 ⟨rfl, N22⟩ (by decide) (by decide)
              · have hfork := trivial
                refine own_go (fun t₀ k₀ => XS.icmpYes X0.here hx rfl (pc0 := 91) (pc' := 103) rfl (Jvm.hb hby at_91) rfl (XT.ii_ne_t c20) (by decide) (by decide) k₀) ?_
                show Gm p e below s₁ m 103 #[iv p0, iv k, .unset, .unset] [] _
                obtain ⟨T23, X23, e23, st23⟩ := getS2 X0 hx hZ hown (host := "") (Or.inl (hw _ (List.mem_of_getElem? (i := 16) rfl))) Via.refl e0 S_w7 (g := (mkF m 103 #[iv p0, iv k, .unset, .unset] [])) rfl (Jvm.hb hby at_103)
                refine own_go st23 ?_
                show Gm p e below T23 m 106 #[iv p0, iv k, .unset, .unset] [(.ref w7)] _
                refine own_go (fun t₀ k₀ => XS.astoreN X23.here hx rfl (Jvm.hb hby at_106) rfl rfl (l' := #[iv p0, iv k, rv w7, .unset]) rfl k₀) ?_
                show Gm p e below T23 m 107 #[iv p0, iv k, rv w7, .unset] [] _
                refine own_go (fun t₀ k₀ => XS.iconst X23.here hx rfl (Jvm.hb hby at_107) k₀) ?_
                show Gm p e below T23 m 108 #[iv p0, iv k, rv w7, .unset] [(.int (1 : Int32))] _
                refine own_go (fun t₀ k₀ => XS.istoreN X23.here hx rfl (Jvm.hb hby at_108) rfl (l' := #[iv p0, iv k, rv w7, iv (1 : Int32)]) rfl k₀) ?_
                show Gm p e below T23 m 109 #[iv p0, iv k, rv w7, iv (1 : Int32)] [] _
                refine own_go (fun t₀ k₀ => XS.aloadN X23.here hx rfl (Jvm.hb hby at_109) rfl rfl k₀) ?_
                show Gm p e below T23 m 110 #[iv p0, iv k, rv w7, iv (1 : Int32)] [(.ref w7)] _
                obtain ⟨cq24, kq24, q24a, q24b, q24c⟩ := isOf hZ e23 E_w7
                obtain ⟨_, _, ⟨T24, L24, k24, n24⟩, -, X24, ⟨Lc24, hQ24, l24, y24, z24⟩, st24⟩ := X23.virtualBack hx (y := (⟨"com/example/throughfare/throughfare/simulation/Move", "isDiagonal", "()Z"⟩ : MethodName)) (z := (⟨"com/example/throughfare/throughfare/simulation/Move", "isDiagonal", "()Z"⟩ : MethodName)) hown (mvT hZ (hw _ (List.mem_of_getElem? (i := 3) rfl))) (mvT hZ (hw _ (List.mem_of_getElem? (i := 4) rfl))) (notFace_of_selects (args := #[]) (mvT hZ (hw _ (List.mem_of_getElem? (i := 6) rfl)))) (mvT hZ (hw _ (List.mem_of_getElem? (i := 6) rfl))) (mvT hZ (hw _ (List.mem_of_getElem? (i := 5) rfl))) (by decide) (backOf (W := 0) (rm1 l Z a0 hw [] w7 (1 : Int32) (-1 : Int32) h0 n0 Z0 F_w7_di F_w7_dj) hZ (hw _ (List.mem_of_getElem? (i := 7) rfl)) (hw _ (List.mem_of_getElem? (i := 1) rfl)) (by decide) (by decide)) q24a q24c (g := (mkF m 110 #[iv p0, iv k, rv w7, iv (1 : Int32)] [(.ref w7)])) rfl (by rw [hml]; rfl) (Steps.refl _) (argsL := []) (rest := []) (lenOf own_pd0 rfl) rfl (by show 2 * 0 + _ ≤ _; exact Nat.le_of_eq rfl) (Jvm.hb hby at_110) (fun _ _ => ⟨rfl, e23, (by decide : 0 + 0 ≤ _), (by decide : 0 + 0 ≤ _)⟩)
                dsimp only [Pt.U, Pt.locs, Pt.cells, Pt.slots] at X24 l24 y24 z24 st24 hQ24
                subst l24 y24 z24
                obtain ⟨rfl, Nq24, eq24⟩ := hQ24
                have N24 := Fr.app N0 Nq24
                have e24 : T24.heap = h0 := eq24
                refine own_go (fun t k => st24.trans k) ?_
                show Gm p e below T24 m 113 #[iv p0, iv k, rv w7, iv (1 : Int32)] [(.int (fD w7 (1 : Int32) (-1 : Int32)))] _
                refine own_go (fun t₀ k₀ => XS.iloadN X24.here hx rfl (Jvm.hb hby at_113) rfl k₀) ?_
                show Gm p e below T24 m 114 #[iv p0, iv k, rv w7, iv (1 : Int32)] [(.int (1 : Int32)), (.int (fD w7 (1 : Int32) (-1 : Int32)))] _
                refine own_go (fun t₀ k₀ => XS.icmpNo X24.here hx rfl (Jvm.hb hby at_114) rfl (XT.ii_ne_f (by unfold fD; decide)) k₀) ?_
                show Gm p e below T24 m 117 #[iv p0, iv k, rv w7, iv (1 : Int32)] [] _
                refine own_go (fun t₀ k₀ => XS.iconst X24.here hx rfl (Jvm.hb hby at_117) k₀) ?_
                show Gm p e below T24 m 118 #[iv p0, iv k, rv w7, iv (1 : Int32)] [(.int (1 : Int32))] _
                refine own_go (fun t₀ k₀ => XS.goto X24.here hx rfl (pc0 := 118) (pc' := 122) rfl (Jvm.hb hby at_118) (by decide) (by decide) k₀) ?_
                show Gm p e below T24 m 122 #[iv p0, iv k, rv w7, iv (1 : Int32)] [(.int (1 : Int32))] _
                exact own_retI X24 hx hlk (t := .boolean) Bd.returns rfl (by simp) (Jvm.hb hby at_122) e24 ⟨rfl, N24⟩ (by decide) (by decide)
set_option maxRecDepth 65536 in
set_option maxHeartbeats 40000000 in
theorem comes_1 {Post : Tables → Env → Array Value → State → Outcome → State → Prop} (hpost : ∀ tb e args s v u, (limb_1_1.after args s (.returned v) u = true ∧ limb_1_2.after args s (.returned v) u = true ∧ True) → FrameEnd s (.returned v) u (Jvm.fieldLocs frame_1_writes args s ++ Jvm.arrayLocs frame_1_arrays args s ++ Jvm.staticLocs frame_1_statics s) 0 0 → Post tb e args s (.returned v) u) :
    ArmFor flags0 classFile x code maxLocals ret World_1 tables_1 room_1 Calls_1 rest_1 Pre_1 Post := by
  intro l hfl _ _ p e ha hc hk s m args below hf hA hF happ hP
  obtain ⟨hcalls, hrest, hpre⟩ := hP
  obtain ⟨-, -, -, hnamed, -, -, -, hat⟩ := (Spec.applies_iff hf).mp happ
  obtain ⟨hg, hn⟩ := and_e (Cond.before_iff.mp (show (Jvm.Cond.and given_1 narrow_1).before args s = true from hpre))
  obtain ⟨g1, g2⟩ := and_e hg
  obtain ⟨w0, rfl⟩ : ∃ w0 : Value, args = #[w0] := by
    have hs : args.size = 1 := by simpa [Cond.value, given_1] using g1
    obtain ⟨L⟩ := args
    match L, hs with
    | [w0], _ => exact ⟨w0, rfl⟩
  have hw := fun d (hd : d ∈ tables_1) => atoms_spec (ws := Jvm.Cond.code x code maxLocals ret :: tables_1) hat d (List.mem_cons_of_mem _ hd)
  have hfit : Fit s := fun {y c} hc i hi => by
    obtain ⟨ha, rfl⟩ := Array.getElem?_eq_some_iff.mp hc
    have q := List.all_eq_true.mp ((Array.all_eq_true_iff_forall_mem.mp hF) _ (Array.getElem_mem ha)) i (List.mem_range.mpr hi)
    simpa [Array.getElem?_eq_getElem hi] using q
  obtain ⟨i0, ei0⟩ := is_v g2
  obtain rfl : w0 = (.int i0) := Option.some.inj ei0
  obtain ⟨g1001, g1002⟩ := and_e hn
  obtain ⟨g1003, g1004⟩ := and_e g1002
  obtain ⟨g1005, g1006⟩ := and_e g1004
  obtain ⟨g1007, g1008⟩ := and_e g1006
  obtain ⟨g1009, g1010⟩ := and_e g1008
  obtain ⟨g1011, g1012⟩ := and_e g1010
  obtain ⟨g1013, g1014⟩ := and_e g1012
  obtain ⟨g1015, g1016⟩ := and_e g1014
  obtain ⟨g1017, g1018⟩ := and_e g1016
  obtain ⟨g1019, g1020⟩ := and_e g1018
  obtain ⟨g1021, g1022⟩ := and_e g1020
  obtain ⟨g1023, g1024⟩ := and_e g1022
  obtain ⟨g1025, g1026⟩ := and_e g1024
  obtain ⟨g1027, g1028⟩ := and_e g1026
  obtain ⟨g1029, g1030⟩ := and_e g1028
  obtain ⟨g1031, g1032⟩ := and_e g1030
  obtain ⟨g1033, g1034⟩ := and_e g1032
  obtain ⟨g1035, g1036⟩ := and_e g1034
  obtain ⟨g1037, g1038⟩ := and_e g1036
  obtain ⟨g1039, g1040⟩ := and_e g1038
  obtain ⟨g1041, g1042⟩ := and_e g1040
  obtain ⟨g1043, g1044⟩ := and_e g1042
  obtain ⟨g1045, g1046⟩ := and_e g1044
  obtain ⟨a_w0, ev_w0⟩ := exa_v g1001
  have E_w0 : Exa s s.heap a_w0 "com/example/throughfare/throughfare/simulation/Move" := Exa.start ev_w0 g1001
  have S_w0 : Sta s s.heap "com/example/throughfare/throughfare/simulation/Move" "EAST" "Lcom/example/throughfare/throughfare/simulation/Move;" (.ref a_w0) := Sta.start ev_w0 (Or.inr ⟨(hw _ (List.mem_of_getElem? (i := 1) rfl)), (hw _ (List.mem_of_getElem? (i := 2) rfl))⟩)
  have F_w0_di : Fld s s.heap a_w0 "com/example/throughfare/throughfare/simulation/Move" "di" "I" (.int (1 : Int32)) := Fld.start ((fld_at ev_w0).symm.trans (own_eqI g1003))
  have F_w0_dj : Fld s s.heap a_w0 "com/example/throughfare/throughfare/simulation/Move" "dj" "I" (.int (0 : Int32)) := Fld.start ((fld_at ev_w0).symm.trans (own_eqI g1005))
  obtain ⟨a_w3, ev_w3⟩ := exa_v g1007
  have E_w3 : Exa s s.heap a_w3 "com/example/throughfare/throughfare/simulation/Move" := Exa.start ev_w3 g1007
  have S_w3 : Sta s s.heap "com/example/throughfare/throughfare/simulation/Move" "NORTH_WEST" "Lcom/example/throughfare/throughfare/simulation/Move;" (.ref a_w3) := Sta.start ev_w3 (Or.inr ⟨(hw _ (List.mem_of_getElem? (i := 1) rfl)), (hw _ (List.mem_of_getElem? (i := 13) rfl))⟩)
  have F_w3_di : Fld s s.heap a_w3 "com/example/throughfare/throughfare/simulation/Move" "di" "I" (.int (-1 : Int32)) := Fld.start ((fld_at ev_w3).symm.trans (own_eqI g1009))
  have F_w3_dj : Fld s s.heap a_w3 "com/example/throughfare/throughfare/simulation/Move" "dj" "I" (.int (1 : Int32)) := Fld.start ((fld_at ev_w3).symm.trans (own_eqI g1011))
  obtain ⟨a_w6, ev_w6⟩ := exa_v g1013
  have E_w6 : Exa s s.heap a_w6 "com/example/throughfare/throughfare/simulation/Move" := Exa.start ev_w6 g1013
  have S_w6 : Sta s s.heap "com/example/throughfare/throughfare/simulation/Move" "SOUTH" "Lcom/example/throughfare/throughfare/simulation/Move;" (.ref a_w6) := Sta.start ev_w6 (Or.inr ⟨(hw _ (List.mem_of_getElem? (i := 1) rfl)), (hw _ (List.mem_of_getElem? (i := 15) rfl))⟩)
  have F_w6_di : Fld s s.heap a_w6 "com/example/throughfare/throughfare/simulation/Move" "di" "I" (.int (0 : Int32)) := Fld.start ((fld_at ev_w6).symm.trans (own_eqI g1015))
  obtain ⟨a_w7, ev_w7⟩ := exa_v g1017
  have E_w7 : Exa s s.heap a_w7 "com/example/throughfare/throughfare/simulation/Move" := Exa.start ev_w7 g1017
  have S_w7 : Sta s s.heap "com/example/throughfare/throughfare/simulation/Move" "SOUTH_EAST" "Lcom/example/throughfare/throughfare/simulation/Move;" (.ref a_w7) := Sta.start ev_w7 (Or.inr ⟨(hw _ (List.mem_of_getElem? (i := 1) rfl)), (hw _ (List.mem_of_getElem? (i := 17) rfl))⟩)
  have F_w7_di : Fld s s.heap a_w7 "com/example/throughfare/throughfare/simulation/Move" "di" "I" (.int (1 : Int32)) := Fld.start ((fld_at ev_w7).symm.trans (own_eqI g1019))
  have F_w7_dj : Fld s s.heap a_w7 "com/example/throughfare/throughfare/simulation/Move" "dj" "I" (.int (-1 : Int32)) := Fld.start ((fld_at ev_w7).symm.trans (own_eqI g1021))
  obtain ⟨a_w2, ev_w2⟩ := exa_v g1023
  have E_w2 : Exa s s.heap a_w2 "com/example/throughfare/throughfare/simulation/Move" := Exa.start ev_w2 g1023
  have S_w2 : Sta s s.heap "com/example/throughfare/throughfare/simulation/Move" "NORTH" "Lcom/example/throughfare/throughfare/simulation/Move;" (.ref a_w2) := Sta.start ev_w2 (Or.inr ⟨(hw _ (List.mem_of_getElem? (i := 1) rfl)), (hw _ (List.mem_of_getElem? (i := 19) rfl))⟩)
  have F_w2_di : Fld s s.heap a_w2 "com/example/throughfare/throughfare/simulation/Move" "di" "I" (.int (0 : Int32)) := Fld.start ((fld_at ev_w2).symm.trans (own_eqI g1025))
  obtain ⟨a_w1, ev_w1⟩ := exa_v g1027
  have E_w1 : Exa s s.heap a_w1 "com/example/throughfare/throughfare/simulation/Move" := Exa.start ev_w1 g1027
  have S_w1 : Sta s s.heap "com/example/throughfare/throughfare/simulation/Move" "NORTH_EAST" "Lcom/example/throughfare/throughfare/simulation/Move;" (.ref a_w1) := Sta.start ev_w1 (Or.inr ⟨(hw _ (List.mem_of_getElem? (i := 1) rfl)), (hw _ (List.mem_of_getElem? (i := 21) rfl))⟩)
  have F_w1_di : Fld s s.heap a_w1 "com/example/throughfare/throughfare/simulation/Move" "di" "I" (.int (1 : Int32)) := Fld.start ((fld_at ev_w1).symm.trans (own_eqI g1029))
  have F_w1_dj : Fld s s.heap a_w1 "com/example/throughfare/throughfare/simulation/Move" "dj" "I" (.int (1 : Int32)) := Fld.start ((fld_at ev_w1).symm.trans (own_eqI g1031))
  obtain ⟨a_w4, ev_w4⟩ := exa_v g1033
  have E_w4 : Exa s s.heap a_w4 "com/example/throughfare/throughfare/simulation/Move" := Exa.start ev_w4 g1033
  have S_w4 : Sta s s.heap "com/example/throughfare/throughfare/simulation/Move" "WEST" "Lcom/example/throughfare/throughfare/simulation/Move;" (.ref a_w4) := Sta.start ev_w4 (Or.inr ⟨(hw _ (List.mem_of_getElem? (i := 1) rfl)), (hw _ (List.mem_of_getElem? (i := 23) rfl))⟩)
  have F_w4_di : Fld s s.heap a_w4 "com/example/throughfare/throughfare/simulation/Move" "di" "I" (.int (-1 : Int32)) := Fld.start ((fld_at ev_w4).symm.trans (own_eqI g1035))
  have F_w4_dj : Fld s s.heap a_w4 "com/example/throughfare/throughfare/simulation/Move" "dj" "I" (.int (0 : Int32)) := Fld.start ((fld_at ev_w4).symm.trans (own_eqI g1037))
  obtain ⟨a_w5, ev_w5⟩ := exa_v g1039
  have E_w5 : Exa s s.heap a_w5 "com/example/throughfare/throughfare/simulation/Move" := Exa.start ev_w5 g1039
  have S_w5 : Sta s s.heap "com/example/throughfare/throughfare/simulation/Move" "SOUTH_WEST" "Lcom/example/throughfare/throughfare/simulation/Move;" (.ref a_w5) := Sta.start ev_w5 (Or.inr ⟨(hw _ (List.mem_of_getElem? (i := 1) rfl)), (hw _ (List.mem_of_getElem? (i := 25) rfl))⟩)
  have F_w5_di : Fld s s.heap a_w5 "com/example/throughfare/throughfare/simulation/Move" "di" "I" (.int (-1 : Int32)) := Fld.start ((fld_at ev_w5).symm.trans (own_eqI g1041))
  have F_w5_dj : Fld s s.heap a_w5 "com/example/throughfare/throughfare/simulation/Move" "dj" "I" (.int (-1 : Int32)) := Fld.start ((fld_at ev_w5).symm.trans (own_eqI g1043))
  have F_w6_dj : Fld s s.heap a_w6 "com/example/throughfare/throughfare/simulation/Move" "dj" "I" (.int (-1 : Int32)) := Fld.start ((fld_at ev_w6).symm.trans (own_eqI g1045))
  have F_w2_dj : Fld s s.heap a_w2 "com/example/throughfare/throughfare/simulation/Move" "dj" "I" (.int (1 : Int32)) := Fld.start ((fld_at ev_w2).symm.trans (own_eqI g1046))
  obtain ⟨n, o, h1, h2, h3, _, L, rfl, ⟨rfl, N⟩, hq⟩ := rm0 l s _ hw tables_1 i0 a_w0 a_w1 a_w2 a_w3 a_w4 a_w5 a_w6 a_w7 s.heap s.heap.size (Nat.le_refl _) S_w0 S_w1 S_w2 S_w3 S_w4 S_w5 S_w6 S_w7 E_w0 E_w1 E_w2 E_w3 E_w4 E_w5 E_w6 E_w7 F_w0_di F_w0_dj F_w1_di F_w1_dj F_w2_di F_w2_dj F_w3_di F_w3_dj F_w4_di F_w4_dj F_w5_di F_w5_dj F_w6_di F_w6_dj F_w7_di F_w7_dj p e ha hc hk s m _ below hf ((Spec.applies_iff_loose hf).mp happ).1 ⟨rfl, State.Warmed39.refl s, rfl⟩ trivial
  refine ⟨n, _, h1, h2, h3, hpost _ _ _ _ _ _ ⟨Cond.after_iff.mpr rfl, Cond.after_iff.mpr (eq_i res_at (Term.int_eval (1)) rfl), trivial⟩ ⟨hq.1, hq.2.1, (hq.2.2.sift fun y hy => Or.inr (N y hy)).mono (by decide) (by decide)⟩⟩
theorem main_1_1 : Claimed_1_1 := comes_1 fun _ _ _ _ _ _ h hF => ⟨h.1, hF⟩
theorem main_1_2 : Claimed_1_2 := comes_1 fun _ _ _ _ _ _ h hF => ⟨h.2.1, hF⟩
end Jvm.Pilot.@@N@@
namespace Jvm.Pilot.@@N@@
open Jvm Jvm.ClassFile Sem Op Lib Jvm.Free Jvm.Stand Jvm.Pilot.@@N@@.Jvm.D
/-! MADE BY PROGRAM (witnessworld.py) out of the Statement's table words and the real class files: 12 classes; the members and pool entries that the words name. The judged class is class 1, her method 1. -/
namespace start1
open Jvm.ClassFile
def u (s : String) : CpInfo := .utf8 (stringToUtf16 s)
/-- a pool by its gaps: so many unusable entries, then the entry; so many at the end -/
def gap : Nat → List CpInfo → List CpInfo
  | 0, r => r
  | n + 1, r => .unusable :: gap n r
def poolList (es : List (Nat × CpInfo)) (last : Nat) : List CpInfo := es.foldr (fun e r => gap e.1 (e.2 :: r)) (gap last [])
def pool (es : List (Nat × CpInfo)) (last : Nat) : Array CpInfo := ⟨poolList es last⟩
def fileOf (pool : Array CpInfo) (this : Nat) (attrs : Array Attribute := #[]) (ms : Array MethodInfo := #[]) (fl : Nat := 33) (sup : Nat := 0) (ifs : Array Nat := #[]) (fds : Array FieldInfo := #[]) : ClassFile where
  minorVersion := 0
  majorVersion := 65
  constantPool := pool
  accessFlags := fl
  thisClass := this
  superClass := sup
  interfaces := ifs
  fields := fds
  methods := ms
  attributes := attrs
def plain (name : String) (sup : Option ClassId) : Class where
  name := name
  kind := .ordinary
  loader := none
  accessFlags := 33
  super := sup
  interfaces := #[]
  cf := none
  fields := #[]
  methods := #[]
  instanceTypes := #[]
  staticTypes := #[]
  resolved := #[]
  callSites := []
  init := .initialized
  statics := none
  mirror := none

def pool0 : Array CpInfo := pool [(5, u "<init>"), (0, u "()V"), (1, .class_ 10), (1, u "java/lang/Object")] 113

def k0m0 : Method := { name := "<init>", desc := "()V", sig := { parameters := [], returnType := none }, accessFlags := 1, code := none }
/-- java/lang/Object -/
def k0 : Class := { plain "java/lang/Object" none with
  accessFlags := 33
  interfaces := #[]
  cf := some (fileOf pool0 8 #[] #[{ accessFlags := 1, nameIndex := 5, descriptorIndex := 6, attributes := #[] }] 33 0 #[] #[])
  fields := #[]
  methods := #[k0m0]
  instanceTypes := #[]
  staticTypes := #[]
  resolved := Array.replicate 124 none
  statics := none }

def pool1 : Array CpInfo := pool [(2, .class_ 4), (1, u "java/lang/Object"), (0, u "<init>"), (0, u "()V"), (0, .fieldref 8 9), (0, .class_ 10), (0, .nameAndType 11 12), (0, u "com/example/throughfare/throughfare/simulation/Move"), (0, u "EAST"), (0, u "Lcom/example/throughfare/throughfare/simulation/Move;"), (0, .fieldref 8 14), (0, .nameAndType 15 12), (0, u "NORTH_EAST"), (0, .fieldref 8 17), (0, .nameAndType 18 12), (0, u "NORTH"), (0, .fieldref 8 20), (0, .nameAndType 21 12), (0, u "NORTH_WEST"), (0, .fieldref 8 23), (0, .nameAndType 24 12), (0, u "WEST"), (0, .fieldref 8 26), (0, .nameAndType 27 12), (0, u "SOUTH_WEST"), (0, .fieldref 8 29), (0, .nameAndType 30 12), (0, u "SOUTH"), (0, .fieldref 8 32), (0, .nameAndType 33 12), (0, u "SOUTH_EAST"), (0, .methodref 8 35), (0, .nameAndType 36 37), (0, u "isDiagonal"), (0, u "()Z"), (0, .class_ 39), (0, u "com/example/throughfare/throughfare/simulation/MoveIsDiagonalPinLaw"), (2, u "law"), (0, u "(I)Z")] 3

def k1m0 : Method := { name := "<init>", desc := "()V", sig := { parameters := [], returnType := none }, accessFlags := 1, code := none }
def k1c1 : Code := { maxStack := 2, maxLocals := 4, code := code, exceptionTable := #[], attributes := #[] }
def k1m1 : Method := { name := "law", desc := "(I)Z", sig := { parameters := [.int], returnType := some .boolean }, accessFlags := 9, code := some k1c1 }
/-- com/example/throughfare/throughfare/simulation/MoveIsDiagonalPinLaw -/
def k1 : Class := { plain "com/example/throughfare/throughfare/simulation/MoveIsDiagonalPinLaw" (some 0) with
  accessFlags := 49
  interfaces := #[]
  cf := some (fileOf pool1 38 #[] #[{ accessFlags := 1, nameIndex := 5, descriptorIndex := 6, attributes := #[] }, { accessFlags := 9, nameIndex := 42, descriptorIndex := 43, attributes := #[] }] 49 2 #[] #[])
  fields := #[]
  methods := #[k1m0, k1m1]
  instanceTypes := #[]
  staticTypes := #[]
  resolved := Array.replicate 47 none
  statics := none }

def pool2 : Array CpInfo := pool [(1, .class_ 2), (0, u "java/lang/constant/Constable"), (0, .class_ 4), (0, u "java/lang/Object")] 6

/-- java/lang/constant/Constable -/
def k2 : Class := { plain "java/lang/constant/Constable" (some 0) with
  accessFlags := 1537
  interfaces := #[]
  cf := some (fileOf pool2 1 #[] #[] 1537 3 #[] #[])
  fields := #[]
  methods := #[]
  instanceTypes := #[]
  staticTypes := #[]
  resolved := Array.replicate 11 none
  statics := none }

def pool3 : Array CpInfo := pool [(1, .class_ 2), (0, u "java/lang/Comparable"), (0, .class_ 4), (0, u "java/lang/Object")] 7

/-- java/lang/Comparable -/
def k3 : Class := { plain "java/lang/Comparable" (some 0) with
  accessFlags := 1537
  interfaces := #[]
  cf := some (fileOf pool3 1 #[] #[] 1537 3 #[] #[])
  fields := #[]
  methods := #[]
  instanceTypes := #[]
  staticTypes := #[]
  resolved := Array.replicate 12 none
  statics := none }

def pool4 : Array CpInfo := pool [(1, .class_ 2), (0, u "java/io/Serializable"), (0, .class_ 4), (0, u "java/lang/Object")] 2

/-- java/io/Serializable -/
def k4 : Class := { plain "java/io/Serializable" (some 0) with
  accessFlags := 1537
  interfaces := #[]
  cf := some (fileOf pool4 1 #[] #[] 1537 3 #[] #[])
  fields := #[]
  methods := #[]
  instanceTypes := #[]
  staticTypes := #[]
  resolved := Array.replicate 7 none
  statics := none }

def pool5 : Array CpInfo := pool [(2, .class_ 4), (1, u "java/lang/Enum"), (0, u "name"), (0, u "Ljava/lang/String;"), (2, u "ordinal"), (0, u "I"), (1, .class_ 14), (1, u "java/lang/Object"), (4, u "hash"), (86, .class_ 108), (1, u "java/lang/Enum$EnumDesc"), (2, .class_ 112), (0, u "java/lang/constant/Constable"), (0, .class_ 114), (0, u "java/lang/Comparable"), (0, .class_ 116), (0, u "java/io/Serializable")] 87

/-- java/lang/Enum -/
def k5 : Class := { plain "java/lang/Enum" (some 0) with
  accessFlags := 1057
  interfaces := #[2, 3, 4]
  cf := some (fileOf pool5 2 #[.nestMembers #[106]] #[] 1057 12 #[111, 113, 115] #[{ accessFlags := 18, nameIndex := 5, descriptorIndex := 6, attributes := #[] }, { accessFlags := 18, nameIndex := 9, descriptorIndex := 10, attributes := #[] }, { accessFlags := 2, nameIndex := 19, descriptorIndex := 10, attributes := #[] }])
  fields := #[{ name := "name", type := (.object "java/lang/String"), accessFlags := 18, slot := 0, constantValue := 0 }, { name := "ordinal", type := .int, accessFlags := 18, slot := 1, constantValue := 0 }, { name := "hash", type := .int, accessFlags := 2, slot := 2, constantValue := 0 }]
  methods := #[]
  instanceTypes := #[(.object "java/lang/String"), .int, .int]
  staticTypes := #[]
  resolved := Array.replicate 204 none
  statics := none }

def pool6 : Array CpInfo := pool [(1, .class_ 2), (0, u "com/example/throughfare/throughfare/simulation/Move"), (2, u "EAST"), (0, u "Lcom/example/throughfare/throughfare/simulation/Move;"), (2, u "NORTH_EAST"), (2, u "NORTH"), (2, u "NORTH_WEST"), (2, u "WEST"), (2, u "SOUTH_WEST"), (2, u "SOUTH"), (2, u "SOUTH_EAST"), (2, u "$VALUES"), (0, u "[Lcom/example/throughfare/throughfare/simulation/Move;"), (6, .class_ 40), (1, u "java/lang/Enum"), (6, .fieldref 1 48), (0, .nameAndType 49 50), (0, u "di"), (0, u "I"), (0, .fieldref 1 52), (0, .nameAndType 53 50), (0, u "dj"), (14, u "lengthM"), (0, u "D"), (2, u "ALL"), (0, u "Ljava/util/List;"), (45, u "isDiagonal"), (0, u "()Z")] 7

def k6c0 : Code := { maxStack := 1, maxLocals := 1, code := prog_53_method_4_code, exceptionTable := #[], attributes := #[] }
def k6m0 : Method := { name := "isDiagonal", desc := "()Z", sig := { parameters := [], returnType := some .boolean }, accessFlags := 0, code := some k6c0 }
/-- com/example/throughfare/throughfare/simulation/Move -/
def k6 : Class := { plain "com/example/throughfare/throughfare/simulation/Move" (some 5) with
  accessFlags := 16432
  interfaces := #[]
  cf := some (fileOf pool6 1 #[] #[{ accessFlags := 0, nameIndex := 119, descriptorIndex := 120, attributes := #[] }] 16432 38 #[] #[{ accessFlags := 16409, nameIndex := 5, descriptorIndex := 6, attributes := #[] }, { accessFlags := 16409, nameIndex := 9, descriptorIndex := 6, attributes := #[] }, { accessFlags := 16409, nameIndex := 12, descriptorIndex := 6, attributes := #[] }, { accessFlags := 16409, nameIndex := 15, descriptorIndex := 6, attributes := #[] }, { accessFlags := 16409, nameIndex := 18, descriptorIndex := 6, attributes := #[] }, { accessFlags := 16409, nameIndex := 21, descriptorIndex := 6, attributes := #[] }, { accessFlags := 16409, nameIndex := 24, descriptorIndex := 6, attributes := #[] }, { accessFlags := 16409, nameIndex := 27, descriptorIndex := 6, attributes := #[] }, { accessFlags := 24, nameIndex := 72, descriptorIndex := 73, attributes := #[] }, { accessFlags := 16, nameIndex := 49, descriptorIndex := 50, attributes := #[] }, { accessFlags := 16, nameIndex := 53, descriptorIndex := 50, attributes := #[] }, { accessFlags := 16, nameIndex := 68, descriptorIndex := 69, attributes := #[] }, { accessFlags := 4122, nameIndex := 30, descriptorIndex := 31, attributes := #[] }])
  fields := #[{ name := "EAST", type := (.object "com/example/throughfare/throughfare/simulation/Move"), accessFlags := 16409, slot := 0, constantValue := 0 }, { name := "NORTH_EAST", type := (.object "com/example/throughfare/throughfare/simulation/Move"), accessFlags := 16409, slot := 1, constantValue := 0 }, { name := "NORTH", type := (.object "com/example/throughfare/throughfare/simulation/Move"), accessFlags := 16409, slot := 2, constantValue := 0 }, { name := "NORTH_WEST", type := (.object "com/example/throughfare/throughfare/simulation/Move"), accessFlags := 16409, slot := 3, constantValue := 0 }, { name := "WEST", type := (.object "com/example/throughfare/throughfare/simulation/Move"), accessFlags := 16409, slot := 4, constantValue := 0 }, { name := "SOUTH_WEST", type := (.object "com/example/throughfare/throughfare/simulation/Move"), accessFlags := 16409, slot := 5, constantValue := 0 }, { name := "SOUTH", type := (.object "com/example/throughfare/throughfare/simulation/Move"), accessFlags := 16409, slot := 6, constantValue := 0 }, { name := "SOUTH_EAST", type := (.object "com/example/throughfare/throughfare/simulation/Move"), accessFlags := 16409, slot := 7, constantValue := 0 }, { name := "ALL", type := (.object "java/util/List"), accessFlags := 24, slot := 8, constantValue := 0 }, { name := "di", type := .int, accessFlags := 16, slot := 3, constantValue := 0 }, { name := "dj", type := .int, accessFlags := 16, slot := 4, constantValue := 0 }, { name := "lengthM", type := .double, accessFlags := 16, slot := 5, constantValue := 0 }, { name := "$VALUES", type := (.array (.object "com/example/throughfare/throughfare/simulation/Move")), accessFlags := 4122, slot := 9, constantValue := 0 }]
  methods := #[k6m0]
  instanceTypes := #[(.object "java/lang/String"), .int, .int, .int, .int, .double]
  staticTypes := #[(.object "com/example/throughfare/throughfare/simulation/Move"), (.object "com/example/throughfare/throughfare/simulation/Move"), (.object "com/example/throughfare/throughfare/simulation/Move"), (.object "com/example/throughfare/throughfare/simulation/Move"), (.object "com/example/throughfare/throughfare/simulation/Move"), (.object "com/example/throughfare/throughfare/simulation/Move"), (.object "com/example/throughfare/throughfare/simulation/Move"), (.object "com/example/throughfare/throughfare/simulation/Move"), (.object "java/util/List"), (.array (.object "com/example/throughfare/throughfare/simulation/Move"))]
  resolved := Array.replicate 128 none
  statics := some 0 }

def pool7 : Array CpInfo := pool [(1, u "java/lang/Cloneable"), (0, .class_ 1), (0, u "java/lang/Object"), (0, .class_ 3)] 3

/-- java/lang/Cloneable -/
def k7 : Class := { plain "java/lang/Cloneable" (some 0) with
  accessFlags := 1537
  interfaces := #[]
  cf := some (fileOf pool7 2 #[] #[] 1537 4 #[] #[])
  fields := #[]
  methods := #[]
  instanceTypes := #[]
  staticTypes := #[]
  resolved := Array.replicate 8 none
  statics := none }

/-- the primitive byte -/
def k8 : Class := { plain "byte" none with kind := .primitive 'B', accessFlags := 0x411 }
/-- [B -/
def k9 : Class := { plain "[B" (some 0) with kind := .array 8 .byte, interfaces := #[7, 4], accessFlags := 1041 }

/-- the primitive int -/
def k10 : Class := { plain "int" none with kind := .primitive 'I', accessFlags := 0x411 }
/-- [I -/
def k11 : Class := { plain "[I" (some 0) with kind := .array 10 .int, interfaces := #[7, 4], accessFlags := 1041 }

def heap : Heap := #[{ cls := 6, slots := #[.ref 1, .ref 2, .ref 3, .ref 4, .ref 5, .ref 6, .ref 7, .ref 8, .null, .null], vm := .statics 6 },
  { cls := 6, slots := #[.null, .int 0, .int 0, .int (1), .int (0), .double 0], vm := .none },
  { cls := 6, slots := #[.null, .int 1, .int 0, .int (1), .int (1), .double 0], vm := .none },
  { cls := 6, slots := #[.null, .int 2, .int 0, .int (0), .int (1), .double 0], vm := .none },
  { cls := 6, slots := #[.null, .int 3, .int 0, .int (-1), .int (1), .double 0], vm := .none },
  { cls := 6, slots := #[.null, .int 4, .int 0, .int (-1), .int (0), .double 0], vm := .none },
  { cls := 6, slots := #[.null, .int 5, .int 0, .int (-1), .int (-1), .double 0], vm := .none },
  { cls := 6, slots := #[.null, .int 6, .int 0, .int (0), .int (-1), .double 0], vm := .none },
  { cls := 6, slots := #[.null, .int 7, .int 0, .int (1), .int (-1), .double 0], vm := .none }]
def classes : Array Class := #[k0, k1, k2, k3, k4, k5, k6, k7, k8, k9, k10, k11]
def interned : List (Array UInt16 × Addr) := []
def slotsUsed : Nat := 58
def theMethod : MethodId := ⟨1, 1⟩
def args0 : Array Value := #[.int 5]
def aboutOver (below : List Frame) : State where
  vm := { classes := classes, interned := interned.toArray }
  heap := heap
  slotsUsed := slotsUsed
  threads := #[{ frames := .invoking theMethod args0 :: below }]
def below0 : List Frame := [.native { method := ⟨0, 0⟩, args := #[] }]
def about1 : State := aboutOver below0
def p0 : Program := .bare "" "" ""
def e0 : Env := launch0.env 0 0 0
theorem w_frames : about1.frames = Frame.invoking theMethod args0 :: below0 := rfl
set_option maxRecDepth 65536 in
theorem w_args : argsFit about1.vm theMethod args0 = true := by decide +kernel
set_option maxRecDepth 65536 in
theorem w_heap : heapFits about1 = true := by decide +kernel
set_option maxRecDepth 65536 in
theorem w_runnable : about1.curStatus? = some .runnable := by decide +kernel
set_option maxRecDepth 65536 in
theorem w_alone : about1.alone = true := by decide +kernel
set_option maxRecDepth 65536 in
theorem w_named : about1.methodNamed? x = some theMethod := by decide +kernel
set_option maxRecDepth 65536 in
theorem w_hears : about1.hears theMethod below0 = true := by decide +kernel
set_option maxRecDepth 65536 in
theorem w_ripe : about1.ripe theMethod args0 below0 = true := by decide +kernel
theorem w_running : about1.status = .running := rfl
set_option maxRecDepth 65536 in
theorem w_room : about1.hasRoom e0.platform room_1 = true :=
  launch0.hasRoom_least _ room_1 (by decide +kernel) (by decide +kernel) (by decide +kernel) (by decide +kernel) (by decide +kernel) (by decide +kernel)
theorem allAtoms_all (ts : List Jvm.Cond) (a : Array Jvm.Value) (st : Jvm.State) : (allAtoms ts).before a st = ts.all (fun c => c.before a st) := by
  induction ts with
  | nil => rfl
  | cons c t ih =>
    show (Jvm.Cond.and c (allAtoms t)).before a st = _
    rw [Jvm.Cond.before_and, ih, List.all_cons]
def words1 : List Jvm.Cond := Jvm.Cond.code x code maxLocals ret :: tables_1
/-- a 'code' word, met by the world's own term for the bytes: nothing is compared byte by byte -/
theorem code_word {y : MethodName} {bytes : ByteArray} {mx : Nat} {rt : Option FieldType} {a : Array Value} {s : State} {m : MethodId} {meth : Method} {c : Code} (h1 : s.methodNamed? y = some m) (h2 : s.vm.method? m = some meth) (h3 : meth.code = some c) (h4 : c.code = bytes)
    (h5 : (c.maxLocals == mx && c.exceptionTable.isEmpty && decide (c.maxStack ≤ mostOperands) && decide (meth.sig.returnType = rt) && !meth.locks && decide (parseMethodDescriptor y.desc = some meth.sig)) = true) : (Jvm.Cond.code y bytes mx rt).before a s = true := by
  simp only [Bool.and_eq_true, beq_iff_eq, Bool.not_eq_true', decide_eq_true_eq] at h5
  obtain ⟨⟨⟨⟨⟨g1, g2⟩, g3⟩, g4⟩, g5⟩, g6⟩ := h5
  simp [Cond.before, Cond.holds, Cond.value, h1, h2, h3, h4, g1, g2, g3, g4, g5, g6]
def isCode : Jvm.Cond → Bool
  | .code _ _ _ _ => true
  | _ => false
theorem all_split {L : List Jvm.Cond} {P : Jvm.Cond → Bool} (h1 : L.all (fun c => isCode c || P c) = true) (h2 : ∀ c ∈ L.filter isCode, P c = true) : L.all P = true := by
  refine List.all_eq_true.mpr fun c hc => ?_
  have h := List.all_eq_true.mp h1 c hc
  rcases Bool.eq_false_or_eq_true (isCode c) with hi | hi
  · exact h2 c (List.mem_filter.mpr ⟨hc, hi⟩)
  · simpa [hi] using h
set_option maxRecDepth 65536 in
theorem w_c0 : (Jvm.Cond.code x code maxLocals ret).before args0 about1 = true := code_word (m := ⟨1, 1⟩) (meth := k1m1) (c := k1c1) (by decide +kernel) rfl rfl rfl (by decide +kernel)
set_option maxRecDepth 65536 in
theorem w_c1 : (Jvm.Cond.code ({ cls := "com/example/throughfare/throughfare/simulation/Move", name := "isDiagonal", desc := "()Z" } : Jvm.MethodName) prog_53_method_4_code (1 : Nat) (Option.some Jvm.ClassFile.FieldType.boolean)).before args0 about1 = true := code_word (m := ⟨6, 0⟩) (meth := k6m0) (c := k6c0) (by decide +kernel) rfl rfl rfl (by decide +kernel)
def codes1 : List Jvm.Cond := [Jvm.Cond.code x code maxLocals ret, Jvm.Cond.code ({ cls := "com/example/throughfare/throughfare/simulation/Move", name := "isDiagonal", desc := "()Z" } : Jvm.MethodName) prog_53_method_4_code (1 : Nat) (Option.some Jvm.ClassFile.FieldType.boolean)]
set_option maxRecDepth 65536 in
theorem codes_eq : words1.filter isCode = codes1 := rfl
theorem w_codes : ∀ c ∈ words1.filter isCode, c.before args0 about1 = true := by
  rw [codes_eq]
  intro c hc
  simp only [codes1, List.mem_cons, List.not_mem_nil, or_false] at hc
  rcases hc with rfl | rfl
  · exact w_c0
  · exact w_c1
set_option maxRecDepth 65536 in
theorem w_t1 : (words1.take 24).all (fun c => isCode c || c.before args0 about1) = true := by decide +kernel
set_option maxRecDepth 65536 in
theorem w_t2 : (words1.drop 24).all (fun c => isCode c || c.before args0 about1) = true := by decide +kernel
theorem w_tables : (allAtoms (Jvm.Cond.code x code maxLocals ret :: tables_1)).before args0 about1 = true := by
  rw [allAtoms_all]
  show words1.all (fun c => c.before args0 about1) = true
  refine all_split ?_ w_codes
  rw [← List.take_append_drop 24 words1, List.all_append, w_t1, w_t2]
  rfl
set_option maxRecDepth 65536 in
theorem w_case : (Jvm.Cond.and given_1 narrow_1).before args0 about1 = true := by decide +kernel
theorem w_applies : (headSpec (Jvm.Cond.code x code maxLocals ret :: tables_1) room_1).applies x e0.platform about1 = true :=
  (Spec.applies_iff w_frames).mpr ⟨w_running, w_runnable, w_alone, w_named, w_hears, w_ripe, w_room, w_tables⟩
theorem atStart : AtStart classFile x code maxLocals ret World_1 tables_1 room_1 Calls_1 rest_1 Pre_1 launch0 p0 e0 about1 theMethod args0 below0 :=
  ⟨lists_1, trivial, launch0.admits_env _ _ _, launch0.least_env, fairChoices_fair.cas, fairChoices_fair.clock, w_frames, w_args, w_heap, w_applies, trivial, trivial, w_case⟩
end start1
theorem witness_1 : WitnessClaimed_1 := ⟨start1.p0, start1.e0, start1.about1, start1.theMethod, start1.args0, start1.below0, start1.atStart⟩
end Jvm.Pilot.@@N@@
