import JvmDerived
import JvmDerived.Pilot.@@N@@Statement
import JvmDerived.Pilot.@@N@@Code
set_option linter.unusedVariables false
set_option linter.unusedSimpArgs false
namespace Jvm.Pilot.@@N@@
open Jvm Jvm.ClassFile Sem Op Lib Jvm.Free Jvm.Stand Jvm.LawKit Jvm.RoadKit Bundle Jvm.Pilot.@@N@@.Jvm.D
def Go (p : Program) (e : Env) (below : List Frame) (S : State) (P : State → Outcome → Prop) : Prop := ∃ t o, Steps p.tables e below S t ∧ P t o
abbrev Gm (p : Program) (e : Env) (below : List Frame) (T : State) (m : MethodId) (pc : Nat) (ls : Array Slot) (st : List Value) (P : State → Outcome → Prop) : Prop := Go p e below (T.setTop (mkF m pc ls st)) P
abbrev lv (x : Int64) : Slot := .val (.long x)
theorem own_in {p : Program} {e : Env} {below : List Frame} {T : State} {g g' : JFrame} {P : State → Outcome → Prop} (q : g = g') (h : Go p e below (T.setTop g') P) : ∃ s₂ o, Steps p.tables e below (T.setTop g) s₂ ∧ P s₂ o := q ▸ h
theorem own_go {p : Program} {e : Env} {below : List Frame} {S S' : State} {P : State → Outcome → Prop} (k : ∀ t, Steps p.tables e below S' t → Steps p.tables e below S t) (h : Go p e below S' P) : Go p e below S P := by
  obtain ⟨t, o, h1, h2⟩ := h
  exact ⟨t, o, k t h1, h2⟩
section Rets
variable {p : Program} {l : Launch} {e : Env} {R : Room} {s : State} {m : MethodId} {args : Array Value} {below : List Frame} {meth : Method} {c : Code} {T : State} {locs : List Loc} {cells slots : Nat}
theorem own_retI (X : Stand p l e R s m args below meth c T locs cells slots) (hx : p.tables.exec = Jvm.exec) (hlk : meth.locks = false) {pc : Nat} {Ls : Array Slot} {z : Int32} {t : FieldType} {Q : Option Value → Heap → List Loc → Prop} {C N : Nat} (hret : meth.sig.returnType = some t) (hn : narrow t (.int z) = .int z) (ht : t = .int ∨ t = .boolean ∨ t = .byte ∨ t = .char ∨ t = .short)
    (hd : decode c.code pc = .ok (.ireturn, 1)) {h : Heap} (eh : T.heap = h) (hq : Q (some (.int z)) h locs) (hC : cells ≤ C) (hN : slots ≤ N) : Go p e below (T.setTop (mkF m pc Ls [.int z])) (fun t o => t.status = .running ∧ Ended t below o ∧ ∃ v L, o = .returned v ∧ Q v t.heap L ∧ FrameEnd s o t L C N) := by
  subst eh
  obtain ⟨fs, hr, hrun, hended, hW, hsame⟩ := X.leave (v := some (.int z)) (fun h => by rw [hret] at h; cases h) hlk
  exact ⟨_, _, X.ireturnOut hx hret hn ht hd hr, hrun, hended, _, _, rfl, hq, ⟨_, rfl⟩, hW, hsame.mono hC hN⟩
theorem own_retL (X : Stand p l e R s m args below meth c T locs cells slots) (hx : p.tables.exec = Jvm.exec) (hlk : meth.locks = false) {pc : Nat} {Ls : Array Slot} {z : Int64} {Q : Option Value → Heap → List Loc → Prop} {C N : Nat} (hret : meth.sig.returnType = some .long)
    (hd : decode c.code pc = .ok (.lreturn, 1)) {h : Heap} (eh : T.heap = h) (hq : Q (some (.long z)) h locs) (hC : cells ≤ C) (hN : slots ≤ N) : Go p e below (T.setTop (mkF m pc Ls [.long z])) (fun t o => t.status = .running ∧ Ended t below o ∧ ∃ v L, o = .returned v ∧ Q v t.heap L ∧ FrameEnd s o t L C N) := by
  subst eh
  obtain ⟨fs, hr, hrun, hended, hW, hsame⟩ := X.leave (v := some (.long z)) (fun h => by rw [hret] at h; cases h) hlk
  exact ⟨_, _, X.lreturnOut hx hret hd hr, hrun, hended, _, _, rfl, hq, ⟨_, rfl⟩, hW, hsame.mono hC hN⟩
theorem own_retA (X : Stand p l e R s m args below meth c T locs cells slots) (hx : p.tables.exec = Jvm.exec) (hlk : meth.locks = false) {pc : Nat} {Ls : Array Slot} {w : Value} {t : FieldType} {Q : Option Value → Heap → List Loc → Prop} {C N : Nat} (hw : w.isRef = true) (hret : meth.sig.returnType = some t) (ht : t.isReference = true)
    (hd : decode c.code pc = .ok (.areturn, 1)) {h : Heap} (eh : T.heap = h) (hq : Q (some w) h locs) (hC : cells ≤ C) (hN : slots ≤ N) : Go p e below (T.setTop (mkF m pc Ls [w])) (fun t o => t.status = .running ∧ Ended t below o ∧ ∃ v L, o = .returned v ∧ Q v t.heap L ∧ FrameEnd s o t L C N) := by
  subst eh
  obtain ⟨fs, hr, hrun, hended, hW, hsame⟩ := X.leave (v := some w) (fun h => by rw [hret] at h; cases h) hlk
  exact ⟨_, _, X.areturnOut hx hw hret ht hd hr, hrun, hended, _, _, rfl, hq, ⟨_, rfl⟩, hW, hsame.mono hC hN⟩
theorem own_retV (X : Stand p l e R s m args below meth c T locs cells slots) (hx : p.tables.exec = Jvm.exec) (hlk : meth.locks = false) {pc : Nat} {Ls : Array Slot} {Q : Option Value → Heap → List Loc → Prop} {C N : Nat} (hret : meth.sig.returnType = none)
    (hd : decode c.code pc = .ok (.return_, 1)) {h : Heap} (eh : T.heap = h) (hq : Q none h locs) (hC : cells ≤ C) (hN : slots ≤ N) : Go p e below (T.setTop (mkF m pc Ls [])) (fun t o => t.status = .running ∧ Ended t below o ∧ ∃ v L, o = .returned v ∧ Q v t.heap L ∧ FrameEnd s o t L C N) := by
  subst eh
  obtain ⟨fs, hr, hrun, hended, hW, hsame⟩ := X.leave (v := none) (fun _ => rfl) hlk
  exact ⟨_, _, X.returnOut hx hret hd hr, hrun, hended, _, _, rfl, hq, ⟨_, rfl⟩, hW, hsame.mono hC hN⟩
end Rets
theorem d1_0 : decode prog_40_method_2_code 0 = .ok (.iload_n 0, 1) := by decide +kernel
theorem d1_1 : decode prog_40_method_2_code 1 = .ok (.iconst 4, 1) := by decide +kernel
theorem d1_2 : decode prog_40_method_2_code 2 = .ok (.if_icmp .eq 15, 3) := by decide +kernel
theorem d1_5 : decode prog_40_method_2_code 5 = .ok (.iload_n 0, 1) := by decide +kernel
theorem d1_6 : decode prog_40_method_2_code 6 = .ok (.bipush 12, 2) := by decide +kernel
theorem d1_8 : decode prog_40_method_2_code 8 = .ok (.if_icmp .eq 9, 3) := by decide +kernel
theorem d1_11 : decode prog_40_method_2_code 11 = .ok (.iload_n 0, 1) := by decide +kernel
theorem d1_12 : decode prog_40_method_2_code 12 = .ok (.bipush 6, 2) := by decide +kernel
theorem d1_14 : decode prog_40_method_2_code 14 = .ok (.if_icmp .ne 7, 3) := by decide +kernel
theorem d1_17 : decode prog_40_method_2_code 17 = .ok (.iconst 1, 1) := by decide +kernel
theorem d1_18 : decode prog_40_method_2_code 18 = .ok (.goto 4, 3) := by decide +kernel
theorem d1_21 : decode prog_40_method_2_code 21 = .ok (.iconst 0, 1) := by decide +kernel
theorem d1_22 : decode prog_40_method_2_code 22 = .ok (.ireturn, 1) := by decide +kernel
theorem own_pn_rm1 : plainName "com/example/data_in_bounds/datainbounds/content/XmlEvents" = true := by first | (simp [plainName, overriddenIn]; done) | decide +kernel
theorem own_ef_rm1 (m : MethodId) (p0 : Int32) : entryFrame m #[(.int p0)] 1 = mkF m 0 #[.val (.int p0)] [] := by first | (simp [entryFrame, mkF, argsToLocals, Value.category]; done) | rfl
def fT (p0 : Int32) : Int32 := if p0 = (4 : Int32) then (1 : Int32) else (if p0 = (12 : Int32) then (1 : Int32) else (if p0 = (6 : Int32) then (1 : Int32) else ((0 : Int32))))
def Q1 (Z : State) (p0 : Int32) (h0 : Heap) (n0 : Nat) (v : Option Value) (h : Heap) (L : List Loc) : Prop := v = some (.int (fT p0)) ∧ Fr n0 L ∧ h = h0
set_option maxRecDepth 65536 in
set_option maxHeartbeats 40000000 in
theorem rm1 (l : Launch) (Z : State) (a0 : Array Value) (hw : ∀ d ∈ tables_1, d.before a0 Z = true) (ws : List Jvm.Cond) (p0 : Int32) (h0 : Heap) (n0 : Nat) (Z0 : n0 ≤ h0.size) :
    MetFree l (⟨"com/example/data_in_bounds/datainbounds/content/XmlEvents", "isText", "(I)Z"⟩ : MethodName) (head1 (Jvm.Cond.code (⟨"com/example/data_in_bounds/datainbounds/content/XmlEvents", "isText", "(I)Z"⟩ : MethodName) prog_40_method_2_code 1 (some .boolean) :: ws) ({ frames := 0, cells := 0, slots := 0, locals := 0 } : Room)) (fun a U => a = #[(.int p0)] ∧ Z.Warmed39 U.vm ∧ U.heap = h0) (fun _ _ _ _ _ => True) (fun _ U o U' => ∃ v L, o = .returned v ∧ Q1 Z p0 h0 n0 v U'.heap L ∧ FrameEnd U o U' L ({ frames := 0, cells := 0, slots := 0, locals := 0 } : Room).cells ({ frames := 0, cells := 0, slots := 0, locals := 0 } : Room).slots) := by
  refine MetFree.of_bodySF (plainFor_of_name own_pn_rm1) hisR ?_
  intro p e s m args below meth c s₁ Bd hml0 hP hK
  obtain ⟨rfl, hZ, hh⟩ := hP
  have hx := Bd.exec
  have hby := Bd.bytes
  have hml : c.maxLocals = 1 := hml0
  have hown : s.vm.findClass "com/example/data_in_bounds/datainbounds/content/XmlEvents" = some m.cls := findClass_of_methodNamed Bd.named
  have hnm := (name_of_methodNamed Bd.named Bd.method).1
  have hlk : meth.locks = false := BodyLoose.notSynchronized Bd
  have X0 : Stand p l e ({ frames := 0, cells := 0, slots := 0, locals := 0 } : Room) s m #[(.int p0)] below meth c s₁ [] 0 0 := Stand.of_body Bd
  have e0 : s₁.heap = h0 := by rw [← hh, Bd.state]; rfl
  have N0 := Fr.nil n0
  refine own_in (own_ef_rm1 m p0) ?_
  show Gm p e below s₁ m 0 #[iv p0] [] _
  refine own_go (fun t k => XS.iloadN X0.here hx rfl (hb hby d1_0) rfl k) ?_
  show Gm p e below s₁ m 1 #[iv p0] [(.int p0)] _
  refine own_go (fun t k => XS.iconst X0.here hx rfl (hb hby d1_1) k) ?_
  show Gm p e below s₁ m 2 #[iv p0] [(.int (4 : Int32)), (.int p0)] _
  by_cases c1 : p0 = (4 : Int32)
  · have hfork := trivial
    refine own_go (fun t k => XS.icmpYes X0.here hx rfl (pc0 := 2) (pc' := 17) rfl (hb hby d1_2) rfl (XT.ii_eq_t c1) (by decide) (by decide) k) ?_
    show Gm p e below s₁ m 17 #[iv p0] [] _
    refine own_go (fun t k => XS.iconst X0.here hx rfl (hb hby d1_17) k) ?_
    show Gm p e below s₁ m 18 #[iv p0] [(.int (1 : Int32))] _
    refine own_go (fun t k => XS.goto X0.here hx rfl (pc0 := 18) (pc' := 22) rfl (hb hby d1_18) (by decide) (by decide) k) ?_
    show Gm p e below s₁ m 22 #[iv p0] [(.int (1 : Int32))] _
    exact own_retI X0 hx hlk (t := .boolean) Bd.returns rfl (by simp) (hb hby d1_22) e0 ⟨(by unfold fT; rw [if_pos c1]), N0, rfl⟩ (by decide) (by decide)
  · have hfork := trivial
    refine own_go (fun t k => XS.icmpNo X0.here hx rfl (hb hby d1_2) rfl (XT.ii_eq_f c1) k) ?_
    show Gm p e below s₁ m 5 #[iv p0] [] _
    refine own_go (fun t k => XS.iloadN X0.here hx rfl (hb hby d1_5) rfl k) ?_
    show Gm p e below s₁ m 6 #[iv p0] [(.int p0)] _
    refine own_go (fun t k => XS.bipush X0.here hx rfl (hb hby d1_6) k) ?_
    show Gm p e below s₁ m 8 #[iv p0] [(.int (12 : Int32)), (.int p0)] _
    by_cases c2 : p0 = (12 : Int32)
    · have hfork := trivial
      refine own_go (fun t k => XS.icmpYes X0.here hx rfl (pc0 := 8) (pc' := 17) rfl (hb hby d1_8) rfl (XT.ii_eq_t c2) (by decide) (by decide) k) ?_
      show Gm p e below s₁ m 17 #[iv p0] [] _
      refine own_go (fun t k => XS.iconst X0.here hx rfl (hb hby d1_17) k) ?_
      show Gm p e below s₁ m 18 #[iv p0] [(.int (1 : Int32))] _
      refine own_go (fun t k => XS.goto X0.here hx rfl (pc0 := 18) (pc' := 22) rfl (hb hby d1_18) (by decide) (by decide) k) ?_
      show Gm p e below s₁ m 22 #[iv p0] [(.int (1 : Int32))] _
      exact own_retI X0 hx hlk (t := .boolean) Bd.returns rfl (by simp) (hb hby d1_22) e0 ⟨(by unfold fT; rw [if_neg c1, if_pos c2]), N0, rfl⟩ (by decide) (by decide)
    · have hfork := trivial
      refine own_go (fun t k => XS.icmpNo X0.here hx rfl (hb hby d1_8) rfl (XT.ii_eq_f c2) k) ?_
      show Gm p e below s₁ m 11 #[iv p0] [] _
      refine own_go (fun t k => XS.iloadN X0.here hx rfl (hb hby d1_11) rfl k) ?_
      show Gm p e below s₁ m 12 #[iv p0] [(.int p0)] _
      refine own_go (fun t k => XS.bipush X0.here hx rfl (hb hby d1_12) k) ?_
      show Gm p e below s₁ m 14 #[iv p0] [(.int (6 : Int32)), (.int p0)] _
      by_cases c3 : p0 = (6 : Int32)
      · have hfork := trivial
        refine own_go (fun t k => XS.icmpNo X0.here hx rfl (hb hby d1_14) rfl (XT.ii_ne_f c3) k) ?_
        show Gm p e below s₁ m 17 #[iv p0] [] _
        refine own_go (fun t k => XS.iconst X0.here hx rfl (hb hby d1_17) k) ?_
        show Gm p e below s₁ m 18 #[iv p0] [(.int (1 : Int32))] _
        refine own_go (fun t k => XS.goto X0.here hx rfl (pc0 := 18) (pc' := 22) rfl (hb hby d1_18) (by decide) (by decide) k) ?_
        show Gm p e below s₁ m 22 #[iv p0] [(.int (1 : Int32))] _
        exact own_retI X0 hx hlk (t := .boolean) Bd.returns rfl (by simp) (hb hby d1_22) e0 ⟨(by unfold fT; rw [if_neg c1, if_neg c2, if_pos c3]), N0, rfl⟩ (by decide) (by decide)
      · have hfork := trivial
        refine own_go (fun t k => XS.icmpYes X0.here hx rfl (pc0 := 14) (pc' := 21) rfl (hb hby d1_14) rfl (XT.ii_ne_t c3) (by decide) (by decide) k) ?_
        show Gm p e below s₁ m 21 #[iv p0] [] _
        refine own_go (fun t k => XS.iconst X0.here hx rfl (hb hby d1_21) k) ?_
        show Gm p e below s₁ m 22 #[iv p0] [(.int (0 : Int32))] _
        exact own_retI X0 hx hlk (t := .boolean) Bd.returns rfl (by simp) (hb hby d1_22) e0 ⟨(by unfold fT; rw [if_neg c1, if_neg c2, if_neg c3]), N0, rfl⟩ (by decide) (by decide)
theorem d2_0 : decode method_2_code 0 = .ok (.iload_n 0, 1) := by decide +kernel
theorem d2_1 : decode method_2_code 1 = .ok (.ifCond .lt 9, 3) := by decide +kernel
theorem d2_4 : decode method_2_code 4 = .ok (.iload_n 0, 1) := by decide +kernel
theorem d2_5 : decode method_2_code 5 = .ok (.bipush 15, 2) := by decide +kernel
theorem d2_7 : decode method_2_code 7 = .ok (.if_icmp .le 5, 3) := by decide +kernel
theorem d2_10 : decode method_2_code 10 = .ok (.iconst 0, 1) := by decide +kernel
theorem d2_11 : decode method_2_code 11 = .ok (.ireturn, 1) := by decide +kernel
theorem d2_12 : decode method_2_code 12 = .ok (.sipush 4176, 3) := by decide +kernel
theorem d2_15 : decode method_2_code 15 = .ok (.iload_n 0, 1) := by decide +kernel
theorem d2_16 : decode method_2_code 16 = .ok (.ishr, 1) := by decide +kernel
theorem d2_17 : decode method_2_code 17 = .ok (.iconst 1, 1) := by decide +kernel
theorem d2_18 : decode method_2_code 18 = .ok (.iand, 1) := by decide +kernel
theorem d2_19 : decode method_2_code 19 = .ok (.ifCond .eq 7, 3) := by decide +kernel
theorem d2_22 : decode method_2_code 22 = .ok (.iconst 1, 1) := by decide +kernel
theorem d2_23 : decode method_2_code 23 = .ok (.goto 4, 3) := by decide +kernel
theorem d2_26 : decode method_2_code 26 = .ok (.iconst 0, 1) := by decide +kernel
theorem d2_27 : decode method_2_code 27 = .ok (.ireturn, 1) := by decide +kernel
theorem own_pn_rm2 : plainName "com/example/data_in_bounds/datainbounds/content/XmlEventsIsTextPinLaw" = true := by first | (simp [plainName, overriddenIn]; done) | decide +kernel
theorem own_ef_rm2 (m : MethodId) (p0 : Int32) : entryFrame m #[(.int p0)] 1 = mkF m 0 #[.val (.int p0)] [] := by first | (simp [entryFrame, mkF, argsToLocals, Value.category]; done) | rfl
def fE (p0 : Int32) : Int32 := if p0 < (0 : Int32) then (0 : Int32) else (if (15 : Int32) < p0 then (0 : Int32) else (if (((4176 : Int32) >>> (p0 &&& 31)) &&& (1 : Int32)) = (0 : Int32) then (0 : Int32) else ((1 : Int32))))
def Q2 (Z : State) (p0 : Int32) (h0 : Heap) (n0 : Nat) (v : Option Value) (h : Heap) (L : List Loc) : Prop := v = some (.int (fE p0)) ∧ Fr n0 L ∧ h = h0
set_option maxRecDepth 65536 in
set_option maxHeartbeats 40000000 in
theorem rm2 (l : Launch) (Z : State) (a0 : Array Value) (hw : ∀ d ∈ tables_1, d.before a0 Z = true) (ws : List Jvm.Cond) (p0 : Int32) (h0 : Heap) (n0 : Nat) (Z0 : n0 ≤ h0.size) :
    MetFree l (⟨"com/example/data_in_bounds/datainbounds/content/XmlEventsIsTextPinLaw", "expected", "(I)Z"⟩ : MethodName) (head1 (Jvm.Cond.code (⟨"com/example/data_in_bounds/datainbounds/content/XmlEventsIsTextPinLaw", "expected", "(I)Z"⟩ : MethodName) method_2_code 1 (some .boolean) :: ws) ({ frames := 0, cells := 0, slots := 0, locals := 0 } : Room)) (fun a U => a = #[(.int p0)] ∧ Z.Warmed39 U.vm ∧ U.heap = h0) (fun _ _ _ _ _ => True) (fun _ U o U' => ∃ v L, o = .returned v ∧ Q2 Z p0 h0 n0 v U'.heap L ∧ FrameEnd U o U' L ({ frames := 0, cells := 0, slots := 0, locals := 0 } : Room).cells ({ frames := 0, cells := 0, slots := 0, locals := 0 } : Room).slots) := by
  refine MetFree.of_bodySF (plainFor_of_name own_pn_rm2) hisR ?_
  intro p e s m args below meth c s₁ Bd hml0 hP hK
  obtain ⟨rfl, hZ, hh⟩ := hP
  have hx := Bd.exec
  have hby := Bd.bytes
  have hml : c.maxLocals = 1 := hml0
  have hown : s.vm.findClass "com/example/data_in_bounds/datainbounds/content/XmlEventsIsTextPinLaw" = some m.cls := findClass_of_methodNamed Bd.named
  have hnm := (name_of_methodNamed Bd.named Bd.method).1
  have hlk : meth.locks = false := BodyLoose.notSynchronized Bd
  have X0 : Stand p l e ({ frames := 0, cells := 0, slots := 0, locals := 0 } : Room) s m #[(.int p0)] below meth c s₁ [] 0 0 := Stand.of_body Bd
  have e0 : s₁.heap = h0 := by rw [← hh, Bd.state]; rfl
  have N0 := Fr.nil n0
  refine own_in (own_ef_rm2 m p0) ?_
  show Gm p e below s₁ m 0 #[iv p0] [] _
  refine own_go (fun t k => XS.iloadN X0.here hx rfl (hb hby d2_0) rfl k) ?_
  show Gm p e below s₁ m 1 #[iv p0] [(.int p0)] _
  by_cases c1 : p0 < (0 : Int32)
  · have hfork := trivial
    refine own_go (fun t k => XS.ifYes X0.here hx rfl (pc0 := 1) (pc' := 10) rfl (hb hby d2_1) rfl (XT.i0_lt_t c1) (by decide) (by decide) k) ?_
    show Gm p e below s₁ m 10 #[iv p0] [] _
    refine own_go (fun t k => XS.iconst X0.here hx rfl (hb hby d2_10) k) ?_
    show Gm p e below s₁ m 11 #[iv p0] [(.int (0 : Int32))] _
    exact own_retI X0 hx hlk (t := .boolean) Bd.returns rfl (by simp) (hb hby d2_11) e0 ⟨(by unfold fE; rw [if_pos c1]), N0, rfl⟩ (by decide) (by decide)
  · have hfork := trivial
    refine own_go (fun t k => XS.ifNo X0.here hx rfl (hb hby d2_1) rfl (XT.i0_lt_f c1) k) ?_
    show Gm p e below s₁ m 4 #[iv p0] [] _
    refine own_go (fun t k => XS.iloadN X0.here hx rfl (hb hby d2_4) rfl k) ?_
    show Gm p e below s₁ m 5 #[iv p0] [(.int p0)] _
    refine own_go (fun t k => XS.bipush X0.here hx rfl (hb hby d2_5) k) ?_
    show Gm p e below s₁ m 7 #[iv p0] [(.int (15 : Int32)), (.int p0)] _
    by_cases c2 : (15 : Int32) < p0
    · have hfork := trivial
      refine own_go (fun t k => XS.icmpNo X0.here hx rfl (hb hby d2_7) rfl (XT.ii_le_f c2) k) ?_
      show Gm p e below s₁ m 10 #[iv p0] [] _
      refine own_go (fun t k => XS.iconst X0.here hx rfl (hb hby d2_10) k) ?_
      show Gm p e below s₁ m 11 #[iv p0] [(.int (0 : Int32))] _
      exact own_retI X0 hx hlk (t := .boolean) Bd.returns rfl (by simp) (hb hby d2_11) e0 ⟨(by unfold fE; rw [if_neg c1, if_pos c2]), N0, rfl⟩ (by decide) (by decide)
    · have hfork := trivial
      refine own_go (fun t k => XS.icmpYes X0.here hx rfl (pc0 := 7) (pc' := 12) rfl (hb hby d2_7) rfl (XT.ii_le_t c2) (by decide) (by decide) k) ?_
      show Gm p e below s₁ m 12 #[iv p0] [] _
      refine own_go (fun t k => XS.sipush X0.here hx rfl (hb hby d2_12) k) ?_
      show Gm p e below s₁ m 15 #[iv p0] [(.int (4176 : Int32))] _
      refine own_go (fun t k => XS.iloadN X0.here hx rfl (hb hby d2_15) rfl k) ?_
      show Gm p e below s₁ m 16 #[iv p0] [(.int p0), (.int (4176 : Int32))] _
      refine own_go (fun t k => XS.ishr X0.here hx rfl (hb hby d2_16) rfl k) ?_
      show Gm p e below s₁ m 17 #[iv p0] [(.int ((4176 : Int32) >>> (p0 &&& 31)))] _
      refine own_go (fun t k => XS.iconst X0.here hx rfl (hb hby d2_17) k) ?_
      show Gm p e below s₁ m 18 #[iv p0] [(.int (1 : Int32)), (.int ((4176 : Int32) >>> (p0 &&& 31)))] _
      refine own_go (fun t k => XS.iand X0.here hx rfl (hb hby d2_18) rfl k) ?_
      show Gm p e below s₁ m 19 #[iv p0] [(.int (((4176 : Int32) >>> (p0 &&& 31)) &&& (1 : Int32)))] _
      by_cases c3 : (((4176 : Int32) >>> (p0 &&& 31)) &&& (1 : Int32)) = (0 : Int32)
      · have hfork := trivial
        refine own_go (fun t k => XS.ifYes X0.here hx rfl (pc0 := 19) (pc' := 26) rfl (hb hby d2_19) rfl (XT.i0_eq_t c3) (by decide) (by decide) k) ?_
        show Gm p e below s₁ m 26 #[iv p0] [] _
        refine own_go (fun t k => XS.iconst X0.here hx rfl (hb hby d2_26) k) ?_
        show Gm p e below s₁ m 27 #[iv p0] [(.int (0 : Int32))] _
        exact own_retI X0 hx hlk (t := .boolean) Bd.returns rfl (by simp) (hb hby d2_27) e0 ⟨(by unfold fE; rw [if_neg c1, if_neg c2, if_pos c3]), N0, rfl⟩ (by decide) (by decide)
      · have hfork := trivial
        refine own_go (fun t k => XS.ifNo X0.here hx rfl (hb hby d2_19) rfl (XT.i0_eq_f c3) k) ?_
        show Gm p e below s₁ m 22 #[iv p0] [] _
        refine own_go (fun t k => XS.iconst X0.here hx rfl (hb hby d2_22) k) ?_
        show Gm p e below s₁ m 23 #[iv p0] [(.int (1 : Int32))] _
        refine own_go (fun t k => XS.goto X0.here hx rfl (pc0 := 23) (pc' := 27) rfl (hb hby d2_23) (by decide) (by decide) k) ?_
        show Gm p e below s₁ m 27 #[iv p0] [(.int (1 : Int32))] _
        exact own_retI X0 hx hlk (t := .boolean) Bd.returns rfl (by simp) (hb hby d2_27) e0 ⟨(by unfold fE; rw [if_neg c1, if_neg c2, if_neg c3]), N0, rfl⟩ (by decide) (by decide)

theorem own_same (x : Int32) : fT x = fE x := by
  unfold fT fE
  by_cases h0 : x < 0
  · rw [if_pos h0, if_neg (fun q => by rw [q] at h0; revert h0; decide), if_neg (fun q => by rw [q] at h0; revert h0; decide), if_neg (fun q => by rw [q] at h0; revert h0; decide)]
  · by_cases h1 : (15 : Int32) < x
    · rw [if_neg h0, if_pos h1, if_neg (fun q => by rw [q] at h1; revert h1; decide), if_neg (fun q => by rw [q] at h1; revert h1; decide), if_neg (fun q => by rw [q] at h1; revert h1; decide)]
    · have g0 : 0 ≤ x.toInt := by rw [Int32.lt_iff_toInt_lt] at h0; simpa using h0
      have g1 : x.toInt ≤ 15 := by rw [Int32.lt_iff_toInt_lt] at h1; simpa using h1
      have hx : x.toInt = 0 ∨ x.toInt = 1 ∨ x.toInt = 2 ∨ x.toInt = 3 ∨ x.toInt = 4 ∨ x.toInt = 5 ∨ x.toInt = 6 ∨ x.toInt = 7 ∨ x.toInt = 8 ∨ x.toInt = 9 ∨ x.toInt = 10 ∨ x.toInt = 11 ∨ x.toInt = 12 ∨ x.toInt = 13 ∨ x.toInt = 14 ∨ x.toInt = 15 := by omega
      rcases hx with q | q | q | q | q | q | q | q | q | q | q | q | q | q | q | q
      · obtain rfl : x = 0 := Int32.toInt_inj.mp q
        decide +kernel
      · obtain rfl : x = 1 := Int32.toInt_inj.mp q
        decide +kernel
      · obtain rfl : x = 2 := Int32.toInt_inj.mp q
        decide +kernel
      · obtain rfl : x = 3 := Int32.toInt_inj.mp q
        decide +kernel
      · obtain rfl : x = 4 := Int32.toInt_inj.mp q
        decide +kernel
      · obtain rfl : x = 5 := Int32.toInt_inj.mp q
        decide +kernel
      · obtain rfl : x = 6 := Int32.toInt_inj.mp q
        decide +kernel
      · obtain rfl : x = 7 := Int32.toInt_inj.mp q
        decide +kernel
      · obtain rfl : x = 8 := Int32.toInt_inj.mp q
        decide +kernel
      · obtain rfl : x = 9 := Int32.toInt_inj.mp q
        decide +kernel
      · obtain rfl : x = 10 := Int32.toInt_inj.mp q
        decide +kernel
      · obtain rfl : x = 11 := Int32.toInt_inj.mp q
        decide +kernel
      · obtain rfl : x = 12 := Int32.toInt_inj.mp q
        decide +kernel
      · obtain rfl : x = 13 := Int32.toInt_inj.mp q
        decide +kernel
      · obtain rfl : x = 14 := Int32.toInt_inj.mp q
        decide +kernel
      · obtain rfl : x = 15 := Int32.toInt_inj.mp q
        decide +kernel
theorem own_pd0 : parseMethodDescriptor "(I)Z" = some ⟨[.int], some .boolean⟩ := by decide +kernel
theorem own_pn_rm0 : plainName "com/example/data_in_bounds/datainbounds/content/XmlEventsIsTextPinLaw" = true := by first | (simp [plainName, overriddenIn]; done) | decide +kernel
theorem own_ef_rm0 (m : MethodId) (p0 : Int32) (p1 : Int32) : entryFrame m #[(.int p0), (.int p1)] maxLocals = mkF m 0 #[.val (.int p0), .val (.int p1), .unset] [] := by first | (simp [entryFrame, mkF, argsToLocals, Value.category, maxLocals]; done) | rfl
def Q0 (Z : State) (p0 : Int32) (p1 : Int32) (h0 : Heap) (n0 : Nat) (v : Option Value) (h : Heap) (L : List Loc) : Prop := v = some (.int 1) ∧ Fr n0 L
set_option maxRecDepth 65536 in
set_option maxHeartbeats 40000000 in
theorem rm0 (l : Launch) (Z : State) (a0 : Array Value) (hw : ∀ d ∈ tables_1, d.before a0 Z = true) (ws : List Jvm.Cond) (p0 : Int32) (p1 : Int32) (h0 : Heap) (n0 : Nat) (Z0 : n0 ≤ h0.size) :
    MetFree l x (head1 (Jvm.Cond.code x code maxLocals ret :: ws) room_1) (fun a U => a = #[(.int p0), (.int p1)] ∧ Z.Warmed39 U.vm ∧ U.heap = h0) (fun _ _ _ _ _ => True) (fun _ U o U' => ∃ v L, o = .returned v ∧ Q0 Z p0 p1 h0 n0 v U'.heap L ∧ FrameEnd U o U' L room_1.cells room_1.slots) := by
  refine MetFree.of_bodySF (plainFor_of_name own_pn_rm0) hisR ?_
  intro p e s m args below meth c s₁ Bd hml0 hP hK
  obtain ⟨rfl, hZ, hh⟩ := hP
  have hx := Bd.exec
  have hby := Bd.bytes
  have hml : c.maxLocals = 3 := hml0
  have hown : s.vm.findClass "com/example/data_in_bounds/datainbounds/content/XmlEventsIsTextPinLaw" = some m.cls := findClass_of_methodNamed Bd.named
  have hnm := (name_of_methodNamed Bd.named Bd.method).1
  have hlk : meth.locks = false := BodyLoose.notSynchronized Bd
  have X0 : Stand p l e room_1 s m #[(.int p0), (.int p1)] below meth c s₁ [] 0 0 := Stand.of_body Bd
  have e0 : s₁.heap = h0 := by rw [← hh, Bd.state]; rfl
  have N0 := Fr.nil n0
  refine own_in (own_ef_rm0 m p0 p1) ?_
  show Gm p e below s₁ m 0 #[iv p0, iv p1, .unset] [] _
  refine own_go (fun t k => XS.iloadN X0.here hx rfl (hb hby at_0) rfl k) ?_
  show Gm p e below s₁ m 1 #[iv p0, iv p1, .unset] [(.int p1)] _
  refine own_go (fun t k => XS.iconst X0.here hx rfl (hb hby at_1) k) ?_
  show Gm p e below s₁ m 2 #[iv p0, iv p1, .unset] [(.int (1 : Int32)), (.int p1)] _
  refine own_go (fun t k => XS.iand X0.here hx rfl (hb hby at_2) rfl k) ?_
  show Gm p e below s₁ m 3 #[iv p0, iv p1, .unset] [(.int (p1 &&& (1 : Int32)))] _
  by_cases c1 : (p1 &&& (1 : Int32)) = (0 : Int32)
  · have hfork := trivial
    refine own_go (fun t k => XS.ifYes X0.here hx rfl (pc0 := 3) (pc' := 10) rfl (hb hby at_3) rfl (XT.i0_eq_t c1) (by decide) (by decide) k) ?_
    show Gm p e below s₁ m 10 #[iv p0, iv p1, .unset] [] _
    refine own_go (fun t k => XS.iloadN X0.here hx rfl (hb hby at_10) rfl k) ?_
    show Gm p e below s₁ m 11 #[iv p0, iv p1, .unset] [(.int p0)] _
    refine own_go (fun t k => XS.bipush X0.here hx rfl (hb hby at_11) k) ?_
    show Gm p e below s₁ m 13 #[iv p0, iv p1, .unset] [(.int (15 : Int32)), (.int p0)] _
    refine own_go (fun t k => XS.iand X0.here hx rfl (hb hby at_13) rfl k) ?_
    show Gm p e below s₁ m 14 #[iv p0, iv p1, .unset] [(.int (p0 &&& (15 : Int32)))] _
    refine own_go (fun t k => XS.istoreN X0.here hx rfl (hb hby at_14) rfl (l' := #[iv p0, iv p1, iv (p0 &&& (15 : Int32))]) rfl k) ?_
    show Gm p e below s₁ m 15 #[iv p0, iv p1, iv (p0 &&& (15 : Int32))] [] _
    refine own_go (fun t k => XS.iloadN X0.here hx rfl (hb hby at_15) rfl k) ?_
    show Gm p e below s₁ m 16 #[iv p0, iv p1, iv (p0 &&& (15 : Int32))] [(.int (p0 &&& (15 : Int32)))] _
    obtain ⟨_, _, ⟨T2, L2, k2, n2⟩, -, X2, ⟨Lc2, hQ2, l2, y2, z2⟩, st2⟩ := Jvm.LawKit.callS X0 hx (y := (⟨"com/example/data_in_bounds/datainbounds/content/XmlEvents", "isText", "(I)Z"⟩ : MethodName)) hown (mvT hZ (hw _ (List.mem_of_getElem? (i := 0) rfl))) (mvT hZ (hw _ (List.mem_of_getElem? (i := 1) rfl))) (mvT hZ (hw _ (List.mem_of_getElem? (i := 2) rfl))) (mvT hZ (hw _ (List.mem_of_getElem? (i := 3) rfl))) (by decide) (backOf (W := 0) (rm1 l Z a0 hw [] (p0 &&& (15 : Int32))  h0 n0 Z0 ) hZ (hw _ (List.mem_of_getElem? (i := 3) rfl)) (hw _ (List.mem_of_getElem? (i := 2) rfl)) (by decide) (by decide)) (g := (mkF m 16 #[iv p0, iv p1, iv (p0 &&& (15 : Int32))] [(.int (p0 &&& (15 : Int32)))])) rfl (by rw [hml]; rfl) (argsL := [(.int (p0 &&& (15 : Int32)))]) (rest := []) (lenOf own_pd0 rfl) rfl (by show 2 * 0 + _ ≤ _; exact Nat.le_of_eq rfl) (hb hby at_16) (fun _ _ => ⟨rfl, e0, (by decide : 0 + 0 ≤ _), (by decide : 0 + 0 ≤ _)⟩)
    dsimp only [Pt.U, Pt.locs, Pt.cells, Pt.slots] at X2 l2 y2 z2 st2 hQ2
    subst l2 y2 z2
    obtain ⟨rfl, Nq2, eq2⟩ := hQ2
    have N2 := Fr.app N0 Nq2
    have e2 : T2.heap = h0 := eq2
    refine own_go st2 ?_
    show Gm p e below T2 m 19 #[iv p0, iv p1, iv (p0 &&& (15 : Int32))] [(.int (fT (p0 &&& (15 : Int32))))] _
    refine own_go (fun t k => XS.iloadN X2.here hx rfl (hb hby at_19) rfl k) ?_
    show Gm p e below T2 m 20 #[iv p0, iv p1, iv (p0 &&& (15 : Int32))] [(.int (p0 &&& (15 : Int32))), (.int (fT (p0 &&& (15 : Int32))))] _
    obtain ⟨_, _, ⟨T3, L3, k3, n3⟩, -, X3, ⟨Lc3, hQ3, l3, y3, z3⟩, st3⟩ := Jvm.LawKit.callS X2 hx (y := (⟨"com/example/data_in_bounds/datainbounds/content/XmlEventsIsTextPinLaw", "expected", "(I)Z"⟩ : MethodName)) hown (mvT hZ (hw _ (List.mem_of_getElem? (i := 4) rfl))) (mvT hZ (hw _ (List.mem_of_getElem? (i := 5) rfl))) (mvT hZ (hw _ (List.mem_of_getElem? (i := 6) rfl))) (mvT hZ (hw _ (List.mem_of_getElem? (i := 7) rfl))) (by decide) (backOf (W := 1) (rm2 l Z a0 hw [] (p0 &&& (15 : Int32))  h0 n0 Z0 ) hZ (hw _ (List.mem_of_getElem? (i := 7) rfl)) (hw _ (List.mem_of_getElem? (i := 6) rfl)) (by decide) (by decide)) (g := (mkF m 20 #[iv p0, iv p1, iv (p0 &&& (15 : Int32))] [(.int (p0 &&& (15 : Int32))), (.int (fT (p0 &&& (15 : Int32))))])) rfl (by rw [hml]; rfl) (argsL := [(.int (p0 &&& (15 : Int32)))]) (rest := [(.int (fT (p0 &&& (15 : Int32))))]) (lenOf own_pd0 rfl) rfl (by show 2 * 0 + _ ≤ _; exact Nat.le_of_eq rfl) (hb hby at_20) (fun _ _ => ⟨rfl, e2, (by decide : 0 + 0 ≤ _), (by decide : 0 + 0 ≤ _)⟩)
    dsimp only [Pt.U, Pt.locs, Pt.cells, Pt.slots] at X3 l3 y3 z3 st3 hQ3
    subst l3 y3 z3
    obtain ⟨rfl, Nq3, eq3⟩ := hQ3
    have N3 := Fr.app N2 Nq3
    have e3 : T3.heap = h0 := eq3
    refine own_go st3 ?_
    show Gm p e below T3 m 23 #[iv p0, iv p1, iv (p0 &&& (15 : Int32))] [(.int (fE (p0 &&& (15 : Int32)))), (.int (fT (p0 &&& (15 : Int32))))] _
    refine own_go (fun t k => XS.icmpNo X3.here hx rfl (hb hby at_23) rfl (XT.ii_ne_f (own_same _)) k) ?_
    show Gm p e below T3 m 26 #[iv p0, iv p1, iv (p0 &&& (15 : Int32))] [] _
    refine own_go (fun t k => XS.iconst X3.here hx rfl (hb hby at_26) k) ?_
    show Gm p e below T3 m 27 #[iv p0, iv p1, iv (p0 &&& (15 : Int32))] [(.int (1 : Int32))] _
    refine own_go (fun t k => XS.goto X3.here hx rfl (pc0 := 27) (pc' := 31) rfl (hb hby at_27) (by decide) (by decide) k) ?_
    show Gm p e below T3 m 31 #[iv p0, iv p1, iv (p0 &&& (15 : Int32))] [(.int (1 : Int32))] _
    exact own_retI X3 hx hlk (t := .boolean) Bd.returns rfl (by simp) (hb hby at_31) e3 ⟨rfl, N3⟩ (by decide) (by decide)
  · have hfork := trivial
    refine own_go (fun t k => XS.ifNo X0.here hx rfl (hb hby at_3) rfl (XT.i0_eq_f c1) k) ?_
    show Gm p e below s₁ m 6 #[iv p0, iv p1, .unset] [] _
    refine own_go (fun t k => XS.iloadN X0.here hx rfl (hb hby at_6) rfl k) ?_
    show Gm p e below s₁ m 7 #[iv p0, iv p1, .unset] [(.int p0)] _
    refine own_go (fun t k => XS.goto X0.here hx rfl (pc0 := 7) (pc' := 14) rfl (hb hby at_7) (by decide) (by decide) k) ?_
    show Gm p e below s₁ m 14 #[iv p0, iv p1, .unset] [(.int p0)] _
    refine own_go (fun t k => XS.istoreN X0.here hx rfl (hb hby at_14) rfl (l' := #[iv p0, iv p1, iv p0]) rfl k) ?_
    show Gm p e below s₁ m 15 #[iv p0, iv p1, iv p0] [] _
    refine own_go (fun t k => XS.iloadN X0.here hx rfl (hb hby at_15) rfl k) ?_
    show Gm p e below s₁ m 16 #[iv p0, iv p1, iv p0] [(.int p0)] _
    obtain ⟨_, _, ⟨T4, L4, k4, n4⟩, -, X4, ⟨Lc4, hQ4, l4, y4, z4⟩, st4⟩ := Jvm.LawKit.callS X0 hx (y := (⟨"com/example/data_in_bounds/datainbounds/content/XmlEvents", "isText", "(I)Z"⟩ : MethodName)) hown (mvT hZ (hw _ (List.mem_of_getElem? (i := 0) rfl))) (mvT hZ (hw _ (List.mem_of_getElem? (i := 1) rfl))) (mvT hZ (hw _ (List.mem_of_getElem? (i := 2) rfl))) (mvT hZ (hw _ (List.mem_of_getElem? (i := 3) rfl))) (by decide) (backOf (W := 0) (rm1 l Z a0 hw [] p0  h0 n0 Z0 ) hZ (hw _ (List.mem_of_getElem? (i := 3) rfl)) (hw _ (List.mem_of_getElem? (i := 2) rfl)) (by decide) (by decide)) (g := (mkF m 16 #[iv p0, iv p1, iv p0] [(.int p0)])) rfl (by rw [hml]; rfl) (argsL := [(.int p0)]) (rest := []) (lenOf own_pd0 rfl) rfl (by show 2 * 0 + _ ≤ _; exact Nat.le_of_eq rfl) (hb hby at_16) (fun _ _ => ⟨rfl, e0, (by decide : 0 + 0 ≤ _), (by decide : 0 + 0 ≤ _)⟩)
    dsimp only [Pt.U, Pt.locs, Pt.cells, Pt.slots] at X4 l4 y4 z4 st4 hQ4
    subst l4 y4 z4
    obtain ⟨rfl, Nq4, eq4⟩ := hQ4
    have N4 := Fr.app N0 Nq4
    have e4 : T4.heap = h0 := eq4
    refine own_go st4 ?_
    show Gm p e below T4 m 19 #[iv p0, iv p1, iv p0] [(.int (fT p0))] _
    refine own_go (fun t k => XS.iloadN X4.here hx rfl (hb hby at_19) rfl k) ?_
    show Gm p e below T4 m 20 #[iv p0, iv p1, iv p0] [(.int p0), (.int (fT p0))] _
    obtain ⟨_, _, ⟨T5, L5, k5, n5⟩, -, X5, ⟨Lc5, hQ5, l5, y5, z5⟩, st5⟩ := Jvm.LawKit.callS X4 hx (y := (⟨"com/example/data_in_bounds/datainbounds/content/XmlEventsIsTextPinLaw", "expected", "(I)Z"⟩ : MethodName)) hown (mvT hZ (hw _ (List.mem_of_getElem? (i := 4) rfl))) (mvT hZ (hw _ (List.mem_of_getElem? (i := 5) rfl))) (mvT hZ (hw _ (List.mem_of_getElem? (i := 6) rfl))) (mvT hZ (hw _ (List.mem_of_getElem? (i := 7) rfl))) (by decide) (backOf (W := 1) (rm2 l Z a0 hw [] p0  h0 n0 Z0 ) hZ (hw _ (List.mem_of_getElem? (i := 7) rfl)) (hw _ (List.mem_of_getElem? (i := 6) rfl)) (by decide) (by decide)) (g := (mkF m 20 #[iv p0, iv p1, iv p0] [(.int p0), (.int (fT p0))])) rfl (by rw [hml]; rfl) (argsL := [(.int p0)]) (rest := [(.int (fT p0))]) (lenOf own_pd0 rfl) rfl (by show 2 * 0 + _ ≤ _; exact Nat.le_of_eq rfl) (hb hby at_20) (fun _ _ => ⟨rfl, e4, (by decide : 0 + 0 ≤ _), (by decide : 0 + 0 ≤ _)⟩)
    dsimp only [Pt.U, Pt.locs, Pt.cells, Pt.slots] at X5 l5 y5 z5 st5 hQ5
    subst l5 y5 z5
    obtain ⟨rfl, Nq5, eq5⟩ := hQ5
    have N5 := Fr.app N4 Nq5
    have e5 : T5.heap = h0 := eq5
    refine own_go st5 ?_
    show Gm p e below T5 m 23 #[iv p0, iv p1, iv p0] [(.int (fE p0)), (.int (fT p0))] _
    refine own_go (fun t k => XS.icmpNo X5.here hx rfl (hb hby at_23) rfl (XT.ii_ne_f (own_same _)) k) ?_
    show Gm p e below T5 m 26 #[iv p0, iv p1, iv p0] [] _
    refine own_go (fun t k => XS.iconst X5.here hx rfl (hb hby at_26) k) ?_
    show Gm p e below T5 m 27 #[iv p0, iv p1, iv p0] [(.int (1 : Int32))] _
    refine own_go (fun t k => XS.goto X5.here hx rfl (pc0 := 27) (pc' := 31) rfl (hb hby at_27) (by decide) (by decide) k) ?_
    show Gm p e below T5 m 31 #[iv p0, iv p1, iv p0] [(.int (1 : Int32))] _
    exact own_retI X5 hx hlk (t := .boolean) Bd.returns rfl (by simp) (hb hby at_31) e5 ⟨rfl, N5⟩ (by decide) (by decide)
set_option maxRecDepth 65536 in
set_option maxHeartbeats 40000000 in
theorem comes_1 {Post : Tables → Env → Array Value → State → Outcome → State → Prop} (hpost : ∀ tb e args s v u, (limb_1_1.after args s (.returned v) u = true ∧ limb_1_2.after args s (.returned v) u = true ∧ True) → FrameEnd s (.returned v) u (Jvm.fieldLocs frame_1_writes args s ++ Jvm.arrayLocs frame_1_arrays args s ++ Jvm.staticLocs frame_1_statics s) 0 0 → Post tb e args s (.returned v) u) :
    ArmFor flags0 classFile x code maxLocals ret World_1 tables_1 room_1 Calls_1 rest_1 Pre_1 Post := by
  intro l hfl _ _ p e ha hc hk s m args below hf hA hF happ hP
  obtain ⟨hcalls, hrest, hpre⟩ := hP
  obtain ⟨-, -, -, hnamed, -, -, -, hat⟩ := (Spec.applies_iff hf).mp happ
  obtain ⟨hg, hn⟩ := and_e (Cond.before_iff.mp (show (Jvm.Cond.and given_1 narrow_1).before args s = true from hpre))
  obtain ⟨g1, g2⟩ := and_e hg
  obtain ⟨g3, g4⟩ := and_e g2
  obtain ⟨w0, w1, rfl⟩ : ∃ w0 w1 : Value, args = #[w0, w1] := by
    have hs : args.size = 2 := by simpa [Cond.value, given_1] using g1
    obtain ⟨L⟩ := args
    match L, hs with
    | [w0, w1], _ => exact ⟨w0, w1, rfl⟩
  have hw := fun d (hd : d ∈ tables_1) => atoms_spec (ws := Jvm.Cond.code x code maxLocals ret :: tables_1) hat d (List.mem_cons_of_mem _ hd)
  have hfit : Fit s := fun {y c} hc i hi => by
    obtain ⟨ha, rfl⟩ := Array.getElem?_eq_some_iff.mp hc
    have q := List.all_eq_true.mp ((Array.all_eq_true_iff_forall_mem.mp hF) _ (Array.getElem_mem ha)) i (List.mem_range.mpr hi)
    simpa [Array.getElem?_eq_getElem hi] using q
  obtain ⟨i0, ei0⟩ := is_v g3
  obtain rfl : w0 = (.int i0) := Option.some.inj ei0
  obtain ⟨i1, ei1⟩ := is_v g4
  obtain rfl : w1 = (.int i1) := Option.some.inj ei1
  obtain ⟨n, o, h1, h2, h3, _, L, rfl, ⟨rfl, N⟩, hq⟩ := rm0 l s _ hw tables_1 i0 i1  s.heap s.heap.size (Nat.le_refl _)  p e ha hc hk s m _ below hf ((Spec.applies_iff_loose hf).mp happ).1 ⟨rfl, State.Warmed39.refl s, rfl⟩ trivial
  refine ⟨n, _, h1, h2, h3, hpost _ _ _ _ _ _ ⟨Cond.after_iff.mpr rfl, Cond.after_iff.mpr (eq_i res_at (Term.int_eval (1)) rfl), trivial⟩ ⟨hq.1, hq.2.1, (hq.2.2.sift fun y hy => Or.inr (N y hy)).mono (by decide) (by decide)⟩⟩
theorem main_1_1 : Claimed_1_1 := comes_1 fun _ _ _ _ _ _ h hF => ⟨h.1, hF⟩
theorem main_1_2 : Claimed_1_2 := comes_1 fun _ _ _ _ _ _ h hF => ⟨h.2.1, hF⟩
end Jvm.Pilot.@@N@@
namespace Jvm.Pilot.@@N@@
open Jvm Jvm.ClassFile Sem Op Lib Jvm.Free Jvm.Stand Jvm.Pilot.@@N@@.Jvm.D
/-! MADE BY PROGRAM (witnessworld.py) out of the Statement's table words and the real class files: 9 classes; the members and pool entries that the words name. The judged class is class 1, her method 2. -/
namespace start1
open Jvm.ClassFile
def u (s : String) : CpInfo := .utf8 (stringToUtf16 s)
/-- a pool by its gaps: so many unusable entries, then the entry; so many at the end -/
def gap : Nat → List CpInfo → List CpInfo
  | 0, r => r
  | n + 1, r => .unusable :: gap n r
def poolList (es : List (Nat × CpInfo)) (last : Nat) : List CpInfo := es.foldr (fun e r => gap e.1 (e.2 :: r)) (gap last [])
def pool (es : List (Nat × CpInfo)) (last : Nat) : Array CpInfo := ⟨poolList es last⟩
def fileOf (pool : Array CpInfo) (this : Nat) (attrs : Array Attribute := #[]) (ms : Array MethodInfo := #[]) (fl : Nat := 33) (sup : Nat := 0) (ifs : Array Nat := #[]) (fds : Array FieldInfo := #[]) : ClassFile where
  minorVersion := 0
  majorVersion := 65
  constantPool := pool
  accessFlags := fl
  thisClass := this
  superClass := sup
  interfaces := ifs
  fields := fds
  methods := ms
  attributes := attrs
def plain (name : String) (sup : Option ClassId) : Class where
  name := name
  kind := .ordinary
  loader := none
  accessFlags := 33
  super := sup
  interfaces := #[]
  cf := none
  fields := #[]
  methods := #[]
  instanceTypes := #[]
  staticTypes := #[]
  resolved := #[]
  callSites := []
  init := .initialized
  statics := none
  mirror := none

def pool0 : Array CpInfo := pool [(5, u "<init>"), (0, u "()V"), (1, .class_ 10), (1, u "java/lang/Object")] 113

def k0m0 : Method := { name := "<init>", desc := "()V", sig := { parameters := [], returnType := none }, accessFlags := 1, code := none }
/-- java/lang/Object -/
def k0 : Class := { plain "java/lang/Object" none with
  accessFlags := 33
  interfaces := #[]
  cf := some (fileOf pool0 8 #[] #[{ accessFlags := 1, nameIndex := 5, descriptorIndex := 6, attributes := #[] }] 33 0 #[] #[])
  fields := #[]
  methods := #[k0m0]
  instanceTypes := #[]
  staticTypes := #[]
  resolved := Array.replicate 124 none
  statics := none }

def pool1 : Array CpInfo := pool [(2, .class_ 4), (1, u "java/lang/Object"), (0, u "<init>"), (0, u "()V"), (0, .methodref 8 9), (0, .class_ 10), (0, .nameAndType 11 12), (0, u "com/example/data_in_bounds/datainbounds/content/XmlEvents"), (0, u "isText"), (0, u "(I)Z"), (0, .methodref 14 15), (0, .class_ 16), (0, .nameAndType 17 12), (0, u "com/example/data_in_bounds/datainbounds/content/XmlEventsIsTextPinLaw"), (0, u "expected"), (3, u "law"), (0, u "(II)Z")] 2

def k1m0 : Method := { name := "<init>", desc := "()V", sig := { parameters := [], returnType := none }, accessFlags := 2, code := none }
def k1c1 : Code := { maxStack := 2, maxLocals := 1, code := method_2_code, exceptionTable := #[], attributes := #[] }
def k1m1 : Method := { name := "expected", desc := "(I)Z", sig := { parameters := [.int], returnType := some .boolean }, accessFlags := 10, code := some k1c1 }
def k1c2 : Code := { maxStack := 2, maxLocals := 3, code := code, exceptionTable := #[], attributes := #[] }
def k1m2 : Method := { name := "law", desc := "(II)Z", sig := { parameters := [.int, .int], returnType := some .boolean }, accessFlags := 9, code := some k1c2 }
/-- com/example/data_in_bounds/datainbounds/content/XmlEventsIsTextPinLaw -/
def k1 : Class := { plain "com/example/data_in_bounds/datainbounds/content/XmlEventsIsTextPinLaw" (some 0) with
  accessFlags := 49
  interfaces := #[]
  cf := some (fileOf pool1 14 #[] #[{ accessFlags := 2, nameIndex := 5, descriptorIndex := 6, attributes := #[] }, { accessFlags := 10, nameIndex := 17, descriptorIndex := 12, attributes := #[] }, { accessFlags := 9, nameIndex := 21, descriptorIndex := 22, attributes := #[] }] 49 2 #[] #[])
  fields := #[]
  methods := #[k1m0, k1m1, k1m2]
  instanceTypes := #[]
  staticTypes := #[]
  resolved := Array.replicate 25 none
  statics := none }

def pool2 : Array CpInfo := pool [(2, .class_ 4), (1, u "java/lang/Object"), (0, u "<init>"), (0, u "()V"), (15, .class_ 24), (1, u "com/example/data_in_bounds/datainbounds/content/XmlEvents"), (82, u "NOT_WELL_FORMED"), (0, u "Ljava/lang/String;"), (5, u "isText"), (0, u "(I)Z")] 39

def k2m0 : Method := { name := "<init>", desc := "()V", sig := { parameters := [], returnType := none }, accessFlags := 2, code := none }
def k2c1 : Code := { maxStack := 2, maxLocals := 1, code := prog_40_method_2_code, exceptionTable := #[], attributes := #[] }
def k2m1 : Method := { name := "isText", desc := "(I)Z", sig := { parameters := [.int], returnType := some .boolean }, accessFlags := 8, code := some k2c1 }
/-- com/example/data_in_bounds/datainbounds/content/XmlEvents -/
def k2 : Class := { plain "com/example/data_in_bounds/datainbounds/content/XmlEvents" (some 0) with
  accessFlags := 48
  interfaces := #[]
  cf := some (fileOf pool2 22 #[] #[{ accessFlags := 2, nameIndex := 5, descriptorIndex := 6, attributes := #[] }, { accessFlags := 8, nameIndex := 114, descriptorIndex := 115, attributes := #[] }] 48 2 #[] #[{ accessFlags := 24, nameIndex := 107, descriptorIndex := 108, attributes := #[] }])
  fields := #[{ name := "NOT_WELL_FORMED", type := (.object "java/lang/String"), accessFlags := 24, slot := 0, constantValue := 0 }]
  methods := #[k2m0, k2m1]
  instanceTypes := #[]
  staticTypes := #[(.object "java/lang/String")]
  resolved := Array.replicate 155 none
  statics := none }

def pool3 : Array CpInfo := pool [(1, u "java/lang/Cloneable"), (0, .class_ 1), (0, u "java/lang/Object"), (0, .class_ 3)] 3

/-- java/lang/Cloneable -/
def k3 : Class := { plain "java/lang/Cloneable" (some 0) with
  accessFlags := 1537
  interfaces := #[]
  cf := some (fileOf pool3 2 #[] #[] 1537 4 #[] #[])
  fields := #[]
  methods := #[]
  instanceTypes := #[]
  staticTypes := #[]
  resolved := Array.replicate 8 none
  statics := none }

def pool4 : Array CpInfo := pool [(1, u "java/io/Serializable"), (0, .class_ 1), (0, u "java/lang/Object"), (0, .class_ 3)] 3

/-- java/io/Serializable -/
def k4 : Class := { plain "java/io/Serializable" (some 0) with
  accessFlags := 1537
  interfaces := #[]
  cf := some (fileOf pool4 2 #[] #[] 1537 4 #[] #[])
  fields := #[]
  methods := #[]
  instanceTypes := #[]
  staticTypes := #[]
  resolved := Array.replicate 8 none
  statics := none }

/-- the primitive byte -/
def k5 : Class := { plain "byte" none with kind := .primitive 'B', accessFlags := 0x411 }
/-- [B -/
def k6 : Class := { plain "[B" (some 0) with kind := .array 5 .byte, interfaces := #[3, 4], accessFlags := 1041 }

/-- the primitive int -/
def k7 : Class := { plain "int" none with kind := .primitive 'I', accessFlags := 0x411 }
/-- [I -/
def k8 : Class := { plain "[I" (some 0) with kind := .array 7 .int, interfaces := #[3, 4], accessFlags := 1041 }

def heap : Heap := #[]
def classes : Array Class := #[k0, k1, k2, k3, k4, k5, k6, k7, k8]
def interned : List (Array UInt16 × Addr) := []
def slotsUsed : Nat := 0
def theMethod : MethodId := ⟨1, 2⟩
def args0 : Array Value := #[.int 5, .int 3]
def aboutOver (below : List Frame) : State where
  vm := { classes := classes, interned := interned.toArray }
  heap := heap
  slotsUsed := slotsUsed
  threads := #[{ frames := .invoking theMethod args0 :: below }]
def below0 : List Frame := [.native { method := ⟨0, 0⟩, args := #[] }]
def about1 : State := aboutOver below0
def p0 : Program := .bare "" "" ""
def e0 : Env := launch0.env 0 0 0
theorem w_frames : about1.frames = Frame.invoking theMethod args0 :: below0 := rfl
set_option maxRecDepth 65536 in
theorem w_args : argsFit about1.vm theMethod args0 = true := by decide +kernel
set_option maxRecDepth 65536 in
theorem w_heap : heapFits about1 = true := by decide +kernel
set_option maxRecDepth 65536 in
theorem w_runnable : about1.curStatus? = some .runnable := by decide +kernel
set_option maxRecDepth 65536 in
theorem w_alone : about1.alone = true := by decide +kernel
set_option maxRecDepth 65536 in
theorem w_named : about1.methodNamed? x = some theMethod := by decide +kernel
set_option maxRecDepth 65536 in
theorem w_hears : about1.hears theMethod below0 = true := by decide +kernel
set_option maxRecDepth 65536 in
theorem w_ripe : about1.ripe theMethod args0 below0 = true := by decide +kernel
theorem w_running : about1.status = .running := rfl
set_option maxRecDepth 65536 in
theorem w_room : about1.hasRoom e0.platform room_1 = true :=
  launch0.hasRoom_least _ room_1 (by decide +kernel) (by decide +kernel) (by decide +kernel) (by decide +kernel) (by decide +kernel) (by decide +kernel)
theorem allAtoms_all (ts : List Jvm.Cond) (a : Array Jvm.Value) (st : Jvm.State) : (allAtoms ts).before a st = ts.all (fun c => c.before a st) := by
  induction ts with
  | nil => rfl
  | cons c t ih =>
    show (Jvm.Cond.and c (allAtoms t)).before a st = _
    rw [Jvm.Cond.before_and, ih, List.all_cons]
def words1 : List Jvm.Cond := Jvm.Cond.code x code maxLocals ret :: tables_1
/-- a 'code' word, met by the world's own term for the bytes: nothing is compared byte by byte -/
theorem code_word {y : MethodName} {bytes : ByteArray} {mx : Nat} {rt : Option FieldType} {a : Array Value} {s : State} {m : MethodId} {meth : Method} {c : Code} (h1 : s.methodNamed? y = some m) (h2 : s.vm.method? m = some meth) (h3 : meth.code = some c) (h4 : c.code = bytes)
    (h5 : (c.maxLocals == mx && c.exceptionTable.isEmpty && decide (c.maxStack ≤ mostOperands) && decide (meth.sig.returnType = rt) && !meth.locks && decide (parseMethodDescriptor y.desc = some meth.sig)) = true) : (Jvm.Cond.code y bytes mx rt).before a s = true := by
  simp only [Bool.and_eq_true, beq_iff_eq, Bool.not_eq_true', decide_eq_true_eq] at h5
  obtain ⟨⟨⟨⟨⟨g1, g2⟩, g3⟩, g4⟩, g5⟩, g6⟩ := h5
  simp [Cond.before, Cond.holds, Cond.value, h1, h2, h3, h4, g1, g2, g3, g4, g5, g6]
def isCode : Jvm.Cond → Bool
  | .code _ _ _ _ => true
  | _ => false
theorem all_split {L : List Jvm.Cond} {P : Jvm.Cond → Bool} (h1 : L.all (fun c => isCode c || P c) = true) (h2 : ∀ c ∈ L.filter isCode, P c = true) : L.all P = true := by
  refine List.all_eq_true.mpr fun c hc => ?_
  have h := List.all_eq_true.mp h1 c hc
  rcases Bool.eq_false_or_eq_true (isCode c) with hi | hi
  · exact h2 c (List.mem_filter.mpr ⟨hc, hi⟩)
  · simpa [hi] using h
set_option maxRecDepth 65536 in
theorem w_c0 : (Jvm.Cond.code x code maxLocals ret).before args0 about1 = true := code_word (m := ⟨1, 2⟩) (meth := k1m2) (c := k1c2) (by decide +kernel) rfl rfl rfl (by decide +kernel)
set_option maxRecDepth 65536 in
theorem w_c1 : (Jvm.Cond.code ({ cls := "com/example/data_in_bounds/datainbounds/content/XmlEvents", name := "isText", desc := "(I)Z" } : Jvm.MethodName) prog_40_method_2_code (1 : Nat) (Option.some Jvm.ClassFile.FieldType.boolean)).before args0 about1 = true := code_word (m := ⟨2, 1⟩) (meth := k2m1) (c := k2c1) (by decide +kernel) rfl rfl rfl (by decide +kernel)
set_option maxRecDepth 65536 in
theorem w_c2 : (Jvm.Cond.code ({ cls := "com/example/data_in_bounds/datainbounds/content/XmlEventsIsTextPinLaw", name := "expected", desc := "(I)Z" } : Jvm.MethodName) method_2_code (1 : Nat) (Option.some Jvm.ClassFile.FieldType.boolean)).before args0 about1 = true := code_word (m := ⟨1, 1⟩) (meth := k1m1) (c := k1c1) (by decide +kernel) rfl rfl rfl (by decide +kernel)
def codes1 : List Jvm.Cond := [Jvm.Cond.code x code maxLocals ret, Jvm.Cond.code ({ cls := "com/example/data_in_bounds/datainbounds/content/XmlEvents", name := "isText", desc := "(I)Z" } : Jvm.MethodName) prog_40_method_2_code (1 : Nat) (Option.some Jvm.ClassFile.FieldType.boolean), Jvm.Cond.code ({ cls := "com/example/data_in_bounds/datainbounds/content/XmlEventsIsTextPinLaw", name := "expected", desc := "(I)Z" } : Jvm.MethodName) method_2_code (1 : Nat) (Option.some Jvm.ClassFile.FieldType.boolean)]
set_option maxRecDepth 65536 in
theorem codes_eq : words1.filter isCode = codes1 := rfl
theorem w_codes : ∀ c ∈ words1.filter isCode, c.before args0 about1 = true := by
  rw [codes_eq]
  intro c hc
  simp only [codes1, List.mem_cons, List.not_mem_nil, or_false] at hc
  rcases hc with rfl | rfl | rfl
  · exact w_c0
  · exact w_c1
  · exact w_c2
set_option maxRecDepth 65536 in
theorem w_t1 : words1.all (fun c => isCode c || c.before args0 about1) = true := by decide +kernel
theorem w_tables : (allAtoms (Jvm.Cond.code x code maxLocals ret :: tables_1)).before args0 about1 = true := by
  rw [allAtoms_all]
  show words1.all (fun c => c.before args0 about1) = true
  refine all_split ?_ w_codes
  rw [w_t1]
set_option maxRecDepth 65536 in
theorem w_case : (Jvm.Cond.and given_1 narrow_1).before args0 about1 = true := by decide +kernel
theorem w_applies : (headSpec (Jvm.Cond.code x code maxLocals ret :: tables_1) room_1).applies x e0.platform about1 = true :=
  (Spec.applies_iff w_frames).mpr ⟨w_running, w_runnable, w_alone, w_named, w_hears, w_ripe, w_room, w_tables⟩
theorem atStart : AtStart classFile x code maxLocals ret World_1 tables_1 room_1 Calls_1 rest_1 Pre_1 launch0 p0 e0 about1 theMethod args0 below0 :=
  ⟨lists_1, trivial, launch0.admits_env _ _ _, launch0.least_env, fairChoices_fair.cas, fairChoices_fair.clock, w_frames, w_args, w_heap, w_applies, trivial, trivial, w_case⟩
end start1
theorem witness_1 : WitnessClaimed_1 := ⟨start1.p0, start1.e0, start1.about1, start1.theMethod, start1.args0, start1.below0, start1.atStart⟩
end Jvm.Pilot.@@N@@
