import JvmDerived
import JvmDerived.Pilot.@@N@@Statement
import JvmDerived.Pilot.@@N@@Code
set_option linter.unusedVariables false
set_option linter.unusedSimpArgs false
namespace Jvm.Pilot.@@N@@
open Jvm Jvm.ClassFile Sem Op Lib Jvm.Free Jvm.Stand Jvm.LawKit Jvm.RoadKit Bundle Jvm.Pilot.@@N@@.Jvm.D
def Go (p : Program) (e : Env) (below : List Frame) (S : State) (P : State → Outcome → Prop) : Prop := ∃ t o, Steps p.tables e below S t ∧ P t o
abbrev Gm (p : Program) (e : Env) (below : List Frame) (T : State) (m : MethodId) (pc : Nat) (ls : Array Slot) (st : List Value) (P : State → Outcome → Prop) : Prop := Go p e below (T.setTop (mkF m pc ls st)) P
abbrev lv (x : Int64) : Slot := .val (.long x)
theorem own_in {p : Program} {e : Env} {below : List Frame} {T : State} {g g' : JFrame} {P : State → Outcome → Prop} (q : g = g') (h : Go p e below (T.setTop g') P) : ∃ s₂ o, Steps p.tables e below (T.setTop g) s₂ ∧ P s₂ o := q ▸ h
theorem own_go {p : Program} {e : Env} {below : List Frame} {S S' : State} {P : State → Outcome → Prop} (k : ∀ t, Steps p.tables e below S' t → Steps p.tables e below S t) (h : Go p e below S' P) : Go p e below S P := by
  obtain ⟨t, o, h1, h2⟩ := h
  exact ⟨t, o, k t h1, h2⟩
section Rets
variable {p : Program} {l : Launch} {e : Env} {R : Room} {s : State} {m : MethodId} {args : Array Value} {below : List Frame} {meth : Method} {c : Code} {T : State} {locs : List Loc} {cells slots : Nat}
theorem own_retI (X : Stand p l e R s m args below meth c T locs cells slots) (hx : p.tables.exec = Jvm.exec) (hlk : meth.locks = false) {pc : Nat} {Ls : Array Slot} {z : Int32} {t : FieldType} {Q : Option Value → Heap → List Loc → Prop} {C N : Nat} (hret : meth.sig.returnType = some t) (hn : narrow t (.int z) = .int z) (ht : t = .int ∨ t = .boolean ∨ t = .byte ∨ t = .char ∨ t = .short)
    (hd : decode c.code pc = .ok (.ireturn, 1)) {h : Heap} (eh : T.heap = h) (hq : Q (some (.int z)) h locs) (hC : cells ≤ C) (hN : slots ≤ N) : Go p e below (T.setTop (mkF m pc Ls [.int z])) (fun t o => t.status = .running ∧ Ended t below o ∧ ∃ v L, o = .returned v ∧ Q v t.heap L ∧ FrameEnd s o t L C N) := by
  subst eh
  obtain ⟨fs, hr, hrun, hended, hW, hsame⟩ := X.leave (v := some (.int z)) (fun h => by rw [hret] at h; cases h) hlk
  exact ⟨_, _, X.ireturnOut hx hret hn ht hd hr, hrun, hended, _, _, rfl, hq, ⟨_, rfl⟩, hW, hsame.mono hC hN⟩
theorem own_retL (X : Stand p l e R s m args below meth c T locs cells slots) (hx : p.tables.exec = Jvm.exec) (hlk : meth.locks = false) {pc : Nat} {Ls : Array Slot} {z : Int64} {Q : Option Value → Heap → List Loc → Prop} {C N : Nat} (hret : meth.sig.returnType = some .long)
    (hd : decode c.code pc = .ok (.lreturn, 1)) {h : Heap} (eh : T.heap = h) (hq : Q (some (.long z)) h locs) (hC : cells ≤ C) (hN : slots ≤ N) : Go p e below (T.setTop (mkF m pc Ls [.long z])) (fun t o => t.status = .running ∧ Ended t below o ∧ ∃ v L, o = .returned v ∧ Q v t.heap L ∧ FrameEnd s o t L C N) := by
  subst eh
  obtain ⟨fs, hr, hrun, hended, hW, hsame⟩ := X.leave (v := some (.long z)) (fun h => by rw [hret] at h; cases h) hlk
  exact ⟨_, _, X.lreturnOut hx hret hd hr, hrun, hended, _, _, rfl, hq, ⟨_, rfl⟩, hW, hsame.mono hC hN⟩
theorem own_retA (X : Stand p l e R s m args below meth c T locs cells slots) (hx : p.tables.exec = Jvm.exec) (hlk : meth.locks = false) {pc : Nat} {Ls : Array Slot} {w : Value} {t : FieldType} {Q : Option Value → Heap → List Loc → Prop} {C N : Nat} (hw : w.isRef = true) (hret : meth.sig.returnType = some t) (ht : t.isReference = true)
    (hd : decode c.code pc = .ok (.areturn, 1)) {h : Heap} (eh : T.heap = h) (hq : Q (some w) h locs) (hC : cells ≤ C) (hN : slots ≤ N) : Go p e below (T.setTop (mkF m pc Ls [w])) (fun t o => t.status = .running ∧ Ended t below o ∧ ∃ v L, o = .returned v ∧ Q v t.heap L ∧ FrameEnd s o t L C N) := by
  subst eh
  obtain ⟨fs, hr, hrun, hended, hW, hsame⟩ := X.leave (v := some w) (fun h => by rw [hret] at h; cases h) hlk
  exact ⟨_, _, X.areturnOut hx hw hret ht hd hr, hrun, hended, _, _, rfl, hq, ⟨_, rfl⟩, hW, hsame.mono hC hN⟩
theorem own_retV (X : Stand p l e R s m args below meth c T locs cells slots) (hx : p.tables.exec = Jvm.exec) (hlk : meth.locks = false) {pc : Nat} {Ls : Array Slot} {Q : Option Value → Heap → List Loc → Prop} {C N : Nat} (hret : meth.sig.returnType = none)
    (hd : decode c.code pc = .ok (.return_, 1)) {h : Heap} (eh : T.heap = h) (hq : Q none h locs) (hC : cells ≤ C) (hN : slots ≤ N) : Go p e below (T.setTop (mkF m pc Ls [])) (fun t o => t.status = .running ∧ Ended t below o ∧ ∃ v L, o = .returned v ∧ Q v t.heap L ∧ FrameEnd s o t L C N) := by
  subst eh
  obtain ⟨fs, hr, hrun, hended, hW, hsame⟩ := X.leave (v := none) (fun _ => rfl) hlk
  exact ⟨_, _, X.returnOut hx hret hd hr, hrun, hended, _, _, rfl, hq, ⟨_, rfl⟩, hW, hsame.mono hC hN⟩
end Rets
theorem own_eqI {args : Array Value} {first s : State} {o : Option Outcome} {idx : List Nat} {a : Term} {k : Int32} (h : (Jvm.Cond.eq a (.int k)).value args first o s idx = some true) : a.eval args first o idx s = some (.int k) := by
  cases ha : a.eval args first o idx s with
  | none => simp [Cond.value, ha, Term.eval] at h
  | some v => cases v <;> simp [Cond.value, ha, Term.eval] at h <;> first | (subst h; rfl) | (rw [h])
theorem d1_0 : decode method_2_code 0 = .ok (.iload_n 0, 1) := by decide +kernel
theorem d1_1 : decode method_2_code 1 = .ok (.ifCond .ne 7, 3) := by decide +kernel
theorem d1_4 : decode method_2_code 4 = .ok (.getstatic 7, 3) := by decide +kernel
theorem d1_7 : decode method_2_code 7 = .ok (.areturn, 1) := by decide +kernel
theorem d1_8 : decode method_2_code 8 = .ok (.iload_n 0, 1) := by decide +kernel
theorem d1_9 : decode method_2_code 9 = .ok (.iconst 1, 1) := by decide +kernel
theorem d1_10 : decode method_2_code 10 = .ok (.if_icmp .ne 7, 3) := by decide +kernel
theorem d1_13 : decode method_2_code 13 = .ok (.getstatic 13, 3) := by decide +kernel
theorem d1_16 : decode method_2_code 16 = .ok (.areturn, 1) := by decide +kernel
theorem d1_17 : decode method_2_code 17 = .ok (.iload_n 0, 1) := by decide +kernel
theorem d1_18 : decode method_2_code 18 = .ok (.iconst 2, 1) := by decide +kernel
theorem d1_19 : decode method_2_code 19 = .ok (.if_icmp .ne 7, 3) := by decide +kernel
theorem d1_22 : decode method_2_code 22 = .ok (.getstatic 16, 3) := by decide +kernel
theorem d1_25 : decode method_2_code 25 = .ok (.areturn, 1) := by decide +kernel
theorem d1_26 : decode method_2_code 26 = .ok (.iload_n 0, 1) := by decide +kernel
theorem d1_27 : decode method_2_code 27 = .ok (.iconst 3, 1) := by decide +kernel
theorem d1_28 : decode method_2_code 28 = .ok (.if_icmp .ne 7, 3) := by decide +kernel
theorem d1_31 : decode method_2_code 31 = .ok (.getstatic 19, 3) := by decide +kernel
theorem d1_34 : decode method_2_code 34 = .ok (.areturn, 1) := by decide +kernel
theorem d1_35 : decode method_2_code 35 = .ok (.getstatic 22, 3) := by decide +kernel
theorem d1_38 : decode method_2_code 38 = .ok (.areturn, 1) := by decide +kernel
theorem own_pn_rm1 : plainName "com/example/data_in_bounds/datainbounds/constraint/LevelMakesInvalidPinLaw" = true := by first | (simp [plainName, overriddenIn]; done) | decide +kernel
theorem own_ef_rm1 (m : MethodId) (p0 : Int32) : entryFrame m #[(.int p0)] 1 = mkF m 0 #[.val (.int p0)] [] := by first | (simp [entryFrame, mkF, argsToLocals, Value.category]; done) | rfl
def fP (p0 : Int32) (wC : Addr) (wE : Addr) (wW : Addr) (wI : Addr) (wD : Addr) : Addr := if p0 = (0 : Int32) then wC else (if p0 = (1 : Int32) then wE else (if p0 = (2 : Int32) then wW else (if p0 = (3 : Int32) then wI else (wD))))
def Q1 (Z : State) (p0 : Int32) (wC : Addr) (wE : Addr) (wW : Addr) (wI : Addr) (wD : Addr) (h0 : Heap) (n0 : Nat) (v : Option Value) (h : Heap) (L : List Loc) : Prop := v = some (.ref (fP p0 wC wE wW wI wD)) ∧ Fr n0 L ∧ h = h0
set_option maxRecDepth 65536 in
set_option maxHeartbeats 40000000 in
theorem rm1 (l : Launch) (Z : State) (a0 : Array Value) (hw : ∀ d ∈ tables_1, d.before a0 Z = true) (ws : List Jvm.Cond) (p0 : Int32) (wC : Addr) (wE : Addr) (wW : Addr) (wI : Addr) (wD : Addr) (h0 : Heap) (n0 : Nat) (Z0 : n0 ≤ h0.size) (S_wC : Sta Z h0 "com/example/data_in_bounds/datainbounds/constraint/Level" "CRITICAL" "Lcom/example/data_in_bounds/datainbounds/constraint/Level;" (.ref wC)) (S_wE : Sta Z h0 "com/example/data_in_bounds/datainbounds/constraint/Level" "ERROR" "Lcom/example/data_in_bounds/datainbounds/constraint/Level;" (.ref wE)) (S_wW : Sta Z h0 "com/example/data_in_bounds/datainbounds/constraint/Level" "WARNING" "Lcom/example/data_in_bounds/datainbounds/constraint/Level;" (.ref wW)) (S_wI : Sta Z h0 "com/example/data_in_bounds/datainbounds/constraint/Level" "INFORMATIONAL" "Lcom/example/data_in_bounds/datainbounds/constraint/Level;" (.ref wI)) (S_wD : Sta Z h0 "com/example/data_in_bounds/datainbounds/constraint/Level" "DEBUG" "Lcom/example/data_in_bounds/datainbounds/constraint/Level;" (.ref wD)) :
    MetFree l (⟨"com/example/data_in_bounds/datainbounds/constraint/LevelMakesInvalidPinLaw", "pick", "(I)Lcom/example/data_in_bounds/datainbounds/constraint/Level;"⟩ : MethodName) (head1 (Jvm.Cond.code (⟨"com/example/data_in_bounds/datainbounds/constraint/LevelMakesInvalidPinLaw", "pick", "(I)Lcom/example/data_in_bounds/datainbounds/constraint/Level;"⟩ : MethodName) method_2_code 1 (some (.object "com/example/data_in_bounds/datainbounds/constraint/Level")) :: ws) ({ frames := 0, cells := 0, slots := 0, locals := 0 } : Room)) (fun a U => a = #[(.int p0)] ∧ Z.Warmed39 U.vm ∧ U.heap = h0) (fun _ _ _ _ _ => True) (fun _ U o U' => ∃ v L, o = .returned v ∧ Q1 Z p0 wC wE wW wI wD h0 n0 v U'.heap L ∧ FrameEnd U o U' L ({ frames := 0, cells := 0, slots := 0, locals := 0 } : Room).cells ({ frames := 0, cells := 0, slots := 0, locals := 0 } : Room).slots) := by
  refine MetFree.of_bodySF (plainFor_of_name own_pn_rm1) hisR ?_
  intro p e s m args below meth c s₁ Bd hml0 hP hK
  obtain ⟨rfl, hZ, hh⟩ := hP
  have hx := Bd.exec
  have hby := Bd.bytes
  have hml : c.maxLocals = 1 := hml0
  have hown : s.vm.findClass "com/example/data_in_bounds/datainbounds/constraint/LevelMakesInvalidPinLaw" = some m.cls := findClass_of_methodNamed Bd.named
  have hnm := (name_of_methodNamed Bd.named Bd.method).1
  have hlk : meth.locks = false := BodyLoose.notSynchronized Bd
  have X0 : Stand p l e ({ frames := 0, cells := 0, slots := 0, locals := 0 } : Room) s m #[(.int p0)] below meth c s₁ [] 0 0 := Stand.of_body Bd
  have e0 : s₁.heap = h0 := by rw [← hh, Bd.state]; rfl
  have N0 := Fr.nil n0
  refine own_in (own_ef_rm1 m p0) ?_
  show Gm p e below s₁ m 0 #[iv p0] [] _
  refine own_go (fun t k => XS.iloadN X0.here hx rfl (hb hby d1_0) rfl k) ?_
  show Gm p e below s₁ m 1 #[iv p0] [(.int p0)] _
  by_cases c1 : p0 = (0 : Int32)
  · have hfork := trivial
    refine own_go (fun t k => XS.ifNo X0.here hx rfl (hb hby d1_1) rfl (XT.i0_ne_f c1) k) ?_
    show Gm p e below s₁ m 4 #[iv p0] [] _
    obtain ⟨T2, X2, e2, st2⟩ := getS2 X0 hx hZ hown (host := "") (Or.inl (hw _ (List.mem_of_getElem? (i := 5) rfl))) Via.refl e0 S_wC (g := (mkF m 4 #[iv p0] [])) rfl (hb hby d1_4)
    refine own_go st2 ?_
    show Gm p e below T2 m 7 #[iv p0] [(.ref wC)] _
    exact own_retA X2 hx hlk rfl Bd.returns rfl (hb hby d1_7) e2 ⟨(by unfold fP; rw [if_pos c1]), N0, rfl⟩ (by decide) (by decide)
  · have hfork := trivial
    refine own_go (fun t k => XS.ifYes X0.here hx rfl (pc0 := 1) (pc' := 8) rfl (hb hby d1_1) rfl (XT.i0_ne_t c1) (by decide) (by decide) k) ?_
    show Gm p e below s₁ m 8 #[iv p0] [] _
    refine own_go (fun t k => XS.iloadN X0.here hx rfl (hb hby d1_8) rfl k) ?_
    show Gm p e below s₁ m 9 #[iv p0] [(.int p0)] _
    refine own_go (fun t k => XS.iconst X0.here hx rfl (hb hby d1_9) k) ?_
    show Gm p e below s₁ m 10 #[iv p0] [(.int (1 : Int32)), (.int p0)] _
    by_cases c3 : p0 = (1 : Int32)
    · have hfork := trivial
      refine own_go (fun t k => XS.icmpNo X0.here hx rfl (hb hby d1_10) rfl (XT.ii_ne_f c3) k) ?_
      show Gm p e below s₁ m 13 #[iv p0] [] _
      obtain ⟨T4, X4, e4, st4⟩ := getS2 X0 hx hZ hown (host := "") (Or.inl (hw _ (List.mem_of_getElem? (i := 18) rfl))) Via.refl e0 S_wE (g := (mkF m 13 #[iv p0] [])) rfl (hb hby d1_13)
      refine own_go st4 ?_
      show Gm p e below T4 m 16 #[iv p0] [(.ref wE)] _
      exact own_retA X4 hx hlk rfl Bd.returns rfl (hb hby d1_16) e4 ⟨(by unfold fP; rw [if_neg c1, if_pos c3]), N0, rfl⟩ (by decide) (by decide)
    · have hfork := trivial
      refine own_go (fun t k => XS.icmpYes X0.here hx rfl (pc0 := 10) (pc' := 17) rfl (hb hby d1_10) rfl (XT.ii_ne_t c3) (by decide) (by decide) k) ?_
      show Gm p e below s₁ m 17 #[iv p0] [] _
      refine own_go (fun t k => XS.iloadN X0.here hx rfl (hb hby d1_17) rfl k) ?_
      show Gm p e below s₁ m 18 #[iv p0] [(.int p0)] _
      refine own_go (fun t k => XS.iconst X0.here hx rfl (hb hby d1_18) k) ?_
      show Gm p e below s₁ m 19 #[iv p0] [(.int (2 : Int32)), (.int p0)] _
      by_cases c5 : p0 = (2 : Int32)
      · have hfork := trivial
        refine own_go (fun t k => XS.icmpNo X0.here hx rfl (hb hby d1_19) rfl (XT.ii_ne_f c5) k) ?_
        show Gm p e below s₁ m 22 #[iv p0] [] _
        obtain ⟨T6, X6, e6, st6⟩ := getS2 X0 hx hZ hown (host := "") (Or.inl (hw _ (List.mem_of_getElem? (i := 21) rfl))) Via.refl e0 S_wW (g := (mkF m 22 #[iv p0] [])) rfl (hb hby d1_22)
        refine own_go st6 ?_
        show Gm p e below T6 m 25 #[iv p0] [(.ref wW)] _
        exact own_retA X6 hx hlk rfl Bd.returns rfl (hb hby d1_25) e6 ⟨(by unfold fP; rw [if_neg c1, if_neg c3, if_pos c5]), N0, rfl⟩ (by decide) (by decide)
      · have hfork := trivial
        refine own_go (fun t k => XS.icmpYes X0.here hx rfl (pc0 := 19) (pc' := 26) rfl (hb hby d1_19) rfl (XT.ii_ne_t c5) (by decide) (by decide) k) ?_
        show Gm p e below s₁ m 26 #[iv p0] [] _
        refine own_go (fun t k => XS.iloadN X0.here hx rfl (hb hby d1_26) rfl k) ?_
        show Gm p e below s₁ m 27 #[iv p0] [(.int p0)] _
        refine own_go (fun t k => XS.iconst X0.here hx rfl (hb hby d1_27) k) ?_
        show Gm p e below s₁ m 28 #[iv p0] [(.int (3 : Int32)), (.int p0)] _
        by_cases c7 : p0 = (3 : Int32)
        · have hfork := trivial
          refine own_go (fun t k => XS.icmpNo X0.here hx rfl (hb hby d1_28) rfl (XT.ii_ne_f c7) k) ?_
          show Gm p e below s₁ m 31 #[iv p0] [] _
          obtain ⟨T8, X8, e8, st8⟩ := getS2 X0 hx hZ hown (host := "") (Or.inl (hw _ (List.mem_of_getElem? (i := 14) rfl))) Via.refl e0 S_wI (g := (mkF m 31 #[iv p0] [])) rfl (hb hby d1_31)
          refine own_go st8 ?_
          show Gm p e below T8 m 34 #[iv p0] [(.ref wI)] _
          exact own_retA X8 hx hlk rfl Bd.returns rfl (hb hby d1_34) e8 ⟨(by unfold fP; rw [if_neg c1, if_neg c3, if_neg c5, if_pos c7]), N0, rfl⟩ (by decide) (by decide)
        · have hfork := trivial
          refine own_go (fun t k => XS.icmpYes X0.here hx rfl (pc0 := 28) (pc' := 35) rfl (hb hby d1_28) rfl (XT.ii_ne_t c7) (by decide) (by decide) k) ?_
          show Gm p e below s₁ m 35 #[iv p0] [] _
          obtain ⟨T9, X9, e9, st9⟩ := getS2 X0 hx hZ hown (host := "") (Or.inl (hw _ (List.mem_of_getElem? (i := 19) rfl))) Via.refl e0 S_wD (g := (mkF m 35 #[iv p0] [])) rfl (hb hby d1_35)
          refine own_go st9 ?_
          show Gm p e below T9 m 38 #[iv p0] [(.ref wD)] _
          exact own_retA X9 hx hlk rfl Bd.returns rfl (hb hby d1_38) e9 ⟨(by unfold fP; rw [if_neg c1, if_neg c3, if_neg c5, if_neg c7]), N0, rfl⟩ (by decide) (by decide)
theorem d2_0 : decode prog_17_method_5_code 0 = .ok (.aload_n 0, 1) := by decide +kernel
theorem d2_1 : decode prog_17_method_5_code 1 = .ok (.getstatic 3, 3) := by decide +kernel
theorem d2_4 : decode prog_17_method_5_code 4 = .ok (.if_acmp .eq 10, 3) := by decide +kernel
theorem d2_7 : decode prog_17_method_5_code 7 = .ok (.aload_n 0, 1) := by decide +kernel
theorem d2_8 : decode prog_17_method_5_code 8 = .ok (.getstatic 7, 3) := by decide +kernel
theorem d2_11 : decode prog_17_method_5_code 11 = .ok (.if_acmp .ne 7, 3) := by decide +kernel
theorem d2_14 : decode prog_17_method_5_code 14 = .ok (.iconst 1, 1) := by decide +kernel
theorem d2_15 : decode prog_17_method_5_code 15 = .ok (.goto 4, 3) := by decide +kernel
theorem d2_18 : decode prog_17_method_5_code 18 = .ok (.iconst 0, 1) := by decide +kernel
theorem d2_19 : decode prog_17_method_5_code 19 = .ok (.ireturn, 1) := by decide +kernel
theorem own_pn_rm2 : plainName "com/example/data_in_bounds/datainbounds/constraint/Level" = true := by first | (simp [plainName, overriddenIn]; done) | decide +kernel
theorem own_ef_rm2 (m : MethodId) (r0 : Addr) : entryFrame m #[(.ref r0)] 1 = mkF m 0 #[.val (.ref r0)] [] := by first | (simp [entryFrame, mkF, argsToLocals, Value.category]; done) | rfl
def fM (r0 : Addr) (wC : Addr) (wE : Addr) (wW : Addr) (wI : Addr) (wD : Addr) : Int32 := if r0 = wC then (1 : Int32) else (if r0 = wE then (1 : Int32) else ((0 : Int32)))
def Q2 (Z : State) (r0 : Addr) (wC : Addr) (wE : Addr) (wW : Addr) (wI : Addr) (wD : Addr) (h0 : Heap) (n0 : Nat) (v : Option Value) (h : Heap) (L : List Loc) : Prop := v = some (.int (fM r0 wC wE wW wI wD)) ∧ Fr n0 L ∧ h = h0
set_option maxRecDepth 65536 in
set_option maxHeartbeats 40000000 in
theorem rm2 (l : Launch) (Z : State) (a0 : Array Value) (hw : ∀ d ∈ tables_1, d.before a0 Z = true) (ws : List Jvm.Cond) (r0 : Addr) (wC : Addr) (wE : Addr) (wW : Addr) (wI : Addr) (wD : Addr) (h0 : Heap) (n0 : Nat) (Z0 : n0 ≤ h0.size) (S_wC : Sta Z h0 "com/example/data_in_bounds/datainbounds/constraint/Level" "CRITICAL" "Lcom/example/data_in_bounds/datainbounds/constraint/Level;" (.ref wC)) (S_wE : Sta Z h0 "com/example/data_in_bounds/datainbounds/constraint/Level" "ERROR" "Lcom/example/data_in_bounds/datainbounds/constraint/Level;" (.ref wE)) (S_wW : Sta Z h0 "com/example/data_in_bounds/datainbounds/constraint/Level" "WARNING" "Lcom/example/data_in_bounds/datainbounds/constraint/Level;" (.ref wW)) (S_wI : Sta Z h0 "com/example/data_in_bounds/datainbounds/constraint/Level" "INFORMATIONAL" "Lcom/example/data_in_bounds/datainbounds/constraint/Level;" (.ref wI)) (S_wD : Sta Z h0 "com/example/data_in_bounds/datainbounds/constraint/Level" "DEBUG" "Lcom/example/data_in_bounds/datainbounds/constraint/Level;" (.ref wD)) :
    MetFree l (⟨"com/example/data_in_bounds/datainbounds/constraint/Level", "makesInvalid", "()Z"⟩ : MethodName) (head1 (Jvm.Cond.code (⟨"com/example/data_in_bounds/datainbounds/constraint/Level", "makesInvalid", "()Z"⟩ : MethodName) prog_17_method_5_code 1 (some .boolean) :: ws) ({ frames := 0, cells := 0, slots := 0, locals := 0 } : Room)) (fun a U => a = #[(.ref r0)] ∧ Z.Warmed39 U.vm ∧ U.heap = h0) (fun _ _ _ _ _ => True) (fun _ U o U' => ∃ v L, o = .returned v ∧ Q2 Z r0 wC wE wW wI wD h0 n0 v U'.heap L ∧ FrameEnd U o U' L ({ frames := 0, cells := 0, slots := 0, locals := 0 } : Room).cells ({ frames := 0, cells := 0, slots := 0, locals := 0 } : Room).slots) := by
  refine MetFree.of_bodySF (plainFor_of_name own_pn_rm2) hisR ?_
  intro p e s m args below meth c s₁ Bd hml0 hP hK
  obtain ⟨rfl, hZ, hh⟩ := hP
  have hx := Bd.exec
  have hby := Bd.bytes
  have hml : c.maxLocals = 1 := hml0
  have hown : s.vm.findClass "com/example/data_in_bounds/datainbounds/constraint/Level" = some m.cls := findClass_of_methodNamed Bd.named
  have hnm := (name_of_methodNamed Bd.named Bd.method).1
  have hlk : meth.locks = false := BodyLoose.notSynchronized Bd
  have X0 : Stand p l e ({ frames := 0, cells := 0, slots := 0, locals := 0 } : Room) s m #[(.ref r0)] below meth c s₁ [] 0 0 := Stand.of_body Bd
  have e0 : s₁.heap = h0 := by rw [← hh, Bd.state]; rfl
  have N0 := Fr.nil n0
  refine own_in (own_ef_rm2 m r0) ?_
  show Gm p e below s₁ m 0 #[rv r0] [] _
  refine own_go (fun t k => XS.aloadN X0.here hx rfl (hb hby d2_0) rfl rfl k) ?_
  show Gm p e below s₁ m 1 #[rv r0] [(.ref r0)] _
  obtain ⟨T1, X1, e1, st1⟩ := getS2 X0 hx hZ hown (host := "") (Or.inl (hw _ (List.mem_of_getElem? (i := 13) rfl))) Via.refl e0 S_wC (g := (mkF m 1 #[rv r0] [(.ref r0)])) rfl (hb hby d2_1)
  refine own_go st1 ?_
  show Gm p e below T1 m 4 #[rv r0] [(.ref wC), (.ref r0)] _
  by_cases c2 : r0 = wC
  · have hfork := trivial
    refine own_go (fun t k => XT.acmpYes X1.here hx rfl (pc0 := 4) (pc' := 14) rfl (hb hby d2_4) rfl rfl rfl (XT.aa_eq_t (congrArg Value.ref c2)) (by decide) (by decide) k) ?_
    show Gm p e below T1 m 14 #[rv r0] [] _
    refine own_go (fun t k => XS.iconst X1.here hx rfl (hb hby d2_14) k) ?_
    show Gm p e below T1 m 15 #[rv r0] [(.int (1 : Int32))] _
    refine own_go (fun t k => XS.goto X1.here hx rfl (pc0 := 15) (pc' := 19) rfl (hb hby d2_15) (by decide) (by decide) k) ?_
    show Gm p e below T1 m 19 #[rv r0] [(.int (1 : Int32))] _
    exact own_retI X1 hx hlk (t := .boolean) Bd.returns rfl (by simp) (hb hby d2_19) e1 ⟨(by unfold fM; rw [if_pos c2]), N0, rfl⟩ (by decide) (by decide)
  · have hfork := trivial
    refine own_go (fun t k => XT.acmpNo X1.here hx rfl (hb hby d2_4) rfl rfl rfl (XT.aa_eq_f (fun q => c2 (Value.ref.inj q))) k) ?_
    show Gm p e below T1 m 7 #[rv r0] [] _
    refine own_go (fun t k => XS.aloadN X1.here hx rfl (hb hby d2_7) rfl rfl k) ?_
    show Gm p e below T1 m 8 #[rv r0] [(.ref r0)] _
    obtain ⟨T3, X3, e3, st3⟩ := getS2 X1 hx hZ hown (host := "") (Or.inl (hw _ (List.mem_of_getElem? (i := 16) rfl))) Via.refl e1 S_wE (g := (mkF m 8 #[rv r0] [(.ref r0)])) rfl (hb hby d2_8)
    refine own_go st3 ?_
    show Gm p e below T3 m 11 #[rv r0] [(.ref wE), (.ref r0)] _
    by_cases c4 : r0 = wE
    · have hfork := trivial
      refine own_go (fun t k => XT.acmpNo X3.here hx rfl (hb hby d2_11) rfl rfl rfl (XT.aa_ne_f (congrArg Value.ref c4)) k) ?_
      show Gm p e below T3 m 14 #[rv r0] [] _
      refine own_go (fun t k => XS.iconst X3.here hx rfl (hb hby d2_14) k) ?_
      show Gm p e below T3 m 15 #[rv r0] [(.int (1 : Int32))] _
      refine own_go (fun t k => XS.goto X3.here hx rfl (pc0 := 15) (pc' := 19) rfl (hb hby d2_15) (by decide) (by decide) k) ?_
      show Gm p e below T3 m 19 #[rv r0] [(.int (1 : Int32))] _
      exact own_retI X3 hx hlk (t := .boolean) Bd.returns rfl (by simp) (hb hby d2_19) e3 ⟨(by unfold fM; rw [if_neg c2, if_pos c4]), N0, rfl⟩ (by decide) (by decide)
    · have hfork := trivial
      refine own_go (fun t k => XT.acmpYes X3.here hx rfl (pc0 := 11) (pc' := 18) rfl (hb hby d2_11) rfl rfl rfl (XT.aa_ne_t (fun q => c4 (Value.ref.inj q))) (by decide) (by decide) k) ?_
      show Gm p e below T3 m 18 #[rv r0] [] _
      refine own_go (fun t k => XS.iconst X3.here hx rfl (hb hby d2_18) k) ?_
      show Gm p e below T3 m 19 #[rv r0] [(.int (0 : Int32))] _
      exact own_retI X3 hx hlk (t := .boolean) Bd.returns rfl (by simp) (hb hby d2_19) e3 ⟨(by unfold fM; rw [if_neg c2, if_neg c4]), N0, rfl⟩ (by decide) (by decide)

theorem own_k (x : Int32) : 0 ≤ ((x &&& (2147483647 : Int32)) % (5 : Int32)).toInt ∧ ((x &&& (2147483647 : Int32)) % (5 : Int32)).toInt < 5 := by
  have h1 := c_mask x 2147483647 31 (by decide) (by decide)
  have h2 := (c_irem (x &&& 2147483647) 5 5 (by decide)).1 (by rw [h1]; exact Int.emod_nonneg _ (by decide))
  rw [h2]
  exact ⟨Int.emod_nonneg _ (by decide), Int.emod_lt_of_pos _ (by decide)⟩
theorem own_yes (k : Int32) (wC wE wW wI wD : Addr) (h0 : 0 ≤ k.toInt) (h1 : k < 2) : fM (fP k wC wE wW wI wD) wC wE wW wI wD = 1 := by
  have g : k.toInt < 2 := by rw [Int32.lt_iff_toInt_lt] at h1; exact h1
  have hk : k = 0 ∨ k = 1 := by
    rcases (by omega : k.toInt = 0 ∨ k.toInt = 1) with q | q
    · exact Or.inl (Int32.toInt_inj.mp q)
    · exact Or.inr (Int32.toInt_inj.mp q)
  rcases hk with rfl | rfl <;> simp [fM, fP]
theorem own_no (k : Int32) (wC wE wW wI wD : Addr) (h1 : ¬ k < 2) (c1 : wW ≠ wC) (c2 : wI ≠ wC) (c3 : wD ≠ wC) (c4 : wW ≠ wE) (c5 : wI ≠ wE) (c6 : wD ≠ wE) : fM (fP k wC wE wW wI wD) wC wE wW wI wD = 0 := by
  have n0 : ¬ k = 0 := fun q => h1 (by rw [q]; decide)
  have n1 : ¬ k = 1 := fun q => h1 (by rw [q]; decide)
  unfold fM fP
  rw [if_neg n0, if_neg n1]
  split
  · first | rfl | rw [if_neg c1, if_neg c4]
  · split
    · first | rfl | rw [if_neg c2, if_neg c5]
    · first | rfl | rw [if_neg c3, if_neg c6]
theorem own_pd0 : parseMethodDescriptor "(I)Lcom/example/data_in_bounds/datainbounds/constraint/Level;" = some ⟨[.int], some (.object "com/example/data_in_bounds/datainbounds/constraint/Level")⟩ := by decide +kernel
theorem own_pd1 : parseMethodDescriptor "()Z" = some ⟨[], some .boolean⟩ := by decide +kernel
theorem own_pn_rm0 : plainName "com/example/data_in_bounds/datainbounds/constraint/LevelMakesInvalidPinLaw" = true := by first | (simp [plainName, overriddenIn]; done) | decide +kernel
theorem own_ef_rm0 (m : MethodId) (p0 : Int32) : entryFrame m #[(.int p0)] maxLocals = mkF m 0 #[.val (.int p0), .unset, .unset, .unset] [] := by first | (simp [entryFrame, mkF, argsToLocals, Value.category, maxLocals]; done) | rfl
def Q0 (Z : State) (p0 : Int32) (wC : Addr) (wE : Addr) (wW : Addr) (wI : Addr) (wD : Addr) (h0 : Heap) (n0 : Nat) (v : Option Value) (h : Heap) (L : List Loc) : Prop := v = some (.int 1) ∧ Fr n0 L
set_option maxRecDepth 65536 in
set_option maxHeartbeats 40000000 in
theorem rm0 (l : Launch) (Z : State) (a0 : Array Value) (hw : ∀ d ∈ tables_1, d.before a0 Z = true) (ws : List Jvm.Cond) (p0 : Int32) (wC : Addr) (wE : Addr) (wW : Addr) (wI : Addr) (wD : Addr) (h0 : Heap) (n0 : Nat) (Z0 : n0 ≤ h0.size) (S_wC : Sta Z h0 "com/example/data_in_bounds/datainbounds/constraint/Level" "CRITICAL" "Lcom/example/data_in_bounds/datainbounds/constraint/Level;" (.ref wC)) (S_wE : Sta Z h0 "com/example/data_in_bounds/datainbounds/constraint/Level" "ERROR" "Lcom/example/data_in_bounds/datainbounds/constraint/Level;" (.ref wE)) (S_wW : Sta Z h0 "com/example/data_in_bounds/datainbounds/constraint/Level" "WARNING" "Lcom/example/data_in_bounds/datainbounds/constraint/Level;" (.ref wW)) (S_wI : Sta Z h0 "com/example/data_in_bounds/datainbounds/constraint/Level" "INFORMATIONAL" "Lcom/example/data_in_bounds/datainbounds/constraint/Level;" (.ref wI)) (S_wD : Sta Z h0 "com/example/data_in_bounds/datainbounds/constraint/Level" "DEBUG" "Lcom/example/data_in_bounds/datainbounds/constraint/Level;" (.ref wD)) (E_wC : Exa Z h0 wC "com/example/data_in_bounds/datainbounds/constraint/Level") (E_wE : Exa Z h0 wE "com/example/data_in_bounds/datainbounds/constraint/Level") (E_wW : Exa Z h0 wW "com/example/data_in_bounds/datainbounds/constraint/Level") (E_wI : Exa Z h0 wI "com/example/data_in_bounds/datainbounds/constraint/Level") (E_wD : Exa Z h0 wD "com/example/data_in_bounds/datainbounds/constraint/Level") (n_WC : wW ≠ wC) (n_IC : wI ≠ wC) (n_DC : wD ≠ wC) (n_WE : wW ≠ wE) (n_IE : wI ≠ wE) (n_DE : wD ≠ wE) :
    MetFree l x (head1 (Jvm.Cond.code x code maxLocals ret :: ws) room_1) (fun a U => a = #[(.int p0)] ∧ Z.Warmed39 U.vm ∧ U.heap = h0) (fun _ _ _ _ _ => True) (fun _ U o U' => ∃ v L, o = .returned v ∧ Q0 Z p0 wC wE wW wI wD h0 n0 v U'.heap L ∧ FrameEnd U o U' L room_1.cells room_1.slots) := by
  refine MetFree.of_bodySF (plainFor_of_name own_pn_rm0) hisR ?_
  intro p e s m args below meth c s₁ Bd hml0 hP hK
  obtain ⟨rfl, hZ, hh⟩ := hP
  have hx := Bd.exec
  have hby := Bd.bytes
  have hml : c.maxLocals = 4 := hml0
  have hown : s.vm.findClass "com/example/data_in_bounds/datainbounds/constraint/LevelMakesInvalidPinLaw" = some m.cls := findClass_of_methodNamed Bd.named
  have hnm := (name_of_methodNamed Bd.named Bd.method).1
  have hlk : meth.locks = false := BodyLoose.notSynchronized Bd
  have X0 : Stand p l e room_1 s m #[(.int p0)] below meth c s₁ [] 0 0 := Stand.of_body Bd
  have e0 : s₁.heap = h0 := by rw [← hh, Bd.state]; rfl
  have N0 := Fr.nil n0
  refine own_in (own_ef_rm0 m p0) ?_
  show Gm p e below s₁ m 0 #[iv p0, .unset, .unset, .unset] [] _
  refine own_go (fun t k => XS.iloadN X0.here hx rfl (hb hby at_0) rfl k) ?_
  show Gm p e below s₁ m 1 #[iv p0, .unset, .unset, .unset] [(.int p0)] _
  refine own_go (fun t k => X0.ldcI hx hown (mvT hZ (hw _ (List.mem_of_getElem? (i := 0) rfl))) rfl (hb hby at_1) k) ?_
  show Gm p e below s₁ m 3 #[iv p0, .unset, .unset, .unset] [(.int (2147483647 : Int32)), (.int p0)] _
  refine own_go (fun t k => XS.iand X0.here hx rfl (hb hby at_3) rfl k) ?_
  show Gm p e below s₁ m 4 #[iv p0, .unset, .unset, .unset] [(.int (p0 &&& (2147483647 : Int32)))] _
  refine own_go (fun t k => XS.iconst X0.here hx rfl (hb hby at_4) k) ?_
  show Gm p e below s₁ m 5 #[iv p0, .unset, .unset, .unset] [(.int (5 : Int32)), (.int (p0 &&& (2147483647 : Int32)))] _
  refine own_go (fun t k => iremM X0 hx rfl (hb hby at_5) rfl (by decide) k) ?_
  show Gm p e below s₁ m 6 #[iv p0, .unset, .unset, .unset] [(.int ((p0 &&& (2147483647 : Int32)) % (5 : Int32)))] _
  refine own_go (fun t k => XS.istoreN X0.here hx rfl (hb hby at_6) rfl (l' := #[iv p0, iv ((p0 &&& (2147483647 : Int32)) % (5 : Int32)), .unset, .unset]) rfl k) ?_
  show Gm p e below s₁ m 7 #[iv p0, iv ((p0 &&& (2147483647 : Int32)) % (5 : Int32)), .unset, .unset] [] _
  refine own_go (fun t k => XS.iloadN X0.here hx rfl (hb hby at_7) rfl k) ?_
  show Gm p e below s₁ m 8 #[iv p0, iv ((p0 &&& (2147483647 : Int32)) % (5 : Int32)), .unset, .unset] [(.int ((p0 &&& (2147483647 : Int32)) % (5 : Int32)))] _
  obtain ⟨_, _, ⟨T1, L1, k1, n1⟩, -, X1, ⟨Lc1, hQ1, l1, y1, z1⟩, st1⟩ := Jvm.LawKit.callS X0 hx (y := (⟨"com/example/data_in_bounds/datainbounds/constraint/LevelMakesInvalidPinLaw", "pick", "(I)Lcom/example/data_in_bounds/datainbounds/constraint/Level;"⟩ : MethodName)) hown (mvT hZ (hw _ (List.mem_of_getElem? (i := 1) rfl))) (mvT hZ (hw _ (List.mem_of_getElem? (i := 2) rfl))) (mvT hZ (hw _ (List.mem_of_getElem? (i := 3) rfl))) (mvT hZ (hw _ (List.mem_of_getElem? (i := 4) rfl))) (by decide) (backOf (W := 0) (rm1 l Z a0 hw [] ((p0 &&& (2147483647 : Int32)) % (5 : Int32)) wC wE wW wI wD h0 n0 Z0 S_wC S_wE S_wW S_wI S_wD) hZ (hw _ (List.mem_of_getElem? (i := 4) rfl)) (hw _ (List.mem_of_getElem? (i := 3) rfl)) (by decide) (by decide)) (g := (mkF m 8 #[iv p0, iv ((p0 &&& (2147483647 : Int32)) % (5 : Int32)), .unset, .unset] [(.int ((p0 &&& (2147483647 : Int32)) % (5 : Int32)))])) rfl (by rw [hml]; rfl) (argsL := [(.int ((p0 &&& (2147483647 : Int32)) % (5 : Int32)))]) (rest := []) (lenOf own_pd0 rfl) rfl (by show 2 * 0 + _ ≤ _; exact Nat.le_of_eq rfl) (hb hby at_8) (fun _ _ => ⟨rfl, e0, (by decide : 0 + 0 ≤ _), (by decide : 0 + 0 ≤ _)⟩)
  dsimp only [Pt.U, Pt.locs, Pt.cells, Pt.slots] at X1 l1 y1 z1 st1 hQ1
  subst l1 y1 z1
  obtain ⟨rfl, Nq1, eq1⟩ := hQ1
  have N1 := Fr.app N0 Nq1
  have e1 : T1.heap = h0 := eq1
  refine own_go st1 ?_
  show Gm p e below T1 m 11 #[iv p0, iv ((p0 &&& (2147483647 : Int32)) % (5 : Int32)), .unset, .unset] [(.ref (fP ((p0 &&& (2147483647 : Int32)) % (5 : Int32)) wC wE wW wI wD))] _
  refine own_go (fun t k => XS.astoreN X1.here hx rfl (hb hby at_11) rfl rfl (l' := #[iv p0, iv ((p0 &&& (2147483647 : Int32)) % (5 : Int32)), rv (fP ((p0 &&& (2147483647 : Int32)) % (5 : Int32)) wC wE wW wI wD), .unset]) rfl k) ?_
  show Gm p e below T1 m 12 #[iv p0, iv ((p0 &&& (2147483647 : Int32)) % (5 : Int32)), rv (fP ((p0 &&& (2147483647 : Int32)) % (5 : Int32)) wC wE wW wI wD), .unset] [] _
  refine own_go (fun t k => XS.iloadN X1.here hx rfl (hb hby at_12) rfl k) ?_
  show Gm p e below T1 m 13 #[iv p0, iv ((p0 &&& (2147483647 : Int32)) % (5 : Int32)), rv (fP ((p0 &&& (2147483647 : Int32)) % (5 : Int32)) wC wE wW wI wD), .unset] [(.int ((p0 &&& (2147483647 : Int32)) % (5 : Int32)))] _
  refine own_go (fun t k => XS.iconst X1.here hx rfl (hb hby at_13) k) ?_
  show Gm p e below T1 m 14 #[iv p0, iv ((p0 &&& (2147483647 : Int32)) % (5 : Int32)), rv (fP ((p0 &&& (2147483647 : Int32)) % (5 : Int32)) wC wE wW wI wD), .unset] [(.int (2 : Int32)), (.int ((p0 &&& (2147483647 : Int32)) % (5 : Int32)))] _
  by_cases c2 : ((p0 &&& (2147483647 : Int32)) % (5 : Int32)) < (2 : Int32)
  · have hfork := trivial
    refine own_go (fun t k => XS.icmpNo X1.here hx rfl (hb hby at_14) rfl (XT.ii_ge_f c2) k) ?_
    show Gm p e below T1 m 17 #[iv p0, iv ((p0 &&& (2147483647 : Int32)) % (5 : Int32)), rv (fP ((p0 &&& (2147483647 : Int32)) % (5 : Int32)) wC wE wW wI wD), .unset] [] _
    refine own_go (fun t k => XS.iconst X1.here hx rfl (hb hby at_17) k) ?_
    show Gm p e below T1 m 18 #[iv p0, iv ((p0 &&& (2147483647 : Int32)) % (5 : Int32)), rv (fP ((p0 &&& (2147483647 : Int32)) % (5 : Int32)) wC wE wW wI wD), .unset] [(.int (1 : Int32))] _
    refine own_go (fun t k => XS.goto X1.here hx rfl (pc0 := 18) (pc' := 22) rfl (hb hby at_18) (by decide) (by decide) k) ?_
    show Gm p e below T1 m 22 #[iv p0, iv ((p0 &&& (2147483647 : Int32)) % (5 : Int32)), rv (fP ((p0 &&& (2147483647 : Int32)) % (5 : Int32)) wC wE wW wI wD), .unset] [(.int (1 : Int32))] _
    refine own_go (fun t k => XS.istoreN X1.here hx rfl (hb hby at_22) rfl (l' := #[iv p0, iv ((p0 &&& (2147483647 : Int32)) % (5 : Int32)), rv (fP ((p0 &&& (2147483647 : Int32)) % (5 : Int32)) wC wE wW wI wD), iv (1 : Int32)]) rfl k) ?_
    show Gm p e below T1 m 23 #[iv p0, iv ((p0 &&& (2147483647 : Int32)) % (5 : Int32)), rv (fP ((p0 &&& (2147483647 : Int32)) % (5 : Int32)) wC wE wW wI wD), iv (1 : Int32)] [] _
    refine own_go (fun t k => XS.aloadN X1.here hx rfl (hb hby at_23) rfl rfl k) ?_
    show Gm p e below T1 m 24 #[iv p0, iv ((p0 &&& (2147483647 : Int32)) % (5 : Int32)), rv (fP ((p0 &&& (2147483647 : Int32)) % (5 : Int32)) wC wE wW wI wD), iv (1 : Int32)] [(.ref (fP ((p0 &&& (2147483647 : Int32)) % (5 : Int32)) wC wE wW wI wD))] _
    have E_l : Exa Z h0 (fP ((p0 &&& (2147483647 : Int32)) % (5 : Int32)) wC wE wW wI wD) "com/example/data_in_bounds/datainbounds/constraint/Level" := by unfold fP; (repeat' split) <;> assumption
    obtain ⟨cq3, kq3, q3a, q3b, q3c⟩ := isOf hZ e1 E_l
    obtain ⟨_, _, ⟨T3, L3, k3, n3⟩, -, X3, ⟨Lc3, hQ3, l3, y3, z3⟩, st3⟩ := X1.virtualBack hx (y := (⟨"com/example/data_in_bounds/datainbounds/constraint/Level", "makesInvalid", "()Z"⟩ : MethodName)) (z := (⟨"com/example/data_in_bounds/datainbounds/constraint/Level", "makesInvalid", "()Z"⟩ : MethodName)) hown (mvT hZ (hw _ (List.mem_of_getElem? (i := 8) rfl))) (mvT hZ (hw _ (List.mem_of_getElem? (i := 9) rfl))) (notFace_of_selects (args := #[]) (mvT hZ (hw _ (List.mem_of_getElem? (i := 11) rfl)))) (mvT hZ (hw _ (List.mem_of_getElem? (i := 11) rfl))) (mvT hZ (hw _ (List.mem_of_getElem? (i := 10) rfl))) (by decide) (backOf (W := 0) (rm2 l Z a0 hw [] (fP ((p0 &&& (2147483647 : Int32)) % (5 : Int32)) wC wE wW wI wD) wC wE wW wI wD h0 n0 Z0 S_wC S_wE S_wW S_wI S_wD) hZ (hw _ (List.mem_of_getElem? (i := 12) rfl)) (hw _ (List.mem_of_getElem? (i := 6) rfl)) (by decide) (by decide)) q3a q3c (g := (mkF m 24 #[iv p0, iv ((p0 &&& (2147483647 : Int32)) % (5 : Int32)), rv (fP ((p0 &&& (2147483647 : Int32)) % (5 : Int32)) wC wE wW wI wD), iv (1 : Int32)] [(.ref (fP ((p0 &&& (2147483647 : Int32)) % (5 : Int32)) wC wE wW wI wD))])) rfl (by rw [hml]; rfl) (Steps.refl _) (argsL := []) (rest := []) (lenOf own_pd1 rfl) rfl (by show 2 * 0 + _ ≤ _; exact Nat.le_of_eq rfl) (hb hby at_24) (fun _ _ => ⟨rfl, e1, (by decide : 0 + 0 ≤ _), (by decide : 0 + 0 ≤ _)⟩)
    dsimp only [Pt.U, Pt.locs, Pt.cells, Pt.slots] at X3 l3 y3 z3 st3 hQ3
    subst l3 y3 z3
    obtain ⟨rfl, Nq3, eq3⟩ := hQ3
    have N3 := Fr.app N1 Nq3
    have e3 : T3.heap = h0 := eq3
    refine own_go (fun t k => st3.trans k) ?_
    show Gm p e below T3 m 27 #[iv p0, iv ((p0 &&& (2147483647 : Int32)) % (5 : Int32)), rv (fP ((p0 &&& (2147483647 : Int32)) % (5 : Int32)) wC wE wW wI wD), iv (1 : Int32)] [(.int (fM (fP ((p0 &&& (2147483647 : Int32)) % (5 : Int32)) wC wE wW wI wD) wC wE wW wI wD))] _
    refine own_go (fun t k => XS.iloadN X3.here hx rfl (hb hby at_27) rfl k) ?_
    show Gm p e below T3 m 28 #[iv p0, iv ((p0 &&& (2147483647 : Int32)) % (5 : Int32)), rv (fP ((p0 &&& (2147483647 : Int32)) % (5 : Int32)) wC wE wW wI wD), iv (1 : Int32)] [(.int (1 : Int32)), (.int (fM (fP ((p0 &&& (2147483647 : Int32)) % (5 : Int32)) wC wE wW wI wD) wC wE wW wI wD))] _
    refine own_go (fun t k => XS.icmpNo X3.here hx rfl (hb hby at_28) rfl (XT.ii_ne_f (own_yes _ wC wE wW wI wD (own_k _).1 c2)) k) ?_
    show Gm p e below T3 m 31 #[iv p0, iv ((p0 &&& (2147483647 : Int32)) % (5 : Int32)), rv (fP ((p0 &&& (2147483647 : Int32)) % (5 : Int32)) wC wE wW wI wD), iv (1 : Int32)] [] _
    refine own_go (fun t k => XS.iconst X3.here hx rfl (hb hby at_31) k) ?_
    show Gm p e below T3 m 32 #[iv p0, iv ((p0 &&& (2147483647 : Int32)) % (5 : Int32)), rv (fP ((p0 &&& (2147483647 : Int32)) % (5 : Int32)) wC wE wW wI wD), iv (1 : Int32)] [(.int (1 : Int32))] _
    refine own_go (fun t k => XS.goto X3.here hx rfl (pc0 := 32) (pc' := 36) rfl (hb hby at_32) (by decide) (by decide) k) ?_
    show Gm p e below T3 m 36 #[iv p0, iv ((p0 &&& (2147483647 : Int32)) % (5 : Int32)), rv (fP ((p0 &&& (2147483647 : Int32)) % (5 : Int32)) wC wE wW wI wD), iv (1 : Int32)] [(.int (1 : Int32))] _
    exact own_retI X3 hx hlk (t := .boolean) Bd.returns rfl (by simp) (hb hby at_36) e3 ⟨rfl, N3⟩ (by decide) (by decide)
  · have hfork := trivial
    refine own_go (fun t k => XS.icmpYes X1.here hx rfl (pc0 := 14) (pc' := 21) rfl (hb hby at_14) rfl (XT.ii_ge_t c2) (by decide) (by decide) k) ?_
    show Gm p e below T1 m 21 #[iv p0, iv ((p0 &&& (2147483647 : Int32)) % (5 : Int32)), rv (fP ((p0 &&& (2147483647 : Int32)) % (5 : Int32)) wC wE wW wI wD), .unset] [] _
    refine own_go (fun t k => XS.iconst X1.here hx rfl (hb hby at_21) k) ?_
    show Gm p e below T1 m 22 #[iv p0, iv ((p0 &&& (2147483647 : Int32)) % (5 : Int32)), rv (fP ((p0 &&& (2147483647 : Int32)) % (5 : Int32)) wC wE wW wI wD), .unset] [(.int (0 : Int32))] _
    refine own_go (fun t k => XS.istoreN X1.here hx rfl (hb hby at_22) rfl (l' := #[iv p0, iv ((p0 &&& (2147483647 : Int32)) % (5 : Int32)), rv (fP ((p0 &&& (2147483647 : Int32)) % (5 : Int32)) wC wE wW wI wD), iv (0 : Int32)]) rfl k) ?_
    show Gm p e below T1 m 23 #[iv p0, iv ((p0 &&& (2147483647 : Int32)) % (5 : Int32)), rv (fP ((p0 &&& (2147483647 : Int32)) % (5 : Int32)) wC wE wW wI wD), iv (0 : Int32)] [] _
    refine own_go (fun t k => XS.aloadN X1.here hx rfl (hb hby at_23) rfl rfl k) ?_
    show Gm p e below T1 m 24 #[iv p0, iv ((p0 &&& (2147483647 : Int32)) % (5 : Int32)), rv (fP ((p0 &&& (2147483647 : Int32)) % (5 : Int32)) wC wE wW wI wD), iv (0 : Int32)] [(.ref (fP ((p0 &&& (2147483647 : Int32)) % (5 : Int32)) wC wE wW wI wD))] _
    have E_l : Exa Z h0 (fP ((p0 &&& (2147483647 : Int32)) % (5 : Int32)) wC wE wW wI wD) "com/example/data_in_bounds/datainbounds/constraint/Level" := by unfold fP; (repeat' split) <;> assumption
    obtain ⟨cq4, kq4, q4a, q4b, q4c⟩ := isOf hZ e1 E_l
    obtain ⟨_, _, ⟨T4, L4, k4, n4⟩, -, X4, ⟨Lc4, hQ4, l4, y4, z4⟩, st4⟩ := X1.virtualBack hx (y := (⟨"com/example/data_in_bounds/datainbounds/constraint/Level", "makesInvalid", "()Z"⟩ : MethodName)) (z := (⟨"com/example/data_in_bounds/datainbounds/constraint/Level", "makesInvalid", "()Z"⟩ : MethodName)) hown (mvT hZ (hw _ (List.mem_of_getElem? (i := 8) rfl))) (mvT hZ (hw _ (List.mem_of_getElem? (i := 9) rfl))) (notFace_of_selects (args := #[]) (mvT hZ (hw _ (List.mem_of_getElem? (i := 11) rfl)))) (mvT hZ (hw _ (List.mem_of_getElem? (i := 11) rfl))) (mvT hZ (hw _ (List.mem_of_getElem? (i := 10) rfl))) (by decide) (backOf (W := 0) (rm2 l Z a0 hw [] (fP ((p0 &&& (2147483647 : Int32)) % (5 : Int32)) wC wE wW wI wD) wC wE wW wI wD h0 n0 Z0 S_wC S_wE S_wW S_wI S_wD) hZ (hw _ (List.mem_of_getElem? (i := 12) rfl)) (hw _ (List.mem_of_getElem? (i := 6) rfl)) (by decide) (by decide)) q4a q4c (g := (mkF m 24 #[iv p0, iv ((p0 &&& (2147483647 : Int32)) % (5 : Int32)), rv (fP ((p0 &&& (2147483647 : Int32)) % (5 : Int32)) wC wE wW wI wD), iv (0 : Int32)] [(.ref (fP ((p0 &&& (2147483647 : Int32)) % (5 : Int32)) wC wE wW wI wD))])) rfl (by rw [hml]; rfl) (Steps.refl _) (argsL := []) (rest := []) (lenOf own_pd1 rfl) rfl (by show 2 * 0 + _ ≤ _; exact Nat.le_of_eq rfl) (hb hby at_24) (fun _ _ => ⟨rfl, e1, (by decide : 0 + 0 ≤ _), (by decide : 0 + 0 ≤ _)⟩)
    dsimp only [Pt.U, Pt.locs, Pt.cells, Pt.slots] at X4 l4 y4 z4 st4 hQ4
    subst l4 y4 z4
    obtain ⟨rfl, Nq4, eq4⟩ := hQ4
    have N4 := Fr.app N1 Nq4
    have e4 : T4.heap = h0 := eq4
    refine own_go (fun t k => st4.trans k) ?_
    show Gm p e below T4 m 27 #[iv p0, iv ((p0 &&& (2147483647 : Int32)) % (5 : Int32)), rv (fP ((p0 &&& (2147483647 : Int32)) % (5 : Int32)) wC wE wW wI wD), iv (0 : Int32)] [(.int (fM (fP ((p0 &&& (2147483647 : Int32)) % (5 : Int32)) wC wE wW wI wD) wC wE wW wI wD))] _
    refine own_go (fun t k => XS.iloadN X4.here hx rfl (hb hby at_27) rfl k) ?_
    show Gm p e below T4 m 28 #[iv p0, iv ((p0 &&& (2147483647 : Int32)) % (5 : Int32)), rv (fP ((p0 &&& (2147483647 : Int32)) % (5 : Int32)) wC wE wW wI wD), iv (0 : Int32)] [(.int (0 : Int32)), (.int (fM (fP ((p0 &&& (2147483647 : Int32)) % (5 : Int32)) wC wE wW wI wD) wC wE wW wI wD))] _
    refine own_go (fun t k => XS.icmpNo X4.here hx rfl (hb hby at_28) rfl (XT.ii_ne_f (own_no _ wC wE wW wI wD c2 n_WC n_IC n_DC n_WE n_IE n_DE)) k) ?_
    show Gm p e below T4 m 31 #[iv p0, iv ((p0 &&& (2147483647 : Int32)) % (5 : Int32)), rv (fP ((p0 &&& (2147483647 : Int32)) % (5 : Int32)) wC wE wW wI wD), iv (0 : Int32)] [] _
    refine own_go (fun t k => XS.iconst X4.here hx rfl (hb hby at_31) k) ?_
    show Gm p e below T4 m 32 #[iv p0, iv ((p0 &&& (2147483647 : Int32)) % (5 : Int32)), rv (fP ((p0 &&& (2147483647 : Int32)) % (5 : Int32)) wC wE wW wI wD), iv (0 : Int32)] [(.int (1 : Int32))] _
    refine own_go (fun t k => XS.goto X4.here hx rfl (pc0 := 32) (pc' := 36) rfl (hb hby at_32) (by decide) (by decide) k) ?_
    show Gm p e below T4 m 36 #[iv p0, iv ((p0 &&& (2147483647 : Int32)) % (5 : Int32)), rv (fP ((p0 &&& (2147483647 : Int32)) % (5 : Int32)) wC wE wW wI wD), iv (0 : Int32)] [(.int (1 : Int32))] _
    exact own_retI X4 hx hlk (t := .boolean) Bd.returns rfl (by simp) (hb hby at_36) e4 ⟨rfl, N4⟩ (by decide) (by decide)
set_option maxRecDepth 65536 in
set_option maxHeartbeats 40000000 in
theorem comes_1 {Post : Tables → Env → Array Value → State → Outcome → State → Prop} (hpost : ∀ tb e args s v u, (limb_1_1.after args s (.returned v) u = true ∧ limb_1_2.after args s (.returned v) u = true ∧ True) → FrameEnd s (.returned v) u (Jvm.fieldLocs frame_1_writes args s ++ Jvm.arrayLocs frame_1_arrays args s ++ Jvm.staticLocs frame_1_statics s) 0 0 → Post tb e args s (.returned v) u) :
    ArmFor flags0 classFile x code maxLocals ret World_1 tables_1 room_1 Calls_1 rest_1 Pre_1 Post := by
  intro l hfl _ _ p e ha hc hk s m args below hf hA hF happ hP
  obtain ⟨hcalls, hrest, hpre⟩ := hP
  obtain ⟨-, -, -, hnamed, -, -, -, hat⟩ := (Spec.applies_iff hf).mp happ
  obtain ⟨hg, hn⟩ := and_e (Cond.before_iff.mp (show (Jvm.Cond.and given_1 narrow_1).before args s = true from hpre))
  obtain ⟨g1, g2⟩ := and_e hg
  obtain ⟨w0, rfl⟩ : ∃ w0 : Value, args = #[w0] := by
    have hs : args.size = 1 := by simpa [Cond.value, given_1] using g1
    obtain ⟨L⟩ := args
    match L, hs with
    | [w0], _ => exact ⟨w0, rfl⟩
  have hw := fun d (hd : d ∈ tables_1) => atoms_spec (ws := Jvm.Cond.code x code maxLocals ret :: tables_1) hat d (List.mem_cons_of_mem _ hd)
  have hfit : Fit s := fun {y c} hc i hi => by
    obtain ⟨ha, rfl⟩ := Array.getElem?_eq_some_iff.mp hc
    have q := List.all_eq_true.mp ((Array.all_eq_true_iff_forall_mem.mp hF) _ (Array.getElem_mem ha)) i (List.mem_range.mpr hi)
    simpa [Array.getElem?_eq_getElem hi] using q
  obtain ⟨i0, ei0⟩ := is_v g2
  obtain rfl : w0 = (.int i0) := Option.some.inj ei0
  obtain ⟨g1001, g1002⟩ := and_e hn
  obtain ⟨g1003, g1004⟩ := and_e g1002
  obtain ⟨g1005, g1006⟩ := and_e g1004
  obtain ⟨g1007, g1008⟩ := and_e g1006
  obtain ⟨g1009, g1010⟩ := and_e g1008
  obtain ⟨g1011, g1012⟩ := and_e g1010
  obtain ⟨g1013, g1014⟩ := and_e g1012
  obtain ⟨g1015, g1016⟩ := and_e g1014
  obtain ⟨g1017, g1018⟩ := and_e g1016
  obtain ⟨a_wC, ev_wC⟩ := exa_v g1001
  have E_wC : Exa s s.heap a_wC "com/example/data_in_bounds/datainbounds/constraint/Level" := Exa.start ev_wC g1001
  have S_wC : Sta s s.heap "com/example/data_in_bounds/datainbounds/constraint/Level" "CRITICAL" "Lcom/example/data_in_bounds/datainbounds/constraint/Level;" (.ref a_wC) := Sta.start ev_wC (Or.inr ⟨(hw _ (List.mem_of_getElem? (i := 6) rfl)), (hw _ (List.mem_of_getElem? (i := 7) rfl))⟩)
  obtain ⟨a_wI, ev_wI⟩ := exa_v g1003
  have E_wI : Exa s s.heap a_wI "com/example/data_in_bounds/datainbounds/constraint/Level" := Exa.start ev_wI g1003
  have S_wI : Sta s s.heap "com/example/data_in_bounds/datainbounds/constraint/Level" "INFORMATIONAL" "Lcom/example/data_in_bounds/datainbounds/constraint/Level;" (.ref a_wI) := Sta.start ev_wI (Or.inr ⟨(hw _ (List.mem_of_getElem? (i := 6) rfl)), (hw _ (List.mem_of_getElem? (i := 15) rfl))⟩)
  have F_wI_ordinal : Fld s s.heap a_wI "java/lang/Enum" "ordinal" "I" (.int (3 : Int32)) := Fld.start ((fld_at ev_wI).symm.trans (own_eqI g1005))
  have F_wC_ordinal : Fld s s.heap a_wC "java/lang/Enum" "ordinal" "I" (.int (0 : Int32)) := Fld.start ((fld_at ev_wC).symm.trans (own_eqI g1007))
  obtain ⟨a_wE, ev_wE⟩ := exa_v g1009
  have E_wE : Exa s s.heap a_wE "com/example/data_in_bounds/datainbounds/constraint/Level" := Exa.start ev_wE g1009
  have S_wE : Sta s s.heap "com/example/data_in_bounds/datainbounds/constraint/Level" "ERROR" "Lcom/example/data_in_bounds/datainbounds/constraint/Level;" (.ref a_wE) := Sta.start ev_wE (Or.inr ⟨(hw _ (List.mem_of_getElem? (i := 6) rfl)), (hw _ (List.mem_of_getElem? (i := 17) rfl))⟩)
  have F_wE_ordinal : Fld s s.heap a_wE "java/lang/Enum" "ordinal" "I" (.int (1 : Int32)) := Fld.start ((fld_at ev_wE).symm.trans (own_eqI g1011))
  obtain ⟨a_wD, ev_wD⟩ := exa_v g1013
  have E_wD : Exa s s.heap a_wD "com/example/data_in_bounds/datainbounds/constraint/Level" := Exa.start ev_wD g1013
  have S_wD : Sta s s.heap "com/example/data_in_bounds/datainbounds/constraint/Level" "DEBUG" "Lcom/example/data_in_bounds/datainbounds/constraint/Level;" (.ref a_wD) := Sta.start ev_wD (Or.inr ⟨(hw _ (List.mem_of_getElem? (i := 6) rfl)), (hw _ (List.mem_of_getElem? (i := 20) rfl))⟩)
  have F_wD_ordinal : Fld s s.heap a_wD "java/lang/Enum" "ordinal" "I" (.int (4 : Int32)) := Fld.start ((fld_at ev_wD).symm.trans (own_eqI g1015))
  obtain ⟨a_wW, ev_wW⟩ := exa_v g1017
  have E_wW : Exa s s.heap a_wW "com/example/data_in_bounds/datainbounds/constraint/Level" := Exa.start ev_wW g1017
  have S_wW : Sta s s.heap "com/example/data_in_bounds/datainbounds/constraint/Level" "WARNING" "Lcom/example/data_in_bounds/datainbounds/constraint/Level;" (.ref a_wW) := Sta.start ev_wW (Or.inr ⟨(hw _ (List.mem_of_getElem? (i := 6) rfl)), (hw _ (List.mem_of_getElem? (i := 22) rfl))⟩)
  have F_wW_ordinal : Fld s s.heap a_wW "java/lang/Enum" "ordinal" "I" (.int (2 : Int32)) := Fld.start ((fld_at ev_wW).symm.trans (own_eqI g1018))
  have n_WC : a_wW ≠ a_wC := Fld.ne F_wW_ordinal F_wC_ordinal (by decide)
  have n_IC : a_wI ≠ a_wC := Fld.ne F_wI_ordinal F_wC_ordinal (by decide)
  have n_DC : a_wD ≠ a_wC := Fld.ne F_wD_ordinal F_wC_ordinal (by decide)
  have n_WE : a_wW ≠ a_wE := Fld.ne F_wW_ordinal F_wE_ordinal (by decide)
  have n_IE : a_wI ≠ a_wE := Fld.ne F_wI_ordinal F_wE_ordinal (by decide)
  have n_DE : a_wD ≠ a_wE := Fld.ne F_wD_ordinal F_wE_ordinal (by decide)
  obtain ⟨n, o, h1, h2, h3, _, L, rfl, ⟨rfl, N⟩, hq⟩ := rm0 l s _ hw tables_1 i0 a_wC a_wE a_wW a_wI a_wD s.heap s.heap.size (Nat.le_refl _) S_wC S_wE S_wW S_wI S_wD E_wC E_wE E_wW E_wI E_wD n_WC n_IC n_DC n_WE n_IE n_DE p e ha hc hk s m _ below hf ((Spec.applies_iff_loose hf).mp happ).1 ⟨rfl, State.Warmed39.refl s, rfl⟩ trivial
  refine ⟨n, _, h1, h2, h3, hpost _ _ _ _ _ _ ⟨Cond.after_iff.mpr rfl, Cond.after_iff.mpr (eq_i res_at (Term.int_eval (1)) rfl), trivial⟩ ⟨hq.1, hq.2.1, (hq.2.2.sift fun y hy => Or.inr (N y hy)).mono (by decide) (by decide)⟩⟩
theorem main_1_1 : Claimed_1_1 := comes_1 fun _ _ _ _ _ _ h hF => ⟨h.1, hF⟩
theorem main_1_2 : Claimed_1_2 := comes_1 fun _ _ _ _ _ _ h hF => ⟨h.2.1, hF⟩
end Jvm.Pilot.@@N@@
namespace Jvm.Pilot.@@N@@
open Jvm Jvm.ClassFile Sem Op Lib Jvm.Free Jvm.Stand Jvm.Pilot.@@N@@.Jvm.D
/-! MADE BY PROGRAM (witnessworld.py) out of the Statement's table words and the real class files: 12 classes; the members and pool entries that the words name. The judged class is class 1, her method 2. -/
namespace start1
open Jvm.ClassFile
def u (s : String) : CpInfo := .utf8 (stringToUtf16 s)
/-- a pool by its gaps: so many unusable entries, then the entry; so many at the end -/
def gap : Nat → List CpInfo → List CpInfo
  | 0, r => r
  | n + 1, r => .unusable :: gap n r
def poolList (es : List (Nat × CpInfo)) (last : Nat) : List CpInfo := es.foldr (fun e r => gap e.1 (e.2 :: r)) (gap last [])
def pool (es : List (Nat × CpInfo)) (last : Nat) : Array CpInfo := ⟨poolList es last⟩
def fileOf (pool : Array CpInfo) (this : Nat) (attrs : Array Attribute := #[]) (ms : Array MethodInfo := #[]) (fl : Nat := 33) (sup : Nat := 0) (ifs : Array Nat := #[]) (fds : Array FieldInfo := #[]) : ClassFile where
  minorVersion := 0
  majorVersion := 65
  constantPool := pool
  accessFlags := fl
  thisClass := this
  superClass := sup
  interfaces := ifs
  fields := fds
  methods := ms
  attributes := attrs
def plain (name : String) (sup : Option ClassId) : Class where
  name := name
  kind := .ordinary
  loader := none
  accessFlags := 33
  super := sup
  interfaces := #[]
  cf := none
  fields := #[]
  methods := #[]
  instanceTypes := #[]
  staticTypes := #[]
  resolved := #[]
  callSites := []
  init := .initialized
  statics := none
  mirror := none

def pool0 : Array CpInfo := pool [(5, u "<init>"), (0, u "()V"), (1, .class_ 10), (1, u "java/lang/Object")] 113

def k0m0 : Method := { name := "<init>", desc := "()V", sig := { parameters := [], returnType := none }, accessFlags := 1, code := none }
/-- java/lang/Object -/
def k0 : Class := { plain "java/lang/Object" none with
  accessFlags := 33
  interfaces := #[]
  cf := some (fileOf pool0 8 #[] #[{ accessFlags := 1, nameIndex := 5, descriptorIndex := 6, attributes := #[] }] 33 0 #[] #[])
  fields := #[]
  methods := #[k0m0]
  instanceTypes := #[]
  staticTypes := #[]
  resolved := Array.replicate 124 none
  statics := none }

def pool1 : Array CpInfo := pool [(2, .class_ 4), (1, u "java/lang/Object"), (0, u "<init>"), (0, u "()V"), (0, .fieldref 8 9), (0, .class_ 10), (0, .nameAndType 11 12), (0, u "com/example/data_in_bounds/datainbounds/constraint/Level"), (0, u "CRITICAL"), (0, u "Lcom/example/data_in_bounds/datainbounds/constraint/Level;"), (0, .fieldref 8 14), (0, .nameAndType 15 12), (0, u "ERROR"), (0, .fieldref 8 17), (0, .nameAndType 18 12), (0, u "WARNING"), (0, .fieldref 8 20), (0, .nameAndType 21 12), (0, u "INFORMATIONAL"), (0, .fieldref 8 23), (0, .nameAndType 24 12), (0, u "DEBUG"), (0, .integer 2147483647), (0, .methodref 27 28), (0, .class_ 29), (0, .nameAndType 30 31), (0, u "com/example/data_in_bounds/datainbounds/constraint/LevelMakesInvalidPinLaw"), (0, u "pick"), (0, u "(I)Lcom/example/data_in_bounds/datainbounds/constraint/Level;"), (0, .methodref 8 33), (0, .nameAndType 34 35), (0, u "makesInvalid"), (0, u "()Z"), (3, u "law"), (0, u "(I)Z")] 2

def k1m0 : Method := { name := "<init>", desc := "()V", sig := { parameters := [], returnType := none }, accessFlags := 1, code := none }
def k1c1 : Code := { maxStack := 2, maxLocals := 1, code := method_2_code, exceptionTable := #[], attributes := #[] }
def k1m1 : Method := { name := "pick", desc := "(I)Lcom/example/data_in_bounds/datainbounds/constraint/Level;", sig := { parameters := [.int], returnType := some (.object "com/example/data_in_bounds/datainbounds/constraint/Level") }, accessFlags := 10, code := some k1c1 }
def k1c2 : Code := { maxStack := 2, maxLocals := 4, code := code, exceptionTable := #[], attributes := #[] }
def k1m2 : Method := { name := "law", desc := "(I)Z", sig := { parameters := [.int], returnType := some .boolean }, accessFlags := 9, code := some k1c2 }
/-- com/example/data_in_bounds/datainbounds/constraint/LevelMakesInvalidPinLaw -/
def k1 : Class := { plain "com/example/data_in_bounds/datainbounds/constraint/LevelMakesInvalidPinLaw" (some 0) with
  accessFlags := 49
  interfaces := #[]
  cf := some (fileOf pool1 27 #[] #[{ accessFlags := 1, nameIndex := 5, descriptorIndex := 6, attributes := #[] }, { accessFlags := 10, nameIndex := 30, descriptorIndex := 31, attributes := #[] }, { accessFlags := 9, nameIndex := 39, descriptorIndex := 40, attributes := #[] }] 49 2 #[] #[])
  fields := #[]
  methods := #[k1m0, k1m1, k1m2]
  instanceTypes := #[]
  staticTypes := #[]
  resolved := Array.replicate 43 none
  statics := none }

def pool2 : Array CpInfo := pool [(1, .class_ 2), (0, u "java/lang/constant/Constable"), (0, .class_ 4), (0, u "java/lang/Object")] 6

/-- java/lang/constant/Constable -/
def k2 : Class := { plain "java/lang/constant/Constable" (some 0) with
  accessFlags := 1537
  interfaces := #[]
  cf := some (fileOf pool2 1 #[] #[] 1537 3 #[] #[])
  fields := #[]
  methods := #[]
  instanceTypes := #[]
  staticTypes := #[]
  resolved := Array.replicate 11 none
  statics := none }

def pool3 : Array CpInfo := pool [(1, .class_ 2), (0, u "java/lang/Comparable"), (0, .class_ 4), (0, u "java/lang/Object")] 7

/-- java/lang/Comparable -/
def k3 : Class := { plain "java/lang/Comparable" (some 0) with
  accessFlags := 1537
  interfaces := #[]
  cf := some (fileOf pool3 1 #[] #[] 1537 3 #[] #[])
  fields := #[]
  methods := #[]
  instanceTypes := #[]
  staticTypes := #[]
  resolved := Array.replicate 12 none
  statics := none }

def pool4 : Array CpInfo := pool [(1, .class_ 2), (0, u "java/io/Serializable"), (0, .class_ 4), (0, u "java/lang/Object")] 2

/-- java/io/Serializable -/
def k4 : Class := { plain "java/io/Serializable" (some 0) with
  accessFlags := 1537
  interfaces := #[]
  cf := some (fileOf pool4 1 #[] #[] 1537 3 #[] #[])
  fields := #[]
  methods := #[]
  instanceTypes := #[]
  staticTypes := #[]
  resolved := Array.replicate 7 none
  statics := none }

def pool5 : Array CpInfo := pool [(2, .class_ 4), (1, u "java/lang/Enum"), (0, u "name"), (0, u "Ljava/lang/String;"), (2, u "ordinal"), (0, u "I"), (1, .class_ 14), (1, u "java/lang/Object"), (4, u "hash"), (86, .class_ 108), (1, u "java/lang/Enum$EnumDesc"), (2, .class_ 112), (0, u "java/lang/constant/Constable"), (0, .class_ 114), (0, u "java/lang/Comparable"), (0, .class_ 116), (0, u "java/io/Serializable")] 87

/-- java/lang/Enum -/
def k5 : Class := { plain "java/lang/Enum" (some 0) with
  accessFlags := 1057
  interfaces := #[2, 3, 4]
  cf := some (fileOf pool5 2 #[.nestMembers #[106]] #[] 1057 12 #[111, 113, 115] #[{ accessFlags := 18, nameIndex := 5, descriptorIndex := 6, attributes := #[] }, { accessFlags := 18, nameIndex := 9, descriptorIndex := 10, attributes := #[] }, { accessFlags := 2, nameIndex := 19, descriptorIndex := 10, attributes := #[] }])
  fields := #[{ name := "name", type := (.object "java/lang/String"), accessFlags := 18, slot := 0, constantValue := 0 }, { name := "ordinal", type := .int, accessFlags := 18, slot := 1, constantValue := 0 }, { name := "hash", type := .int, accessFlags := 2, slot := 2, constantValue := 0 }]
  methods := #[]
  instanceTypes := #[(.object "java/lang/String"), .int, .int]
  staticTypes := #[]
  resolved := Array.replicate 204 none
  statics := none }

def pool6 : Array CpInfo := pool [(1, .class_ 2), (0, u "com/example/data_in_bounds/datainbounds/constraint/Level"), (0, .fieldref 1 4), (0, .nameAndType 5 6), (0, u "CRITICAL"), (0, u "Lcom/example/data_in_bounds/datainbounds/constraint/Level;"), (0, .fieldref 1 8), (0, .nameAndType 9 6), (0, u "ERROR"), (2, u "WARNING"), (2, u "INFORMATIONAL"), (2, u "DEBUG"), (2, u "$VALUES"), (0, u "[Lcom/example/data_in_bounds/datainbounds/constraint/Level;"), (6, .class_ 31), (1, u "java/lang/Enum"), (77, u "makesInvalid"), (0, u "()Z")] 32

def k6c0 : Code := { maxStack := 2, maxLocals := 1, code := prog_17_method_5_code, exceptionTable := #[], attributes := #[] }
def k6m0 : Method := { name := "makesInvalid", desc := "()Z", sig := { parameters := [], returnType := some .boolean }, accessFlags := 1, code := some k6c0 }
/-- com/example/data_in_bounds/datainbounds/constraint/Level -/
def k6 : Class := { plain "com/example/data_in_bounds/datainbounds/constraint/Level" (some 5) with
  accessFlags := 16433
  interfaces := #[]
  cf := some (fileOf pool6 1 #[] #[{ accessFlags := 1, nameIndex := 109, descriptorIndex := 110, attributes := #[] }] 16433 29 #[] #[{ accessFlags := 16409, nameIndex := 5, descriptorIndex := 6, attributes := #[] }, { accessFlags := 16409, nameIndex := 9, descriptorIndex := 6, attributes := #[] }, { accessFlags := 16409, nameIndex := 12, descriptorIndex := 6, attributes := #[] }, { accessFlags := 16409, nameIndex := 15, descriptorIndex := 6, attributes := #[] }, { accessFlags := 16409, nameIndex := 18, descriptorIndex := 6, attributes := #[] }, { accessFlags := 4122, nameIndex := 21, descriptorIndex := 22, attributes := #[] }])
  fields := #[{ name := "CRITICAL", type := (.object "com/example/data_in_bounds/datainbounds/constraint/Level"), accessFlags := 16409, slot := 0, constantValue := 0 }, { name := "ERROR", type := (.object "com/example/data_in_bounds/datainbounds/constraint/Level"), accessFlags := 16409, slot := 1, constantValue := 0 }, { name := "WARNING", type := (.object "com/example/data_in_bounds/datainbounds/constraint/Level"), accessFlags := 16409, slot := 2, constantValue := 0 }, { name := "INFORMATIONAL", type := (.object "com/example/data_in_bounds/datainbounds/constraint/Level"), accessFlags := 16409, slot := 3, constantValue := 0 }, { name := "DEBUG", type := (.object "com/example/data_in_bounds/datainbounds/constraint/Level"), accessFlags := 16409, slot := 4, constantValue := 0 }, { name := "$VALUES", type := (.array (.object "com/example/data_in_bounds/datainbounds/constraint/Level")), accessFlags := 4122, slot := 5, constantValue := 0 }]
  methods := #[k6m0]
  instanceTypes := #[(.object "java/lang/String"), .int, .int]
  staticTypes := #[(.object "com/example/data_in_bounds/datainbounds/constraint/Level"), (.object "com/example/data_in_bounds/datainbounds/constraint/Level"), (.object "com/example/data_in_bounds/datainbounds/constraint/Level"), (.object "com/example/data_in_bounds/datainbounds/constraint/Level"), (.object "com/example/data_in_bounds/datainbounds/constraint/Level"), (.array (.object "com/example/data_in_bounds/datainbounds/constraint/Level"))]
  resolved := Array.replicate 143 none
  statics := some 0 }

def pool7 : Array CpInfo := pool [(1, u "java/lang/Cloneable"), (0, .class_ 1), (0, u "java/lang/Object"), (0, .class_ 3)] 3

/-- java/lang/Cloneable -/
def k7 : Class := { plain "java/lang/Cloneable" (some 0) with
  accessFlags := 1537
  interfaces := #[]
  cf := some (fileOf pool7 2 #[] #[] 1537 4 #[] #[])
  fields := #[]
  methods := #[]
  instanceTypes := #[]
  staticTypes := #[]
  resolved := Array.replicate 8 none
  statics := none }

/-- the primitive byte -/
def k8 : Class := { plain "byte" none with kind := .primitive 'B', accessFlags := 0x411 }
/-- [B -/
def k9 : Class := { plain "[B" (some 0) with kind := .array 8 .byte, interfaces := #[7, 4], accessFlags := 1041 }

/-- the primitive int -/
def k10 : Class := { plain "int" none with kind := .primitive 'I', accessFlags := 0x411 }
/-- [I -/
def k11 : Class := { plain "[I" (some 0) with kind := .array 10 .int, interfaces := #[7, 4], accessFlags := 1041 }

def heap : Heap := #[{ cls := 6, slots := #[.ref 1, .ref 2, .ref 3, .ref 4, .ref 5, .null], vm := .statics 6 },
  { cls := 6, slots := #[.null, .int 0, .int 0], vm := .none },
  { cls := 6, slots := #[.null, .int 1, .int 0], vm := .none },
  { cls := 6, slots := #[.null, .int 2, .int 0], vm := .none },
  { cls := 6, slots := #[.null, .int 3, .int 0], vm := .none },
  { cls := 6, slots := #[.null, .int 4, .int 0], vm := .none }]
def classes : Array Class := #[k0, k1, k2, k3, k4, k5, k6, k7, k8, k9, k10, k11]
def interned : List (Array UInt16 × Addr) := []
def slotsUsed : Nat := 21
def theMethod : MethodId := ⟨1, 2⟩
def args0 : Array Value := #[.int 5]
def aboutOver (below : List Frame) : State where
  vm := { classes := classes, interned := interned.toArray }
  heap := heap
  slotsUsed := slotsUsed
  threads := #[{ frames := .invoking theMethod args0 :: below }]
def below0 : List Frame := [.native { method := ⟨0, 0⟩, args := #[] }]
def about1 : State := aboutOver below0
def p0 : Program := .bare "" "" ""
def e0 : Env := launch0.env 0 0 0
theorem w_frames : about1.frames = Frame.invoking theMethod args0 :: below0 := rfl
set_option maxRecDepth 65536 in
theorem w_args : argsFit about1.vm theMethod args0 = true := by decide +kernel
set_option maxRecDepth 65536 in
theorem w_heap : heapFits about1 = true := by decide +kernel
set_option maxRecDepth 65536 in
theorem w_runnable : about1.curStatus? = some .runnable := by decide +kernel
set_option maxRecDepth 65536 in
theorem w_alone : about1.alone = true := by decide +kernel
set_option maxRecDepth 65536 in
theorem w_named : about1.methodNamed? x = some theMethod := by decide +kernel
set_option maxRecDepth 65536 in
theorem w_hears : about1.hears theMethod below0 = true := by decide +kernel
set_option maxRecDepth 65536 in
theorem w_ripe : about1.ripe theMethod args0 below0 = true := by decide +kernel
theorem w_running : about1.status = .running := rfl
set_option maxRecDepth 65536 in
theorem w_room : about1.hasRoom e0.platform room_1 = true :=
  launch0.hasRoom_least _ room_1 (by decide +kernel) (by decide +kernel) (by decide +kernel) (by decide +kernel) (by decide +kernel) (by decide +kernel)
theorem allAtoms_all (ts : List Jvm.Cond) (a : Array Jvm.Value) (st : Jvm.State) : (allAtoms ts).before a st = ts.all (fun c => c.before a st) := by
  induction ts with
  | nil => rfl
  | cons c t ih =>
    show (Jvm.Cond.and c (allAtoms t)).before a st = _
    rw [Jvm.Cond.before_and, ih, List.all_cons]
def words1 : List Jvm.Cond := Jvm.Cond.code x code maxLocals ret :: tables_1
/-- a 'code' word, met by the world's own term for the bytes: nothing is compared byte by byte -/
theorem code_word {y : MethodName} {bytes : ByteArray} {mx : Nat} {rt : Option FieldType} {a : Array Value} {s : State} {m : MethodId} {meth : Method} {c : Code} (h1 : s.methodNamed? y = some m) (h2 : s.vm.method? m = some meth) (h3 : meth.code = some c) (h4 : c.code = bytes)
    (h5 : (c.maxLocals == mx && c.exceptionTable.isEmpty && decide (c.maxStack ≤ mostOperands) && decide (meth.sig.returnType = rt) && !meth.locks && decide (parseMethodDescriptor y.desc = some meth.sig)) = true) : (Jvm.Cond.code y bytes mx rt).before a s = true := by
  simp only [Bool.and_eq_true, beq_iff_eq, Bool.not_eq_true', decide_eq_true_eq] at h5
  obtain ⟨⟨⟨⟨⟨g1, g2⟩, g3⟩, g4⟩, g5⟩, g6⟩ := h5
  simp [Cond.before, Cond.holds, Cond.value, h1, h2, h3, h4, g1, g2, g3, g4, g5, g6]
def isCode : Jvm.Cond → Bool
  | .code _ _ _ _ => true
  | _ => false
theorem all_split {L : List Jvm.Cond} {P : Jvm.Cond → Bool} (h1 : L.all (fun c => isCode c || P c) = true) (h2 : ∀ c ∈ L.filter isCode, P c = true) : L.all P = true := by
  refine List.all_eq_true.mpr fun c hc => ?_
  have h := List.all_eq_true.mp h1 c hc
  rcases Bool.eq_false_or_eq_true (isCode c) with hi | hi
  · exact h2 c (List.mem_filter.mpr ⟨hc, hi⟩)
  · simpa [hi] using h
set_option maxRecDepth 65536 in
theorem w_c0 : (Jvm.Cond.code x code maxLocals ret).before args0 about1 = true := code_word (m := ⟨1, 2⟩) (meth := k1m2) (c := k1c2) (by decide +kernel) rfl rfl rfl (by decide +kernel)
set_option maxRecDepth 65536 in
theorem w_c1 : (Jvm.Cond.code ({ cls := "com/example/data_in_bounds/datainbounds/constraint/LevelMakesInvalidPinLaw", name := "pick", desc := "(I)Lcom/example/data_in_bounds/datainbounds/constraint/Level;" } : Jvm.MethodName) method_2_code (1 : Nat) (Option.some (Jvm.ClassFile.FieldType.object "com/example/data_in_bounds/datainbounds/constraint/Level"))).before args0 about1 = true := code_word (m := ⟨1, 1⟩) (meth := k1m1) (c := k1c1) (by decide +kernel) rfl rfl rfl (by decide +kernel)
set_option maxRecDepth 65536 in
theorem w_c2 : (Jvm.Cond.code ({ cls := "com/example/data_in_bounds/datainbounds/constraint/Level", name := "makesInvalid", desc := "()Z" } : Jvm.MethodName) prog_17_method_5_code (1 : Nat) (Option.some Jvm.ClassFile.FieldType.boolean)).before args0 about1 = true := code_word (m := ⟨6, 0⟩) (meth := k6m0) (c := k6c0) (by decide +kernel) rfl rfl rfl (by decide +kernel)
def codes1 : List Jvm.Cond := [Jvm.Cond.code x code maxLocals ret, Jvm.Cond.code ({ cls := "com/example/data_in_bounds/datainbounds/constraint/LevelMakesInvalidPinLaw", name := "pick", desc := "(I)Lcom/example/data_in_bounds/datainbounds/constraint/Level;" } : Jvm.MethodName) method_2_code (1 : Nat) (Option.some (Jvm.ClassFile.FieldType.object "com/example/data_in_bounds/datainbounds/constraint/Level")), Jvm.Cond.code ({ cls := "com/example/data_in_bounds/datainbounds/constraint/Level", name := "makesInvalid", desc := "()Z" } : Jvm.MethodName) prog_17_method_5_code (1 : Nat) (Option.some Jvm.ClassFile.FieldType.boolean)]
set_option maxRecDepth 65536 in
theorem codes_eq : words1.filter isCode = codes1 := rfl
theorem w_codes : ∀ c ∈ words1.filter isCode, c.before args0 about1 = true := by
  rw [codes_eq]
  intro c hc
  simp only [codes1, List.mem_cons, List.not_mem_nil, or_false] at hc
  rcases hc with rfl | rfl | rfl
  · exact w_c0
  · exact w_c1
  · exact w_c2
set_option maxRecDepth 65536 in
theorem w_t1 : words1.all (fun c => isCode c || c.before args0 about1) = true := by decide +kernel
theorem w_tables : (allAtoms (Jvm.Cond.code x code maxLocals ret :: tables_1)).before args0 about1 = true := by
  rw [allAtoms_all]
  show words1.all (fun c => c.before args0 about1) = true
  refine all_split ?_ w_codes
  rw [w_t1]
set_option maxRecDepth 65536 in
theorem w_case : (Jvm.Cond.and given_1 narrow_1).before args0 about1 = true := by decide +kernel
theorem w_applies : (headSpec (Jvm.Cond.code x code maxLocals ret :: tables_1) room_1).applies x e0.platform about1 = true :=
  (Spec.applies_iff w_frames).mpr ⟨w_running, w_runnable, w_alone, w_named, w_hears, w_ripe, w_room, w_tables⟩
theorem atStart : AtStart classFile x code maxLocals ret World_1 tables_1 room_1 Calls_1 rest_1 Pre_1 launch0 p0 e0 about1 theMethod args0 below0 :=
  ⟨lists_1, trivial, launch0.admits_env _ _ _, launch0.least_env, fairChoices_fair.cas, fairChoices_fair.clock, w_frames, w_args, w_heap, w_applies, trivial, trivial, w_case⟩
end start1
theorem witness_1 : WitnessClaimed_1 := ⟨start1.p0, start1.e0, start1.about1, start1.theMethod, start1.args0, start1.below0, start1.atStart⟩
end Jvm.Pilot.@@N@@
