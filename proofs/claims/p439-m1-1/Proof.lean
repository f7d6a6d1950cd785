import JvmDerived
import JvmDerived.Pilot.@@N@@Statement
import JvmDerived.Pilot.@@N@@Code
set_option linter.unusedVariables false
set_option linter.unusedSimpArgs false
namespace Jvm.Pilot.@@N@@
open Jvm Jvm.ClassFile Sem Op Lib Jvm.Free Jvm.Stand Jvm.LawKit Jvm.RoadKit Bundle Jvm.Pilot.@@N@@.Jvm.D
def Go (p : Program) (e : Env) (below : List Frame) (S : State) (P : State → Outcome → Prop) : Prop := ∃ t o, Steps p.tables e below S t ∧ P t o
abbrev Gm (p : Program) (e : Env) (below : List Frame) (T : State) (m : MethodId) (pc : Nat) (ls : Array Slot) (st : List Value) (P : State → Outcome → Prop) : Prop := Go p e below (T.setTop (mkF m pc ls st)) P
abbrev lv (x : Int64) : Slot := .val (.long x)
theorem own_in {p : Program} {e : Env} {below : List Frame} {T : State} {g g' : JFrame} {P : State → Outcome → Prop} (q : g = g') (h : Go p e below (T.setTop g') P) : ∃ s₂ o, Steps p.tables e below (T.setTop g) s₂ ∧ P s₂ o := q ▸ h
theorem own_go {p : Program} {e : Env} {below : List Frame} {S S' : State} {P : State → Outcome → Prop} (k : ∀ t, Steps p.tables e below S' t → Steps p.tables e below S t) (h : Go p e below S' P) : Go p e below S P := by
  obtain ⟨t, o, h1, h2⟩ := h
  exact ⟨t, o, k t h1, h2⟩
section Rets
variable {p : Program} {l : Launch} {e : Env} {R : Room} {s : State} {m : MethodId} {args : Array Value} {below : List Frame} {meth : Method} {c : Code} {T : State} {locs : List Loc} {cells slots : Nat}
theorem own_retI (X : Stand p l e R s m args below meth c T locs cells slots) (hx : p.tables.exec = Jvm.exec) (hlk : meth.locks = false) {pc : Nat} {Ls : Array Slot} {z : Int32} {t : FieldType} {Q : Option Value → Heap → List Loc → Prop} {C N : Nat} (hret : meth.sig.returnType = some t) (hn : narrow t (.int z) = .int z) (ht : t = .int ∨ t = .boolean ∨ t = .byte ∨ t = .char ∨ t = .short)
    (hd : decode c.code pc = .ok (.ireturn, 1)) {h : Heap} (eh : T.heap = h) (hq : Q (some (.int z)) h locs) (hC : cells ≤ C) (hN : slots ≤ N) : Go p e below (T.setTop (mkF m pc Ls [.int z])) (fun t o => t.status = .running ∧ Ended t below o ∧ ∃ v L, o = .returned v ∧ Q v t.heap L ∧ FrameEnd s o t L C N) := by
  subst eh
  obtain ⟨fs, hr, hrun, hended, hW, hsame⟩ := X.leave (v := some (.int z)) (fun h => by rw [hret] at h; cases h) hlk
  exact ⟨_, _, X.ireturnOut hx hret hn ht hd hr, hrun, hended, _, _, rfl, hq, ⟨_, rfl⟩, hW, hsame.mono hC hN⟩
theorem own_retL (X : Stand p l e R s m args below meth c T locs cells slots) (hx : p.tables.exec = Jvm.exec) (hlk : meth.locks = false) {pc : Nat} {Ls : Array Slot} {z : Int64} {Q : Option Value → Heap → List Loc → Prop} {C N : Nat} (hret : meth.sig.returnType = some .long)
    (hd : decode c.code pc = .ok (.lreturn, 1)) {h : Heap} (eh : T.heap = h) (hq : Q (some (.long z)) h locs) (hC : cells ≤ C) (hN : slots ≤ N) : Go p e below (T.setTop (mkF m pc Ls [.long z])) (fun t o => t.status = .running ∧ Ended t below o ∧ ∃ v L, o = .returned v ∧ Q v t.heap L ∧ FrameEnd s o t L C N) := by
  subst eh
  obtain ⟨fs, hr, hrun, hended, hW, hsame⟩ := X.leave (v := some (.long z)) (fun h => by rw [hret] at h; cases h) hlk
  exact ⟨_, _, X.lreturnOut hx hret hd hr, hrun, hended, _, _, rfl, hq, ⟨_, rfl⟩, hW, hsame.mono hC hN⟩
theorem own_retA (X : Stand p l e R s m args below meth c T locs cells slots) (hx : p.tables.exec = Jvm.exec) (hlk : meth.locks = false) {pc : Nat} {Ls : Array Slot} {w : Value} {t : FieldType} {Q : Option Value → Heap → List Loc → Prop} {C N : Nat} (hw : w.isRef = true) (hret : meth.sig.returnType = some t) (ht : t.isReference = true)
    (hd : decode c.code pc = .ok (.areturn, 1)) {h : Heap} (eh : T.heap = h) (hq : Q (some w) h locs) (hC : cells ≤ C) (hN : slots ≤ N) : Go p e below (T.setTop (mkF m pc Ls [w])) (fun t o => t.status = .running ∧ Ended t below o ∧ ∃ v L, o = .returned v ∧ Q v t.heap L ∧ FrameEnd s o t L C N) := by
  subst eh
  obtain ⟨fs, hr, hrun, hended, hW, hsame⟩ := X.leave (v := some w) (fun h => by rw [hret] at h; cases h) hlk
  exact ⟨_, _, X.areturnOut hx hw hret ht hd hr, hrun, hended, _, _, rfl, hq, ⟨_, rfl⟩, hW, hsame.mono hC hN⟩
theorem own_retV (X : Stand p l e R s m args below meth c T locs cells slots) (hx : p.tables.exec = Jvm.exec) (hlk : meth.locks = false) {pc : Nat} {Ls : Array Slot} {Q : Option Value → Heap → List Loc → Prop} {C N : Nat} (hret : meth.sig.returnType = none)
    (hd : decode c.code pc = .ok (.return_, 1)) {h : Heap} (eh : T.heap = h) (hq : Q none h locs) (hC : cells ≤ C) (hN : slots ≤ N) : Go p e below (T.setTop (mkF m pc Ls [])) (fun t o => t.status = .running ∧ Ended t below o ∧ ∃ v L, o = .returned v ∧ Q v t.heap L ∧ FrameEnd s o t L C N) := by
  subst eh
  obtain ⟨fs, hr, hrun, hended, hW, hsame⟩ := X.leave (v := none) (fun _ => rfl) hlk
  exact ⟨_, _, X.returnOut hx hret hd hr, hrun, hended, _, _, rfl, hq, ⟨_, rfl⟩, hW, hsame.mono hC hN⟩
end Rets

def ush (k : Int32) (x : Int64) : Int64 := (x.toUInt64 >>> (k &&& 0x3f).toInt64.toUInt64).toInt64
def xs1 (k : Int32) (x : Int64) : Int64 := x ^^^ ush k x
def xs2 (k k2 : Int32) (x : Int64) : Int64 := (x ^^^ ush k x) ^^^ ush k2 x
def nw (c x : Int64) : Int64 := x * ((2 : Int64) - (c * x))
def inv (c : Int64) : Int64 := nw c (nw c (nw c (nw c (nw c c))))
def mixF (z : Int64) : Int64 := xs1 31 (xs1 27 (xs1 30 z * (-4658895280553007687 : Int64)) * (-7723592293110705685 : Int64))
def unmixF (y : Int64) : Int64 := xs2 30 60 (xs2 27 54 (xs2 31 62 y * inv (-7723592293110705685 : Int64)) * inv (-4658895280553007687 : Int64))
theorem ush_bv (x : Int64) : (ush 30 x).toBitVec = x.toBitVec >>> 30 ∧ (ush 60 x).toBitVec = x.toBitVec >>> 60 ∧ (ush 27 x).toBitVec = x.toBitVec >>> 27 ∧ (ush 54 x).toBitVec = x.toBitVec >>> 54 ∧ (ush 31 x).toBitVec = x.toBitVec >>> 31 ∧ (ush 62 x).toBitVec = x.toBitVec >>> 62 := ⟨rfl, rfl, rfl, rfl, rfl, rfl⟩
theorem xs_bv (x : BitVec 64) (k k2 : Nat) (h2 : k2 = k + k) (h3 : 64 ≤ k + k2) : (x ^^^ (x >>> k)) ^^^ ((x ^^^ (x >>> k)) >>> k) ^^^ ((x ^^^ (x >>> k)) >>> k2) = x := by
  subst h2
  rw [BitVec.ushiftRight_xor_distrib, BitVec.ushiftRight_xor_distrib, ← BitVec.shiftRight_add, ← BitVec.shiftRight_add]
  have hz : x >>> (k + (k + k)) = 0#64 := by
    apply BitVec.eq_of_getLsbD_eq
    intro i hi
    rw [BitVec.getLsbD_ushiftRight]
    simp
    apply BitVec.getLsbD_of_ge
    omega
  rw [hz, BitVec.xor_zero]
  generalize x >>> k = a
  generalize x >>> (k + k) = b
  rw [BitVec.xor_assoc x a (a ^^^ b), ← BitVec.xor_assoc a a b, BitVec.xor_self, BitVec.zero_xor, BitVec.xor_assoc, BitVec.xor_self, BitVec.xor_zero]
theorem back31 (x : Int64) : xs2 31 62 (xs1 31 x) = x := by
  apply Int64.toBitVec_inj.mp
  show ((xs1 31 x).toBitVec ^^^ (ush 31 (xs1 31 x)).toBitVec) ^^^ (ush 62 (xs1 31 x)).toBitVec = _
  rw [(ush_bv _).2.2.2.2.1, (ush_bv _).2.2.2.2.2]
  show (x.toBitVec ^^^ (ush 31 x).toBitVec) ^^^ ((x.toBitVec ^^^ (ush 31 x).toBitVec) >>> 31) ^^^ ((x.toBitVec ^^^ (ush 31 x).toBitVec) >>> 62) = _
  rw [(ush_bv _).2.2.2.2.1]
  exact xs_bv _ 31 62 rfl (by decide)
theorem back27 (x : Int64) : xs2 27 54 (xs1 27 x) = x := by
  apply Int64.toBitVec_inj.mp
  show ((xs1 27 x).toBitVec ^^^ (ush 27 (xs1 27 x)).toBitVec) ^^^ (ush 54 (xs1 27 x)).toBitVec = _
  rw [(ush_bv _).2.2.1, (ush_bv _).2.2.2.1]
  show (x.toBitVec ^^^ (ush 27 x).toBitVec) ^^^ ((x.toBitVec ^^^ (ush 27 x).toBitVec) >>> 27) ^^^ ((x.toBitVec ^^^ (ush 27 x).toBitVec) >>> 54) = _
  rw [(ush_bv _).2.2.1]
  exact xs_bv _ 27 54 rfl (by decide)
theorem back30 (x : Int64) : xs2 30 60 (xs1 30 x) = x := by
  apply Int64.toBitVec_inj.mp
  show ((xs1 30 x).toBitVec ^^^ (ush 30 (xs1 30 x)).toBitVec) ^^^ (ush 60 (xs1 30 x)).toBitVec = _
  rw [(ush_bv _).1, (ush_bv _).2.1]
  show (x.toBitVec ^^^ (ush 30 x).toBitVec) ^^^ ((x.toBitVec ^^^ (ush 30 x).toBitVec) >>> 30) ^^^ ((x.toBitVec ^^^ (ush 30 x).toBitVec) >>> 60) = _
  rw [(ush_bv _).1]
  exact xs_bv _ 30 60 rfl (by decide)
theorem inv1 : (-4658895280553007687 : Int64) * inv (-4658895280553007687 : Int64) = 1 := by decide +kernel
theorem inv2 : (-7723592293110705685 : Int64) * inv (-7723592293110705685 : Int64) = 1 := by decide +kernel
theorem own_law (z : Int64) : unmixF (mixF z) = z := by
  unfold unmixF mixF
  rw [back31, Int64.mul_assoc, inv2, Int64.mul_one, back27, Int64.mul_assoc, inv1, Int64.mul_one, back30]
theorem d3_0 : decode method_2_code 0 = .ok (.lload_n 0, 1) := by decide +kernel
theorem d3_1 : decode method_2_code 1 = .ok (.lstore_n 2, 1) := by decide +kernel
theorem d3_2 : decode method_2_code 2 = .ok (.lload_n 2, 1) := by decide +kernel
theorem d3_3 : decode method_2_code 3 = .ok (.ldc2_w 7, 3) := by decide +kernel
theorem d3_6 : decode method_2_code 6 = .ok (.lload_n 0, 1) := by decide +kernel
theorem d3_7 : decode method_2_code 7 = .ok (.lload_n 2, 1) := by decide +kernel
theorem d3_8 : decode method_2_code 8 = .ok (.lmul, 1) := by decide +kernel
theorem d3_9 : decode method_2_code 9 = .ok (.lsub, 1) := by decide +kernel
theorem d3_10 : decode method_2_code 10 = .ok (.lmul, 1) := by decide +kernel
theorem d3_11 : decode method_2_code 11 = .ok (.lstore_n 2, 1) := by decide +kernel
theorem d3_12 : decode method_2_code 12 = .ok (.lload_n 2, 1) := by decide +kernel
theorem d3_13 : decode method_2_code 13 = .ok (.ldc2_w 7, 3) := by decide +kernel
theorem d3_16 : decode method_2_code 16 = .ok (.lload_n 0, 1) := by decide +kernel
theorem d3_17 : decode method_2_code 17 = .ok (.lload_n 2, 1) := by decide +kernel
theorem d3_18 : decode method_2_code 18 = .ok (.lmul, 1) := by decide +kernel
theorem d3_19 : decode method_2_code 19 = .ok (.lsub, 1) := by decide +kernel
theorem d3_20 : decode method_2_code 20 = .ok (.lmul, 1) := by decide +kernel
theorem d3_21 : decode method_2_code 21 = .ok (.lstore_n 2, 1) := by decide +kernel
theorem d3_22 : decode method_2_code 22 = .ok (.lload_n 2, 1) := by decide +kernel
theorem d3_23 : decode method_2_code 23 = .ok (.ldc2_w 7, 3) := by decide +kernel
theorem d3_26 : decode method_2_code 26 = .ok (.lload_n 0, 1) := by decide +kernel
theorem d3_27 : decode method_2_code 27 = .ok (.lload_n 2, 1) := by decide +kernel
theorem d3_28 : decode method_2_code 28 = .ok (.lmul, 1) := by decide +kernel
theorem d3_29 : decode method_2_code 29 = .ok (.lsub, 1) := by decide +kernel
theorem d3_30 : decode method_2_code 30 = .ok (.lmul, 1) := by decide +kernel
theorem d3_31 : decode method_2_code 31 = .ok (.lstore_n 2, 1) := by decide +kernel
theorem d3_32 : decode method_2_code 32 = .ok (.lload_n 2, 1) := by decide +kernel
theorem d3_33 : decode method_2_code 33 = .ok (.ldc2_w 7, 3) := by decide +kernel
theorem d3_36 : decode method_2_code 36 = .ok (.lload_n 0, 1) := by decide +kernel
theorem d3_37 : decode method_2_code 37 = .ok (.lload_n 2, 1) := by decide +kernel
theorem d3_38 : decode method_2_code 38 = .ok (.lmul, 1) := by decide +kernel
theorem d3_39 : decode method_2_code 39 = .ok (.lsub, 1) := by decide +kernel
theorem d3_40 : decode method_2_code 40 = .ok (.lmul, 1) := by decide +kernel
theorem d3_41 : decode method_2_code 41 = .ok (.lstore_n 2, 1) := by decide +kernel
theorem d3_42 : decode method_2_code 42 = .ok (.lload_n 2, 1) := by decide +kernel
theorem d3_43 : decode method_2_code 43 = .ok (.ldc2_w 7, 3) := by decide +kernel
theorem d3_46 : decode method_2_code 46 = .ok (.lload_n 0, 1) := by decide +kernel
theorem d3_47 : decode method_2_code 47 = .ok (.lload_n 2, 1) := by decide +kernel
theorem d3_48 : decode method_2_code 48 = .ok (.lmul, 1) := by decide +kernel
theorem d3_49 : decode method_2_code 49 = .ok (.lsub, 1) := by decide +kernel
theorem d3_50 : decode method_2_code 50 = .ok (.lmul, 1) := by decide +kernel
theorem d3_51 : decode method_2_code 51 = .ok (.lstore_n 2, 1) := by decide +kernel
theorem d3_52 : decode method_2_code 52 = .ok (.lload_n 2, 1) := by decide +kernel
theorem d3_53 : decode method_2_code 53 = .ok (.lreturn, 1) := by decide +kernel
theorem own_pn_rm3 : plainName "com/example/design_drills/designdrills/util/SplitMixMixPinLaw" = true := by first | (simp [plainName, overriddenIn]; done) | decide +kernel
theorem own_ef_rm3 (m : MethodId) (q0 : Int64) : entryFrame m #[(.long q0)] 4 = mkF m 0 #[.val (.long q0), .second, .unset, .unset] [] := by first | (simp [entryFrame, mkF, argsToLocals, Value.category]; done) | rfl
def Q3 (Z : State) (q0 : Int64) (h0 : Heap) (n0 : Nat) (v : Option Value) (h : Heap) (L : List Loc) : Prop := v = some (.long (inv q0)) ∧ Fr n0 L ∧ h = h0
set_option maxRecDepth 65536 in
set_option maxHeartbeats 40000000 in
theorem rm3 (l : Launch) (Z : State) (a0 : Array Value) (hw : ∀ d ∈ tables_1, d.before a0 Z = true) (ws : List Jvm.Cond) (q0 : Int64) (h0 : Heap) (n0 : Nat) (Z0 : n0 ≤ h0.size) :
    MetFree l (⟨"com/example/design_drills/designdrills/util/SplitMixMixPinLaw", "inverseOdd", "(J)J"⟩ : MethodName) (head1 (Jvm.Cond.code (⟨"com/example/design_drills/designdrills/util/SplitMixMixPinLaw", "inverseOdd", "(J)J"⟩ : MethodName) method_2_code 4 (some .long) :: ws) ({ frames := 0, cells := 0, slots := 0, locals := 0 } : Room)) (fun a U => a = #[(.long q0)] ∧ Z.Warmed39 U.vm ∧ U.heap = h0) (fun _ _ _ _ _ => True) (fun _ U o U' => ∃ v L, o = .returned v ∧ Q3 Z q0 h0 n0 v U'.heap L ∧ FrameEnd U o U' L ({ frames := 0, cells := 0, slots := 0, locals := 0 } : Room).cells ({ frames := 0, cells := 0, slots := 0, locals := 0 } : Room).slots) := by
  refine MetFree.of_bodySF (plainFor_of_name own_pn_rm3) hisR ?_
  intro p e s m args below meth c s₁ Bd hml0 hP hK
  obtain ⟨rfl, hZ, hh⟩ := hP
  have hx := Bd.exec
  have hby := Bd.bytes
  have hml : c.maxLocals = 4 := hml0
  have hown : s.vm.findClass "com/example/design_drills/designdrills/util/SplitMixMixPinLaw" = some m.cls := findClass_of_methodNamed Bd.named
  have hnm := (name_of_methodNamed Bd.named Bd.method).1
  have hlk : meth.locks = false := BodyLoose.notSynchronized Bd
  have X0 : Stand p l e ({ frames := 0, cells := 0, slots := 0, locals := 0 } : Room) s m #[(.long q0)] below meth c s₁ [] 0 0 := Stand.of_body Bd
  have e0 : s₁.heap = h0 := by rw [← hh, Bd.state]; rfl
  have N0 := Fr.nil n0
  refine own_in (own_ef_rm3 m q0) ?_
  show Gm p e below s₁ m 0 #[lv q0, .second, .unset, .unset] [] _
  refine own_go (fun t k => XS.lloadN X0.here hx rfl (hb hby d3_0) rfl k) ?_
  show Gm p e below s₁ m 1 #[lv q0, .second, .unset, .unset] [(.long q0)] _
  refine own_go (fun t k => XS.lstoreN X0.here hx rfl (hb hby d3_1) rfl (l' := #[lv q0, .second, lv q0, .second]) rfl k) ?_
  show Gm p e below s₁ m 2 #[lv q0, .second, lv q0, .second] [] _
  refine own_go (fun t k => XS.lloadN X0.here hx rfl (hb hby d3_2) rfl k) ?_
  show Gm p e below s₁ m 3 #[lv q0, .second, lv q0, .second] [(.long q0)] _
  refine own_go (fun t k => X0.ldc2J hx hown (mvT hZ (hw _ (List.mem_of_getElem? (i := 14) rfl))) rfl (hb hby d3_3) k) ?_
  show Gm p e below s₁ m 6 #[lv q0, .second, lv q0, .second] [(.long (2 : Int64)), (.long q0)] _
  refine own_go (fun t k => XS.lloadN X0.here hx rfl (hb hby d3_6) rfl k) ?_
  show Gm p e below s₁ m 7 #[lv q0, .second, lv q0, .second] [(.long q0), (.long (2 : Int64)), (.long q0)] _
  refine own_go (fun t k => XS.lloadN X0.here hx rfl (hb hby d3_7) rfl k) ?_
  show Gm p e below s₁ m 8 #[lv q0, .second, lv q0, .second] [(.long q0), (.long q0), (.long (2 : Int64)), (.long q0)] _
  refine own_go (fun t k => XS.lmul X0.here hx rfl (hb hby d3_8) rfl k) ?_
  show Gm p e below s₁ m 9 #[lv q0, .second, lv q0, .second] [(.long (q0 * q0)), (.long (2 : Int64)), (.long q0)] _
  refine own_go (fun t k => XS.lsub X0.here hx rfl (hb hby d3_9) rfl k) ?_
  show Gm p e below s₁ m 10 #[lv q0, .second, lv q0, .second] [(.long ((2 : Int64) - (q0 * q0))), (.long q0)] _
  refine own_go (fun t k => XS.lmul X0.here hx rfl (hb hby d3_10) rfl k) ?_
  show Gm p e below s₁ m 11 #[lv q0, .second, lv q0, .second] [(.long (q0 * ((2 : Int64) - (q0 * q0))))] _
  refine own_go (fun t k => XS.lstoreN X0.here hx rfl (hb hby d3_11) rfl (l' := #[lv q0, .second, lv (nw q0 q0), .second]) rfl k) ?_
  show Gm p e below s₁ m 12 #[lv q0, .second, lv (nw q0 q0), .second] [] _
  refine own_go (fun t k => XS.lloadN X0.here hx rfl (hb hby d3_12) rfl k) ?_
  show Gm p e below s₁ m 13 #[lv q0, .second, lv (nw q0 q0), .second] [(.long (nw q0 q0))] _
  refine own_go (fun t k => X0.ldc2J hx hown (mvT hZ (hw _ (List.mem_of_getElem? (i := 14) rfl))) rfl (hb hby d3_13) k) ?_
  show Gm p e below s₁ m 16 #[lv q0, .second, lv (nw q0 q0), .second] [(.long (2 : Int64)), (.long (nw q0 q0))] _
  refine own_go (fun t k => XS.lloadN X0.here hx rfl (hb hby d3_16) rfl k) ?_
  show Gm p e below s₁ m 17 #[lv q0, .second, lv (nw q0 q0), .second] [(.long q0), (.long (2 : Int64)), (.long (nw q0 q0))] _
  refine own_go (fun t k => XS.lloadN X0.here hx rfl (hb hby d3_17) rfl k) ?_
  show Gm p e below s₁ m 18 #[lv q0, .second, lv (nw q0 q0), .second] [(.long (nw q0 q0)), (.long q0), (.long (2 : Int64)), (.long (nw q0 q0))] _
  refine own_go (fun t k => XS.lmul X0.here hx rfl (hb hby d3_18) rfl k) ?_
  show Gm p e below s₁ m 19 #[lv q0, .second, lv (nw q0 q0), .second] [(.long (q0 * (nw q0 q0))), (.long (2 : Int64)), (.long (nw q0 q0))] _
  refine own_go (fun t k => XS.lsub X0.here hx rfl (hb hby d3_19) rfl k) ?_
  show Gm p e below s₁ m 20 #[lv q0, .second, lv (nw q0 q0), .second] [(.long ((2 : Int64) - (q0 * (nw q0 q0)))), (.long (nw q0 q0))] _
  refine own_go (fun t k => XS.lmul X0.here hx rfl (hb hby d3_20) rfl k) ?_
  show Gm p e below s₁ m 21 #[lv q0, .second, lv (nw q0 q0), .second] [(.long ((nw q0 q0) * ((2 : Int64) - (q0 * (nw q0 q0)))))] _
  refine own_go (fun t k => XS.lstoreN X0.here hx rfl (hb hby d3_21) rfl (l' := #[lv q0, .second, lv (nw q0 (nw q0 q0)), .second]) rfl k) ?_
  show Gm p e below s₁ m 22 #[lv q0, .second, lv (nw q0 (nw q0 q0)), .second] [] _
  refine own_go (fun t k => XS.lloadN X0.here hx rfl (hb hby d3_22) rfl k) ?_
  show Gm p e below s₁ m 23 #[lv q0, .second, lv (nw q0 (nw q0 q0)), .second] [(.long (nw q0 (nw q0 q0)))] _
  refine own_go (fun t k => X0.ldc2J hx hown (mvT hZ (hw _ (List.mem_of_getElem? (i := 14) rfl))) rfl (hb hby d3_23) k) ?_
  show Gm p e below s₁ m 26 #[lv q0, .second, lv (nw q0 (nw q0 q0)), .second] [(.long (2 : Int64)), (.long (nw q0 (nw q0 q0)))] _
  refine own_go (fun t k => XS.lloadN X0.here hx rfl (hb hby d3_26) rfl k) ?_
  show Gm p e below s₁ m 27 #[lv q0, .second, lv (nw q0 (nw q0 q0)), .second] [(.long q0), (.long (2 : Int64)), (.long (nw q0 (nw q0 q0)))] _
  refine own_go (fun t k => XS.lloadN X0.here hx rfl (hb hby d3_27) rfl k) ?_
  show Gm p e below s₁ m 28 #[lv q0, .second, lv (nw q0 (nw q0 q0)), .second] [(.long (nw q0 (nw q0 q0))), (.long q0), (.long (2 : Int64)), (.long (nw q0 (nw q0 q0)))] _
  refine own_go (fun t k => XS.lmul X0.here hx rfl (hb hby d3_28) rfl k) ?_
  show Gm p e below s₁ m 29 #[lv q0, .second, lv (nw q0 (nw q0 q0)), .second] [(.long (q0 * (nw q0 (nw q0 q0)))), (.long (2 : Int64)), (.long (nw q0 (nw q0 q0)))] _
  refine own_go (fun t k => XS.lsub X0.here hx rfl (hb hby d3_29) rfl k) ?_
  show Gm p e below s₁ m 30 #[lv q0, .second, lv (nw q0 (nw q0 q0)), .second] [(.long ((2 : Int64) - (q0 * (nw q0 (nw q0 q0))))), (.long (nw q0 (nw q0 q0)))] _
  refine own_go (fun t k => XS.lmul X0.here hx rfl (hb hby d3_30) rfl k) ?_
  show Gm p e below s₁ m 31 #[lv q0, .second, lv (nw q0 (nw q0 q0)), .second] [(.long ((nw q0 (nw q0 q0)) * ((2 : Int64) - (q0 * (nw q0 (nw q0 q0))))))] _
  refine own_go (fun t k => XS.lstoreN X0.here hx rfl (hb hby d3_31) rfl (l' := #[lv q0, .second, lv (nw q0 (nw q0 (nw q0 q0))), .second]) rfl k) ?_
  show Gm p e below s₁ m 32 #[lv q0, .second, lv (nw q0 (nw q0 (nw q0 q0))), .second] [] _
  refine own_go (fun t k => XS.lloadN X0.here hx rfl (hb hby d3_32) rfl k) ?_
  show Gm p e below s₁ m 33 #[lv q0, .second, lv (nw q0 (nw q0 (nw q0 q0))), .second] [(.long (nw q0 (nw q0 (nw q0 q0))))] _
  refine own_go (fun t k => X0.ldc2J hx hown (mvT hZ (hw _ (List.mem_of_getElem? (i := 14) rfl))) rfl (hb hby d3_33) k) ?_
  show Gm p e below s₁ m 36 #[lv q0, .second, lv (nw q0 (nw q0 (nw q0 q0))), .second] [(.long (2 : Int64)), (.long (nw q0 (nw q0 (nw q0 q0))))] _
  refine own_go (fun t k => XS.lloadN X0.here hx rfl (hb hby d3_36) rfl k) ?_
  show Gm p e below s₁ m 37 #[lv q0, .second, lv (nw q0 (nw q0 (nw q0 q0))), .second] [(.long q0), (.long (2 : Int64)), (.long (nw q0 (nw q0 (nw q0 q0))))] _
  refine own_go (fun t k => XS.lloadN X0.here hx rfl (hb hby d3_37) rfl k) ?_
  show Gm p e below s₁ m 38 #[lv q0, .second, lv (nw q0 (nw q0 (nw q0 q0))), .second] [(.long (nw q0 (nw q0 (nw q0 q0)))), (.long q0), (.long (2 : Int64)), (.long (nw q0 (nw q0 (nw q0 q0))))] _
  refine own_go (fun t k => XS.lmul X0.here hx rfl (hb hby d3_38) rfl k) ?_
  show Gm p e below s₁ m 39 #[lv q0, .second, lv (nw q0 (nw q0 (nw q0 q0))), .second] [(.long (q0 * (nw q0 (nw q0 (nw q0 q0))))), (.long (2 : Int64)), (.long (nw q0 (nw q0 (nw q0 q0))))] _
  refine own_go (fun t k => XS.lsub X0.here hx rfl (hb hby d3_39) rfl k) ?_
  show Gm p e below s₁ m 40 #[lv q0, .second, lv (nw q0 (nw q0 (nw q0 q0))), .second] [(.long ((2 : Int64) - (q0 * (nw q0 (nw q0 (nw q0 q0)))))), (.long (nw q0 (nw q0 (nw q0 q0))))] _
  refine own_go (fun t k => XS.lmul X0.here hx rfl (hb hby d3_40) rfl k) ?_
  show Gm p e below s₁ m 41 #[lv q0, .second, lv (nw q0 (nw q0 (nw q0 q0))), .second] [(.long ((nw q0 (nw q0 (nw q0 q0))) * ((2 : Int64) - (q0 * (nw q0 (nw q0 (nw q0 q0)))))))] _
  refine own_go (fun t k => XS.lstoreN X0.here hx rfl (hb hby d3_41) rfl (l' := #[lv q0, .second, lv (nw q0 (nw q0 (nw q0 (nw q0 q0)))), .second]) rfl k) ?_
  show Gm p e below s₁ m 42 #[lv q0, .second, lv (nw q0 (nw q0 (nw q0 (nw q0 q0)))), .second] [] _
  refine own_go (fun t k => XS.lloadN X0.here hx rfl (hb hby d3_42) rfl k) ?_
  show Gm p e below s₁ m 43 #[lv q0, .second, lv (nw q0 (nw q0 (nw q0 (nw q0 q0)))), .second] [(.long (nw q0 (nw q0 (nw q0 (nw q0 q0)))))] _
  refine own_go (fun t k => X0.ldc2J hx hown (mvT hZ (hw _ (List.mem_of_getElem? (i := 14) rfl))) rfl (hb hby d3_43) k) ?_
  show Gm p e below s₁ m 46 #[lv q0, .second, lv (nw q0 (nw q0 (nw q0 (nw q0 q0)))), .second] [(.long (2 : Int64)), (.long (nw q0 (nw q0 (nw q0 (nw q0 q0)))))] _
  refine own_go (fun t k => XS.lloadN X0.here hx rfl (hb hby d3_46) rfl k) ?_
  show Gm p e below s₁ m 47 #[lv q0, .second, lv (nw q0 (nw q0 (nw q0 (nw q0 q0)))), .second] [(.long q0), (.long (2 : Int64)), (.long (nw q0 (nw q0 (nw q0 (nw q0 q0)))))] _
  refine own_go (fun t k => XS.lloadN X0.here hx rfl (hb hby d3_47) rfl k) ?_
  show Gm p e below s₁ m 48 #[lv q0, .second, lv (nw q0 (nw q0 (nw q0 (nw q0 q0)))), .second] [(.long (nw q0 (nw q0 (nw q0 (nw q0 q0))))), (.long q0), (.long (2 : Int64)), (.long (nw q0 (nw q0 (nw q0 (nw q0 q0)))))] _
  refine own_go (fun t k => XS.lmul X0.here hx rfl (hb hby d3_48) rfl k) ?_
  show Gm p e below s₁ m 49 #[lv q0, .second, lv (nw q0 (nw q0 (nw q0 (nw q0 q0)))), .second] [(.long (q0 * (nw q0 (nw q0 (nw q0 (nw q0 q0)))))), (.long (2 : Int64)), (.long (nw q0 (nw q0 (nw q0 (nw q0 q0)))))] _
  refine own_go (fun t k => XS.lsub X0.here hx rfl (hb hby d3_49) rfl k) ?_
  show Gm p e below s₁ m 50 #[lv q0, .second, lv (nw q0 (nw q0 (nw q0 (nw q0 q0)))), .second] [(.long ((2 : Int64) - (q0 * (nw q0 (nw q0 (nw q0 (nw q0 q0))))))), (.long (nw q0 (nw q0 (nw q0 (nw q0 q0)))))] _
  refine own_go (fun t k => XS.lmul X0.here hx rfl (hb hby d3_50) rfl k) ?_
  show Gm p e below s₁ m 51 #[lv q0, .second, lv (nw q0 (nw q0 (nw q0 (nw q0 q0)))), .second] [(.long ((nw q0 (nw q0 (nw q0 (nw q0 q0)))) * ((2 : Int64) - (q0 * (nw q0 (nw q0 (nw q0 (nw q0 q0))))))))] _
  refine own_go (fun t k => XS.lstoreN X0.here hx rfl (hb hby d3_51) rfl (l' := #[lv q0, .second, lv (nw q0 (nw q0 (nw q0 (nw q0 (nw q0 q0))))), .second]) rfl k) ?_
  show Gm p e below s₁ m 52 #[lv q0, .second, lv (nw q0 (nw q0 (nw q0 (nw q0 (nw q0 q0))))), .second] [] _
  refine own_go (fun t k => XS.lloadN X0.here hx rfl (hb hby d3_52) rfl k) ?_
  show Gm p e below s₁ m 53 #[lv q0, .second, lv (nw q0 (nw q0 (nw q0 (nw q0 (nw q0 q0))))), .second] [(.long (nw q0 (nw q0 (nw q0 (nw q0 (nw q0 q0))))))] _
  exact own_retL X0 hx hlk Bd.returns (hb hby d3_53) e0 ⟨rfl, N0, rfl⟩ (by decide) (by decide)
theorem d1_0 : decode prog_89_method_2_code 0 = .ok (.lload_n 0, 1) := by decide +kernel
theorem d1_1 : decode prog_89_method_2_code 1 = .ok (.lload_n 0, 1) := by decide +kernel
theorem d1_2 : decode prog_89_method_2_code 2 = .ok (.bipush 30, 2) := by decide +kernel
theorem d1_4 : decode prog_89_method_2_code 4 = .ok (.lushr, 1) := by decide +kernel
theorem d1_5 : decode prog_89_method_2_code 5 = .ok (.lxor, 1) := by decide +kernel
theorem d1_6 : decode prog_89_method_2_code 6 = .ok (.ldc2_w 7, 3) := by decide +kernel
theorem d1_9 : decode prog_89_method_2_code 9 = .ok (.lmul, 1) := by decide +kernel
theorem d1_10 : decode prog_89_method_2_code 10 = .ok (.lstore_n 0, 1) := by decide +kernel
theorem d1_11 : decode prog_89_method_2_code 11 = .ok (.lload_n 0, 1) := by decide +kernel
theorem d1_12 : decode prog_89_method_2_code 12 = .ok (.lload_n 0, 1) := by decide +kernel
theorem d1_13 : decode prog_89_method_2_code 13 = .ok (.bipush 27, 2) := by decide +kernel
theorem d1_15 : decode prog_89_method_2_code 15 = .ok (.lushr, 1) := by decide +kernel
theorem d1_16 : decode prog_89_method_2_code 16 = .ok (.lxor, 1) := by decide +kernel
theorem d1_17 : decode prog_89_method_2_code 17 = .ok (.ldc2_w 9, 3) := by decide +kernel
theorem d1_20 : decode prog_89_method_2_code 20 = .ok (.lmul, 1) := by decide +kernel
theorem d1_21 : decode prog_89_method_2_code 21 = .ok (.lstore_n 0, 1) := by decide +kernel
theorem d1_22 : decode prog_89_method_2_code 22 = .ok (.lload_n 0, 1) := by decide +kernel
theorem d1_23 : decode prog_89_method_2_code 23 = .ok (.lload_n 0, 1) := by decide +kernel
theorem d1_24 : decode prog_89_method_2_code 24 = .ok (.bipush 31, 2) := by decide +kernel
theorem d1_26 : decode prog_89_method_2_code 26 = .ok (.lushr, 1) := by decide +kernel
theorem d1_27 : decode prog_89_method_2_code 27 = .ok (.lxor, 1) := by decide +kernel
theorem d1_28 : decode prog_89_method_2_code 28 = .ok (.lreturn, 1) := by decide +kernel
theorem own_pn_rm1 : plainName "com/example/design_drills/designdrills/util/SplitMix" = true := by first | (simp [plainName, overriddenIn]; done) | decide +kernel
theorem own_ef_rm1 (m : MethodId) (q0 : Int64) : entryFrame m #[(.long q0)] 2 = mkF m 0 #[.val (.long q0), .second] [] := by first | (simp [entryFrame, mkF, argsToLocals, Value.category]; done) | rfl
def Q1 (Z : State) (q0 : Int64) (h0 : Heap) (n0 : Nat) (v : Option Value) (h : Heap) (L : List Loc) : Prop := v = some (.long (mixF q0)) ∧ Fr n0 L ∧ h = h0
set_option maxRecDepth 65536 in
set_option maxHeartbeats 40000000 in
theorem rm1 (l : Launch) (Z : State) (a0 : Array Value) (hw : ∀ d ∈ tables_1, d.before a0 Z = true) (ws : List Jvm.Cond) (q0 : Int64) (h0 : Heap) (n0 : Nat) (Z0 : n0 ≤ h0.size) :
    MetFree l (⟨"com/example/design_drills/designdrills/util/SplitMix", "mix", "(J)J"⟩ : MethodName) (head1 (Jvm.Cond.code (⟨"com/example/design_drills/designdrills/util/SplitMix", "mix", "(J)J"⟩ : MethodName) prog_89_method_2_code 2 (some .long) :: ws) ({ frames := 0, cells := 0, slots := 0, locals := 0 } : Room)) (fun a U => a = #[(.long q0)] ∧ Z.Warmed39 U.vm ∧ U.heap = h0) (fun _ _ _ _ _ => True) (fun _ U o U' => ∃ v L, o = .returned v ∧ Q1 Z q0 h0 n0 v U'.heap L ∧ FrameEnd U o U' L ({ frames := 0, cells := 0, slots := 0, locals := 0 } : Room).cells ({ frames := 0, cells := 0, slots := 0, locals := 0 } : Room).slots) := by
  refine MetFree.of_bodySF (plainFor_of_name own_pn_rm1) hisR ?_
  intro p e s m args below meth c s₁ Bd hml0 hP hK
  obtain ⟨rfl, hZ, hh⟩ := hP
  have hx := Bd.exec
  have hby := Bd.bytes
  have hml : c.maxLocals = 2 := hml0
  have hown : s.vm.findClass "com/example/design_drills/designdrills/util/SplitMix" = some m.cls := findClass_of_methodNamed Bd.named
  have hnm := (name_of_methodNamed Bd.named Bd.method).1
  have hlk : meth.locks = false := BodyLoose.notSynchronized Bd
  have X0 : Stand p l e ({ frames := 0, cells := 0, slots := 0, locals := 0 } : Room) s m #[(.long q0)] below meth c s₁ [] 0 0 := Stand.of_body Bd
  have e0 : s₁.heap = h0 := by rw [← hh, Bd.state]; rfl
  have N0 := Fr.nil n0
  refine own_in (own_ef_rm1 m q0) ?_
  show Gm p e below s₁ m 0 #[lv q0, .second] [] _
  refine own_go (fun t k => XS.lloadN X0.here hx rfl (hb hby d1_0) rfl k) ?_
  show Gm p e below s₁ m 1 #[lv q0, .second] [(.long q0)] _
  refine own_go (fun t k => XS.lloadN X0.here hx rfl (hb hby d1_1) rfl k) ?_
  show Gm p e below s₁ m 2 #[lv q0, .second] [(.long q0), (.long q0)] _
  refine own_go (fun t k => XS.bipush X0.here hx rfl (hb hby d1_2) k) ?_
  show Gm p e below s₁ m 4 #[lv q0, .second] [(.int (30 : Int32)), (.long q0), (.long q0)] _
  refine own_go (fun t k => XS.lushr X0.here hx rfl (hb hby d1_4) rfl k) ?_
  show Gm p e below s₁ m 5 #[lv q0, .second] [(.long ((q0.toUInt64 >>> ((30 : Int32) &&& 0x3f).toInt64.toUInt64).toInt64)), (.long q0)] _
  refine own_go (fun t k => XS.lxor X0.here hx rfl (hb hby d1_5) rfl k) ?_
  show Gm p e below s₁ m 6 #[lv q0, .second] [(.long (q0 ^^^ ((q0.toUInt64 >>> ((30 : Int32) &&& 0x3f).toInt64.toUInt64).toInt64)))] _
  refine own_go (fun t k => X0.ldc2J hx hown (mvT hZ (hw _ (List.mem_of_getElem? (i := 4) rfl))) rfl (hb hby d1_6) k) ?_
  show Gm p e below s₁ m 9 #[lv q0, .second] [(.long (-4658895280553007687 : Int64)), (.long (q0 ^^^ ((q0.toUInt64 >>> ((30 : Int32) &&& 0x3f).toInt64.toUInt64).toInt64)))] _
  refine own_go (fun t k => XS.lmul X0.here hx rfl (hb hby d1_9) rfl k) ?_
  show Gm p e below s₁ m 10 #[lv q0, .second] [(.long ((q0 ^^^ ((q0.toUInt64 >>> ((30 : Int32) &&& 0x3f).toInt64.toUInt64).toInt64)) * (-4658895280553007687 : Int64)))] _
  refine own_go (fun t k => XS.lstoreN X0.here hx rfl (hb hby d1_10) rfl (l' := #[lv (xs1 30 q0 * (-4658895280553007687 : Int64)), .second]) rfl k) ?_
  show Gm p e below s₁ m 11 #[lv (xs1 30 q0 * (-4658895280553007687 : Int64)), .second] [] _
  refine own_go (fun t k => XS.lloadN X0.here hx rfl (hb hby d1_11) rfl k) ?_
  show Gm p e below s₁ m 12 #[lv (xs1 30 q0 * (-4658895280553007687 : Int64)), .second] [(.long (xs1 30 q0 * (-4658895280553007687 : Int64)))] _
  refine own_go (fun t k => XS.lloadN X0.here hx rfl (hb hby d1_12) rfl k) ?_
  show Gm p e below s₁ m 13 #[lv (xs1 30 q0 * (-4658895280553007687 : Int64)), .second] [(.long (xs1 30 q0 * (-4658895280553007687 : Int64))), (.long (xs1 30 q0 * (-4658895280553007687 : Int64)))] _
  refine own_go (fun t k => XS.bipush X0.here hx rfl (hb hby d1_13) k) ?_
  show Gm p e below s₁ m 15 #[lv (xs1 30 q0 * (-4658895280553007687 : Int64)), .second] [(.int (27 : Int32)), (.long (xs1 30 q0 * (-4658895280553007687 : Int64))), (.long (xs1 30 q0 * (-4658895280553007687 : Int64)))] _
  refine own_go (fun t k => XS.lushr X0.here hx rfl (hb hby d1_15) rfl k) ?_
  show Gm p e below s₁ m 16 #[lv (xs1 30 q0 * (-4658895280553007687 : Int64)), .second] [(.long (((xs1 30 q0 * (-4658895280553007687 : Int64)).toUInt64 >>> ((27 : Int32) &&& 0x3f).toInt64.toUInt64).toInt64)), (.long (xs1 30 q0 * (-4658895280553007687 : Int64)))] _
  refine own_go (fun t k => XS.lxor X0.here hx rfl (hb hby d1_16) rfl k) ?_
  show Gm p e below s₁ m 17 #[lv (xs1 30 q0 * (-4658895280553007687 : Int64)), .second] [(.long ((xs1 30 q0 * (-4658895280553007687 : Int64)) ^^^ (((xs1 30 q0 * (-4658895280553007687 : Int64)).toUInt64 >>> ((27 : Int32) &&& 0x3f).toInt64.toUInt64).toInt64)))] _
  refine own_go (fun t k => X0.ldc2J hx hown (mvT hZ (hw _ (List.mem_of_getElem? (i := 5) rfl))) rfl (hb hby d1_17) k) ?_
  show Gm p e below s₁ m 20 #[lv (xs1 30 q0 * (-4658895280553007687 : Int64)), .second] [(.long (-7723592293110705685 : Int64)), (.long ((xs1 30 q0 * (-4658895280553007687 : Int64)) ^^^ (((xs1 30 q0 * (-4658895280553007687 : Int64)).toUInt64 >>> ((27 : Int32) &&& 0x3f).toInt64.toUInt64).toInt64)))] _
  refine own_go (fun t k => XS.lmul X0.here hx rfl (hb hby d1_20) rfl k) ?_
  show Gm p e below s₁ m 21 #[lv (xs1 30 q0 * (-4658895280553007687 : Int64)), .second] [(.long (((xs1 30 q0 * (-4658895280553007687 : Int64)) ^^^ (((xs1 30 q0 * (-4658895280553007687 : Int64)).toUInt64 >>> ((27 : Int32) &&& 0x3f).toInt64.toUInt64).toInt64)) * (-7723592293110705685 : Int64)))] _
  refine own_go (fun t k => XS.lstoreN X0.here hx rfl (hb hby d1_21) rfl (l' := #[lv (xs1 27 (xs1 30 q0 * (-4658895280553007687 : Int64)) * (-7723592293110705685 : Int64)), .second]) rfl k) ?_
  show Gm p e below s₁ m 22 #[lv (xs1 27 (xs1 30 q0 * (-4658895280553007687 : Int64)) * (-7723592293110705685 : Int64)), .second] [] _
  refine own_go (fun t k => XS.lloadN X0.here hx rfl (hb hby d1_22) rfl k) ?_
  show Gm p e below s₁ m 23 #[lv (xs1 27 (xs1 30 q0 * (-4658895280553007687 : Int64)) * (-7723592293110705685 : Int64)), .second] [(.long (xs1 27 (xs1 30 q0 * (-4658895280553007687 : Int64)) * (-7723592293110705685 : Int64)))] _
  refine own_go (fun t k => XS.lloadN X0.here hx rfl (hb hby d1_23) rfl k) ?_
  show Gm p e below s₁ m 24 #[lv (xs1 27 (xs1 30 q0 * (-4658895280553007687 : Int64)) * (-7723592293110705685 : Int64)), .second] [(.long (xs1 27 (xs1 30 q0 * (-4658895280553007687 : Int64)) * (-7723592293110705685 : Int64))), (.long (xs1 27 (xs1 30 q0 * (-4658895280553007687 : Int64)) * (-7723592293110705685 : Int64)))] _
  refine own_go (fun t k => XS.bipush X0.here hx rfl (hb hby d1_24) k) ?_
  show Gm p e below s₁ m 26 #[lv (xs1 27 (xs1 30 q0 * (-4658895280553007687 : Int64)) * (-7723592293110705685 : Int64)), .second] [(.int (31 : Int32)), (.long (xs1 27 (xs1 30 q0 * (-4658895280553007687 : Int64)) * (-7723592293110705685 : Int64))), (.long (xs1 27 (xs1 30 q0 * (-4658895280553007687 : Int64)) * (-7723592293110705685 : Int64)))] _
  refine own_go (fun t k => XS.lushr X0.here hx rfl (hb hby d1_26) rfl k) ?_
  show Gm p e below s₁ m 27 #[lv (xs1 27 (xs1 30 q0 * (-4658895280553007687 : Int64)) * (-7723592293110705685 : Int64)), .second] [(.long (((xs1 27 (xs1 30 q0 * (-4658895280553007687 : Int64)) * (-7723592293110705685 : Int64)).toUInt64 >>> ((31 : Int32) &&& 0x3f).toInt64.toUInt64).toInt64)), (.long (xs1 27 (xs1 30 q0 * (-4658895280553007687 : Int64)) * (-7723592293110705685 : Int64)))] _
  refine own_go (fun t k => XS.lxor X0.here hx rfl (hb hby d1_27) rfl k) ?_
  show Gm p e below s₁ m 28 #[lv (xs1 27 (xs1 30 q0 * (-4658895280553007687 : Int64)) * (-7723592293110705685 : Int64)), .second] [(.long ((xs1 27 (xs1 30 q0 * (-4658895280553007687 : Int64)) * (-7723592293110705685 : Int64)) ^^^ (((xs1 27 (xs1 30 q0 * (-4658895280553007687 : Int64)) * (-7723592293110705685 : Int64)).toUInt64 >>> ((31 : Int32) &&& 0x3f).toInt64.toUInt64).toInt64)))] _
  exact own_retL X0 hx hlk Bd.returns (hb hby d1_28) e0 ⟨rfl, N0, rfl⟩ (by decide) (by decide)
theorem d2_0 : decode method_3_code 0 = .ok (.lload_n 0, 1) := by decide +kernel
theorem d2_1 : decode method_3_code 1 = .ok (.lload_n 0, 1) := by decide +kernel
theorem d2_2 : decode method_3_code 2 = .ok (.bipush 31, 2) := by decide +kernel
theorem d2_4 : decode method_3_code 4 = .ok (.lushr, 1) := by decide +kernel
theorem d2_5 : decode method_3_code 5 = .ok (.lxor, 1) := by decide +kernel
theorem d2_6 : decode method_3_code 6 = .ok (.lload_n 0, 1) := by decide +kernel
theorem d2_7 : decode method_3_code 7 = .ok (.bipush 62, 2) := by decide +kernel
theorem d2_9 : decode method_3_code 9 = .ok (.lushr, 1) := by decide +kernel
theorem d2_10 : decode method_3_code 10 = .ok (.lxor, 1) := by decide +kernel
theorem d2_11 : decode method_3_code 11 = .ok (.lstore_n 2, 1) := by decide +kernel
theorem d2_12 : decode method_3_code 12 = .ok (.lload_n 2, 1) := by decide +kernel
theorem d2_13 : decode method_3_code 13 = .ok (.ldc2_w 9, 3) := by decide +kernel
theorem d2_16 : decode method_3_code 16 = .ok (.invokestatic 11, 3) := by decide +kernel
theorem d2_19 : decode method_3_code 19 = .ok (.lmul, 1) := by decide +kernel
theorem d2_20 : decode method_3_code 20 = .ok (.lstore 4, 2) := by decide +kernel
theorem d2_22 : decode method_3_code 22 = .ok (.lload 4, 2) := by decide +kernel
theorem d2_24 : decode method_3_code 24 = .ok (.lload 4, 2) := by decide +kernel
theorem d2_26 : decode method_3_code 26 = .ok (.bipush 27, 2) := by decide +kernel
theorem d2_28 : decode method_3_code 28 = .ok (.lushr, 1) := by decide +kernel
theorem d2_29 : decode method_3_code 29 = .ok (.lxor, 1) := by decide +kernel
theorem d2_30 : decode method_3_code 30 = .ok (.lload 4, 2) := by decide +kernel
theorem d2_32 : decode method_3_code 32 = .ok (.bipush 54, 2) := by decide +kernel
theorem d2_34 : decode method_3_code 34 = .ok (.lushr, 1) := by decide +kernel
theorem d2_35 : decode method_3_code 35 = .ok (.lxor, 1) := by decide +kernel
theorem d2_36 : decode method_3_code 36 = .ok (.lstore 6, 2) := by decide +kernel
theorem d2_38 : decode method_3_code 38 = .ok (.lload 6, 2) := by decide +kernel
theorem d2_40 : decode method_3_code 40 = .ok (.ldc2_w 17, 3) := by decide +kernel
theorem d2_43 : decode method_3_code 43 = .ok (.invokestatic 11, 3) := by decide +kernel
theorem d2_46 : decode method_3_code 46 = .ok (.lmul, 1) := by decide +kernel
theorem d2_47 : decode method_3_code 47 = .ok (.lstore 8, 2) := by decide +kernel
theorem d2_49 : decode method_3_code 49 = .ok (.lload 8, 2) := by decide +kernel
theorem d2_51 : decode method_3_code 51 = .ok (.lload 8, 2) := by decide +kernel
theorem d2_53 : decode method_3_code 53 = .ok (.bipush 30, 2) := by decide +kernel
theorem d2_55 : decode method_3_code 55 = .ok (.lushr, 1) := by decide +kernel
theorem d2_56 : decode method_3_code 56 = .ok (.lxor, 1) := by decide +kernel
theorem d2_57 : decode method_3_code 57 = .ok (.lload 8, 2) := by decide +kernel
theorem d2_59 : decode method_3_code 59 = .ok (.bipush 60, 2) := by decide +kernel
theorem d2_61 : decode method_3_code 61 = .ok (.lushr, 1) := by decide +kernel
theorem d2_62 : decode method_3_code 62 = .ok (.lxor, 1) := by decide +kernel
theorem d2_63 : decode method_3_code 63 = .ok (.lreturn, 1) := by decide +kernel
theorem own_pd0 : parseMethodDescriptor "(J)J" = some ⟨[.long], some .long⟩ := by decide +kernel
theorem own_pn_rm2 : plainName "com/example/design_drills/designdrills/util/SplitMixMixPinLaw" = true := by first | (simp [plainName, overriddenIn]; done) | decide +kernel
theorem own_ef_rm2 (m : MethodId) (q0 : Int64) : entryFrame m #[(.long q0)] 10 = mkF m 0 #[.val (.long q0), .second, .unset, .unset, .unset, .unset, .unset, .unset, .unset, .unset] [] := by first | (simp [entryFrame, mkF, argsToLocals, Value.category]; done) | rfl
def Q2 (Z : State) (q0 : Int64) (h0 : Heap) (n0 : Nat) (v : Option Value) (h : Heap) (L : List Loc) : Prop := v = some (.long (unmixF q0)) ∧ Fr n0 L ∧ h = h0
set_option maxRecDepth 65536 in
set_option maxHeartbeats 40000000 in
theorem rm2 (l : Launch) (Z : State) (a0 : Array Value) (hw : ∀ d ∈ tables_1, d.before a0 Z = true) (ws : List Jvm.Cond) (q0 : Int64) (h0 : Heap) (n0 : Nat) (Z0 : n0 ≤ h0.size) :
    MetFree l (⟨"com/example/design_drills/designdrills/util/SplitMixMixPinLaw", "unmix", "(J)J"⟩ : MethodName) (head1 (Jvm.Cond.code (⟨"com/example/design_drills/designdrills/util/SplitMixMixPinLaw", "unmix", "(J)J"⟩ : MethodName) method_3_code 10 (some .long) :: ws) ({ frames := 1, cells := 0, slots := 0, locals := 20 } : Room)) (fun a U => a = #[(.long q0)] ∧ Z.Warmed39 U.vm ∧ U.heap = h0) (fun _ _ _ _ _ => True) (fun _ U o U' => ∃ v L, o = .returned v ∧ Q2 Z q0 h0 n0 v U'.heap L ∧ FrameEnd U o U' L ({ frames := 1, cells := 0, slots := 0, locals := 20 } : Room).cells ({ frames := 1, cells := 0, slots := 0, locals := 20 } : Room).slots) := by
  refine MetFree.of_bodySF (plainFor_of_name own_pn_rm2) hisR ?_
  intro p e s m args below meth c s₁ Bd hml0 hP hK
  obtain ⟨rfl, hZ, hh⟩ := hP
  have hx := Bd.exec
  have hby := Bd.bytes
  have hml : c.maxLocals = 10 := hml0
  have hown : s.vm.findClass "com/example/design_drills/designdrills/util/SplitMixMixPinLaw" = some m.cls := findClass_of_methodNamed Bd.named
  have hnm := (name_of_methodNamed Bd.named Bd.method).1
  have hlk : meth.locks = false := BodyLoose.notSynchronized Bd
  have X0 : Stand p l e ({ frames := 1, cells := 0, slots := 0, locals := 20 } : Room) s m #[(.long q0)] below meth c s₁ [] 0 0 := Stand.of_body Bd
  have e0 : s₁.heap = h0 := by rw [← hh, Bd.state]; rfl
  have N0 := Fr.nil n0
  refine own_in (own_ef_rm2 m q0) ?_
  show Gm p e below s₁ m 0 #[lv q0, .second, .unset, .unset, .unset, .unset, .unset, .unset, .unset, .unset] [] _
  refine own_go (fun t k => XS.lloadN X0.here hx rfl (hb hby d2_0) rfl k) ?_
  show Gm p e below s₁ m 1 #[lv q0, .second, .unset, .unset, .unset, .unset, .unset, .unset, .unset, .unset] [(.long q0)] _
  refine own_go (fun t k => XS.lloadN X0.here hx rfl (hb hby d2_1) rfl k) ?_
  show Gm p e below s₁ m 2 #[lv q0, .second, .unset, .unset, .unset, .unset, .unset, .unset, .unset, .unset] [(.long q0), (.long q0)] _
  refine own_go (fun t k => XS.bipush X0.here hx rfl (hb hby d2_2) k) ?_
  show Gm p e below s₁ m 4 #[lv q0, .second, .unset, .unset, .unset, .unset, .unset, .unset, .unset, .unset] [(.int (31 : Int32)), (.long q0), (.long q0)] _
  refine own_go (fun t k => XS.lushr X0.here hx rfl (hb hby d2_4) rfl k) ?_
  show Gm p e below s₁ m 5 #[lv q0, .second, .unset, .unset, .unset, .unset, .unset, .unset, .unset, .unset] [(.long ((q0.toUInt64 >>> ((31 : Int32) &&& 0x3f).toInt64.toUInt64).toInt64)), (.long q0)] _
  refine own_go (fun t k => XS.lxor X0.here hx rfl (hb hby d2_5) rfl k) ?_
  show Gm p e below s₁ m 6 #[lv q0, .second, .unset, .unset, .unset, .unset, .unset, .unset, .unset, .unset] [(.long (q0 ^^^ ((q0.toUInt64 >>> ((31 : Int32) &&& 0x3f).toInt64.toUInt64).toInt64)))] _
  refine own_go (fun t k => XS.lloadN X0.here hx rfl (hb hby d2_6) rfl k) ?_
  show Gm p e below s₁ m 7 #[lv q0, .second, .unset, .unset, .unset, .unset, .unset, .unset, .unset, .unset] [(.long q0), (.long (q0 ^^^ ((q0.toUInt64 >>> ((31 : Int32) &&& 0x3f).toInt64.toUInt64).toInt64)))] _
  refine own_go (fun t k => XS.bipush X0.here hx rfl (hb hby d2_7) k) ?_
  show Gm p e below s₁ m 9 #[lv q0, .second, .unset, .unset, .unset, .unset, .unset, .unset, .unset, .unset] [(.int (62 : Int32)), (.long q0), (.long (q0 ^^^ ((q0.toUInt64 >>> ((31 : Int32) &&& 0x3f).toInt64.toUInt64).toInt64)))] _
  refine own_go (fun t k => XS.lushr X0.here hx rfl (hb hby d2_9) rfl k) ?_
  show Gm p e below s₁ m 10 #[lv q0, .second, .unset, .unset, .unset, .unset, .unset, .unset, .unset, .unset] [(.long ((q0.toUInt64 >>> ((62 : Int32) &&& 0x3f).toInt64.toUInt64).toInt64)), (.long (q0 ^^^ ((q0.toUInt64 >>> ((31 : Int32) &&& 0x3f).toInt64.toUInt64).toInt64)))] _
  refine own_go (fun t k => XS.lxor X0.here hx rfl (hb hby d2_10) rfl k) ?_
  show Gm p e below s₁ m 11 #[lv q0, .second, .unset, .unset, .unset, .unset, .unset, .unset, .unset, .unset] [(.long ((q0 ^^^ ((q0.toUInt64 >>> ((31 : Int32) &&& 0x3f).toInt64.toUInt64).toInt64)) ^^^ ((q0.toUInt64 >>> ((62 : Int32) &&& 0x3f).toInt64.toUInt64).toInt64)))] _
  refine own_go (fun t k => XS.lstoreN X0.here hx rfl (hb hby d2_11) rfl (l' := #[lv q0, .second, lv (xs2 31 62 q0), .second, .unset, .unset, .unset, .unset, .unset, .unset]) rfl k) ?_
  show Gm p e below s₁ m 12 #[lv q0, .second, lv (xs2 31 62 q0), .second, .unset, .unset, .unset, .unset, .unset, .unset] [] _
  refine own_go (fun t k => XS.lloadN X0.here hx rfl (hb hby d2_12) rfl k) ?_
  show Gm p e below s₁ m 13 #[lv q0, .second, lv (xs2 31 62 q0), .second, .unset, .unset, .unset, .unset, .unset, .unset] [(.long (xs2 31 62 q0))] _
  refine own_go (fun t k => X0.ldc2J hx hown (mvT hZ (hw _ (List.mem_of_getElem? (i := 10) rfl))) rfl (hb hby d2_13) k) ?_
  show Gm p e below s₁ m 16 #[lv q0, .second, lv (xs2 31 62 q0), .second, .unset, .unset, .unset, .unset, .unset, .unset] [(.long (-7723592293110705685 : Int64)), (.long (xs2 31 62 q0))] _
  obtain ⟨_, _, ⟨T1, L1, k1, n1⟩, -, X1, ⟨Lc1, hQ1, l1, y1, z1⟩, st1⟩ := Jvm.LawKit.callS X0 hx (y := (⟨"com/example/design_drills/designdrills/util/SplitMixMixPinLaw", "inverseOdd", "(J)J"⟩ : MethodName)) hown (mvT hZ (hw _ (List.mem_of_getElem? (i := 11) rfl))) (mvT hZ (hw _ (List.mem_of_getElem? (i := 12) rfl))) (mvT hZ (hw _ (List.mem_of_getElem? (i := 8) rfl))) (mvT hZ (hw _ (List.mem_of_getElem? (i := 13) rfl))) (by decide) (backOf (W := 2) (rm3 l Z a0 hw [] (-7723592293110705685 : Int64)  h0 n0 Z0 ) hZ (hw _ (List.mem_of_getElem? (i := 13) rfl)) (hw _ (List.mem_of_getElem? (i := 8) rfl)) (by decide) (by decide)) (g := (mkF m 16 #[lv q0, .second, lv (xs2 31 62 q0), .second, .unset, .unset, .unset, .unset, .unset, .unset] [(.long (-7723592293110705685 : Int64)), (.long (xs2 31 62 q0))])) rfl (by rw [hml]; rfl) (argsL := [(.long (-7723592293110705685 : Int64))]) (rest := [(.long (xs2 31 62 q0))]) (lenOf own_pd0 rfl) rfl (by show 2 * 0 + _ ≤ _; exact Nat.le_of_eq rfl) (hb hby d2_16) (fun _ _ => ⟨rfl, e0, (by decide : 0 + 0 ≤ _), (by decide : 0 + 0 ≤ _)⟩)
  dsimp only [Pt.U, Pt.locs, Pt.cells, Pt.slots] at X1 l1 y1 z1 st1 hQ1
  subst l1 y1 z1
  obtain ⟨rfl, Nq1, eq1⟩ := hQ1
  have N1 := Fr.app N0 Nq1
  have e1 : T1.heap = h0 := eq1
  refine own_go st1 ?_
  show Gm p e below T1 m 19 #[lv q0, .second, lv (xs2 31 62 q0), .second, .unset, .unset, .unset, .unset, .unset, .unset] [(.long (inv (-7723592293110705685 : Int64))), (.long (xs2 31 62 q0))] _
  refine own_go (fun t k => XS.lmul X1.here hx rfl (hb hby d2_19) rfl k) ?_
  show Gm p e below T1 m 20 #[lv q0, .second, lv (xs2 31 62 q0), .second, .unset, .unset, .unset, .unset, .unset, .unset] [(.long ((xs2 31 62 q0) * (inv (-7723592293110705685 : Int64))))] _
  refine own_go (fun t k => XS.lstore X1.here hx rfl (hb hby d2_20) rfl (l' := #[lv q0, .second, lv (xs2 31 62 q0), .second, lv (xs2 31 62 q0 * inv (-7723592293110705685 : Int64)), .second, .unset, .unset, .unset, .unset]) rfl k) ?_
  show Gm p e below T1 m 22 #[lv q0, .second, lv (xs2 31 62 q0), .second, lv (xs2 31 62 q0 * inv (-7723592293110705685 : Int64)), .second, .unset, .unset, .unset, .unset] [] _
  refine own_go (fun t k => XS.lload X1.here hx rfl (hb hby d2_22) rfl k) ?_
  show Gm p e below T1 m 24 #[lv q0, .second, lv (xs2 31 62 q0), .second, lv (xs2 31 62 q0 * inv (-7723592293110705685 : Int64)), .second, .unset, .unset, .unset, .unset] [(.long (xs2 31 62 q0 * inv (-7723592293110705685 : Int64)))] _
  refine own_go (fun t k => XS.lload X1.here hx rfl (hb hby d2_24) rfl k) ?_
  show Gm p e below T1 m 26 #[lv q0, .second, lv (xs2 31 62 q0), .second, lv (xs2 31 62 q0 * inv (-7723592293110705685 : Int64)), .second, .unset, .unset, .unset, .unset] [(.long (xs2 31 62 q0 * inv (-7723592293110705685 : Int64))), (.long (xs2 31 62 q0 * inv (-7723592293110705685 : Int64)))] _
  refine own_go (fun t k => XS.bipush X1.here hx rfl (hb hby d2_26) k) ?_
  show Gm p e below T1 m 28 #[lv q0, .second, lv (xs2 31 62 q0), .second, lv (xs2 31 62 q0 * inv (-7723592293110705685 : Int64)), .second, .unset, .unset, .unset, .unset] [(.int (27 : Int32)), (.long (xs2 31 62 q0 * inv (-7723592293110705685 : Int64))), (.long (xs2 31 62 q0 * inv (-7723592293110705685 : Int64)))] _
  refine own_go (fun t k => XS.lushr X1.here hx rfl (hb hby d2_28) rfl k) ?_
  show Gm p e below T1 m 29 #[lv q0, .second, lv (xs2 31 62 q0), .second, lv (xs2 31 62 q0 * inv (-7723592293110705685 : Int64)), .second, .unset, .unset, .unset, .unset] [(.long (((xs2 31 62 q0 * inv (-7723592293110705685 : Int64)).toUInt64 >>> ((27 : Int32) &&& 0x3f).toInt64.toUInt64).toInt64)), (.long (xs2 31 62 q0 * inv (-7723592293110705685 : Int64)))] _
  refine own_go (fun t k => XS.lxor X1.here hx rfl (hb hby d2_29) rfl k) ?_
  show Gm p e below T1 m 30 #[lv q0, .second, lv (xs2 31 62 q0), .second, lv (xs2 31 62 q0 * inv (-7723592293110705685 : Int64)), .second, .unset, .unset, .unset, .unset] [(.long ((xs2 31 62 q0 * inv (-7723592293110705685 : Int64)) ^^^ (((xs2 31 62 q0 * inv (-7723592293110705685 : Int64)).toUInt64 >>> ((27 : Int32) &&& 0x3f).toInt64.toUInt64).toInt64)))] _
  refine own_go (fun t k => XS.lload X1.here hx rfl (hb hby d2_30) rfl k) ?_
  show Gm p e below T1 m 32 #[lv q0, .second, lv (xs2 31 62 q0), .second, lv (xs2 31 62 q0 * inv (-7723592293110705685 : Int64)), .second, .unset, .unset, .unset, .unset] [(.long (xs2 31 62 q0 * inv (-7723592293110705685 : Int64))), (.long ((xs2 31 62 q0 * inv (-7723592293110705685 : Int64)) ^^^ (((xs2 31 62 q0 * inv (-7723592293110705685 : Int64)).toUInt64 >>> ((27 : Int32) &&& 0x3f).toInt64.toUInt64).toInt64)))] _
  refine own_go (fun t k => XS.bipush X1.here hx rfl (hb hby d2_32) k) ?_
  show Gm p e below T1 m 34 #[lv q0, .second, lv (xs2 31 62 q0), .second, lv (xs2 31 62 q0 * inv (-7723592293110705685 : Int64)), .second, .unset, .unset, .unset, .unset] [(.int (54 : Int32)), (.long (xs2 31 62 q0 * inv (-7723592293110705685 : Int64))), (.long ((xs2 31 62 q0 * inv (-7723592293110705685 : Int64)) ^^^ (((xs2 31 62 q0 * inv (-7723592293110705685 : Int64)).toUInt64 >>> ((27 : Int32) &&& 0x3f).toInt64.toUInt64).toInt64)))] _
  refine own_go (fun t k => XS.lushr X1.here hx rfl (hb hby d2_34) rfl k) ?_
  show Gm p e below T1 m 35 #[lv q0, .second, lv (xs2 31 62 q0), .second, lv (xs2 31 62 q0 * inv (-7723592293110705685 : Int64)), .second, .unset, .unset, .unset, .unset] [(.long (((xs2 31 62 q0 * inv (-7723592293110705685 : Int64)).toUInt64 >>> ((54 : Int32) &&& 0x3f).toInt64.toUInt64).toInt64)), (.long ((xs2 31 62 q0 * inv (-7723592293110705685 : Int64)) ^^^ (((xs2 31 62 q0 * inv (-7723592293110705685 : Int64)).toUInt64 >>> ((27 : Int32) &&& 0x3f).toInt64.toUInt64).toInt64)))] _
  refine own_go (fun t k => XS.lxor X1.here hx rfl (hb hby d2_35) rfl k) ?_
  show Gm p e below T1 m 36 #[lv q0, .second, lv (xs2 31 62 q0), .second, lv (xs2 31 62 q0 * inv (-7723592293110705685 : Int64)), .second, .unset, .unset, .unset, .unset] [(.long (((xs2 31 62 q0 * inv (-7723592293110705685 : Int64)) ^^^ (((xs2 31 62 q0 * inv (-7723592293110705685 : Int64)).toUInt64 >>> ((27 : Int32) &&& 0x3f).toInt64.toUInt64).toInt64)) ^^^ (((xs2 31 62 q0 * inv (-7723592293110705685 : Int64)).toUInt64 >>> ((54 : Int32) &&& 0x3f).toInt64.toUInt64).toInt64)))] _
  refine own_go (fun t k => XS.lstore X1.here hx rfl (hb hby d2_36) rfl (l' := #[lv q0, .second, lv (xs2 31 62 q0), .second, lv (xs2 31 62 q0 * inv (-7723592293110705685 : Int64)), .second, lv (xs2 27 54 (xs2 31 62 q0 * inv (-7723592293110705685 : Int64))), .second, .unset, .unset]) rfl k) ?_
  show Gm p e below T1 m 38 #[lv q0, .second, lv (xs2 31 62 q0), .second, lv (xs2 31 62 q0 * inv (-7723592293110705685 : Int64)), .second, lv (xs2 27 54 (xs2 31 62 q0 * inv (-7723592293110705685 : Int64))), .second, .unset, .unset] [] _
  refine own_go (fun t k => XS.lload X1.here hx rfl (hb hby d2_38) rfl k) ?_
  show Gm p e below T1 m 40 #[lv q0, .second, lv (xs2 31 62 q0), .second, lv (xs2 31 62 q0 * inv (-7723592293110705685 : Int64)), .second, lv (xs2 27 54 (xs2 31 62 q0 * inv (-7723592293110705685 : Int64))), .second, .unset, .unset] [(.long (xs2 27 54 (xs2 31 62 q0 * inv (-7723592293110705685 : Int64))))] _
  refine own_go (fun t k => X1.ldc2J hx hown (mvT hZ (hw _ (List.mem_of_getElem? (i := 15) rfl))) rfl (hb hby d2_40) k) ?_
  show Gm p e below T1 m 43 #[lv q0, .second, lv (xs2 31 62 q0), .second, lv (xs2 31 62 q0 * inv (-7723592293110705685 : Int64)), .second, lv (xs2 27 54 (xs2 31 62 q0 * inv (-7723592293110705685 : Int64))), .second, .unset, .unset] [(.long (-4658895280553007687 : Int64)), (.long (xs2 27 54 (xs2 31 62 q0 * inv (-7723592293110705685 : Int64))))] _
  obtain ⟨_, _, ⟨T2, L2, k2, n2⟩, -, X2, ⟨Lc2, hQ2, l2, y2, z2⟩, st2⟩ := Jvm.LawKit.callS X1 hx (y := (⟨"com/example/design_drills/designdrills/util/SplitMixMixPinLaw", "inverseOdd", "(J)J"⟩ : MethodName)) hown (mvT hZ (hw _ (List.mem_of_getElem? (i := 11) rfl))) (mvT hZ (hw _ (List.mem_of_getElem? (i := 12) rfl))) (mvT hZ (hw _ (List.mem_of_getElem? (i := 8) rfl))) (mvT hZ (hw _ (List.mem_of_getElem? (i := 13) rfl))) (by decide) (backOf (W := 2) (rm3 l Z a0 hw [] (-4658895280553007687 : Int64)  h0 n0 Z0 ) hZ (hw _ (List.mem_of_getElem? (i := 13) rfl)) (hw _ (List.mem_of_getElem? (i := 8) rfl)) (by decide) (by decide)) (g := (mkF m 43 #[lv q0, .second, lv (xs2 31 62 q0), .second, lv (xs2 31 62 q0 * inv (-7723592293110705685 : Int64)), .second, lv (xs2 27 54 (xs2 31 62 q0 * inv (-7723592293110705685 : Int64))), .second, .unset, .unset] [(.long (-4658895280553007687 : Int64)), (.long (xs2 27 54 (xs2 31 62 q0 * inv (-7723592293110705685 : Int64))))])) rfl (by rw [hml]; rfl) (argsL := [(.long (-4658895280553007687 : Int64))]) (rest := [(.long (xs2 27 54 (xs2 31 62 q0 * inv (-7723592293110705685 : Int64))))]) (lenOf own_pd0 rfl) rfl (by show 2 * 0 + _ ≤ _; exact Nat.le_of_eq rfl) (hb hby d2_43) (fun _ _ => ⟨rfl, e1, (by decide : 0 + 0 ≤ _), (by decide : 0 + 0 ≤ _)⟩)
  dsimp only [Pt.U, Pt.locs, Pt.cells, Pt.slots] at X2 l2 y2 z2 st2 hQ2
  subst l2 y2 z2
  obtain ⟨rfl, Nq2, eq2⟩ := hQ2
  have N2 := Fr.app N1 Nq2
  have e2 : T2.heap = h0 := eq2
  refine own_go st2 ?_
  show Gm p e below T2 m 46 #[lv q0, .second, lv (xs2 31 62 q0), .second, lv (xs2 31 62 q0 * inv (-7723592293110705685 : Int64)), .second, lv (xs2 27 54 (xs2 31 62 q0 * inv (-7723592293110705685 : Int64))), .second, .unset, .unset] [(.long (inv (-4658895280553007687 : Int64))), (.long (xs2 27 54 (xs2 31 62 q0 * inv (-7723592293110705685 : Int64))))] _
  refine own_go (fun t k => XS.lmul X2.here hx rfl (hb hby d2_46) rfl k) ?_
  show Gm p e below T2 m 47 #[lv q0, .second, lv (xs2 31 62 q0), .second, lv (xs2 31 62 q0 * inv (-7723592293110705685 : Int64)), .second, lv (xs2 27 54 (xs2 31 62 q0 * inv (-7723592293110705685 : Int64))), .second, .unset, .unset] [(.long ((xs2 27 54 (xs2 31 62 q0 * inv (-7723592293110705685 : Int64))) * (inv (-4658895280553007687 : Int64))))] _
  refine own_go (fun t k => XS.lstore X2.here hx rfl (hb hby d2_47) rfl (l' := #[lv q0, .second, lv (xs2 31 62 q0), .second, lv (xs2 31 62 q0 * inv (-7723592293110705685 : Int64)), .second, lv (xs2 27 54 (xs2 31 62 q0 * inv (-7723592293110705685 : Int64))), .second, lv ((xs2 27 54 (xs2 31 62 q0 * inv (-7723592293110705685 : Int64))) * inv (-4658895280553007687 : Int64)), .second]) rfl k) ?_
  show Gm p e below T2 m 49 #[lv q0, .second, lv (xs2 31 62 q0), .second, lv (xs2 31 62 q0 * inv (-7723592293110705685 : Int64)), .second, lv (xs2 27 54 (xs2 31 62 q0 * inv (-7723592293110705685 : Int64))), .second, lv ((xs2 27 54 (xs2 31 62 q0 * inv (-7723592293110705685 : Int64))) * inv (-4658895280553007687 : Int64)), .second] [] _
  refine own_go (fun t k => XS.lload X2.here hx rfl (hb hby d2_49) rfl k) ?_
  show Gm p e below T2 m 51 #[lv q0, .second, lv (xs2 31 62 q0), .second, lv (xs2 31 62 q0 * inv (-7723592293110705685 : Int64)), .second, lv (xs2 27 54 (xs2 31 62 q0 * inv (-7723592293110705685 : Int64))), .second, lv ((xs2 27 54 (xs2 31 62 q0 * inv (-7723592293110705685 : Int64))) * inv (-4658895280553007687 : Int64)), .second] [(.long ((xs2 27 54 (xs2 31 62 q0 * inv (-7723592293110705685 : Int64))) * inv (-4658895280553007687 : Int64)))] _
  refine own_go (fun t k => XS.lload X2.here hx rfl (hb hby d2_51) rfl k) ?_
  show Gm p e below T2 m 53 #[lv q0, .second, lv (xs2 31 62 q0), .second, lv (xs2 31 62 q0 * inv (-7723592293110705685 : Int64)), .second, lv (xs2 27 54 (xs2 31 62 q0 * inv (-7723592293110705685 : Int64))), .second, lv ((xs2 27 54 (xs2 31 62 q0 * inv (-7723592293110705685 : Int64))) * inv (-4658895280553007687 : Int64)), .second] [(.long ((xs2 27 54 (xs2 31 62 q0 * inv (-7723592293110705685 : Int64))) * inv (-4658895280553007687 : Int64))), (.long ((xs2 27 54 (xs2 31 62 q0 * inv (-7723592293110705685 : Int64))) * inv (-4658895280553007687 : Int64)))] _
  refine own_go (fun t k => XS.bipush X2.here hx rfl (hb hby d2_53) k) ?_
  show Gm p e below T2 m 55 #[lv q0, .second, lv (xs2 31 62 q0), .second, lv (xs2 31 62 q0 * inv (-7723592293110705685 : Int64)), .second, lv (xs2 27 54 (xs2 31 62 q0 * inv (-7723592293110705685 : Int64))), .second, lv ((xs2 27 54 (xs2 31 62 q0 * inv (-7723592293110705685 : Int64))) * inv (-4658895280553007687 : Int64)), .second] [(.int (30 : Int32)), (.long ((xs2 27 54 (xs2 31 62 q0 * inv (-7723592293110705685 : Int64))) * inv (-4658895280553007687 : Int64))), (.long ((xs2 27 54 (xs2 31 62 q0 * inv (-7723592293110705685 : Int64))) * inv (-4658895280553007687 : Int64)))] _
  refine own_go (fun t k => XS.lushr X2.here hx rfl (hb hby d2_55) rfl k) ?_
  show Gm p e below T2 m 56 #[lv q0, .second, lv (xs2 31 62 q0), .second, lv (xs2 31 62 q0 * inv (-7723592293110705685 : Int64)), .second, lv (xs2 27 54 (xs2 31 62 q0 * inv (-7723592293110705685 : Int64))), .second, lv ((xs2 27 54 (xs2 31 62 q0 * inv (-7723592293110705685 : Int64))) * inv (-4658895280553007687 : Int64)), .second] [(.long ((((xs2 27 54 (xs2 31 62 q0 * inv (-7723592293110705685 : Int64))) * inv (-4658895280553007687 : Int64)).toUInt64 >>> ((30 : Int32) &&& 0x3f).toInt64.toUInt64).toInt64)), (.long ((xs2 27 54 (xs2 31 62 q0 * inv (-7723592293110705685 : Int64))) * inv (-4658895280553007687 : Int64)))] _
  refine own_go (fun t k => XS.lxor X2.here hx rfl (hb hby d2_56) rfl k) ?_
  show Gm p e below T2 m 57 #[lv q0, .second, lv (xs2 31 62 q0), .second, lv (xs2 31 62 q0 * inv (-7723592293110705685 : Int64)), .second, lv (xs2 27 54 (xs2 31 62 q0 * inv (-7723592293110705685 : Int64))), .second, lv ((xs2 27 54 (xs2 31 62 q0 * inv (-7723592293110705685 : Int64))) * inv (-4658895280553007687 : Int64)), .second] [(.long (((xs2 27 54 (xs2 31 62 q0 * inv (-7723592293110705685 : Int64))) * inv (-4658895280553007687 : Int64)) ^^^ ((((xs2 27 54 (xs2 31 62 q0 * inv (-7723592293110705685 : Int64))) * inv (-4658895280553007687 : Int64)).toUInt64 >>> ((30 : Int32) &&& 0x3f).toInt64.toUInt64).toInt64)))] _
  refine own_go (fun t k => XS.lload X2.here hx rfl (hb hby d2_57) rfl k) ?_
  show Gm p e below T2 m 59 #[lv q0, .second, lv (xs2 31 62 q0), .second, lv (xs2 31 62 q0 * inv (-7723592293110705685 : Int64)), .second, lv (xs2 27 54 (xs2 31 62 q0 * inv (-7723592293110705685 : Int64))), .second, lv ((xs2 27 54 (xs2 31 62 q0 * inv (-7723592293110705685 : Int64))) * inv (-4658895280553007687 : Int64)), .second] [(.long ((xs2 27 54 (xs2 31 62 q0 * inv (-7723592293110705685 : Int64))) * inv (-4658895280553007687 : Int64))), (.long (((xs2 27 54 (xs2 31 62 q0 * inv (-7723592293110705685 : Int64))) * inv (-4658895280553007687 : Int64)) ^^^ ((((xs2 27 54 (xs2 31 62 q0 * inv (-7723592293110705685 : Int64))) * inv (-4658895280553007687 : Int64)).toUInt64 >>> ((30 : Int32) &&& 0x3f).toInt64.toUInt64).toInt64)))] _
  refine own_go (fun t k => XS.bipush X2.here hx rfl (hb hby d2_59) k) ?_
  show Gm p e below T2 m 61 #[lv q0, .second, lv (xs2 31 62 q0), .second, lv (xs2 31 62 q0 * inv (-7723592293110705685 : Int64)), .second, lv (xs2 27 54 (xs2 31 62 q0 * inv (-7723592293110705685 : Int64))), .second, lv ((xs2 27 54 (xs2 31 62 q0 * inv (-7723592293110705685 : Int64))) * inv (-4658895280553007687 : Int64)), .second] [(.int (60 : Int32)), (.long ((xs2 27 54 (xs2 31 62 q0 * inv (-7723592293110705685 : Int64))) * inv (-4658895280553007687 : Int64))), (.long (((xs2 27 54 (xs2 31 62 q0 * inv (-7723592293110705685 : Int64))) * inv (-4658895280553007687 : Int64)) ^^^ ((((xs2 27 54 (xs2 31 62 q0 * inv (-7723592293110705685 : Int64))) * inv (-4658895280553007687 : Int64)).toUInt64 >>> ((30 : Int32) &&& 0x3f).toInt64.toUInt64).toInt64)))] _
  refine own_go (fun t k => XS.lushr X2.here hx rfl (hb hby d2_61) rfl k) ?_
  show Gm p e below T2 m 62 #[lv q0, .second, lv (xs2 31 62 q0), .second, lv (xs2 31 62 q0 * inv (-7723592293110705685 : Int64)), .second, lv (xs2 27 54 (xs2 31 62 q0 * inv (-7723592293110705685 : Int64))), .second, lv ((xs2 27 54 (xs2 31 62 q0 * inv (-7723592293110705685 : Int64))) * inv (-4658895280553007687 : Int64)), .second] [(.long ((((xs2 27 54 (xs2 31 62 q0 * inv (-7723592293110705685 : Int64))) * inv (-4658895280553007687 : Int64)).toUInt64 >>> ((60 : Int32) &&& 0x3f).toInt64.toUInt64).toInt64)), (.long (((xs2 27 54 (xs2 31 62 q0 * inv (-7723592293110705685 : Int64))) * inv (-4658895280553007687 : Int64)) ^^^ ((((xs2 27 54 (xs2 31 62 q0 * inv (-7723592293110705685 : Int64))) * inv (-4658895280553007687 : Int64)).toUInt64 >>> ((30 : Int32) &&& 0x3f).toInt64.toUInt64).toInt64)))] _
  refine own_go (fun t k => XS.lxor X2.here hx rfl (hb hby d2_62) rfl k) ?_
  show Gm p e below T2 m 63 #[lv q0, .second, lv (xs2 31 62 q0), .second, lv (xs2 31 62 q0 * inv (-7723592293110705685 : Int64)), .second, lv (xs2 27 54 (xs2 31 62 q0 * inv (-7723592293110705685 : Int64))), .second, lv ((xs2 27 54 (xs2 31 62 q0 * inv (-7723592293110705685 : Int64))) * inv (-4658895280553007687 : Int64)), .second] [(.long ((((xs2 27 54 (xs2 31 62 q0 * inv (-7723592293110705685 : Int64))) * inv (-4658895280553007687 : Int64)) ^^^ ((((xs2 27 54 (xs2 31 62 q0 * inv (-7723592293110705685 : Int64))) * inv (-4658895280553007687 : Int64)).toUInt64 >>> ((30 : Int32) &&& 0x3f).toInt64.toUInt64).toInt64)) ^^^ ((((xs2 27 54 (xs2 31 62 q0 * inv (-7723592293110705685 : Int64))) * inv (-4658895280553007687 : Int64)).toUInt64 >>> ((60 : Int32) &&& 0x3f).toInt64.toUInt64).toInt64)))] _
  exact own_retL X2 hx hlk Bd.returns (hb hby d2_63) e2 ⟨rfl, N2, rfl⟩ (by decide) (by decide)
theorem own_pn_rm0 : plainName "com/example/design_drills/designdrills/util/SplitMixMixPinLaw" = true := by first | (simp [plainName, overriddenIn]; done) | decide +kernel
theorem own_ef_rm0 (m : MethodId) (q0 : Int64) : entryFrame m #[(.long q0)] maxLocals = mkF m 0 #[.val (.long q0), .second, .unset, .unset] [] := by first | (simp [entryFrame, mkF, argsToLocals, Value.category, maxLocals]; done) | rfl
def Q0 (Z : State) (q0 : Int64) (h0 : Heap) (n0 : Nat) (v : Option Value) (h : Heap) (L : List Loc) : Prop := v = some (.int 1) ∧ Fr n0 L
set_option maxRecDepth 65536 in
set_option maxHeartbeats 40000000 in
theorem rm0 (l : Launch) (Z : State) (a0 : Array Value) (hw : ∀ d ∈ tables_1, d.before a0 Z = true) (ws : List Jvm.Cond) (q0 : Int64) (h0 : Heap) (n0 : Nat) (Z0 : n0 ≤ h0.size) :
    MetFree l x (head1 (Jvm.Cond.code x code maxLocals ret :: ws) room_1) (fun a U => a = #[(.long q0)] ∧ Z.Warmed39 U.vm ∧ U.heap = h0) (fun _ _ _ _ _ => True) (fun _ U o U' => ∃ v L, o = .returned v ∧ Q0 Z q0 h0 n0 v U'.heap L ∧ FrameEnd U o U' L room_1.cells room_1.slots) := by
  refine MetFree.of_bodySF (plainFor_of_name own_pn_rm0) hisR ?_
  intro p e s m args below meth c s₁ Bd hml0 hP hK
  obtain ⟨rfl, hZ, hh⟩ := hP
  have hx := Bd.exec
  have hby := Bd.bytes
  have hml : c.maxLocals = 4 := hml0
  have hown : s.vm.findClass "com/example/design_drills/designdrills/util/SplitMixMixPinLaw" = some m.cls := findClass_of_methodNamed Bd.named
  have hnm := (name_of_methodNamed Bd.named Bd.method).1
  have hlk : meth.locks = false := BodyLoose.notSynchronized Bd
  have X0 : Stand p l e room_1 s m #[(.long q0)] below meth c s₁ [] 0 0 := Stand.of_body Bd
  have e0 : s₁.heap = h0 := by rw [← hh, Bd.state]; rfl
  have N0 := Fr.nil n0
  refine own_in (own_ef_rm0 m q0) ?_
  show Gm p e below s₁ m 0 #[lv q0, .second, .unset, .unset] [] _
  refine own_go (fun t k => XS.lloadN X0.here hx rfl (hb hby at_0) rfl k) ?_
  show Gm p e below s₁ m 1 #[lv q0, .second, .unset, .unset] [(.long q0)] _
  obtain ⟨_, _, ⟨T1, L1, k1, n1⟩, -, X1, ⟨Lc1, hQ1, l1, y1, z1⟩, st1⟩ := Jvm.LawKit.callS X0 hx (y := (⟨"com/example/design_drills/designdrills/util/SplitMix", "mix", "(J)J"⟩ : MethodName)) hown (mvT hZ (hw _ (List.mem_of_getElem? (i := 0) rfl))) (mvT hZ (hw _ (List.mem_of_getElem? (i := 1) rfl))) (mvT hZ (hw _ (List.mem_of_getElem? (i := 2) rfl))) (mvT hZ (hw _ (List.mem_of_getElem? (i := 3) rfl))) (by decide) (backOf (W := 0) (rm1 l Z a0 hw [] q0  h0 n0 Z0 ) hZ (hw _ (List.mem_of_getElem? (i := 3) rfl)) (hw _ (List.mem_of_getElem? (i := 2) rfl)) (by decide) (by decide)) (g := (mkF m 1 #[lv q0, .second, .unset, .unset] [(.long q0)])) rfl (by rw [hml]; rfl) (argsL := [(.long q0)]) (rest := []) (lenOf own_pd0 rfl) rfl (by show 2 * 0 + _ ≤ _; exact Nat.le_of_eq rfl) (hb hby at_1) (fun _ _ => ⟨rfl, e0, (by decide : 0 + 0 ≤ _), (by decide : 0 + 0 ≤ _)⟩)
  dsimp only [Pt.U, Pt.locs, Pt.cells, Pt.slots] at X1 l1 y1 z1 st1 hQ1
  subst l1 y1 z1
  obtain ⟨rfl, Nq1, eq1⟩ := hQ1
  have N1 := Fr.app N0 Nq1
  have e1 : T1.heap = h0 := eq1
  refine own_go st1 ?_
  show Gm p e below T1 m 4 #[lv q0, .second, .unset, .unset] [(.long (mixF q0))] _
  refine own_go (fun t k => XS.lstoreN X1.here hx rfl (hb hby at_4) rfl (l' := #[lv q0, .second, lv (mixF q0), .second]) rfl k) ?_
  show Gm p e below T1 m 5 #[lv q0, .second, lv (mixF q0), .second] [] _
  refine own_go (fun t k => XS.lloadN X1.here hx rfl (hb hby at_5) rfl k) ?_
  show Gm p e below T1 m 6 #[lv q0, .second, lv (mixF q0), .second] [(.long (mixF q0))] _
  obtain ⟨_, _, ⟨T2, L2, k2, n2⟩, -, X2, ⟨Lc2, hQ2, l2, y2, z2⟩, st2⟩ := Jvm.LawKit.callS X1 hx (y := (⟨"com/example/design_drills/designdrills/util/SplitMixMixPinLaw", "unmix", "(J)J"⟩ : MethodName)) hown (mvT hZ (hw _ (List.mem_of_getElem? (i := 6) rfl))) (mvT hZ (hw _ (List.mem_of_getElem? (i := 7) rfl))) (mvT hZ (hw _ (List.mem_of_getElem? (i := 8) rfl))) (mvT hZ (hw _ (List.mem_of_getElem? (i := 9) rfl))) (by decide) (backOf (W := 0) (rm2 l Z a0 hw [] (mixF q0)  h0 n0 Z0 ) hZ (hw _ (List.mem_of_getElem? (i := 9) rfl)) (hw _ (List.mem_of_getElem? (i := 8) rfl)) (by decide) (by decide)) (g := (mkF m 6 #[lv q0, .second, lv (mixF q0), .second] [(.long (mixF q0))])) rfl (by rw [hml]; rfl) (argsL := [(.long (mixF q0))]) (rest := []) (lenOf own_pd0 rfl) rfl (by show 2 * 0 + _ ≤ _; exact Nat.le_of_eq rfl) (hb hby at_6) (fun _ _ => ⟨rfl, e1, (by decide : 0 + 0 ≤ _), (by decide : 0 + 0 ≤ _)⟩)
  dsimp only [Pt.U, Pt.locs, Pt.cells, Pt.slots] at X2 l2 y2 z2 st2 hQ2
  subst l2 y2 z2
  obtain ⟨rfl, Nq2, eq2⟩ := hQ2
  have N2 := Fr.app N1 Nq2
  have e2 : T2.heap = h0 := eq2
  refine own_go st2 ?_
  show Gm p e below T2 m 9 #[lv q0, .second, lv (mixF q0), .second] [(.long (unmixF (mixF q0)))] _
  refine own_go (fun t k => XS.lloadN X2.here hx rfl (hb hby at_9) rfl k) ?_
  show Gm p e below T2 m 10 #[lv q0, .second, lv (mixF q0), .second] [(.long q0), (.long (unmixF (mixF q0)))] _
  refine own_go (fun t k => XT.lcmp X2.here hx rfl (hb hby at_10) rfl k) ?_
  show Gm p e below T2 m 11 #[lv q0, .second, lv (mixF q0), .second] [(.int (XT.cmpL (unmixF (mixF q0)) q0))] _
  refine own_go (fun t k => XS.ifNo X2.here hx rfl (hb hby at_11) rfl (XT.ll_ne_f (own_law _)) k) ?_
  show Gm p e below T2 m 14 #[lv q0, .second, lv (mixF q0), .second] [] _
  refine own_go (fun t k => XS.iconst X2.here hx rfl (hb hby at_14) k) ?_
  show Gm p e below T2 m 15 #[lv q0, .second, lv (mixF q0), .second] [(.int (1 : Int32))] _
  refine own_go (fun t k => XS.goto X2.here hx rfl (pc0 := 15) (pc' := 19) rfl (hb hby at_15) (by decide) (by decide) k) ?_
  show Gm p e below T2 m 19 #[lv q0, .second, lv (mixF q0), .second] [(.int (1 : Int32))] _
  exact own_retI X2 hx hlk (t := .boolean) Bd.returns rfl (by simp) (hb hby at_19) e2 ⟨rfl, N2⟩ (by decide) (by decide)
set_option maxRecDepth 65536 in
set_option maxHeartbeats 40000000 in
theorem comes_1 {Post : Tables → Env → Array Value → State → Outcome → State → Prop} (hpost : ∀ tb e args s v u, (limb_1_1.after args s (.returned v) u = true ∧ limb_1_2.after args s (.returned v) u = true ∧ True) → FrameEnd s (.returned v) u (Jvm.fieldLocs frame_1_writes args s ++ Jvm.arrayLocs frame_1_arrays args s ++ Jvm.staticLocs frame_1_statics s) 0 0 → Post tb e args s (.returned v) u) :
    ArmFor flags0 classFile x code maxLocals ret World_1 tables_1 room_1 Calls_1 rest_1 Pre_1 Post := by
  intro l hfl _ _ p e ha hc hk s m args below hf hA hF happ hP
  obtain ⟨hcalls, hrest, hpre⟩ := hP
  obtain ⟨-, -, -, hnamed, -, -, -, hat⟩ := (Spec.applies_iff hf).mp happ
  obtain ⟨hg, hn⟩ := and_e (Cond.before_iff.mp (show (Jvm.Cond.and given_1 narrow_1).before args s = true from hpre))
  obtain ⟨g1, g2⟩ := and_e hg
  obtain ⟨w0, rfl⟩ : ∃ w0 : Value, args = #[w0] := by
    have hs : args.size = 1 := by simpa [Cond.value, given_1] using g1
    obtain ⟨L⟩ := args
    match L, hs with
    | [w0], _ => exact ⟨w0, rfl⟩
  have hw := fun d (hd : d ∈ tables_1) => atoms_spec (ws := Jvm.Cond.code x code maxLocals ret :: tables_1) hat d (List.mem_cons_of_mem _ hd)
  have hfit : Fit s := fun {y c} hc i hi => by
    obtain ⟨ha, rfl⟩ := Array.getElem?_eq_some_iff.mp hc
    have q := List.all_eq_true.mp ((Array.all_eq_true_iff_forall_mem.mp hF) _ (Array.getElem_mem ha)) i (List.mem_range.mpr hi)
    simpa [Array.getElem?_eq_getElem hi] using q
  obtain ⟨i0, ei0⟩ := isL_v g2
  obtain rfl : w0 = (.long i0) := Option.some.inj ei0
  obtain ⟨n, o, h1, h2, h3, _, L, rfl, ⟨rfl, N⟩, hq⟩ := rm0 l s _ hw tables_1 i0  s.heap s.heap.size (Nat.le_refl _)  p e ha hc hk s m _ below hf ((Spec.applies_iff_loose hf).mp happ).1 ⟨rfl, State.Warmed39.refl s, rfl⟩ trivial
  refine ⟨n, _, h1, h2, h3, hpost _ _ _ _ _ _ ⟨Cond.after_iff.mpr rfl, Cond.after_iff.mpr (eq_i res_at (Term.int_eval (1)) rfl), trivial⟩ ⟨hq.1, hq.2.1, (hq.2.2.sift fun y hy => Or.inr (N y hy)).mono (by decide) (by decide)⟩⟩
theorem main_1_1 : Claimed_1_1 := comes_1 fun _ _ _ _ _ _ h hF => ⟨h.1, hF⟩
theorem main_1_2 : Claimed_1_2 := comes_1 fun _ _ _ _ _ _ h hF => ⟨h.2.1, hF⟩
end Jvm.Pilot.@@N@@
namespace Jvm.Pilot.@@N@@
open Jvm Jvm.ClassFile Sem Op Lib Jvm.Free Jvm.Stand Jvm.Pilot.@@N@@.Jvm.D
/-! MADE BY PROGRAM (witnessworld.py) out of the Statement's table words and the real class files: 7 classes; the members and pool entries that the words name. The judged class is class 1, her method 3. -/
namespace start1
open Jvm.ClassFile
def u (s : String) : CpInfo := .utf8 (stringToUtf16 s)
/-- a pool by its gaps: so many unusable entries, then the entry; so many at the end -/
def gap : Nat → List CpInfo → List CpInfo
  | 0, r => r
  | n + 1, r => .unusable :: gap n r
def poolList (es : List (Nat × CpInfo)) (last : Nat) : List CpInfo := es.foldr (fun e r => gap e.1 (e.2 :: r)) (gap last [])
def pool (es : List (Nat × CpInfo)) (last : Nat) : Array CpInfo := ⟨poolList es last⟩
def fileOf (pool : Array CpInfo) (this : Nat) (attrs : Array Attribute := #[]) (ms : Array MethodInfo := #[]) (fl : Nat := 33) (sup : Nat := 0) (ifs : Array Nat := #[]) (fds : Array FieldInfo := #[]) : ClassFile where
  minorVersion := 0
  majorVersion := 65
  constantPool := pool
  accessFlags := fl
  thisClass := this
  superClass := sup
  interfaces := ifs
  fields := fds
  methods := ms
  attributes := attrs
def plain (name : String) (sup : Option ClassId) : Class where
  name := name
  kind := .ordinary
  loader := none
  accessFlags := 33
  super := sup
  interfaces := #[]
  cf := none
  fields := #[]
  methods := #[]
  instanceTypes := #[]
  staticTypes := #[]
  resolved := #[]
  callSites := []
  init := .initialized
  statics := none
  mirror := none

def pool0 : Array CpInfo := pool [(5, u "<init>"), (0, u "()V"), (1, .class_ 10), (1, u "java/lang/Object")] 113

def k0m0 : Method := { name := "<init>", desc := "()V", sig := { parameters := [], returnType := none }, accessFlags := 1, code := none }
/-- java/lang/Object -/
def k0 : Class := { plain "java/lang/Object" none with
  accessFlags := 33
  interfaces := #[]
  cf := some (fileOf pool0 8 #[] #[{ accessFlags := 1, nameIndex := 5, descriptorIndex := 6, attributes := #[] }] 33 0 #[] #[])
  fields := #[]
  methods := #[k0m0]
  instanceTypes := #[]
  staticTypes := #[]
  resolved := Array.replicate 124 none
  statics := none }

def pool1 : Array CpInfo := pool [(2, .class_ 4), (1, u "java/lang/Object"), (0, u "<init>"), (0, u "()V"), (0, .long 2), (1, .long 10723151780598845931), (1, .methodref 12 13), (0, .class_ 14), (0, .nameAndType 15 16), (0, u "com/example/design_drills/designdrills/util/SplitMixMixPinLaw"), (0, u "inverseOdd"), (0, u "(J)J"), (0, .long 13787848793156543929), (1, .methodref 20 21), (0, .class_ 22), (0, .nameAndType 23 16), (0, u "com/example/design_drills/designdrills/util/SplitMix"), (0, u "mix"), (0, .methodref 12 25), (0, .nameAndType 26 16), (0, u "unmix"), (2, u "law"), (0, u "(J)Z")] 3

def k1m0 : Method := { name := "<init>", desc := "()V", sig := { parameters := [], returnType := none }, accessFlags := 1, code := none }
def k1c1 : Code := { maxStack := 8, maxLocals := 4, code := method_2_code, exceptionTable := #[], attributes := #[] }
def k1m1 : Method := { name := "inverseOdd", desc := "(J)J", sig := { parameters := [.long], returnType := some .long }, accessFlags := 10, code := some k1c1 }
def k1c2 : Code := { maxStack := 5, maxLocals := 10, code := method_3_code, exceptionTable := #[], attributes := #[] }
def k1m2 : Method := { name := "unmix", desc := "(J)J", sig := { parameters := [.long], returnType := some .long }, accessFlags := 10, code := some k1c2 }
def k1c3 : Code := { maxStack := 4, maxLocals := 4, code := code, exceptionTable := #[], attributes := #[] }
def k1m3 : Method := { name := "law", desc := "(J)Z", sig := { parameters := [.long], returnType := some .boolean }, accessFlags := 9, code := some k1c3 }
/-- com/example/design_drills/designdrills/util/SplitMixMixPinLaw -/
def k1 : Class := { plain "com/example/design_drills/designdrills/util/SplitMixMixPinLaw" (some 0) with
  accessFlags := 49
  interfaces := #[]
  cf := some (fileOf pool1 12 #[] #[{ accessFlags := 1, nameIndex := 5, descriptorIndex := 6, attributes := #[] }, { accessFlags := 10, nameIndex := 15, descriptorIndex := 16, attributes := #[] }, { accessFlags := 10, nameIndex := 26, descriptorIndex := 16, attributes := #[] }, { accessFlags := 9, nameIndex := 29, descriptorIndex := 30, attributes := #[] }] 49 2 #[] #[])
  fields := #[]
  methods := #[k1m0, k1m1, k1m2, k1m3]
  instanceTypes := #[]
  staticTypes := #[]
  resolved := Array.replicate 34 none
  statics := none }

def pool2 : Array CpInfo := pool [(2, .class_ 4), (1, u "java/lang/Object"), (0, u "<init>"), (0, u "()V"), (0, .long 13787848793156543929), (1, .long 10723151780598845931), (1, .class_ 12), (0, u "com/example/design_drills/designdrills/util/SplitMix"), (0, u "GOLDEN_GAMMA"), (0, u "J"), (5, u "mix"), (0, u "(J)J")] 2

def k2m0 : Method := { name := "<init>", desc := "()V", sig := { parameters := [], returnType := none }, accessFlags := 2, code := none }
def k2c1 : Code := { maxStack := 5, maxLocals := 2, code := prog_89_method_2_code, exceptionTable := #[], attributes := #[] }
def k2m1 : Method := { name := "mix", desc := "(J)J", sig := { parameters := [.long], returnType := some .long }, accessFlags := 9, code := some k2c1 }
/-- com/example/design_drills/designdrills/util/SplitMix -/
def k2 : Class := { plain "com/example/design_drills/designdrills/util/SplitMix" (some 0) with
  accessFlags := 49
  interfaces := #[]
  cf := some (fileOf pool2 11 #[] #[{ accessFlags := 2, nameIndex := 5, descriptorIndex := 6, attributes := #[] }, { accessFlags := 9, nameIndex := 20, descriptorIndex := 21, attributes := #[] }] 49 2 #[] #[{ accessFlags := 25, nameIndex := 13, descriptorIndex := 14, attributes := #[] }])
  fields := #[{ name := "GOLDEN_GAMMA", type := .long, accessFlags := 25, slot := 0, constantValue := 0 }]
  methods := #[k2m0, k2m1]
  instanceTypes := #[]
  staticTypes := #[.long]
  resolved := Array.replicate 24 none
  statics := none }

def pool3 : Array CpInfo := pool [(1, u "java/lang/Cloneable"), (0, .class_ 1), (0, u "java/lang/Object"), (0, .class_ 3)] 3

/-- java/lang/Cloneable -/
def k3 : Class := { plain "java/lang/Cloneable" (some 0) with
  accessFlags := 1537
  interfaces := #[]
  cf := some (fileOf pool3 2 #[] #[] 1537 4 #[] #[])
  fields := #[]
  methods := #[]
  instanceTypes := #[]
  staticTypes := #[]
  resolved := Array.replicate 8 none
  statics := none }

def pool4 : Array CpInfo := pool [(1, u "java/io/Serializable"), (0, .class_ 1), (0, u "java/lang/Object"), (0, .class_ 3)] 3

/-- java/io/Serializable -/
def k4 : Class := { plain "java/io/Serializable" (some 0) with
  accessFlags := 1537
  interfaces := #[]
  cf := some (fileOf pool4 2 #[] #[] 1537 4 #[] #[])
  fields := #[]
  methods := #[]
  instanceTypes := #[]
  staticTypes := #[]
  resolved := Array.replicate 8 none
  statics := none }

/-- the primitive byte -/
def k5 : Class := { plain "byte" none with kind := .primitive 'B', accessFlags := 0x411 }
/-- [B -/
def k6 : Class := { plain "[B" (some 0) with kind := .array 5 .byte, interfaces := #[3, 4], accessFlags := 1041 }

def heap : Heap := #[]
def classes : Array Class := #[k0, k1, k2, k3, k4, k5, k6]
def interned : List (Array UInt16 × Addr) := []
def slotsUsed : Nat := 0
def theMethod : MethodId := ⟨1, 3⟩
def args0 : Array Value := #[.long 5]
def aboutOver (below : List Frame) : State where
  vm := { classes := classes, interned := interned.toArray }
  heap := heap
  slotsUsed := slotsUsed
  threads := #[{ frames := .invoking theMethod args0 :: below }]
def below0 : List Frame := [.native { method := ⟨0, 0⟩, args := #[] }]
def about1 : State := aboutOver below0
def p0 : Program := .bare "" "" ""
def e0 : Env := launch0.env 0 0 0
theorem w_frames : about1.frames = Frame.invoking theMethod args0 :: below0 := rfl
set_option maxRecDepth 65536 in
theorem w_args : argsFit about1.vm theMethod args0 = true := by decide +kernel
set_option maxRecDepth 65536 in
theorem w_heap : heapFits about1 = true := by decide +kernel
set_option maxRecDepth 65536 in
theorem w_runnable : about1.curStatus? = some .runnable := by decide +kernel
set_option maxRecDepth 65536 in
theorem w_alone : about1.alone = true := by decide +kernel
set_option maxRecDepth 65536 in
theorem w_named : about1.methodNamed? x = some theMethod := by decide +kernel
set_option maxRecDepth 65536 in
theorem w_hears : about1.hears theMethod below0 = true := by decide +kernel
set_option maxRecDepth 65536 in
theorem w_ripe : about1.ripe theMethod args0 below0 = true := by decide +kernel
theorem w_running : about1.status = .running := rfl
set_option maxRecDepth 65536 in
theorem w_room : about1.hasRoom e0.platform room_1 = true :=
  launch0.hasRoom_least _ room_1 (by decide +kernel) (by decide +kernel) (by decide +kernel) (by decide +kernel) (by decide +kernel) (by decide +kernel)
theorem allAtoms_all (ts : List Jvm.Cond) (a : Array Jvm.Value) (st : Jvm.State) : (allAtoms ts).before a st = ts.all (fun c => c.before a st) := by
  induction ts with
  | nil => rfl
  | cons c t ih =>
    show (Jvm.Cond.and c (allAtoms t)).before a st = _
    rw [Jvm.Cond.before_and, ih, List.all_cons]
def words1 : List Jvm.Cond := Jvm.Cond.code x code maxLocals ret :: tables_1
/-- a 'code' word, met by the world's own term for the bytes: nothing is compared byte by byte -/
theorem code_word {y : MethodName} {bytes : ByteArray} {mx : Nat} {rt : Option FieldType} {a : Array Value} {s : State} {m : MethodId} {meth : Method} {c : Code} (h1 : s.methodNamed? y = some m) (h2 : s.vm.method? m = some meth) (h3 : meth.code = some c) (h4 : c.code = bytes)
    (h5 : (c.maxLocals == mx && c.exceptionTable.isEmpty && decide (c.maxStack ≤ mostOperands) && decide (meth.sig.returnType = rt) && !meth.locks && decide (parseMethodDescriptor y.desc = some meth.sig)) = true) : (Jvm.Cond.code y bytes mx rt).before a s = true := by
  simp only [Bool.and_eq_true, beq_iff_eq, Bool.not_eq_true', decide_eq_true_eq] at h5
  obtain ⟨⟨⟨⟨⟨g1, g2⟩, g3⟩, g4⟩, g5⟩, g6⟩ := h5
  simp [Cond.before, Cond.holds, Cond.value, h1, h2, h3, h4, g1, g2, g3, g4, g5, g6]
def isCode : Jvm.Cond → Bool
  | .code _ _ _ _ => true
  | _ => false
theorem all_split {L : List Jvm.Cond} {P : Jvm.Cond → Bool} (h1 : L.all (fun c => isCode c || P c) = true) (h2 : ∀ c ∈ L.filter isCode, P c = true) : L.all P = true := by
  refine List.all_eq_true.mpr fun c hc => ?_
  have h := List.all_eq_true.mp h1 c hc
  rcases Bool.eq_false_or_eq_true (isCode c) with hi | hi
  · exact h2 c (List.mem_filter.mpr ⟨hc, hi⟩)
  · simpa [hi] using h
set_option maxRecDepth 65536 in
theorem w_c0 : (Jvm.Cond.code x code maxLocals ret).before args0 about1 = true := code_word (m := ⟨1, 3⟩) (meth := k1m3) (c := k1c3) (by decide +kernel) rfl rfl rfl (by decide +kernel)
set_option maxRecDepth 65536 in
theorem w_c1 : (Jvm.Cond.code ({ cls := "com/example/design_drills/designdrills/util/SplitMix", name := "mix", desc := "(J)J" } : Jvm.MethodName) prog_89_method_2_code (2 : Nat) (Option.some Jvm.ClassFile.FieldType.long)).before args0 about1 = true := code_word (m := ⟨2, 1⟩) (meth := k2m1) (c := k2c1) (by decide +kernel) rfl rfl rfl (by decide +kernel)
set_option maxRecDepth 65536 in
theorem w_c2 : (Jvm.Cond.code ({ cls := "com/example/design_drills/designdrills/util/SplitMixMixPinLaw", name := "unmix", desc := "(J)J" } : Jvm.MethodName) method_3_code (10 : Nat) (Option.some Jvm.ClassFile.FieldType.long)).before args0 about1 = true := code_word (m := ⟨1, 2⟩) (meth := k1m2) (c := k1c2) (by decide +kernel) rfl rfl rfl (by decide +kernel)
set_option maxRecDepth 65536 in
theorem w_c3 : (Jvm.Cond.code ({ cls := "com/example/design_drills/designdrills/util/SplitMixMixPinLaw", name := "inverseOdd", desc := "(J)J" } : Jvm.MethodName) method_2_code (4 : Nat) (Option.some Jvm.ClassFile.FieldType.long)).before args0 about1 = true := code_word (m := ⟨1, 1⟩) (meth := k1m1) (c := k1c1) (by decide +kernel) rfl rfl rfl (by decide +kernel)
def codes1 : List Jvm.Cond := [Jvm.Cond.code x code maxLocals ret, Jvm.Cond.code ({ cls := "com/example/design_drills/designdrills/util/SplitMix", name := "mix", desc := "(J)J" } : Jvm.MethodName) prog_89_method_2_code (2 : Nat) (Option.some Jvm.ClassFile.FieldType.long), Jvm.Cond.code ({ cls := "com/example/design_drills/designdrills/util/SplitMixMixPinLaw", name := "unmix", desc := "(J)J" } : Jvm.MethodName) method_3_code (10 : Nat) (Option.some Jvm.ClassFile.FieldType.long), Jvm.Cond.code ({ cls := "com/example/design_drills/designdrills/util/SplitMixMixPinLaw", name := "inverseOdd", desc := "(J)J" } : Jvm.MethodName) method_2_code (4 : Nat) (Option.some Jvm.ClassFile.FieldType.long)]
set_option maxRecDepth 65536 in
theorem codes_eq : words1.filter isCode = codes1 := rfl
theorem w_codes : ∀ c ∈ words1.filter isCode, c.before args0 about1 = true := by
  rw [codes_eq]
  intro c hc
  simp only [codes1, List.mem_cons, List.not_mem_nil, or_false] at hc
  rcases hc with rfl | rfl | rfl | rfl
  · exact w_c0
  · exact w_c1
  · exact w_c2
  · exact w_c3
set_option maxRecDepth 65536 in
theorem w_t1 : words1.all (fun c => isCode c || c.before args0 about1) = true := by decide +kernel
theorem w_tables : (allAtoms (Jvm.Cond.code x code maxLocals ret :: tables_1)).before args0 about1 = true := by
  rw [allAtoms_all]
  show words1.all (fun c => c.before args0 about1) = true
  refine all_split ?_ w_codes
  rw [w_t1]
set_option maxRecDepth 65536 in
theorem w_case : (Jvm.Cond.and given_1 narrow_1).before args0 about1 = true := by decide +kernel
theorem w_applies : (headSpec (Jvm.Cond.code x code maxLocals ret :: tables_1) room_1).applies x e0.platform about1 = true :=
  (Spec.applies_iff w_frames).mpr ⟨w_running, w_runnable, w_alone, w_named, w_hears, w_ripe, w_room, w_tables⟩
theorem atStart : AtStart classFile x code maxLocals ret World_1 tables_1 room_1 Calls_1 rest_1 Pre_1 launch0 p0 e0 about1 theMethod args0 below0 :=
  ⟨lists_1, trivial, launch0.admits_env _ _ _, launch0.least_env, fairChoices_fair.cas, fairChoices_fair.clock, w_frames, w_args, w_heap, w_applies, trivial, trivial, w_case⟩
end start1
theorem witness_1 : WitnessClaimed_1 := ⟨start1.p0, start1.e0, start1.about1, start1.theMethod, start1.args0, start1.below0, start1.atStart⟩
end Jvm.Pilot.@@N@@
