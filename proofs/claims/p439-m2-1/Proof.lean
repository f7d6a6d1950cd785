import JvmDerived
import JvmDerived.Pilot.@@N@@Statement
import JvmDerived.Pilot.@@N@@Code
set_option linter.unusedVariables false
set_option linter.unusedSimpArgs false
namespace Jvm.Pilot.@@N@@
open Jvm Jvm.ClassFile Sem Op Lib Jvm.Free Jvm.Stand Jvm.LawKit Jvm.RoadKit Bundle Jvm.Pilot.@@N@@.Jvm.D
def Go (p : Program) (e : Env) (below : List Frame) (S : State) (P : State → Outcome → Prop) : Prop := ∃ t o, Steps p.tables e below S t ∧ P t o
abbrev Gm (p : Program) (e : Env) (below : List Frame) (T : State) (m : MethodId) (pc : Nat) (ls : Array Slot) (st : List Value) (P : State → Outcome → Prop) : Prop := Go p e below (T.setTop (mkF m pc ls st)) P
abbrev lv (x : Int64) : Slot := .val (.long x)
theorem own_in {p : Program} {e : Env} {below : List Frame} {T : State} {g g' : JFrame} {P : State → Outcome → Prop} (q : g = g') (h : Go p e below (T.setTop g') P) : ∃ s₂ o, Steps p.tables e below (T.setTop g) s₂ ∧ P s₂ o := q ▸ h
theorem own_go {p : Program} {e : Env} {below : List Frame} {S S' : State} {P : State → Outcome → Prop} (k : ∀ t, Steps p.tables e below S' t → Steps p.tables e below S t) (h : Go p e below S' P) : Go p e below S P := by
  obtain ⟨t, o, h1, h2⟩ := h
  exact ⟨t, o, k t h1, h2⟩
section Rets
variable {p : Program} {l : Launch} {e : Env} {R : Room} {s : State} {m : MethodId} {args : Array Value} {below : List Frame} {meth : Method} {c : Code} {T : State} {locs : List Loc} {cells slots : Nat}
theorem own_retI (X : Stand p l e R s m args below meth c T locs cells slots) (hx : p.tables.exec = Jvm.exec) (hlk : meth.locks = false) {pc : Nat} {Ls : Array Slot} {z : Int32} {t : FieldType} {Q : Option Value → Heap → List Loc → Prop} {C N : Nat} (hret : meth.sig.returnType = some t) (hn : narrow t (.int z) = .int z) (ht : t = .int ∨ t = .boolean ∨ t = .byte ∨ t = .char ∨ t = .short)
    (hd : decode c.code pc = .ok (.ireturn, 1)) {h : Heap} (eh : T.heap = h) (hq : Q (some (.int z)) h locs) (hC : cells ≤ C) (hN : slots ≤ N) : Go p e below (T.setTop (mkF m pc Ls [.int z])) (fun t o => t.status = .running ∧ Ended t below o ∧ ∃ v L, o = .returned v ∧ Q v t.heap L ∧ FrameEnd s o t L C N) := by
  subst eh
  obtain ⟨fs, hr, hrun, hended, hW, hsame⟩ := X.leave (v := some (.int z)) (fun h => by rw [hret] at h; cases h) hlk
  exact ⟨_, _, X.ireturnOut hx hret hn ht hd hr, hrun, hended, _, _, rfl, hq, ⟨_, rfl⟩, hW, hsame.mono hC hN⟩
theorem own_retL (X : Stand p l e R s m args below meth c T locs cells slots) (hx : p.tables.exec = Jvm.exec) (hlk : meth.locks = false) {pc : Nat} {Ls : Array Slot} {z : Int64} {Q : Option Value → Heap → List Loc → Prop} {C N : Nat} (hret : meth.sig.returnType = some .long)
    (hd : decode c.code pc = .ok (.lreturn, 1)) {h : Heap} (eh : T.heap = h) (hq : Q (some (.long z)) h locs) (hC : cells ≤ C) (hN : slots ≤ N) : Go p e below (T.setTop (mkF m pc Ls [.long z])) (fun t o => t.status = .running ∧ Ended t below o ∧ ∃ v L, o = .returned v ∧ Q v t.heap L ∧ FrameEnd s o t L C N) := by
  subst eh
  obtain ⟨fs, hr, hrun, hended, hW, hsame⟩ := X.leave (v := some (.long z)) (fun h => by rw [hret] at h; cases h) hlk
  exact ⟨_, _, X.lreturnOut hx hret hd hr, hrun, hended, _, _, rfl, hq, ⟨_, rfl⟩, hW, hsame.mono hC hN⟩
theorem own_retA (X : Stand p l e R s m args below meth c T locs cells slots) (hx : p.tables.exec = Jvm.exec) (hlk : meth.locks = false) {pc : Nat} {Ls : Array Slot} {w : Value} {t : FieldType} {Q : Option Value → Heap → List Loc → Prop} {C N : Nat} (hw : w.isRef = true) (hret : meth.sig.returnType = some t) (ht : t.isReference = true)
    (hd : decode c.code pc = .ok (.areturn, 1)) {h : Heap} (eh : T.heap = h) (hq : Q (some w) h locs) (hC : cells ≤ C) (hN : slots ≤ N) : Go p e below (T.setTop (mkF m pc Ls [w])) (fun t o => t.status = .running ∧ Ended t below o ∧ ∃ v L, o = .returned v ∧ Q v t.heap L ∧ FrameEnd s o t L C N) := by
  subst eh
  obtain ⟨fs, hr, hrun, hended, hW, hsame⟩ := X.leave (v := some w) (fun h => by rw [hret] at h; cases h) hlk
  exact ⟨_, _, X.areturnOut hx hw hret ht hd hr, hrun, hended, _, _, rfl, hq, ⟨_, rfl⟩, hW, hsame.mono hC hN⟩
theorem own_retV (X : Stand p l e R s m args below meth c T locs cells slots) (hx : p.tables.exec = Jvm.exec) (hlk : meth.locks = false) {pc : Nat} {Ls : Array Slot} {Q : Option Value → Heap → List Loc → Prop} {C N : Nat} (hret : meth.sig.returnType = none)
    (hd : decode c.code pc = .ok (.return_, 1)) {h : Heap} (eh : T.heap = h) (hq : Q none h locs) (hC : cells ≤ C) (hN : slots ≤ N) : Go p e below (T.setTop (mkF m pc Ls [])) (fun t o => t.status = .running ∧ Ended t below o ∧ ∃ v L, o = .returned v ∧ Q v t.heap L ∧ FrameEnd s o t L C N) := by
  subst eh
  obtain ⟨fs, hr, hrun, hended, hW, hsame⟩ := X.leave (v := none) (fun _ => rfl) hlk
  exact ⟨_, _, X.returnOut hx hret hd hr, hrun, hended, _, _, rfl, hq, ⟨_, rfl⟩, hW, hsame.mono hC hN⟩
end Rets

def ush (k : Int32) (x : Int32) : Int32 := (x.toUInt32 >>> (k &&& 31).toUInt32).toInt32
def xs1 (k : Int32) (x : Int32) : Int32 := x ^^^ ush k x
def xs2 (k k2 : Int32) (x : Int32) : Int32 := (x ^^^ ush k x) ^^^ ush k2 x
def spF (z : Int32) : Int32 := xs1 16 (xs1 13 (xs1 16 z * (-2048144789 : Int32)) * (-1028477387 : Int32))
def unF (y : Int32) : Int32 := xs1 16 (xs2 13 26 (xs1 16 y * (2127672349 : Int32)) * (-1513385405 : Int32))
theorem ush_bv (x : Int32) : (ush 16 x).toBitVec = x.toBitVec >>> 16 ∧ (ush 13 x).toBitVec = x.toBitVec >>> 13 ∧ (ush 26 x).toBitVec = x.toBitVec >>> 26 := ⟨rfl, rfl, rfl⟩
theorem sh_zero (x : BitVec 32) (k : Nat) (h : 32 ≤ k) : x >>> k = 0#32 := by
  apply BitVec.eq_of_getLsbD_eq
  intro i hi
  rw [BitVec.getLsbD_ushiftRight]
  simp
  apply BitVec.getLsbD_of_ge
  omega
theorem xs_bv (x : BitVec 32) (k k2 : Nat) (h2 : k2 = k + k) (h3 : 32 ≤ k + k2) : (x ^^^ (x >>> k)) ^^^ ((x ^^^ (x >>> k)) >>> k) ^^^ ((x ^^^ (x >>> k)) >>> k2) = x := by
  subst h2
  rw [BitVec.ushiftRight_xor_distrib, BitVec.ushiftRight_xor_distrib, ← BitVec.shiftRight_add, ← BitVec.shiftRight_add, sh_zero x (k + (k + k)) h3, BitVec.xor_zero]
  generalize x >>> k = a
  generalize x >>> (k + k) = b
  rw [BitVec.xor_assoc x a (a ^^^ b), ← BitVec.xor_assoc a a b, BitVec.xor_self, BitVec.zero_xor, BitVec.xor_assoc, BitVec.xor_self, BitVec.xor_zero]
theorem xs_bv' (x : BitVec 32) (k k2 : Nat) (h2 : k2 = k + k) (h3 : 32 ≤ k + k2) : ((x ^^^ (x >>> k)) ^^^ (x >>> k2)) ^^^ (((x ^^^ (x >>> k)) ^^^ (x >>> k2)) >>> k) = x := by
  subst h2
  rw [BitVec.ushiftRight_xor_distrib, BitVec.ushiftRight_xor_distrib, ← BitVec.shiftRight_add, ← BitVec.shiftRight_add, (by omega : k + k + k = k + (k + k)), sh_zero x (k + (k + k)) h3, BitVec.xor_zero]
  generalize x >>> k = a
  generalize x >>> (k + k) = b
  rw [BitVec.xor_assoc x a b, BitVec.xor_assoc x (a ^^^ b) (a ^^^ b), BitVec.xor_self, BitVec.xor_zero]
theorem xs_bv16 (x : BitVec 32) : (x ^^^ (x >>> 16)) ^^^ ((x ^^^ (x >>> 16)) >>> 16) = x := by
  rw [BitVec.ushiftRight_xor_distrib, ← BitVec.shiftRight_add, sh_zero x (16 + 16) (by decide), BitVec.xor_zero, BitVec.xor_assoc, BitVec.xor_self, BitVec.xor_zero]
theorem back16 (x : Int32) : xs1 16 (xs1 16 x) = x := by
  apply Int32.toBitVec_inj.mp
  show (xs1 16 x).toBitVec ^^^ (ush 16 (xs1 16 x)).toBitVec = _
  rw [(ush_bv _).1]
  show (x.toBitVec ^^^ (ush 16 x).toBitVec) ^^^ ((x.toBitVec ^^^ (ush 16 x).toBitVec) >>> 16) = _
  rw [(ush_bv _).1]
  exact xs_bv16 _
theorem back13 (x : Int32) : xs2 13 26 (xs1 13 x) = x := by
  apply Int32.toBitVec_inj.mp
  show ((xs1 13 x).toBitVec ^^^ (ush 13 (xs1 13 x)).toBitVec) ^^^ (ush 26 (xs1 13 x)).toBitVec = _
  rw [(ush_bv _).2.1, (ush_bv _).2.2]
  show (x.toBitVec ^^^ (ush 13 x).toBitVec) ^^^ ((x.toBitVec ^^^ (ush 13 x).toBitVec) >>> 13) ^^^ ((x.toBitVec ^^^ (ush 13 x).toBitVec) >>> 26) = _
  rw [(ush_bv _).2.1]
  exact xs_bv _ 13 26 rfl (by decide)
theorem forth13 (x : Int32) : xs1 13 (xs2 13 26 x) = x := by
  apply Int32.toBitVec_inj.mp
  show (xs2 13 26 x).toBitVec ^^^ (ush 13 (xs2 13 26 x)).toBitVec = _
  rw [(ush_bv _).2.1]
  show ((x.toBitVec ^^^ (ush 13 x).toBitVec) ^^^ (ush 26 x).toBitVec) ^^^ (((x.toBitVec ^^^ (ush 13 x).toBitVec) ^^^ (ush 26 x).toBitVec) >>> 13) = _
  rw [(ush_bv _).2.1, (ush_bv _).2.2]
  exact xs_bv' _ 13 26 rfl (by decide)
theorem inv1 : (-2048144789 : Int32) * (-1513385405 : Int32) = 1 := by decide +kernel
theorem inv2 : (-1028477387 : Int32) * (2127672349 : Int32) = 1 := by decide +kernel
theorem inv3 : (-1513385405 : Int32) * (-2048144789 : Int32) = 1 := by decide +kernel
theorem inv4 : (2127672349 : Int32) * (-1028477387 : Int32) = 1 := by decide +kernel
theorem own_back (z : Int32) : unF (spF z) = z := by
  unfold unF spF
  rw [back16, Int32.mul_assoc, inv2, Int32.mul_one, back13, Int32.mul_assoc, inv1, Int32.mul_one, back16]
theorem own_forth (z : Int32) : spF (unF z) = z := by
  unfold unF spF
  rw [back16, Int32.mul_assoc, inv3, Int32.mul_one, forth13, Int32.mul_assoc, inv4, Int32.mul_one, back16]
theorem d1_0 : decode prog_65_method_16_code 0 = .ok (.iload_n 0, 1) := by decide +kernel
theorem d1_1 : decode prog_65_method_16_code 1 = .ok (.iload_n 0, 1) := by decide +kernel
theorem d1_2 : decode prog_65_method_16_code 2 = .ok (.bipush 16, 2) := by decide +kernel
theorem d1_4 : decode prog_65_method_16_code 4 = .ok (.iushr, 1) := by decide +kernel
theorem d1_5 : decode prog_65_method_16_code 5 = .ok (.ixor, 1) := by decide +kernel
theorem d1_6 : decode prog_65_method_16_code 6 = .ok (.ldc 122, 2) := by decide +kernel
theorem d1_8 : decode prog_65_method_16_code 8 = .ok (.imul, 1) := by decide +kernel
theorem d1_9 : decode prog_65_method_16_code 9 = .ok (.istore_n 1, 1) := by decide +kernel
theorem d1_10 : decode prog_65_method_16_code 10 = .ok (.iload_n 1, 1) := by decide +kernel
theorem d1_11 : decode prog_65_method_16_code 11 = .ok (.iload_n 1, 1) := by decide +kernel
theorem d1_12 : decode prog_65_method_16_code 12 = .ok (.bipush 13, 2) := by decide +kernel
theorem d1_14 : decode prog_65_method_16_code 14 = .ok (.iushr, 1) := by decide +kernel
theorem d1_15 : decode prog_65_method_16_code 15 = .ok (.ixor, 1) := by decide +kernel
theorem d1_16 : decode prog_65_method_16_code 16 = .ok (.ldc 123, 2) := by decide +kernel
theorem d1_18 : decode prog_65_method_16_code 18 = .ok (.imul, 1) := by decide +kernel
theorem d1_19 : decode prog_65_method_16_code 19 = .ok (.istore_n 1, 1) := by decide +kernel
theorem d1_20 : decode prog_65_method_16_code 20 = .ok (.iload_n 1, 1) := by decide +kernel
theorem d1_21 : decode prog_65_method_16_code 21 = .ok (.iload_n 1, 1) := by decide +kernel
theorem d1_22 : decode prog_65_method_16_code 22 = .ok (.bipush 16, 2) := by decide +kernel
theorem d1_24 : decode prog_65_method_16_code 24 = .ok (.iushr, 1) := by decide +kernel
theorem d1_25 : decode prog_65_method_16_code 25 = .ok (.ixor, 1) := by decide +kernel
theorem d1_26 : decode prog_65_method_16_code 26 = .ok (.ireturn, 1) := by decide +kernel
theorem own_pn_rm1 : plainName "com/example/design_drills/designdrills/service/listens/IdNumbers" = true := by first | (simp [plainName, overriddenIn]; done) | decide +kernel
theorem own_ef_rm1 (m : MethodId) (p0 : Int32) : entryFrame m #[(.int p0)] 2 = mkF m 0 #[.val (.int p0), .unset] [] := by first | (simp [entryFrame, mkF, argsToLocals, Value.category]; done) | rfl
def Q1 (Z : State) (p0 : Int32) (h0 : Heap) (n0 : Nat) (v : Option Value) (h : Heap) (L : List Loc) : Prop := v = some (.int (spF p0)) ∧ Fr n0 L ∧ h = h0
set_option maxRecDepth 65536 in
set_option maxHeartbeats 40000000 in
theorem rm1 (l : Launch) (Z : State) (a0 : Array Value) (hw : ∀ d ∈ tables_1, d.before a0 Z = true) (ws : List Jvm.Cond) (p0 : Int32) (h0 : Heap) (n0 : Nat) (Z0 : n0 ≤ h0.size) :
    MetFree l (⟨"com/example/design_drills/designdrills/service/listens/IdNumbers", "spread", "(I)I"⟩ : MethodName) (head1 (Jvm.Cond.code (⟨"com/example/design_drills/designdrills/service/listens/IdNumbers", "spread", "(I)I"⟩ : MethodName) prog_65_method_16_code 2 (some .int) :: ws) ({ frames := 0, cells := 0, slots := 0, locals := 0 } : Room)) (fun a U => a = #[(.int p0)] ∧ Z.Warmed39 U.vm ∧ U.heap = h0) (fun _ _ _ _ _ => True) (fun _ U o U' => ∃ v L, o = .returned v ∧ Q1 Z p0 h0 n0 v U'.heap L ∧ FrameEnd U o U' L ({ frames := 0, cells := 0, slots := 0, locals := 0 } : Room).cells ({ frames := 0, cells := 0, slots := 0, locals := 0 } : Room).slots) := by
  refine MetFree.of_bodySF (plainFor_of_name own_pn_rm1) hisR ?_
  intro p e s m args below meth c s₁ Bd hml0 hP hK
  obtain ⟨rfl, hZ, hh⟩ := hP
  have hx := Bd.exec
  have hby := Bd.bytes
  have hml : c.maxLocals = 2 := hml0
  have hown : s.vm.findClass "com/example/design_drills/designdrills/service/listens/IdNumbers" = some m.cls := findClass_of_methodNamed Bd.named
  have hnm := (name_of_methodNamed Bd.named Bd.method).1
  have hlk : meth.locks = false := BodyLoose.notSynchronized Bd
  have X0 : Stand p l e ({ frames := 0, cells := 0, slots := 0, locals := 0 } : Room) s m #[(.int p0)] below meth c s₁ [] 0 0 := Stand.of_body Bd
  have e0 : s₁.heap = h0 := by rw [← hh, Bd.state]; rfl
  have N0 := Fr.nil n0
  refine own_in (own_ef_rm1 m p0) ?_
  show Gm p e below s₁ m 0 #[iv p0, .unset] [] _
  refine own_go (fun t k => XS.iloadN X0.here hx rfl (hb hby d1_0) rfl k) ?_
  show Gm p e below s₁ m 1 #[iv p0, .unset] [(.int p0)] _
  refine own_go (fun t k => XS.iloadN X0.here hx rfl (hb hby d1_1) rfl k) ?_
  show Gm p e below s₁ m 2 #[iv p0, .unset] [(.int p0), (.int p0)] _
  refine own_go (fun t k => XS.bipush X0.here hx rfl (hb hby d1_2) k) ?_
  show Gm p e below s₁ m 4 #[iv p0, .unset] [(.int (16 : Int32)), (.int p0), (.int p0)] _
  refine own_go (fun t k => XS.iushr X0.here hx rfl (hb hby d1_4) rfl k) ?_
  show Gm p e below s₁ m 5 #[iv p0, .unset] [(.int ((p0.toUInt32 >>> ((16 : Int32) &&& 31).toUInt32).toInt32)), (.int p0)] _
  refine own_go (fun t k => XS.ixor X0.here hx rfl (hb hby d1_5) rfl k) ?_
  show Gm p e below s₁ m 6 #[iv p0, .unset] [(.int (p0 ^^^ ((p0.toUInt32 >>> ((16 : Int32) &&& 31).toUInt32).toInt32)))] _
  refine own_go (fun t k => X0.ldcI hx hown (mvT hZ (hw _ (List.mem_of_getElem? (i := 4) rfl))) rfl (hb hby d1_6) k) ?_
  show Gm p e below s₁ m 8 #[iv p0, .unset] [(.int (-2048144789 : Int32)), (.int (p0 ^^^ ((p0.toUInt32 >>> ((16 : Int32) &&& 31).toUInt32).toInt32)))] _
  refine own_go (fun t k => XS.imul X0.here hx rfl (hb hby d1_8) rfl k) ?_
  show Gm p e below s₁ m 9 #[iv p0, .unset] [(.int ((p0 ^^^ ((p0.toUInt32 >>> ((16 : Int32) &&& 31).toUInt32).toInt32)) * (-2048144789 : Int32)))] _
  refine own_go (fun t k => XS.istoreN X0.here hx rfl (hb hby d1_9) rfl (l' := #[iv p0, iv (xs1 16 p0 * (-2048144789 : Int32))]) rfl k) ?_
  show Gm p e below s₁ m 10 #[iv p0, iv (xs1 16 p0 * (-2048144789 : Int32))] [] _
  refine own_go (fun t k => XS.iloadN X0.here hx rfl (hb hby d1_10) rfl k) ?_
  show Gm p e below s₁ m 11 #[iv p0, iv (xs1 16 p0 * (-2048144789 : Int32))] [(.int (xs1 16 p0 * (-2048144789 : Int32)))] _
  refine own_go (fun t k => XS.iloadN X0.here hx rfl (hb hby d1_11) rfl k) ?_
  show Gm p e below s₁ m 12 #[iv p0, iv (xs1 16 p0 * (-2048144789 : Int32))] [(.int (xs1 16 p0 * (-2048144789 : Int32))), (.int (xs1 16 p0 * (-2048144789 : Int32)))] _
  refine own_go (fun t k => XS.bipush X0.here hx rfl (hb hby d1_12) k) ?_
  show Gm p e below s₁ m 14 #[iv p0, iv (xs1 16 p0 * (-2048144789 : Int32))] [(.int (13 : Int32)), (.int (xs1 16 p0 * (-2048144789 : Int32))), (.int (xs1 16 p0 * (-2048144789 : Int32)))] _
  refine own_go (fun t k => XS.iushr X0.here hx rfl (hb hby d1_14) rfl k) ?_
  show Gm p e below s₁ m 15 #[iv p0, iv (xs1 16 p0 * (-2048144789 : Int32))] [(.int (((xs1 16 p0 * (-2048144789 : Int32)).toUInt32 >>> ((13 : Int32) &&& 31).toUInt32).toInt32)), (.int (xs1 16 p0 * (-2048144789 : Int32)))] _
  refine own_go (fun t k => XS.ixor X0.here hx rfl (hb hby d1_15) rfl k) ?_
  show Gm p e below s₁ m 16 #[iv p0, iv (xs1 16 p0 * (-2048144789 : Int32))] [(.int ((xs1 16 p0 * (-2048144789 : Int32)) ^^^ (((xs1 16 p0 * (-2048144789 : Int32)).toUInt32 >>> ((13 : Int32) &&& 31).toUInt32).toInt32)))] _
  refine own_go (fun t k => X0.ldcI hx hown (mvT hZ (hw _ (List.mem_of_getElem? (i := 5) rfl))) rfl (hb hby d1_16) k) ?_
  show Gm p e below s₁ m 18 #[iv p0, iv (xs1 16 p0 * (-2048144789 : Int32))] [(.int (-1028477387 : Int32)), (.int ((xs1 16 p0 * (-2048144789 : Int32)) ^^^ (((xs1 16 p0 * (-2048144789 : Int32)).toUInt32 >>> ((13 : Int32) &&& 31).toUInt32).toInt32)))] _
  refine own_go (fun t k => XS.imul X0.here hx rfl (hb hby d1_18) rfl k) ?_
  show Gm p e below s₁ m 19 #[iv p0, iv (xs1 16 p0 * (-2048144789 : Int32))] [(.int (((xs1 16 p0 * (-2048144789 : Int32)) ^^^ (((xs1 16 p0 * (-2048144789 : Int32)).toUInt32 >>> ((13 : Int32) &&& 31).toUInt32).toInt32)) * (-1028477387 : Int32)))] _
  refine own_go (fun t k => XS.istoreN X0.here hx rfl (hb hby d1_19) rfl (l' := #[iv p0, iv (xs1 13 (xs1 16 p0 * (-2048144789 : Int32)) * (-1028477387 : Int32))]) rfl k) ?_
  show Gm p e below s₁ m 20 #[iv p0, iv (xs1 13 (xs1 16 p0 * (-2048144789 : Int32)) * (-1028477387 : Int32))] [] _
  refine own_go (fun t k => XS.iloadN X0.here hx rfl (hb hby d1_20) rfl k) ?_
  show Gm p e below s₁ m 21 #[iv p0, iv (xs1 13 (xs1 16 p0 * (-2048144789 : Int32)) * (-1028477387 : Int32))] [(.int (xs1 13 (xs1 16 p0 * (-2048144789 : Int32)) * (-1028477387 : Int32)))] _
  refine own_go (fun t k => XS.iloadN X0.here hx rfl (hb hby d1_21) rfl k) ?_
  show Gm p e below s₁ m 22 #[iv p0, iv (xs1 13 (xs1 16 p0 * (-2048144789 : Int32)) * (-1028477387 : Int32))] [(.int (xs1 13 (xs1 16 p0 * (-2048144789 : Int32)) * (-1028477387 : Int32))), (.int (xs1 13 (xs1 16 p0 * (-2048144789 : Int32)) * (-1028477387 : Int32)))] _
  refine own_go (fun t k => XS.bipush X0.here hx rfl (hb hby d1_22) k) ?_
  show Gm p e below s₁ m 24 #[iv p0, iv (xs1 13 (xs1 16 p0 * (-2048144789 : Int32)) * (-1028477387 : Int32))] [(.int (16 : Int32)), (.int (xs1 13 (xs1 16 p0 * (-2048144789 : Int32)) * (-1028477387 : Int32))), (.int (xs1 13 (xs1 16 p0 * (-2048144789 : Int32)) * (-1028477387 : Int32)))] _
  refine own_go (fun t k => XS.iushr X0.here hx rfl (hb hby d1_24) rfl k) ?_
  show Gm p e below s₁ m 25 #[iv p0, iv (xs1 13 (xs1 16 p0 * (-2048144789 : Int32)) * (-1028477387 : Int32))] [(.int (((xs1 13 (xs1 16 p0 * (-2048144789 : Int32)) * (-1028477387 : Int32)).toUInt32 >>> ((16 : Int32) &&& 31).toUInt32).toInt32)), (.int (xs1 13 (xs1 16 p0 * (-2048144789 : Int32)) * (-1028477387 : Int32)))] _
  refine own_go (fun t k => XS.ixor X0.here hx rfl (hb hby d1_25) rfl k) ?_
  show Gm p e below s₁ m 26 #[iv p0, iv (xs1 13 (xs1 16 p0 * (-2048144789 : Int32)) * (-1028477387 : Int32))] [(.int ((xs1 13 (xs1 16 p0 * (-2048144789 : Int32)) * (-1028477387 : Int32)) ^^^ (((xs1 13 (xs1 16 p0 * (-2048144789 : Int32)) * (-1028477387 : Int32)).toUInt32 >>> ((16 : Int32) &&& 31).toUInt32).toInt32)))] _
  exact own_retI X0 hx hlk (t := .int) Bd.returns rfl (by simp) (hb hby d1_26) e0 ⟨rfl, N0, rfl⟩ (by decide) (by decide)
theorem d2_0 : decode method_2_code 0 = .ok (.iload_n 0, 1) := by decide +kernel
theorem d2_1 : decode method_2_code 1 = .ok (.iload_n 0, 1) := by decide +kernel
theorem d2_2 : decode method_2_code 2 = .ok (.bipush 16, 2) := by decide +kernel
theorem d2_4 : decode method_2_code 4 = .ok (.iushr, 1) := by decide +kernel
theorem d2_5 : decode method_2_code 5 = .ok (.ixor, 1) := by decide +kernel
theorem d2_6 : decode method_2_code 6 = .ok (.istore_n 1, 1) := by decide +kernel
theorem d2_7 : decode method_2_code 7 = .ok (.iload_n 1, 1) := by decide +kernel
theorem d2_8 : decode method_2_code 8 = .ok (.ldc 7, 2) := by decide +kernel
theorem d2_10 : decode method_2_code 10 = .ok (.imul, 1) := by decide +kernel
theorem d2_11 : decode method_2_code 11 = .ok (.istore_n 1, 1) := by decide +kernel
theorem d2_12 : decode method_2_code 12 = .ok (.iload_n 1, 1) := by decide +kernel
theorem d2_13 : decode method_2_code 13 = .ok (.iload_n 1, 1) := by decide +kernel
theorem d2_14 : decode method_2_code 14 = .ok (.bipush 13, 2) := by decide +kernel
theorem d2_16 : decode method_2_code 16 = .ok (.iushr, 1) := by decide +kernel
theorem d2_17 : decode method_2_code 17 = .ok (.ixor, 1) := by decide +kernel
theorem d2_18 : decode method_2_code 18 = .ok (.iload_n 1, 1) := by decide +kernel
theorem d2_19 : decode method_2_code 19 = .ok (.bipush 26, 2) := by decide +kernel
theorem d2_21 : decode method_2_code 21 = .ok (.iushr, 1) := by decide +kernel
theorem d2_22 : decode method_2_code 22 = .ok (.ixor, 1) := by decide +kernel
theorem d2_23 : decode method_2_code 23 = .ok (.istore_n 1, 1) := by decide +kernel
theorem d2_24 : decode method_2_code 24 = .ok (.iload_n 1, 1) := by decide +kernel
theorem d2_25 : decode method_2_code 25 = .ok (.ldc 8, 2) := by decide +kernel
theorem d2_27 : decode method_2_code 27 = .ok (.imul, 1) := by decide +kernel
theorem d2_28 : decode method_2_code 28 = .ok (.istore_n 1, 1) := by decide +kernel
theorem d2_29 : decode method_2_code 29 = .ok (.iload_n 1, 1) := by decide +kernel
theorem d2_30 : decode method_2_code 30 = .ok (.iload_n 1, 1) := by decide +kernel
theorem d2_31 : decode method_2_code 31 = .ok (.bipush 16, 2) := by decide +kernel
theorem d2_33 : decode method_2_code 33 = .ok (.iushr, 1) := by decide +kernel
theorem d2_34 : decode method_2_code 34 = .ok (.ixor, 1) := by decide +kernel
theorem d2_35 : decode method_2_code 35 = .ok (.ireturn, 1) := by decide +kernel
theorem own_pn_rm2 : plainName "com/example/design_drills/designdrills/service/listens/IdNumbersSpreadPinLaw" = true := by first | (simp [plainName, overriddenIn]; done) | decide +kernel
theorem own_ef_rm2 (m : MethodId) (p0 : Int32) : entryFrame m #[(.int p0)] 2 = mkF m 0 #[.val (.int p0), .unset] [] := by first | (simp [entryFrame, mkF, argsToLocals, Value.category]; done) | rfl
def Q2 (Z : State) (p0 : Int32) (h0 : Heap) (n0 : Nat) (v : Option Value) (h : Heap) (L : List Loc) : Prop := v = some (.int (unF p0)) ∧ Fr n0 L ∧ h = h0
set_option maxRecDepth 65536 in
set_option maxHeartbeats 40000000 in
theorem rm2 (l : Launch) (Z : State) (a0 : Array Value) (hw : ∀ d ∈ tables_1, d.before a0 Z = true) (ws : List Jvm.Cond) (p0 : Int32) (h0 : Heap) (n0 : Nat) (Z0 : n0 ≤ h0.size) :
    MetFree l (⟨"com/example/design_drills/designdrills/service/listens/IdNumbersSpreadPinLaw", "unspread", "(I)I"⟩ : MethodName) (head1 (Jvm.Cond.code (⟨"com/example/design_drills/designdrills/service/listens/IdNumbersSpreadPinLaw", "unspread", "(I)I"⟩ : MethodName) method_2_code 2 (some .int) :: ws) ({ frames := 0, cells := 0, slots := 0, locals := 0 } : Room)) (fun a U => a = #[(.int p0)] ∧ Z.Warmed39 U.vm ∧ U.heap = h0) (fun _ _ _ _ _ => True) (fun _ U o U' => ∃ v L, o = .returned v ∧ Q2 Z p0 h0 n0 v U'.heap L ∧ FrameEnd U o U' L ({ frames := 0, cells := 0, slots := 0, locals := 0 } : Room).cells ({ frames := 0, cells := 0, slots := 0, locals := 0 } : Room).slots) := by
  refine MetFree.of_bodySF (plainFor_of_name own_pn_rm2) hisR ?_
  intro p e s m args below meth c s₁ Bd hml0 hP hK
  obtain ⟨rfl, hZ, hh⟩ := hP
  have hx := Bd.exec
  have hby := Bd.bytes
  have hml : c.maxLocals = 2 := hml0
  have hown : s.vm.findClass "com/example/design_drills/designdrills/service/listens/IdNumbersSpreadPinLaw" = some m.cls := findClass_of_methodNamed Bd.named
  have hnm := (name_of_methodNamed Bd.named Bd.method).1
  have hlk : meth.locks = false := BodyLoose.notSynchronized Bd
  have X0 : Stand p l e ({ frames := 0, cells := 0, slots := 0, locals := 0 } : Room) s m #[(.int p0)] below meth c s₁ [] 0 0 := Stand.of_body Bd
  have e0 : s₁.heap = h0 := by rw [← hh, Bd.state]; rfl
  have N0 := Fr.nil n0
  refine own_in (own_ef_rm2 m p0) ?_
  show Gm p e below s₁ m 0 #[iv p0, .unset] [] _
  refine own_go (fun t k => XS.iloadN X0.here hx rfl (hb hby d2_0) rfl k) ?_
  show Gm p e below s₁ m 1 #[iv p0, .unset] [(.int p0)] _
  refine own_go (fun t k => XS.iloadN X0.here hx rfl (hb hby d2_1) rfl k) ?_
  show Gm p e below s₁ m 2 #[iv p0, .unset] [(.int p0), (.int p0)] _
  refine own_go (fun t k => XS.bipush X0.here hx rfl (hb hby d2_2) k) ?_
  show Gm p e below s₁ m 4 #[iv p0, .unset] [(.int (16 : Int32)), (.int p0), (.int p0)] _
  refine own_go (fun t k => XS.iushr X0.here hx rfl (hb hby d2_4) rfl k) ?_
  show Gm p e below s₁ m 5 #[iv p0, .unset] [(.int ((p0.toUInt32 >>> ((16 : Int32) &&& 31).toUInt32).toInt32)), (.int p0)] _
  refine own_go (fun t k => XS.ixor X0.here hx rfl (hb hby d2_5) rfl k) ?_
  show Gm p e below s₁ m 6 #[iv p0, .unset] [(.int (p0 ^^^ ((p0.toUInt32 >>> ((16 : Int32) &&& 31).toUInt32).toInt32)))] _
  refine own_go (fun t k => XS.istoreN X0.here hx rfl (hb hby d2_6) rfl (l' := #[iv p0, iv (xs1 16 p0)]) rfl k) ?_
  show Gm p e below s₁ m 7 #[iv p0, iv (xs1 16 p0)] [] _
  refine own_go (fun t k => XS.iloadN X0.here hx rfl (hb hby d2_7) rfl k) ?_
  show Gm p e below s₁ m 8 #[iv p0, iv (xs1 16 p0)] [(.int (xs1 16 p0))] _
  refine own_go (fun t k => X0.ldcI hx hown (mvT hZ (hw _ (List.mem_of_getElem? (i := 10) rfl))) rfl (hb hby d2_8) k) ?_
  show Gm p e below s₁ m 10 #[iv p0, iv (xs1 16 p0)] [(.int (2127672349 : Int32)), (.int (xs1 16 p0))] _
  refine own_go (fun t k => XS.imul X0.here hx rfl (hb hby d2_10) rfl k) ?_
  show Gm p e below s₁ m 11 #[iv p0, iv (xs1 16 p0)] [(.int ((xs1 16 p0) * (2127672349 : Int32)))] _
  refine own_go (fun t k => XS.istoreN X0.here hx rfl (hb hby d2_11) rfl (l' := #[iv p0, iv ((xs1 16 p0) * (2127672349 : Int32))]) rfl k) ?_
  show Gm p e below s₁ m 12 #[iv p0, iv ((xs1 16 p0) * (2127672349 : Int32))] [] _
  refine own_go (fun t k => XS.iloadN X0.here hx rfl (hb hby d2_12) rfl k) ?_
  show Gm p e below s₁ m 13 #[iv p0, iv ((xs1 16 p0) * (2127672349 : Int32))] [(.int ((xs1 16 p0) * (2127672349 : Int32)))] _
  refine own_go (fun t k => XS.iloadN X0.here hx rfl (hb hby d2_13) rfl k) ?_
  show Gm p e below s₁ m 14 #[iv p0, iv ((xs1 16 p0) * (2127672349 : Int32))] [(.int ((xs1 16 p0) * (2127672349 : Int32))), (.int ((xs1 16 p0) * (2127672349 : Int32)))] _
  refine own_go (fun t k => XS.bipush X0.here hx rfl (hb hby d2_14) k) ?_
  show Gm p e below s₁ m 16 #[iv p0, iv ((xs1 16 p0) * (2127672349 : Int32))] [(.int (13 : Int32)), (.int ((xs1 16 p0) * (2127672349 : Int32))), (.int ((xs1 16 p0) * (2127672349 : Int32)))] _
  refine own_go (fun t k => XS.iushr X0.here hx rfl (hb hby d2_16) rfl k) ?_
  show Gm p e below s₁ m 17 #[iv p0, iv ((xs1 16 p0) * (2127672349 : Int32))] [(.int ((((xs1 16 p0) * (2127672349 : Int32)).toUInt32 >>> ((13 : Int32) &&& 31).toUInt32).toInt32)), (.int ((xs1 16 p0) * (2127672349 : Int32)))] _
  refine own_go (fun t k => XS.ixor X0.here hx rfl (hb hby d2_17) rfl k) ?_
  show Gm p e below s₁ m 18 #[iv p0, iv ((xs1 16 p0) * (2127672349 : Int32))] [(.int (((xs1 16 p0) * (2127672349 : Int32)) ^^^ ((((xs1 16 p0) * (2127672349 : Int32)).toUInt32 >>> ((13 : Int32) &&& 31).toUInt32).toInt32)))] _
  refine own_go (fun t k => XS.iloadN X0.here hx rfl (hb hby d2_18) rfl k) ?_
  show Gm p e below s₁ m 19 #[iv p0, iv ((xs1 16 p0) * (2127672349 : Int32))] [(.int ((xs1 16 p0) * (2127672349 : Int32))), (.int (((xs1 16 p0) * (2127672349 : Int32)) ^^^ ((((xs1 16 p0) * (2127672349 : Int32)).toUInt32 >>> ((13 : Int32) &&& 31).toUInt32).toInt32)))] _
  refine own_go (fun t k => XS.bipush X0.here hx rfl (hb hby d2_19) k) ?_
  show Gm p e below s₁ m 21 #[iv p0, iv ((xs1 16 p0) * (2127672349 : Int32))] [(.int (26 : Int32)), (.int ((xs1 16 p0) * (2127672349 : Int32))), (.int (((xs1 16 p0) * (2127672349 : Int32)) ^^^ ((((xs1 16 p0) * (2127672349 : Int32)).toUInt32 >>> ((13 : Int32) &&& 31).toUInt32).toInt32)))] _
  refine own_go (fun t k => XS.iushr X0.here hx rfl (hb hby d2_21) rfl k) ?_
  show Gm p e below s₁ m 22 #[iv p0, iv ((xs1 16 p0) * (2127672349 : Int32))] [(.int ((((xs1 16 p0) * (2127672349 : Int32)).toUInt32 >>> ((26 : Int32) &&& 31).toUInt32).toInt32)), (.int (((xs1 16 p0) * (2127672349 : Int32)) ^^^ ((((xs1 16 p0) * (2127672349 : Int32)).toUInt32 >>> ((13 : Int32) &&& 31).toUInt32).toInt32)))] _
  refine own_go (fun t k => XS.ixor X0.here hx rfl (hb hby d2_22) rfl k) ?_
  show Gm p e below s₁ m 23 #[iv p0, iv ((xs1 16 p0) * (2127672349 : Int32))] [(.int ((((xs1 16 p0) * (2127672349 : Int32)) ^^^ ((((xs1 16 p0) * (2127672349 : Int32)).toUInt32 >>> ((13 : Int32) &&& 31).toUInt32).toInt32)) ^^^ ((((xs1 16 p0) * (2127672349 : Int32)).toUInt32 >>> ((26 : Int32) &&& 31).toUInt32).toInt32)))] _
  refine own_go (fun t k => XS.istoreN X0.here hx rfl (hb hby d2_23) rfl (l' := #[iv p0, iv (xs2 13 26 ((xs1 16 p0) * (2127672349 : Int32)))]) rfl k) ?_
  show Gm p e below s₁ m 24 #[iv p0, iv (xs2 13 26 ((xs1 16 p0) * (2127672349 : Int32)))] [] _
  refine own_go (fun t k => XS.iloadN X0.here hx rfl (hb hby d2_24) rfl k) ?_
  show Gm p e below s₁ m 25 #[iv p0, iv (xs2 13 26 ((xs1 16 p0) * (2127672349 : Int32)))] [(.int (xs2 13 26 ((xs1 16 p0) * (2127672349 : Int32))))] _
  refine own_go (fun t k => X0.ldcI hx hown (mvT hZ (hw _ (List.mem_of_getElem? (i := 11) rfl))) rfl (hb hby d2_25) k) ?_
  show Gm p e below s₁ m 27 #[iv p0, iv (xs2 13 26 ((xs1 16 p0) * (2127672349 : Int32)))] [(.int (-1513385405 : Int32)), (.int (xs2 13 26 ((xs1 16 p0) * (2127672349 : Int32))))] _
  refine own_go (fun t k => XS.imul X0.here hx rfl (hb hby d2_27) rfl k) ?_
  show Gm p e below s₁ m 28 #[iv p0, iv (xs2 13 26 ((xs1 16 p0) * (2127672349 : Int32)))] [(.int ((xs2 13 26 ((xs1 16 p0) * (2127672349 : Int32))) * (-1513385405 : Int32)))] _
  refine own_go (fun t k => XS.istoreN X0.here hx rfl (hb hby d2_28) rfl (l' := #[iv p0, iv ((xs2 13 26 ((xs1 16 p0) * (2127672349 : Int32))) * (-1513385405 : Int32))]) rfl k) ?_
  show Gm p e below s₁ m 29 #[iv p0, iv ((xs2 13 26 ((xs1 16 p0) * (2127672349 : Int32))) * (-1513385405 : Int32))] [] _
  refine own_go (fun t k => XS.iloadN X0.here hx rfl (hb hby d2_29) rfl k) ?_
  show Gm p e below s₁ m 30 #[iv p0, iv ((xs2 13 26 ((xs1 16 p0) * (2127672349 : Int32))) * (-1513385405 : Int32))] [(.int ((xs2 13 26 ((xs1 16 p0) * (2127672349 : Int32))) * (-1513385405 : Int32)))] _
  refine own_go (fun t k => XS.iloadN X0.here hx rfl (hb hby d2_30) rfl k) ?_
  show Gm p e below s₁ m 31 #[iv p0, iv ((xs2 13 26 ((xs1 16 p0) * (2127672349 : Int32))) * (-1513385405 : Int32))] [(.int ((xs2 13 26 ((xs1 16 p0) * (2127672349 : Int32))) * (-1513385405 : Int32))), (.int ((xs2 13 26 ((xs1 16 p0) * (2127672349 : Int32))) * (-1513385405 : Int32)))] _
  refine own_go (fun t k => XS.bipush X0.here hx rfl (hb hby d2_31) k) ?_
  show Gm p e below s₁ m 33 #[iv p0, iv ((xs2 13 26 ((xs1 16 p0) * (2127672349 : Int32))) * (-1513385405 : Int32))] [(.int (16 : Int32)), (.int ((xs2 13 26 ((xs1 16 p0) * (2127672349 : Int32))) * (-1513385405 : Int32))), (.int ((xs2 13 26 ((xs1 16 p0) * (2127672349 : Int32))) * (-1513385405 : Int32)))] _
  refine own_go (fun t k => XS.iushr X0.here hx rfl (hb hby d2_33) rfl k) ?_
  show Gm p e below s₁ m 34 #[iv p0, iv ((xs2 13 26 ((xs1 16 p0) * (2127672349 : Int32))) * (-1513385405 : Int32))] [(.int ((((xs2 13 26 ((xs1 16 p0) * (2127672349 : Int32))) * (-1513385405 : Int32)).toUInt32 >>> ((16 : Int32) &&& 31).toUInt32).toInt32)), (.int ((xs2 13 26 ((xs1 16 p0) * (2127672349 : Int32))) * (-1513385405 : Int32)))] _
  refine own_go (fun t k => XS.ixor X0.here hx rfl (hb hby d2_34) rfl k) ?_
  show Gm p e below s₁ m 35 #[iv p0, iv ((xs2 13 26 ((xs1 16 p0) * (2127672349 : Int32))) * (-1513385405 : Int32))] [(.int (((xs2 13 26 ((xs1 16 p0) * (2127672349 : Int32))) * (-1513385405 : Int32)) ^^^ ((((xs2 13 26 ((xs1 16 p0) * (2127672349 : Int32))) * (-1513385405 : Int32)).toUInt32 >>> ((16 : Int32) &&& 31).toUInt32).toInt32)))] _
  exact own_retI X0 hx hlk (t := .int) Bd.returns rfl (by simp) (hb hby d2_35) e0 ⟨rfl, N0, rfl⟩ (by decide) (by decide)
theorem own_pd0 : parseMethodDescriptor "(I)I" = some ⟨[.int], some .int⟩ := by decide +kernel
theorem own_pn_rm0 : plainName "com/example/design_drills/designdrills/service/listens/IdNumbersSpreadPinLaw" = true := by first | (simp [plainName, overriddenIn]; done) | decide +kernel
theorem own_ef_rm0 (m : MethodId) (p0 : Int32) (p1 : Int32) : entryFrame m #[(.int p0), (.int p1)] maxLocals = mkF m 0 #[.val (.int p0), .val (.int p1), .unset, .unset] [] := by first | (simp [entryFrame, mkF, argsToLocals, Value.category, maxLocals]; done) | rfl
def Q0 (Z : State) (p0 : Int32) (p1 : Int32) (h0 : Heap) (n0 : Nat) (v : Option Value) (h : Heap) (L : List Loc) : Prop := v = some (.int 1) ∧ Fr n0 L
set_option maxRecDepth 65536 in
set_option maxHeartbeats 40000000 in
theorem rm0 (l : Launch) (Z : State) (a0 : Array Value) (hw : ∀ d ∈ tables_1, d.before a0 Z = true) (ws : List Jvm.Cond) (p0 : Int32) (p1 : Int32) (h0 : Heap) (n0 : Nat) (Z0 : n0 ≤ h0.size) :
    MetFree l x (head1 (Jvm.Cond.code x code maxLocals ret :: ws) room_1) (fun a U => a = #[(.int p0), (.int p1)] ∧ Z.Warmed39 U.vm ∧ U.heap = h0) (fun _ _ _ _ _ => True) (fun _ U o U' => ∃ v L, o = .returned v ∧ Q0 Z p0 p1 h0 n0 v U'.heap L ∧ FrameEnd U o U' L room_1.cells room_1.slots) := by
  refine MetFree.of_bodySF (plainFor_of_name own_pn_rm0) hisR ?_
  intro p e s m args below meth c s₁ Bd hml0 hP hK
  obtain ⟨rfl, hZ, hh⟩ := hP
  have hx := Bd.exec
  have hby := Bd.bytes
  have hml : c.maxLocals = 4 := hml0
  have hown : s.vm.findClass "com/example/design_drills/designdrills/service/listens/IdNumbersSpreadPinLaw" = some m.cls := findClass_of_methodNamed Bd.named
  have hnm := (name_of_methodNamed Bd.named Bd.method).1
  have hlk : meth.locks = false := BodyLoose.notSynchronized Bd
  have X0 : Stand p l e room_1 s m #[(.int p0), (.int p1)] below meth c s₁ [] 0 0 := Stand.of_body Bd
  have e0 : s₁.heap = h0 := by rw [← hh, Bd.state]; rfl
  have N0 := Fr.nil n0
  refine own_in (own_ef_rm0 m p0 p1) ?_
  show Gm p e below s₁ m 0 #[iv p0, iv p1, .unset, .unset] [] _
  refine own_go (fun t k => XS.iloadN X0.here hx rfl (hb hby at_0) rfl k) ?_
  show Gm p e below s₁ m 1 #[iv p0, iv p1, .unset, .unset] [(.int p0)] _
  obtain ⟨_, _, ⟨T1, L1, k1, n1⟩, -, X1, ⟨Lc1, hQ1, l1, y1, z1⟩, st1⟩ := Jvm.LawKit.callS X0 hx (y := (⟨"com/example/design_drills/designdrills/service/listens/IdNumbers", "spread", "(I)I"⟩ : MethodName)) hown (mvT hZ (hw _ (List.mem_of_getElem? (i := 0) rfl))) (mvT hZ (hw _ (List.mem_of_getElem? (i := 1) rfl))) (mvT hZ (hw _ (List.mem_of_getElem? (i := 2) rfl))) (mvT hZ (hw _ (List.mem_of_getElem? (i := 3) rfl))) (by decide) (backOf (W := 0) (rm1 l Z a0 hw [] p0  h0 n0 Z0 ) hZ (hw _ (List.mem_of_getElem? (i := 3) rfl)) (hw _ (List.mem_of_getElem? (i := 2) rfl)) (by decide) (by decide)) (g := (mkF m 1 #[iv p0, iv p1, .unset, .unset] [(.int p0)])) rfl (by rw [hml]; rfl) (argsL := [(.int p0)]) (rest := []) (lenOf own_pd0 rfl) rfl (by show 2 * 0 + _ ≤ _; exact Nat.le_of_eq rfl) (hb hby at_1) (fun _ _ => ⟨rfl, e0, (by decide : 0 + 0 ≤ _), (by decide : 0 + 0 ≤ _)⟩)
  dsimp only [Pt.U, Pt.locs, Pt.cells, Pt.slots] at X1 l1 y1 z1 st1 hQ1
  subst l1 y1 z1
  obtain ⟨rfl, Nq1, eq1⟩ := hQ1
  have N1 := Fr.app N0 Nq1
  have e1 : T1.heap = h0 := eq1
  refine own_go st1 ?_
  show Gm p e below T1 m 4 #[iv p0, iv p1, .unset, .unset] [(.int (spF p0))] _
  obtain ⟨_, _, ⟨T2, L2, k2, n2⟩, -, X2, ⟨Lc2, hQ2, l2, y2, z2⟩, st2⟩ := Jvm.LawKit.callS X1 hx (y := (⟨"com/example/design_drills/designdrills/service/listens/IdNumbersSpreadPinLaw", "unspread", "(I)I"⟩ : MethodName)) hown (mvT hZ (hw _ (List.mem_of_getElem? (i := 6) rfl))) (mvT hZ (hw _ (List.mem_of_getElem? (i := 7) rfl))) (mvT hZ (hw _ (List.mem_of_getElem? (i := 8) rfl))) (mvT hZ (hw _ (List.mem_of_getElem? (i := 9) rfl))) (by decide) (backOf (W := 0) (rm2 l Z a0 hw [] (spF p0)  h0 n0 Z0 ) hZ (hw _ (List.mem_of_getElem? (i := 9) rfl)) (hw _ (List.mem_of_getElem? (i := 8) rfl)) (by decide) (by decide)) (g := (mkF m 4 #[iv p0, iv p1, .unset, .unset] [(.int (spF p0))])) rfl (by rw [hml]; rfl) (argsL := [(.int (spF p0))]) (rest := []) (lenOf own_pd0 rfl) rfl (by show 2 * 0 + _ ≤ _; exact Nat.le_of_eq rfl) (hb hby at_4) (fun _ _ => ⟨rfl, e1, (by decide : 0 + 0 ≤ _), (by decide : 0 + 0 ≤ _)⟩)
  dsimp only [Pt.U, Pt.locs, Pt.cells, Pt.slots] at X2 l2 y2 z2 st2 hQ2
  subst l2 y2 z2
  obtain ⟨rfl, Nq2, eq2⟩ := hQ2
  have N2 := Fr.app N1 Nq2
  have e2 : T2.heap = h0 := eq2
  refine own_go st2 ?_
  show Gm p e below T2 m 7 #[iv p0, iv p1, .unset, .unset] [(.int (unF (spF p0)))] _
  refine own_go (fun t k => XS.iloadN X2.here hx rfl (hb hby at_7) rfl k) ?_
  show Gm p e below T2 m 8 #[iv p0, iv p1, .unset, .unset] [(.int p0), (.int (unF (spF p0)))] _
  refine own_go (fun t k => XS.icmpNo X2.here hx rfl (hb hby at_8) rfl (XT.ii_ne_f (own_back _)) k) ?_
  show Gm p e below T2 m 11 #[iv p0, iv p1, .unset, .unset] [] _
  refine own_go (fun t k => XS.iconst X2.here hx rfl (hb hby at_11) k) ?_
  show Gm p e below T2 m 12 #[iv p0, iv p1, .unset, .unset] [(.int (1 : Int32))] _
  refine own_go (fun t k => XS.goto X2.here hx rfl (pc0 := 12) (pc' := 16) rfl (hb hby at_12) (by decide) (by decide) k) ?_
  show Gm p e below T2 m 16 #[iv p0, iv p1, .unset, .unset] [(.int (1 : Int32))] _
  refine own_go (fun t k => XS.istoreN X2.here hx rfl (hb hby at_16) rfl (l' := #[iv p0, iv p1, iv (1 : Int32), .unset]) rfl k) ?_
  show Gm p e below T2 m 17 #[iv p0, iv p1, iv (1 : Int32), .unset] [] _
  refine own_go (fun t k => XS.iloadN X2.here hx rfl (hb hby at_17) rfl k) ?_
  show Gm p e below T2 m 18 #[iv p0, iv p1, iv (1 : Int32), .unset] [(.int p1)] _
  obtain ⟨_, _, ⟨T3, L3, k3, n3⟩, -, X3, ⟨Lc3, hQ3, l3, y3, z3⟩, st3⟩ := Jvm.LawKit.callS X2 hx (y := (⟨"com/example/design_drills/designdrills/service/listens/IdNumbersSpreadPinLaw", "unspread", "(I)I"⟩ : MethodName)) hown (mvT hZ (hw _ (List.mem_of_getElem? (i := 6) rfl))) (mvT hZ (hw _ (List.mem_of_getElem? (i := 7) rfl))) (mvT hZ (hw _ (List.mem_of_getElem? (i := 8) rfl))) (mvT hZ (hw _ (List.mem_of_getElem? (i := 9) rfl))) (by decide) (backOf (W := 0) (rm2 l Z a0 hw [] p1  h0 n0 Z0 ) hZ (hw _ (List.mem_of_getElem? (i := 9) rfl)) (hw _ (List.mem_of_getElem? (i := 8) rfl)) (by decide) (by decide)) (g := (mkF m 18 #[iv p0, iv p1, iv (1 : Int32), .unset] [(.int p1)])) rfl (by rw [hml]; rfl) (argsL := [(.int p1)]) (rest := []) (lenOf own_pd0 rfl) rfl (by show 2 * 0 + _ ≤ _; exact Nat.le_of_eq rfl) (hb hby at_18) (fun _ _ => ⟨rfl, e2, (by decide : 0 + 0 ≤ _), (by decide : 0 + 0 ≤ _)⟩)
  dsimp only [Pt.U, Pt.locs, Pt.cells, Pt.slots] at X3 l3 y3 z3 st3 hQ3
  subst l3 y3 z3
  obtain ⟨rfl, Nq3, eq3⟩ := hQ3
  have N3 := Fr.app N2 Nq3
  have e3 : T3.heap = h0 := eq3
  refine own_go st3 ?_
  show Gm p e below T3 m 21 #[iv p0, iv p1, iv (1 : Int32), .unset] [(.int (unF p1))] _
  obtain ⟨_, _, ⟨T4, L4, k4, n4⟩, -, X4, ⟨Lc4, hQ4, l4, y4, z4⟩, st4⟩ := Jvm.LawKit.callS X3 hx (y := (⟨"com/example/design_drills/designdrills/service/listens/IdNumbers", "spread", "(I)I"⟩ : MethodName)) hown (mvT hZ (hw _ (List.mem_of_getElem? (i := 0) rfl))) (mvT hZ (hw _ (List.mem_of_getElem? (i := 1) rfl))) (mvT hZ (hw _ (List.mem_of_getElem? (i := 2) rfl))) (mvT hZ (hw _ (List.mem_of_getElem? (i := 3) rfl))) (by decide) (backOf (W := 0) (rm1 l Z a0 hw [] (unF p1)  h0 n0 Z0 ) hZ (hw _ (List.mem_of_getElem? (i := 3) rfl)) (hw _ (List.mem_of_getElem? (i := 2) rfl)) (by decide) (by decide)) (g := (mkF m 21 #[iv p0, iv p1, iv (1 : Int32), .unset] [(.int (unF p1))])) rfl (by rw [hml]; rfl) (argsL := [(.int (unF p1))]) (rest := []) (lenOf own_pd0 rfl) rfl (by show 2 * 0 + _ ≤ _; exact Nat.le_of_eq rfl) (hb hby at_21) (fun _ _ => ⟨rfl, e3, (by decide : 0 + 0 ≤ _), (by decide : 0 + 0 ≤ _)⟩)
  dsimp only [Pt.U, Pt.locs, Pt.cells, Pt.slots] at X4 l4 y4 z4 st4 hQ4
  subst l4 y4 z4
  obtain ⟨rfl, Nq4, eq4⟩ := hQ4
  have N4 := Fr.app N3 Nq4
  have e4 : T4.heap = h0 := eq4
  refine own_go st4 ?_
  show Gm p e below T4 m 24 #[iv p0, iv p1, iv (1 : Int32), .unset] [(.int (spF (unF p1)))] _
  refine own_go (fun t k => XS.iloadN X4.here hx rfl (hb hby at_24) rfl k) ?_
  show Gm p e below T4 m 25 #[iv p0, iv p1, iv (1 : Int32), .unset] [(.int p1), (.int (spF (unF p1)))] _
  refine own_go (fun t k => XS.icmpNo X4.here hx rfl (hb hby at_25) rfl (XT.ii_ne_f (own_forth _)) k) ?_
  show Gm p e below T4 m 28 #[iv p0, iv p1, iv (1 : Int32), .unset] [] _
  refine own_go (fun t k => XS.iconst X4.here hx rfl (hb hby at_28) k) ?_
  show Gm p e below T4 m 29 #[iv p0, iv p1, iv (1 : Int32), .unset] [(.int (1 : Int32))] _
  refine own_go (fun t k => XS.goto X4.here hx rfl (pc0 := 29) (pc' := 33) rfl (hb hby at_29) (by decide) (by decide) k) ?_
  show Gm p e below T4 m 33 #[iv p0, iv p1, iv (1 : Int32), .unset] [(.int (1 : Int32))] _
  refine own_go (fun t k => XS.istoreN X4.here hx rfl (hb hby at_33) rfl (l' := #[iv p0, iv p1, iv (1 : Int32), iv (1 : Int32)]) rfl k) ?_
  show Gm p e below T4 m 34 #[iv p0, iv p1, iv (1 : Int32), iv (1 : Int32)] [] _
  refine own_go (fun t k => XS.iloadN X4.here hx rfl (hb hby at_34) rfl k) ?_
  show Gm p e below T4 m 35 #[iv p0, iv p1, iv (1 : Int32), iv (1 : Int32)] [(.int (1 : Int32))] _
  refine own_go (fun t k => XS.ifNo X4.here hx rfl (hb hby at_35) rfl (XT.i0_eq_f (by decide)) k) ?_
  show Gm p e below T4 m 38 #[iv p0, iv p1, iv (1 : Int32), iv (1 : Int32)] [] _
  refine own_go (fun t k => XS.iloadN X4.here hx rfl (hb hby at_38) rfl k) ?_
  show Gm p e below T4 m 39 #[iv p0, iv p1, iv (1 : Int32), iv (1 : Int32)] [(.int (1 : Int32))] _
  refine own_go (fun t k => XS.ifNo X4.here hx rfl (hb hby at_39) rfl (XT.i0_eq_f (by decide)) k) ?_
  show Gm p e below T4 m 42 #[iv p0, iv p1, iv (1 : Int32), iv (1 : Int32)] [] _
  refine own_go (fun t k => XS.iconst X4.here hx rfl (hb hby at_42) k) ?_
  show Gm p e below T4 m 43 #[iv p0, iv p1, iv (1 : Int32), iv (1 : Int32)] [(.int (1 : Int32))] _
  refine own_go (fun t k => XS.goto X4.here hx rfl (pc0 := 43) (pc' := 47) rfl (hb hby at_43) (by decide) (by decide) k) ?_
  show Gm p e below T4 m 47 #[iv p0, iv p1, iv (1 : Int32), iv (1 : Int32)] [(.int (1 : Int32))] _
  exact own_retI X4 hx hlk (t := .boolean) Bd.returns rfl (by simp) (hb hby at_47) e4 ⟨rfl, N4⟩ (by decide) (by decide)
set_option maxRecDepth 65536 in
set_option maxHeartbeats 40000000 in
theorem comes_1 {Post : Tables → Env → Array Value → State → Outcome → State → Prop} (hpost : ∀ tb e args s v u, (limb_1_1.after args s (.returned v) u = true ∧ limb_1_2.after args s (.returned v) u = true ∧ True) → FrameEnd s (.returned v) u (Jvm.fieldLocs frame_1_writes args s ++ Jvm.arrayLocs frame_1_arrays args s ++ Jvm.staticLocs frame_1_statics s) 0 0 → Post tb e args s (.returned v) u) :
    ArmFor flags0 classFile x code maxLocals ret World_1 tables_1 room_1 Calls_1 rest_1 Pre_1 Post := by
  intro l hfl _ _ p e ha hc hk s m args below hf hA hF happ hP
  obtain ⟨hcalls, hrest, hpre⟩ := hP
  obtain ⟨-, -, -, hnamed, -, -, -, hat⟩ := (Spec.applies_iff hf).mp happ
  obtain ⟨hg, hn⟩ := and_e (Cond.before_iff.mp (show (Jvm.Cond.and given_1 narrow_1).before args s = true from hpre))
  obtain ⟨g1, g2⟩ := and_e hg
  obtain ⟨g3, g4⟩ := and_e g2
  obtain ⟨w0, w1, rfl⟩ : ∃ w0 w1 : Value, args = #[w0, w1] := by
    have hs : args.size = 2 := by simpa [Cond.value, given_1] using g1
    obtain ⟨L⟩ := args
    match L, hs with
    | [w0, w1], _ => exact ⟨w0, w1, rfl⟩
  have hw := fun d (hd : d ∈ tables_1) => atoms_spec (ws := Jvm.Cond.code x code maxLocals ret :: tables_1) hat d (List.mem_cons_of_mem _ hd)
  have hfit : Fit s := fun {y c} hc i hi => by
    obtain ⟨ha, rfl⟩ := Array.getElem?_eq_some_iff.mp hc
    have q := List.all_eq_true.mp ((Array.all_eq_true_iff_forall_mem.mp hF) _ (Array.getElem_mem ha)) i (List.mem_range.mpr hi)
    simpa [Array.getElem?_eq_getElem hi] using q
  obtain ⟨i0, ei0⟩ := is_v g3
  obtain rfl : w0 = (.int i0) := Option.some.inj ei0
  obtain ⟨i1, ei1⟩ := is_v g4
  obtain rfl : w1 = (.int i1) := Option.some.inj ei1
  obtain ⟨n, o, h1, h2, h3, _, L, rfl, ⟨rfl, N⟩, hq⟩ := rm0 l s _ hw tables_1 i0 i1  s.heap s.heap.size (Nat.le_refl _)  p e ha hc hk s m _ below hf ((Spec.applies_iff_loose hf).mp happ).1 ⟨rfl, State.Warmed39.refl s, rfl⟩ trivial
  refine ⟨n, _, h1, h2, h3, hpost _ _ _ _ _ _ ⟨Cond.after_iff.mpr rfl, Cond.after_iff.mpr (eq_i res_at (Term.int_eval (1)) rfl), trivial⟩ ⟨hq.1, hq.2.1, (hq.2.2.sift fun y hy => Or.inr (N y hy)).mono (by decide) (by decide)⟩⟩
theorem main_1_1 : Claimed_1_1 := comes_1 fun _ _ _ _ _ _ h hF => ⟨h.1, hF⟩
theorem main_1_2 : Claimed_1_2 := comes_1 fun _ _ _ _ _ _ h hF => ⟨h.2.1, hF⟩
end Jvm.Pilot.@@N@@
namespace Jvm.Pilot.@@N@@
open Jvm Jvm.ClassFile Sem Op Lib Jvm.Free Jvm.Stand Jvm.Pilot.@@N@@.Jvm.D
/-! MADE BY PROGRAM (witnessworld.py) out of the Statement's table words and the real class files: 7 classes; the members and pool entries that the words name. The judged class is class 1, her method 2. -/
namespace start1
open Jvm.ClassFile
def u (s : String) : CpInfo := .utf8 (stringToUtf16 s)
/-- a pool by its gaps: so many unusable entries, then the entry; so many at the end -/
def gap : Nat → List CpInfo → List CpInfo
  | 0, r => r
  | n + 1, r => .unusable :: gap n r
def poolList (es : List (Nat × CpInfo)) (last : Nat) : List CpInfo := es.foldr (fun e r => gap e.1 (e.2 :: r)) (gap last [])
def pool (es : List (Nat × CpInfo)) (last : Nat) : Array CpInfo := ⟨poolList es last⟩
def fileOf (pool : Array CpInfo) (this : Nat) (attrs : Array Attribute := #[]) (ms : Array MethodInfo := #[]) (fl : Nat := 33) (sup : Nat := 0) (ifs : Array Nat := #[]) (fds : Array FieldInfo := #[]) : ClassFile where
  minorVersion := 0
  majorVersion := 65
  constantPool := pool
  accessFlags := fl
  thisClass := this
  superClass := sup
  interfaces := ifs
  fields := fds
  methods := ms
  attributes := attrs
def plain (name : String) (sup : Option ClassId) : Class where
  name := name
  kind := .ordinary
  loader := none
  accessFlags := 33
  super := sup
  interfaces := #[]
  cf := none
  fields := #[]
  methods := #[]
  instanceTypes := #[]
  staticTypes := #[]
  resolved := #[]
  callSites := []
  init := .initialized
  statics := none
  mirror := none

def pool0 : Array CpInfo := pool [(5, u "<init>"), (0, u "()V"), (1, .class_ 10), (1, u "java/lang/Object")] 113

def k0m0 : Method := { name := "<init>", desc := "()V", sig := { parameters := [], returnType := none }, accessFlags := 1, code := none }
/-- java/lang/Object -/
def k0 : Class := { plain "java/lang/Object" none with
  accessFlags := 33
  interfaces := #[]
  cf := some (fileOf pool0 8 #[] #[{ accessFlags := 1, nameIndex := 5, descriptorIndex := 6, attributes := #[] }] 33 0 #[] #[])
  fields := #[]
  methods := #[k0m0]
  instanceTypes := #[]
  staticTypes := #[]
  resolved := Array.replicate 124 none
  statics := none }

def pool1 : Array CpInfo := pool [(2, .class_ 4), (1, u "java/lang/Object"), (0, u "<init>"), (0, u "()V"), (0, .integer 2127672349), (0, .integer 2781581891), (0, .methodref 10 11), (0, .class_ 12), (0, .nameAndType 13 14), (0, u "com/example/design_drills/designdrills/service/listens/IdNumbers"), (0, u "spread"), (0, u "(I)I"), (0, .methodref 16 17), (0, .class_ 18), (0, .nameAndType 19 14), (0, u "com/example/design_drills/designdrills/service/listens/IdNumbersSpreadPinLaw"), (0, u "unspread"), (2, u "law"), (0, u "(II)Z")] 3

def k1m0 : Method := { name := "<init>", desc := "()V", sig := { parameters := [], returnType := none }, accessFlags := 2, code := none }
def k1c1 : Code := { maxStack := 3, maxLocals := 2, code := method_2_code, exceptionTable := #[], attributes := #[] }
def k1m1 : Method := { name := "unspread", desc := "(I)I", sig := { parameters := [.int], returnType := some .int }, accessFlags := 10, code := some k1c1 }
def k1c2 : Code := { maxStack := 2, maxLocals := 4, code := code, exceptionTable := #[], attributes := #[] }
def k1m2 : Method := { name := "law", desc := "(II)Z", sig := { parameters := [.int, .int], returnType := some .boolean }, accessFlags := 9, code := some k1c2 }
/-- com/example/design_drills/designdrills/service/listens/IdNumbersSpreadPinLaw -/
def k1 : Class := { plain "com/example/design_drills/designdrills/service/listens/IdNumbersSpreadPinLaw" (some 0) with
  accessFlags := 49
  interfaces := #[]
  cf := some (fileOf pool1 16 #[] #[{ accessFlags := 2, nameIndex := 5, descriptorIndex := 6, attributes := #[] }, { accessFlags := 10, nameIndex := 19, descriptorIndex := 14, attributes := #[] }, { accessFlags := 9, nameIndex := 22, descriptorIndex := 23, attributes := #[] }] 49 2 #[] #[])
  fields := #[]
  methods := #[k1m0, k1m1, k1m2]
  instanceTypes := #[]
  staticTypes := #[]
  resolved := Array.replicate 27 none
  statics := none }

def pool2 : Array CpInfo := pool [(4, .class_ 6), (1, u "java/lang/Object"), (0, u "<init>"), (0, u "()V"), (1, .class_ 12), (1, u "com/example/design_drills/designdrills/service/listens/IdNumbers"), (0, u "bytes"), (0, u "[B"), (2, u "starts"), (0, u "[I"), (2, u "slots"), (2, u "size"), (0, u "I"), (17, u "used"), (3, u "(I)I"), (44, u "spread"), (29, .integer 2246822507), (0, .integer 3266489909), (4, u "MAX_BYTES")] 16

def k2m0 : Method := { name := "<init>", desc := "()V", sig := { parameters := [], returnType := none }, accessFlags := 0, code := none }
def k2c1 : Code := { maxStack := 3, maxLocals := 2, code := prog_65_method_16_code, exceptionTable := #[], attributes := #[] }
def k2m1 : Method := { name := "spread", desc := "(I)I", sig := { parameters := [.int], returnType := some .int }, accessFlags := 8, code := some k2c1 }
/-- com/example/design_drills/designdrills/service/listens/IdNumbers -/
def k2 : Class := { plain "com/example/design_drills/designdrills/service/listens/IdNumbers" (some 0) with
  accessFlags := 48
  interfaces := #[]
  cf := some (fileOf pool2 10 #[] #[{ accessFlags := 0, nameIndex := 7, descriptorIndex := 8, attributes := #[] }, { accessFlags := 8, nameIndex := 92, descriptorIndex := 47, attributes := #[] }] 48 4 #[] #[{ accessFlags := 26, nameIndex := 128, descriptorIndex := 25, attributes := #[] }, { accessFlags := 2, nameIndex := 13, descriptorIndex := 14, attributes := #[] }, { accessFlags := 2, nameIndex := 43, descriptorIndex := 25, attributes := #[] }, { accessFlags := 2, nameIndex := 17, descriptorIndex := 18, attributes := #[] }, { accessFlags := 2, nameIndex := 24, descriptorIndex := 25, attributes := #[] }, { accessFlags := 2, nameIndex := 21, descriptorIndex := 18, attributes := #[] }])
  fields := #[{ name := "MAX_BYTES", type := .int, accessFlags := 26, slot := 0, constantValue := 0 }, { name := "bytes", type := (.array .byte), accessFlags := 2, slot := 0, constantValue := 0 }, { name := "used", type := .int, accessFlags := 2, slot := 1, constantValue := 0 }, { name := "starts", type := (.array .int), accessFlags := 2, slot := 2, constantValue := 0 }, { name := "size", type := .int, accessFlags := 2, slot := 3, constantValue := 0 }, { name := "slots", type := (.array .int), accessFlags := 2, slot := 4, constantValue := 0 }]
  methods := #[k2m0, k2m1]
  instanceTypes := #[(.array .byte), .int, (.array .int), .int, (.array .int)]
  staticTypes := #[.int]
  resolved := Array.replicate 145 none
  statics := none }

def pool3 : Array CpInfo := pool [(1, u "java/lang/Cloneable"), (0, .class_ 1), (0, u "java/lang/Object"), (0, .class_ 3)] 3

/-- java/lang/Cloneable -/
def k3 : Class := { plain "java/lang/Cloneable" (some 0) with
  accessFlags := 1537
  interfaces := #[]
  cf := some (fileOf pool3 2 #[] #[] 1537 4 #[] #[])
  fields := #[]
  methods := #[]
  instanceTypes := #[]
  staticTypes := #[]
  resolved := Array.replicate 8 none
  statics := none }

def pool4 : Array CpInfo := pool [(1, u "java/io/Serializable"), (0, .class_ 1), (0, u "java/lang/Object"), (0, .class_ 3)] 3

/-- java/io/Serializable -/
def k4 : Class := { plain "java/io/Serializable" (some 0) with
  accessFlags := 1537
  interfaces := #[]
  cf := some (fileOf pool4 2 #[] #[] 1537 4 #[] #[])
  fields := #[]
  methods := #[]
  instanceTypes := #[]
  staticTypes := #[]
  resolved := Array.replicate 8 none
  statics := none }

/-- the primitive byte -/
def k5 : Class := { plain "byte" none with kind := .primitive 'B', accessFlags := 0x411 }
/-- [B -/
def k6 : Class := { plain "[B" (some 0) with kind := .array 5 .byte, interfaces := #[3, 4], accessFlags := 1041 }

def heap : Heap := #[]
def classes : Array Class := #[k0, k1, k2, k3, k4, k5, k6]
def interned : List (Array UInt16 × Addr) := []
def slotsUsed : Nat := 0
def theMethod : MethodId := ⟨1, 2⟩
def args0 : Array Value := #[.int 5, .int 7]
def aboutOver (below : List Frame) : State where
  vm := { classes := classes, interned := interned.toArray }
  heap := heap
  slotsUsed := slotsUsed
  threads := #[{ frames := .invoking theMethod args0 :: below }]
def below0 : List Frame := [.native { method := ⟨0, 0⟩, args := #[] }]
def about1 : State := aboutOver below0
def p0 : Program := .bare "" "" ""
def e0 : Env := launch0.env 0 0 0
theorem w_frames : about1.frames = Frame.invoking theMethod args0 :: below0 := rfl
set_option maxRecDepth 65536 in
theorem w_args : argsFit about1.vm theMethod args0 = true := by decide +kernel
set_option maxRecDepth 65536 in
theorem w_heap : heapFits about1 = true := by decide +kernel
set_option maxRecDepth 65536 in
theorem w_runnable : about1.curStatus? = some .runnable := by decide +kernel
set_option maxRecDepth 65536 in
theorem w_alone : about1.alone = true := by decide +kernel
set_option maxRecDepth 65536 in
theorem w_named : about1.methodNamed? x = some theMethod := by decide +kernel
set_option maxRecDepth 65536 in
theorem w_hears : about1.hears theMethod below0 = true := by decide +kernel
set_option maxRecDepth 65536 in
theorem w_ripe : about1.ripe theMethod args0 below0 = true := by decide +kernel
theorem w_running : about1.status = .running := rfl
set_option maxRecDepth 65536 in
theorem w_room : about1.hasRoom e0.platform room_1 = true :=
  launch0.hasRoom_least _ room_1 (by decide +kernel) (by decide +kernel) (by decide +kernel) (by decide +kernel) (by decide +kernel) (by decide +kernel)
theorem allAtoms_all (ts : List Jvm.Cond) (a : Array Jvm.Value) (st : Jvm.State) : (allAtoms ts).before a st = ts.all (fun c => c.before a st) := by
  induction ts with
  | nil => rfl
  | cons c t ih =>
    show (Jvm.Cond.and c (allAtoms t)).before a st = _
    rw [Jvm.Cond.before_and, ih, List.all_cons]
def words1 : List Jvm.Cond := Jvm.Cond.code x code maxLocals ret :: tables_1
/-- a 'code' word, met by the world's own term for the bytes: nothing is compared byte by byte -/
theorem code_word {y : MethodName} {bytes : ByteArray} {mx : Nat} {rt : Option FieldType} {a : Array Value} {s : State} {m : MethodId} {meth : Method} {c : Code} (h1 : s.methodNamed? y = some m) (h2 : s.vm.method? m = some meth) (h3 : meth.code = some c) (h4 : c.code = bytes)
    (h5 : (c.maxLocals == mx && c.exceptionTable.isEmpty && decide (c.maxStack ≤ mostOperands) && decide (meth.sig.returnType = rt) && !meth.locks && decide (parseMethodDescriptor y.desc = some meth.sig)) = true) : (Jvm.Cond.code y bytes mx rt).before a s = true := by
  simp only [Bool.and_eq_true, beq_iff_eq, Bool.not_eq_true', decide_eq_true_eq] at h5
  obtain ⟨⟨⟨⟨⟨g1, g2⟩, g3⟩, g4⟩, g5⟩, g6⟩ := h5
  simp [Cond.before, Cond.holds, Cond.value, h1, h2, h3, h4, g1, g2, g3, g4, g5, g6]
def isCode : Jvm.Cond → Bool
  | .code _ _ _ _ => true
  | _ => false
theorem all_split {L : List Jvm.Cond} {P : Jvm.Cond → Bool} (h1 : L.all (fun c => isCode c || P c) = true) (h2 : ∀ c ∈ L.filter isCode, P c = true) : L.all P = true := by
  refine List.all_eq_true.mpr fun c hc => ?_
  have h := List.all_eq_true.mp h1 c hc
  rcases Bool.eq_false_or_eq_true (isCode c) with hi | hi
  · exact h2 c (List.mem_filter.mpr ⟨hc, hi⟩)
  · simpa [hi] using h
set_option maxRecDepth 65536 in
theorem w_c0 : (Jvm.Cond.code x code maxLocals ret).before args0 about1 = true := code_word (m := ⟨1, 2⟩) (meth := k1m2) (c := k1c2) (by decide +kernel) rfl rfl rfl (by decide +kernel)
set_option maxRecDepth 65536 in
theorem w_c1 : (Jvm.Cond.code ({ cls := "com/example/design_drills/designdrills/service/listens/IdNumbers", name := "spread", desc := "(I)I" } : Jvm.MethodName) prog_65_method_16_code (2 : Nat) (Option.some Jvm.ClassFile.FieldType.int)).before args0 about1 = true := code_word (m := ⟨2, 1⟩) (meth := k2m1) (c := k2c1) (by decide +kernel) rfl rfl rfl (by decide +kernel)
set_option maxRecDepth 65536 in
theorem w_c2 : (Jvm.Cond.code ({ cls := "com/example/design_drills/designdrills/service/listens/IdNumbersSpreadPinLaw", name := "unspread", desc := "(I)I" } : Jvm.MethodName) method_2_code (2 : Nat) (Option.some Jvm.ClassFile.FieldType.int)).before args0 about1 = true := code_word (m := ⟨1, 1⟩) (meth := k1m1) (c := k1c1) (by decide +kernel) rfl rfl rfl (by decide +kernel)
def codes1 : List Jvm.Cond := [Jvm.Cond.code x code maxLocals ret, Jvm.Cond.code ({ cls := "com/example/design_drills/designdrills/service/listens/IdNumbers", name := "spread", desc := "(I)I" } : Jvm.MethodName) prog_65_method_16_code (2 : Nat) (Option.some Jvm.ClassFile.FieldType.int), Jvm.Cond.code ({ cls := "com/example/design_drills/designdrills/service/listens/IdNumbersSpreadPinLaw", name := "unspread", desc := "(I)I" } : Jvm.MethodName) method_2_code (2 : Nat) (Option.some Jvm.ClassFile.FieldType.int)]
set_option maxRecDepth 65536 in
theorem codes_eq : words1.filter isCode = codes1 := rfl
theorem w_codes : ∀ c ∈ words1.filter isCode, c.before args0 about1 = true := by
  rw [codes_eq]
  intro c hc
  simp only [codes1, List.mem_cons, List.not_mem_nil, or_false] at hc
  rcases hc with rfl | rfl | rfl
  · exact w_c0
  · exact w_c1
  · exact w_c2
set_option maxRecDepth 65536 in
theorem w_t1 : words1.all (fun c => isCode c || c.before args0 about1) = true := by decide +kernel
theorem w_tables : (allAtoms (Jvm.Cond.code x code maxLocals ret :: tables_1)).before args0 about1 = true := by
  rw [allAtoms_all]
  show words1.all (fun c => c.before args0 about1) = true
  refine all_split ?_ w_codes
  rw [w_t1]
set_option maxRecDepth 65536 in
theorem w_case : (Jvm.Cond.and given_1 narrow_1).before args0 about1 = true := by decide +kernel
theorem w_applies : (headSpec (Jvm.Cond.code x code maxLocals ret :: tables_1) room_1).applies x e0.platform about1 = true :=
  (Spec.applies_iff w_frames).mpr ⟨w_running, w_runnable, w_alone, w_named, w_hears, w_ripe, w_room, w_tables⟩
theorem atStart : AtStart classFile x code maxLocals ret World_1 tables_1 room_1 Calls_1 rest_1 Pre_1 launch0 p0 e0 about1 theMethod args0 below0 :=
  ⟨lists_1, trivial, launch0.admits_env _ _ _, launch0.least_env, fairChoices_fair.cas, fairChoices_fair.clock, w_frames, w_args, w_heap, w_applies, trivial, trivial, w_case⟩
end start1
theorem witness_1 : WitnessClaimed_1 := ⟨start1.p0, start1.e0, start1.about1, start1.theMethod, start1.args0, start1.below0, start1.atStart⟩
end Jvm.Pilot.@@N@@
