import JvmDerived
import JvmDerived.Pilot.@@N@@Statement
import JvmDerived.Pilot.@@N@@Code
set_option linter.unusedVariables false
set_option linter.unusedSimpArgs false
namespace Jvm.OwnK
open Sem ClassFile Op Lib Jvm.Stand Jvm.Free Jvm.LawKit Jvm.RoadKit
section
variable {p : Program} {l : Launch} {e : Env} {R : Room} {s : State} {m : MethodId} {args : Array Value} {below : List Frame} {meth : Method} {c : Code} {T : State} {locs : List Loc} {cells slots : Nat} {Cn Sn : Nat} {Q : Option Value → Heap → List Loc → Prop}
/-- from the frame f the run comes to an end that Q takes -/
def KEnds (p : Program) (e : Env) (below : List Frame) (s : State) (Cn Sn : Nat) (Q : Option Value → Heap → List Loc → Prop) (T : State) (f : JFrame) : Prop :=
  ∃ s₂ o, Steps p.tables e below (T.setTop f) s₂ ∧ s₂.status = .running ∧ Ended s₂ below o ∧ ∃ v L, o = .returned v ∧ Q v s₂.heap L ∧ FrameEnd s o s₂ L Cn Sn
theorem k_via {T' : State} {f f' : JFrame} (st : ∀ t, Steps p.tables e below (T'.setTop f') t → Steps p.tables e below (T.setTop f) t) (k : KEnds p e below s Cn Sn Q T' f') : KEnds p e below s Cn Sn Q T f := by
  obtain ⟨s₂, o, h, r⟩ := k
  exact ⟨s₂, o, st _ h, r⟩
theorem k_iloadN (X : Stand p l e R s m args below meth c T locs cells slots) (hx : p.tables.exec = Jvm.exec) {pc pc' : Nat} {Ls : Array Slot} {St : List Value} {i : Fin 4} {v : Int32} (hd : decode c.code pc = .ok (.iload_n i, 1)) (hl : Ls[i.val]? = some (.val (.int v))) (hpc : pc + 1 = pc') (k : KEnds p e below s Cn Sn Q T (mkF m pc' Ls (.int v :: St))) : KEnds p e below s Cn Sn Q T (mkF m pc Ls (St)) := by
  subst hpc; exact k_via (fun t h => XS.iloadN X.here hx rfl hd hl h) k
theorem k_istoreN (X : Stand p l e R s m args below meth c T locs cells slots) (hx : p.tables.exec = Jvm.exec) {pc pc' : Nat} {Ls : Array Slot} {St : List Value} {i : Fin 4} {v : Int32} {Ls' : Array Slot} (hd : decode c.code pc = .ok (.istore_n i, 1)) (hl : storeLocals Ls i.val (.int v) = some Ls') (hpc : pc + 1 = pc') (k : KEnds p e below s Cn Sn Q T (mkF m pc' Ls' (St))) : KEnds p e below s Cn Sn Q T (mkF m pc Ls (.int v :: St)) := by
  subst hpc; exact k_via (fun t h => XS.istoreN X.here hx rfl hd rfl hl h) k
theorem k_iconst (X : Stand p l e R s m args below meth c T locs cells slots) (hx : p.tables.exec = Jvm.exec) {pc pc' : Nat} {Ls : Array Slot} {St : List Value} {i : Int} {z : Int32} (hd : decode c.code pc = .ok (.iconst i, 1)) (hpc : pc + 1 = pc') (hz : Int32.ofInt i = z) (k : KEnds p e below s Cn Sn Q T (mkF m pc' Ls (.int z :: St))) : KEnds p e below s Cn Sn Q T (mkF m pc Ls St) := by
  subst hpc hz; exact k_via (fun t h => XS.iconst X.here hx rfl hd h) k
theorem k_bipush (X : Stand p l e R s m args below meth c T locs cells slots) (hx : p.tables.exec = Jvm.exec) {pc pc' : Nat} {Ls : Array Slot} {St : List Value} {i : Int} {z : Int32} (hd : decode c.code pc = .ok (.bipush i, 2)) (hpc : pc + 2 = pc') (hz : (Int8.ofInt i).toInt32 = z) (k : KEnds p e below s Cn Sn Q T (mkF m pc' Ls (.int z :: St))) : KEnds p e below s Cn Sn Q T (mkF m pc Ls St) := by
  subst hpc hz; exact k_via (fun t h => XS.bipush X.here hx rfl hd h) k
theorem k_i2c (X : Stand p l e R s m args below meth c T locs cells slots) (hx : p.tables.exec = Jvm.exec) {pc pc' : Nat} {Ls : Array Slot} {St : List Value} {x : Int32} (hd : decode c.code pc = .ok (.i2c, 1))  (hpc : pc + 1 = pc') (k : ∀ z : Int32, z = x.toUInt32.toUInt16.toUInt32.toInt32 → KEnds p e below s Cn Sn Q T (mkF m pc' Ls (.int z :: St))) : KEnds p e below s Cn Sn Q T (mkF m pc Ls (.int x :: St)) := by
  subst hpc; exact k_via (fun t h => XS.i2c X.here hx rfl hd rfl h) (k _ rfl)
theorem k_goto (X : Stand p l e R s m args below meth c T locs cells slots) (hx : p.tables.exec = Jvm.exec) {pc pc' : Nat} {Ls : Array Slot} {St : List Value} {o : Int} (hd : decode c.code pc = .ok (.goto o, 3)) (hp : (pc : Int) + o = (pc' : Int)) (k : KEnds p e below s Cn Sn Q T (mkF m pc' Ls St)) : KEnds p e below s Cn Sn Q T (mkF m pc Ls St) :=
  k_via (fun t h => XS.goto X.here hx rfl (pc0 := pc) rfl hd (by omega) (by omega) h) k
theorem k_icmp_lt (X : Stand p l e R s m args below meth c T locs cells slots) (hx : p.tables.exec = Jvm.exec) {pc pn py : Nat} {Ls : Array Slot} {St : List Value} {x y : Int32} {o : Int} (hd : decode c.code pc = .ok (.if_icmp .lt o, 3)) (hn : pc + 3 = pn) (hp : (pc : Int) + o = (py : Int)) (ky : x < y → KEnds p e below s Cn Sn Q T (mkF m py Ls St)) (kn : ¬ x < y → KEnds p e below s Cn Sn Q T (mkF m pn Ls St)) : KEnds p e below s Cn Sn Q T (mkF m pc Ls (.int y :: .int x :: St)) := by
  subst hn
  by_cases hc : x < y
  · exact k_via (fun t h => XS.icmpYes X.here hx rfl (pc0 := pc) rfl hd rfl (tlt hc).1 (by omega) (by omega) h) (ky hc)
  · exact k_via (fun t h => XS.icmpNo X.here hx rfl hd rfl (flt hc).1 h) (kn hc)
theorem k_icmp_gt (X : Stand p l e R s m args below meth c T locs cells slots) (hx : p.tables.exec = Jvm.exec) {pc pn py : Nat} {Ls : Array Slot} {St : List Value} {x y : Int32} {o : Int} (hd : decode c.code pc = .ok (.if_icmp .gt o, 3)) (hn : pc + 3 = pn) (hp : (pc : Int) + o = (py : Int)) (ky : y < x → KEnds p e below s Cn Sn Q T (mkF m py Ls St)) (kn : ¬ y < x → KEnds p e below s Cn Sn Q T (mkF m pn Ls St)) : KEnds p e below s Cn Sn Q T (mkF m pc Ls (.int y :: .int x :: St)) := by
  subst hn
  by_cases hc : y < x
  · exact k_via (fun t h => XS.icmpYes X.here hx rfl (pc0 := pc) rfl hd rfl (tlt hc).2.2.1 (by omega) (by omega) h) (ky hc)
  · exact k_via (fun t h => XS.icmpNo X.here hx rfl hd rfl (flt hc).2.2.1 h) (kn hc)
theorem k_icmp_eq (X : Stand p l e R s m args below meth c T locs cells slots) (hx : p.tables.exec = Jvm.exec) {pc pn py : Nat} {Ls : Array Slot} {St : List Value} {x y : Int32} {o : Int} (hd : decode c.code pc = .ok (.if_icmp .eq o, 3)) (hn : pc + 3 = pn) (hp : (pc : Int) + o = (py : Int)) (ky : x = y → KEnds p e below s Cn Sn Q T (mkF m py Ls St)) (kn : ¬ x = y → KEnds p e below s Cn Sn Q T (mkF m pn Ls St)) : KEnds p e below s Cn Sn Q T (mkF m pc Ls (.int y :: .int x :: St)) := by
  subst hn
  by_cases hc : x = y
  · exact k_via (fun t h => XS.icmpYes X.here hx rfl (pc0 := pc) rfl hd rfl (teq hc).1 (by omega) (by omega) h) (ky hc)
  · exact k_via (fun t h => XS.icmpNo X.here hx rfl hd rfl (feq hc).1 h) (kn hc)
theorem k_icmp_ne (X : Stand p l e R s m args below meth c T locs cells slots) (hx : p.tables.exec = Jvm.exec) {pc pn py : Nat} {Ls : Array Slot} {St : List Value} {x y : Int32} {o : Int} (hd : decode c.code pc = .ok (.if_icmp .ne o, 3)) (hn : pc + 3 = pn) (hp : (pc : Int) + o = (py : Int)) (ky : ¬ x = y → KEnds p e below s Cn Sn Q T (mkF m py Ls St)) (kn : x = y → KEnds p e below s Cn Sn Q T (mkF m pn Ls St)) : KEnds p e below s Cn Sn Q T (mkF m pc Ls (.int y :: .int x :: St)) := by
  subst hn
  by_cases hc : x = y
  · exact k_via (fun t h => XS.icmpNo X.here hx rfl hd rfl (teq hc).2 h) (kn hc)
  · exact k_via (fun t h => XS.icmpYes X.here hx rfl (pc0 := pc) rfl hd rfl (feq hc).2 (by omega) (by omega) h) (ky hc)
theorem k_d_nxlt_eq {x a b : Int32} (h : x = a) (q : ¬ a < b) : ¬ x < b := by
  simp only [Int32.lt_iff_toInt_lt, ← Int32.toInt_inj] at *; omega
theorem k_d_nalt_eq {x a b : Int32} (h : x = a) (q : ¬ b < a) : ¬ b < x := by
  simp only [Int32.lt_iff_toInt_lt, ← Int32.toInt_inj] at *; omega
theorem k_retN (X : Stand p l e R s m args below meth c T locs cells slots) (hx : p.tables.exec = Jvm.exec) {pc : Nat} {Ls : Array Slot} {St : List Value} {t : FieldType} {z z' : Int32} (hret : meth.sig.returnType = some t) (ht : t = .boolean ∨ t = .byte ∨ t = .char ∨ t = .short) (hd : decode c.code pc = .ok (.ireturn, 1)) (hlk : meth.locks = false) (hC : cells ≤ Cn) (hS : slots ≤ Sn) (hz : nar t z = z') (q : Q (some (.int z')) T.heap locs) : KEnds p e below s Cn Sn Q T (mkF m pc Ls (.int z :: St)) := by
  subst hz
  obtain ⟨fs, hr, hrun, hended, hW, hsame⟩ := X.leave (v := some (.int (nar t z))) (fun h => by rw [hret] at h; cases h) hlk
  exact ⟨_, _, retN X hx hret ht hd hr, hrun, hended, _, _, rfl, q, ⟨_, rfl⟩, hW, hsame.mono hC hS⟩
variable {Z : State} {a0 : Array Value} {h : Heap} {own : String}
theorem k_callS (X : Stand p l e R s m args below meth c T locs cells slots) (hx : p.tables.exec = Jvm.exec) (hZ : Z.Warmed39 s.vm) (hown : s.vm.findClass own = some m.cls) {pc pc' : Nat} {Ls : Array Slot} {St : List Value} {y : MethodName} {bytes : ByteArray} {maxL : Nat} {ret : Option FieldType} {rm : Room} {index W : Nat} {as' : Array Value} {Q' : Option Value → Heap → List Loc → Prop} (w1 : (Cond.methodLink own index y).before a0 Z = true) (w2 : (Cond.static y).before a0 Z = true) (w3 : (Cond.initialized y.cls).before a0 Z = true) (w4 : (Cond.code y bytes maxL ret).before a0 Z = true) (hy : y.cls ≠ "java/lang/invoke/MethodHandle" ∧ y.cls ≠ "java/lang/invoke/VarHandle") (hM : MetFree l y (head1 [Cond.code y bytes maxL ret] rm) (fun a U => a = as' ∧ Z.Warmed39 U.vm ∧ U.heap = h) (fun _ _ _ _ _ => True) (fun _ U o U' => ∃ v L, o = .returned v ∧ Q' v U'.heap L ∧ FrameEnd U o U' L rm.cells rm.slots)) (hf : rm.frames + 1 ≤ R.frames) (hl : W + (maxL + 11) + rm.locals ≤ R.locals) (eT : T.heap = h) (hsize : Ls.size = c.maxLocals) {argsL rest : List Value} (hlen : ∀ sig, parseMethodDescriptor y.desc = some sig → argsL.length = sig.parameters.length) (hst : St = argsL.reverse ++ rest) (hW : (rest.map fun v => v.category).sum ≤ W) (has : argsL.toArray = as') (hd : decode c.code pc = .ok (.invokestatic index, 3)) (hce : cells + rm.cells ≤ R.cells) (hsl : slots + rm.slots ≤ R.slots) (hpc : pc + 3 = pc') (k : ∀ T' L v, Stand p l e R s m args below meth c T' (locs ++ L) (cells + rm.cells) (slots + rm.slots) → Q' v T'.heap L → KEnds p e below s Cn Sn Q T' (mkF m pc' Ls (v.toList ++ rest))) : KEnds p e below s Cn Sn Q T (mkF m pc Ls St) := by
  subst hpc
  obtain ⟨v, _, ⟨T', L', k', n'⟩, -, X', ⟨Lc, hQ, l', y', z'⟩, st⟩ := Jvm.LawKit.callS X hx (y := y) hown (mvT hZ w1) (mvT hZ w2) (mvT hZ w3) (mvT hZ w4) hy (backOf (W := W) hM hZ w4 w3 hf hl) (g := mkF m pc Ls St) rfl hsize hlen hst (by show 2 * 0 + _ ≤ _; omega) hd (fun _ _ => ⟨has, eT, hce, hsl⟩)
  dsimp only [Pt.U, Pt.locs, Pt.cells, Pt.slots] at X' l' y' z' st hQ
  subst l' y' z'
  exact k_via st (k T' Lc v X' hQ)
end
end Jvm.OwnK
namespace Jvm.Pilot.@@N@@
open Jvm Jvm.ClassFile Sem Op Lib Jvm.Free Jvm.Stand Jvm.LawKit Jvm.RoadKit Jvm.OwnK Bundle Jvm.Pilot.@@N@@.Jvm.D
theorem d1_0 : decode method_2_code 0 = .ok (.iload_n 0, 1) := by decide +kernel
theorem d1_1 : decode method_2_code 1 = .ok (.bipush 48, 2) := by decide +kernel
theorem d1_3 : decode method_2_code 3 = .ok (.if_icmp .eq 57, 3) := by decide +kernel
theorem d1_60 : decode method_2_code 60 = .ok (.iconst 1, 1) := by decide +kernel
theorem d1_61 : decode method_2_code 61 = .ok (.goto 4, 3) := by decide +kernel
theorem d1_65 : decode method_2_code 65 = .ok (.ireturn, 1) := by decide +kernel
theorem d1_6 : decode method_2_code 6 = .ok (.iload_n 0, 1) := by decide +kernel
theorem d1_7 : decode method_2_code 7 = .ok (.bipush 49, 2) := by decide +kernel
theorem d1_9 : decode method_2_code 9 = .ok (.if_icmp .eq 51, 3) := by decide +kernel
theorem d1_12 : decode method_2_code 12 = .ok (.iload_n 0, 1) := by decide +kernel
theorem d1_13 : decode method_2_code 13 = .ok (.bipush 50, 2) := by decide +kernel
theorem d1_15 : decode method_2_code 15 = .ok (.if_icmp .eq 45, 3) := by decide +kernel
theorem d1_18 : decode method_2_code 18 = .ok (.iload_n 0, 1) := by decide +kernel
theorem d1_19 : decode method_2_code 19 = .ok (.bipush 51, 2) := by decide +kernel
theorem d1_21 : decode method_2_code 21 = .ok (.if_icmp .eq 39, 3) := by decide +kernel
theorem d1_24 : decode method_2_code 24 = .ok (.iload_n 0, 1) := by decide +kernel
theorem d1_25 : decode method_2_code 25 = .ok (.bipush 52, 2) := by decide +kernel
theorem d1_27 : decode method_2_code 27 = .ok (.if_icmp .eq 33, 3) := by decide +kernel
theorem d1_30 : decode method_2_code 30 = .ok (.iload_n 0, 1) := by decide +kernel
theorem d1_31 : decode method_2_code 31 = .ok (.bipush 53, 2) := by decide +kernel
theorem d1_33 : decode method_2_code 33 = .ok (.if_icmp .eq 27, 3) := by decide +kernel
theorem d1_36 : decode method_2_code 36 = .ok (.iload_n 0, 1) := by decide +kernel
theorem d1_37 : decode method_2_code 37 = .ok (.bipush 54, 2) := by decide +kernel
theorem d1_39 : decode method_2_code 39 = .ok (.if_icmp .eq 21, 3) := by decide +kernel
theorem d1_42 : decode method_2_code 42 = .ok (.iload_n 0, 1) := by decide +kernel
theorem d1_43 : decode method_2_code 43 = .ok (.bipush 55, 2) := by decide +kernel
theorem d1_45 : decode method_2_code 45 = .ok (.if_icmp .eq 15, 3) := by decide +kernel
theorem d1_48 : decode method_2_code 48 = .ok (.iload_n 0, 1) := by decide +kernel
theorem d1_49 : decode method_2_code 49 = .ok (.bipush 56, 2) := by decide +kernel
theorem d1_51 : decode method_2_code 51 = .ok (.if_icmp .eq 9, 3) := by decide +kernel
theorem d1_54 : decode method_2_code 54 = .ok (.iload_n 0, 1) := by decide +kernel
theorem d1_55 : decode method_2_code 55 = .ok (.bipush 57, 2) := by decide +kernel
theorem d1_57 : decode method_2_code 57 = .ok (.if_icmp .ne 7, 3) := by decide +kernel
theorem d1_64 : decode method_2_code 64 = .ok (.iconst 0, 1) := by decide +kernel
abbrev R1_2 : Room := { frames := 0, cells := 0, slots := 0, locals := 0 }
def Q1_2 (Z : State) (p1 : Int32) (h0 : Heap) (n0 : Nat) (v : Option Value) (h : Heap) (L : List Loc) : Prop := Fr n0 L ∧ h = h0 ∧ ((p1 = (48 : Int32) ∧ v = some (.int (1 : Int32))) ∨ (¬ p1 = (48 : Int32) ∧ p1 = (49 : Int32) ∧ v = some (.int (1 : Int32))) ∨ (¬ p1 = (48 : Int32) ∧ ¬ p1 = (49 : Int32) ∧ p1 = (50 : Int32) ∧ v = some (.int (1 : Int32))) ∨ (¬ p1 = (48 : Int32) ∧ ¬ p1 = (49 : Int32) ∧ ¬ p1 = (50 : Int32) ∧ p1 = (51 : Int32) ∧ v = some (.int (1 : Int32))) ∨ (¬ p1 = (48 : Int32) ∧ ¬ p1 = (49 : Int32) ∧ ¬ p1 = (50 : Int32) ∧ ¬ p1 = (51 : Int32) ∧ p1 = (52 : Int32) ∧ v = some (.int (1 : Int32))) ∨ (¬ p1 = (48 : Int32) ∧ ¬ p1 = (49 : Int32) ∧ ¬ p1 = (50 : Int32) ∧ ¬ p1 = (51 : Int32) ∧ ¬ p1 = (52 : Int32) ∧ p1 = (53 : Int32) ∧ v = some (.int (1 : Int32))) ∨ (¬ p1 = (48 : Int32) ∧ ¬ p1 = (49 : Int32) ∧ ¬ p1 = (50 : Int32) ∧ ¬ p1 = (51 : Int32) ∧ ¬ p1 = (52 : Int32) ∧ ¬ p1 = (53 : Int32) ∧ p1 = (54 : Int32) ∧ v = some (.int (1 : Int32))) ∨ (¬ p1 = (48 : Int32) ∧ ¬ p1 = (49 : Int32) ∧ ¬ p1 = (50 : Int32) ∧ ¬ p1 = (51 : Int32) ∧ ¬ p1 = (52 : Int32) ∧ ¬ p1 = (53 : Int32) ∧ ¬ p1 = (54 : Int32) ∧ p1 = (55 : Int32) ∧ v = some (.int (1 : Int32))) ∨ (¬ p1 = (48 : Int32) ∧ ¬ p1 = (49 : Int32) ∧ ¬ p1 = (50 : Int32) ∧ ¬ p1 = (51 : Int32) ∧ ¬ p1 = (52 : Int32) ∧ ¬ p1 = (53 : Int32) ∧ ¬ p1 = (54 : Int32) ∧ ¬ p1 = (55 : Int32) ∧ p1 = (56 : Int32) ∧ v = some (.int (1 : Int32))) ∨ (¬ p1 = (48 : Int32) ∧ ¬ p1 = (49 : Int32) ∧ ¬ p1 = (50 : Int32) ∧ ¬ p1 = (51 : Int32) ∧ ¬ p1 = (52 : Int32) ∧ ¬ p1 = (53 : Int32) ∧ ¬ p1 = (54 : Int32) ∧ ¬ p1 = (55 : Int32) ∧ ¬ p1 = (56 : Int32) ∧ ¬ p1 = (57 : Int32) ∧ v = some (.int (0 : Int32))) ∨ (¬ p1 = (48 : Int32) ∧ ¬ p1 = (49 : Int32) ∧ ¬ p1 = (50 : Int32) ∧ ¬ p1 = (51 : Int32) ∧ ¬ p1 = (52 : Int32) ∧ ¬ p1 = (53 : Int32) ∧ ¬ p1 = (54 : Int32) ∧ ¬ p1 = (55 : Int32) ∧ ¬ p1 = (56 : Int32) ∧ p1 = (57 : Int32) ∧ v = some (.int (1 : Int32))))
theorem ef1_2 (m : MethodId) (x0 : Int32) : entryFrame m #[(.int x0)] 1 = mkF m 0 #[.val (.int x0)] [] := by first | (simp [entryFrame, mkF, argsToLocals, Value.category]; done) | rfl
theorem pn_0 : plainName "com/example/halter/halter/WholeNumbersIsDigitPinLaw" = true := by first | (simp [plainName, overriddenIn]; done) | decide +kernel
set_option maxRecDepth 65536 in
set_option maxHeartbeats 40000000 in
theorem rm1_2 (l : Launch) (Z : State) (a0 : Array Value) (hw : ∀ d ∈ tables_1, d.before a0 Z = true) (ws : List Jvm.Cond) (p1 : Int32) (h0 : Heap) (n0 : Nat) (Z0 : n0 ≤ h0.size)  :
    MetFree l (⟨"com/example/halter/halter/WholeNumbersIsDigitPinLaw", "oneOfTheTen", "(C)Z"⟩ : MethodName) (head1 (Jvm.Cond.code (⟨"com/example/halter/halter/WholeNumbersIsDigitPinLaw", "oneOfTheTen", "(C)Z"⟩ : MethodName) method_2_code 1 (some .boolean) :: ws) R1_2) (fun a U => a = #[(.int p1)] ∧ Z.Warmed39 U.vm ∧ U.heap = h0) (fun _ _ _ _ _ => True) (fun _ U o U' => ∃ v L, o = .returned v ∧ Q1_2 Z p1 h0 n0 v U'.heap L ∧ FrameEnd U o U' L R1_2.cells R1_2.slots) := by
 refine MetFree.of_bodySF (plainFor_of_name pn_0) hisR ?_
 intro p e s m args below meth c s₁ Bd hml0 hP hK
 obtain ⟨rfl, hZ, hh⟩ := hP
 have hx := Bd.exec
 have hby := Bd.bytes
 have hml : c.maxLocals = 1 := hml0
 have hlk : meth.locks = false := Bd.notSynchronized
 have hown : s.vm.findClass "com/example/halter/halter/WholeNumbersIsDigitPinLaw" = some m.cls := findClass_of_methodNamed Bd.named
 have hnm := (name_of_methodNamed Bd.named Bd.method).1
 have X0 : Stand p l e R1_2 s m #[(.int p1)] below meth c s₁ [] 0 0 := Stand.of_body Bd
 have e0 : s₁.heap = h0 := by rw [← hh, Bd.state]; rfl
 have N0 := Fr.nil n0
 rw [ef1_2 m p1]
 show KEnds p e below s R1_2.cells R1_2.slots (Q1_2 Z p1 h0 n0) s₁ (mkF m 0 #[.val (.int p1)] [])
 refine k_iloadN X0 hx (hb hby d1_0) rfl (pc' := 1) rfl ?_
 refine k_bipush X0 hx (hb hby d1_1) (pc' := 3) rfl (z := (48 : Int32)) rfl ?_
 refine k_icmp_eq X0 hx (hb hby d1_3) (pn := 6) rfl (py := 60) (by decide) (fun hc3 => ?_) (fun hc3 => ?_)
 ·
  refine k_iconst X0 hx (hb hby d1_60) (pc' := 61) rfl (z := (1 : Int32)) rfl ?_
  refine k_goto X0 hx (hb hby d1_61) (pc' := 65) (by decide) ?_
  exact k_retN X0 hx (t := .boolean) Bd.returns (by simp) (hb hby d1_65) hlk (by decide) (by decide) (z' := (1 : Int32)) rfl ⟨N0, e0, (Or.inl ⟨hc3, rfl⟩)⟩
 ·
  refine k_iloadN X0 hx (hb hby d1_6) rfl (pc' := 7) rfl ?_
  refine k_bipush X0 hx (hb hby d1_7) (pc' := 9) rfl (z := (49 : Int32)) rfl ?_
  refine k_icmp_eq X0 hx (hb hby d1_9) (pn := 12) rfl (py := 60) (by decide) (fun hc4 => ?_) (fun hc4 => ?_)
  ·
   refine k_iconst X0 hx (hb hby d1_60) (pc' := 61) rfl (z := (1 : Int32)) rfl ?_
   refine k_goto X0 hx (hb hby d1_61) (pc' := 65) (by decide) ?_
   exact k_retN X0 hx (t := .boolean) Bd.returns (by simp) (hb hby d1_65) hlk (by decide) (by decide) (z' := (1 : Int32)) rfl ⟨N0, e0, (Or.inr (Or.inl ⟨hc3, hc4, rfl⟩))⟩
  ·
   refine k_iloadN X0 hx (hb hby d1_12) rfl (pc' := 13) rfl ?_
   refine k_bipush X0 hx (hb hby d1_13) (pc' := 15) rfl (z := (50 : Int32)) rfl ?_
   refine k_icmp_eq X0 hx (hb hby d1_15) (pn := 18) rfl (py := 60) (by decide) (fun hc5 => ?_) (fun hc5 => ?_)
   ·
    refine k_iconst X0 hx (hb hby d1_60) (pc' := 61) rfl (z := (1 : Int32)) rfl ?_
    refine k_goto X0 hx (hb hby d1_61) (pc' := 65) (by decide) ?_
    exact k_retN X0 hx (t := .boolean) Bd.returns (by simp) (hb hby d1_65) hlk (by decide) (by decide) (z' := (1 : Int32)) rfl ⟨N0, e0, (Or.inr (Or.inr (Or.inl ⟨hc3, hc4, hc5, rfl⟩)))⟩
   ·
    refine k_iloadN X0 hx (hb hby d1_18) rfl (pc' := 19) rfl ?_
    refine k_bipush X0 hx (hb hby d1_19) (pc' := 21) rfl (z := (51 : Int32)) rfl ?_
    refine k_icmp_eq X0 hx (hb hby d1_21) (pn := 24) rfl (py := 60) (by decide) (fun hc6 => ?_) (fun hc6 => ?_)
    ·
     refine k_iconst X0 hx (hb hby d1_60) (pc' := 61) rfl (z := (1 : Int32)) rfl ?_
     refine k_goto X0 hx (hb hby d1_61) (pc' := 65) (by decide) ?_
     exact k_retN X0 hx (t := .boolean) Bd.returns (by simp) (hb hby d1_65) hlk (by decide) (by decide) (z' := (1 : Int32)) rfl ⟨N0, e0, (Or.inr (Or.inr (Or.inr (Or.inl ⟨hc3, hc4, hc5, hc6, rfl⟩))))⟩
    ·
     refine k_iloadN X0 hx (hb hby d1_24) rfl (pc' := 25) rfl ?_
     refine k_bipush X0 hx (hb hby d1_25) (pc' := 27) rfl (z := (52 : Int32)) rfl ?_
     refine k_icmp_eq X0 hx (hb hby d1_27) (pn := 30) rfl (py := 60) (by decide) (fun hc7 => ?_) (fun hc7 => ?_)
     ·
      refine k_iconst X0 hx (hb hby d1_60) (pc' := 61) rfl (z := (1 : Int32)) rfl ?_
      refine k_goto X0 hx (hb hby d1_61) (pc' := 65) (by decide) ?_
      exact k_retN X0 hx (t := .boolean) Bd.returns (by simp) (hb hby d1_65) hlk (by decide) (by decide) (z' := (1 : Int32)) rfl ⟨N0, e0, (Or.inr (Or.inr (Or.inr (Or.inr (Or.inl ⟨hc3, hc4, hc5, hc6, hc7, rfl⟩)))))⟩
     ·
      refine k_iloadN X0 hx (hb hby d1_30) rfl (pc' := 31) rfl ?_
      refine k_bipush X0 hx (hb hby d1_31) (pc' := 33) rfl (z := (53 : Int32)) rfl ?_
      refine k_icmp_eq X0 hx (hb hby d1_33) (pn := 36) rfl (py := 60) (by decide) (fun hc8 => ?_) (fun hc8 => ?_)
      ·
       refine k_iconst X0 hx (hb hby d1_60) (pc' := 61) rfl (z := (1 : Int32)) rfl ?_
       refine k_goto X0 hx (hb hby d1_61) (pc' := 65) (by decide) ?_
       exact k_retN X0 hx (t := .boolean) Bd.returns (by simp) (hb hby d1_65) hlk (by decide) (by decide) (z' := (1 : Int32)) rfl ⟨N0, e0, (Or.inr (Or.inr (Or.inr (Or.inr (Or.inr (Or.inl ⟨hc3, hc4, hc5, hc6, hc7, hc8, rfl⟩))))))⟩
      ·
       refine k_iloadN X0 hx (hb hby d1_36) rfl (pc' := 37) rfl ?_
       refine k_bipush X0 hx (hb hby d1_37) (pc' := 39) rfl (z := (54 : Int32)) rfl ?_
       refine k_icmp_eq X0 hx (hb hby d1_39) (pn := 42) rfl (py := 60) (by decide) (fun hc9 => ?_) (fun hc9 => ?_)
       ·
        refine k_iconst X0 hx (hb hby d1_60) (pc' := 61) rfl (z := (1 : Int32)) rfl ?_
        refine k_goto X0 hx (hb hby d1_61) (pc' := 65) (by decide) ?_
        exact k_retN X0 hx (t := .boolean) Bd.returns (by simp) (hb hby d1_65) hlk (by decide) (by decide) (z' := (1 : Int32)) rfl ⟨N0, e0, (Or.inr (Or.inr (Or.inr (Or.inr (Or.inr (Or.inr (Or.inl ⟨hc3, hc4, hc5, hc6, hc7, hc8, hc9, rfl⟩)))))))⟩
       ·
        refine k_iloadN X0 hx (hb hby d1_42) rfl (pc' := 43) rfl ?_
        refine k_bipush X0 hx (hb hby d1_43) (pc' := 45) rfl (z := (55 : Int32)) rfl ?_
        refine k_icmp_eq X0 hx (hb hby d1_45) (pn := 48) rfl (py := 60) (by decide) (fun hc10 => ?_) (fun hc10 => ?_)
        ·
         refine k_iconst X0 hx (hb hby d1_60) (pc' := 61) rfl (z := (1 : Int32)) rfl ?_
         refine k_goto X0 hx (hb hby d1_61) (pc' := 65) (by decide) ?_
         exact k_retN X0 hx (t := .boolean) Bd.returns (by simp) (hb hby d1_65) hlk (by decide) (by decide) (z' := (1 : Int32)) rfl ⟨N0, e0, (Or.inr (Or.inr (Or.inr (Or.inr (Or.inr (Or.inr (Or.inr (Or.inl ⟨hc3, hc4, hc5, hc6, hc7, hc8, hc9, hc10, rfl⟩))))))))⟩
        ·
         refine k_iloadN X0 hx (hb hby d1_48) rfl (pc' := 49) rfl ?_
         refine k_bipush X0 hx (hb hby d1_49) (pc' := 51) rfl (z := (56 : Int32)) rfl ?_
         refine k_icmp_eq X0 hx (hb hby d1_51) (pn := 54) rfl (py := 60) (by decide) (fun hc11 => ?_) (fun hc11 => ?_)
         ·
          refine k_iconst X0 hx (hb hby d1_60) (pc' := 61) rfl (z := (1 : Int32)) rfl ?_
          refine k_goto X0 hx (hb hby d1_61) (pc' := 65) (by decide) ?_
          exact k_retN X0 hx (t := .boolean) Bd.returns (by simp) (hb hby d1_65) hlk (by decide) (by decide) (z' := (1 : Int32)) rfl ⟨N0, e0, (Or.inr (Or.inr (Or.inr (Or.inr (Or.inr (Or.inr (Or.inr (Or.inr (Or.inl ⟨hc3, hc4, hc5, hc6, hc7, hc8, hc9, hc10, hc11, rfl⟩)))))))))⟩
         ·
          refine k_iloadN X0 hx (hb hby d1_54) rfl (pc' := 55) rfl ?_
          refine k_bipush X0 hx (hb hby d1_55) (pc' := 57) rfl (z := (57 : Int32)) rfl ?_
          refine k_icmp_ne X0 hx (hb hby d1_57) (pn := 60) rfl (py := 64) (by decide) (fun hc12 => ?_) (fun hc12 => ?_)
          ·
           refine k_iconst X0 hx (hb hby d1_64) (pc' := 65) rfl (z := (0 : Int32)) rfl ?_
           exact k_retN X0 hx (t := .boolean) Bd.returns (by simp) (hb hby d1_65) hlk (by decide) (by decide) (z' := (0 : Int32)) rfl ⟨N0, e0, (Or.inr (Or.inr (Or.inr (Or.inr (Or.inr (Or.inr (Or.inr (Or.inr (Or.inr (Or.inl ⟨hc3, hc4, hc5, hc6, hc7, hc8, hc9, hc10, hc11, hc12, rfl⟩))))))))))⟩
          ·
           refine k_iconst X0 hx (hb hby d1_60) (pc' := 61) rfl (z := (1 : Int32)) rfl ?_
           refine k_goto X0 hx (hb hby d1_61) (pc' := 65) (by decide) ?_
           exact k_retN X0 hx (t := .boolean) Bd.returns (by simp) (hb hby d1_65) hlk (by decide) (by decide) (z' := (1 : Int32)) rfl ⟨N0, e0, (Or.inr (Or.inr (Or.inr (Or.inr (Or.inr (Or.inr (Or.inr (Or.inr (Or.inr (Or.inr ⟨hc3, hc4, hc5, hc6, hc7, hc8, hc9, hc10, hc11, hc12, rfl⟩))))))))))⟩
theorem pd_0 : parseMethodDescriptor "(C)Z" = some ⟨[.char], some .boolean⟩ := by decide +kernel
theorem d2_0 : decode prog_27_method_4_code 0 = .ok (.iload_n 0, 1) := by decide +kernel
theorem d2_1 : decode prog_27_method_4_code 1 = .ok (.bipush 48, 2) := by decide +kernel
theorem d2_3 : decode prog_27_method_4_code 3 = .ok (.if_icmp .lt 13, 3) := by decide +kernel
theorem d2_16 : decode prog_27_method_4_code 16 = .ok (.iconst 0, 1) := by decide +kernel
theorem d2_17 : decode prog_27_method_4_code 17 = .ok (.ireturn, 1) := by decide +kernel
theorem d2_6 : decode prog_27_method_4_code 6 = .ok (.iload_n 0, 1) := by decide +kernel
theorem d2_7 : decode prog_27_method_4_code 7 = .ok (.bipush 57, 2) := by decide +kernel
theorem d2_9 : decode prog_27_method_4_code 9 = .ok (.if_icmp .gt 7, 3) := by decide +kernel
theorem d2_12 : decode prog_27_method_4_code 12 = .ok (.iconst 1, 1) := by decide +kernel
theorem d2_13 : decode prog_27_method_4_code 13 = .ok (.goto 4, 3) := by decide +kernel
abbrev R2_79 : Room := { frames := 0, cells := 0, slots := 0, locals := 0 }
def Q2_79 (Z : State) (p1 : Int32) (h0 : Heap) (n0 : Nat) (v : Option Value) (h : Heap) (L : List Loc) : Prop := Fr n0 L ∧ h = h0 ∧ ((p1 < (48 : Int32) ∧ v = some (.int (0 : Int32))) ∨ (¬ p1 < (48 : Int32) ∧ (57 : Int32) < p1 ∧ v = some (.int (0 : Int32))) ∨ (¬ p1 < (48 : Int32) ∧ ¬ (57 : Int32) < p1 ∧ v = some (.int (1 : Int32))))
theorem ef2_79 (m : MethodId) (x0 : Int32) : entryFrame m #[(.int x0)] 1 = mkF m 0 #[.val (.int x0)] [] := by first | (simp [entryFrame, mkF, argsToLocals, Value.category]; done) | rfl
theorem pn_1 : plainName "com/example/halter/halter/WholeNumbers" = true := by first | (simp [plainName, overriddenIn]; done) | decide +kernel
set_option maxRecDepth 65536 in
set_option maxHeartbeats 40000000 in
theorem rm2_79 (l : Launch) (Z : State) (a0 : Array Value) (hw : ∀ d ∈ tables_1, d.before a0 Z = true) (ws : List Jvm.Cond) (p1 : Int32) (h0 : Heap) (n0 : Nat) (Z0 : n0 ≤ h0.size)  :
    MetFree l (⟨"com/example/halter/halter/WholeNumbers", "isDigit", "(C)Z"⟩ : MethodName) (head1 (Jvm.Cond.code (⟨"com/example/halter/halter/WholeNumbers", "isDigit", "(C)Z"⟩ : MethodName) prog_27_method_4_code 1 (some .boolean) :: ws) R2_79) (fun a U => a = #[(.int p1)] ∧ Z.Warmed39 U.vm ∧ U.heap = h0) (fun _ _ _ _ _ => True) (fun _ U o U' => ∃ v L, o = .returned v ∧ Q2_79 Z p1 h0 n0 v U'.heap L ∧ FrameEnd U o U' L R2_79.cells R2_79.slots) := by
 refine MetFree.of_bodySF (plainFor_of_name pn_1) hisR ?_
 intro p e s m args below meth c s₁ Bd hml0 hP hK
 obtain ⟨rfl, hZ, hh⟩ := hP
 have hx := Bd.exec
 have hby := Bd.bytes
 have hml : c.maxLocals = 1 := hml0
 have hlk : meth.locks = false := Bd.notSynchronized
 have hown : s.vm.findClass "com/example/halter/halter/WholeNumbers" = some m.cls := findClass_of_methodNamed Bd.named
 have hnm := (name_of_methodNamed Bd.named Bd.method).1
 have X0 : Stand p l e R2_79 s m #[(.int p1)] below meth c s₁ [] 0 0 := Stand.of_body Bd
 have e0 : s₁.heap = h0 := by rw [← hh, Bd.state]; rfl
 have N0 := Fr.nil n0
 rw [ef2_79 m p1]
 show KEnds p e below s R2_79.cells R2_79.slots (Q2_79 Z p1 h0 n0) s₁ (mkF m 0 #[.val (.int p1)] [])
 refine k_iloadN X0 hx (hb hby d2_0) rfl (pc' := 1) rfl ?_
 refine k_bipush X0 hx (hb hby d2_1) (pc' := 3) rfl (z := (48 : Int32)) rfl ?_
 refine k_icmp_lt X0 hx (hb hby d2_3) (pn := 6) rfl (py := 16) (by decide) (fun hc80 => ?_) (fun hc80 => ?_)
 ·
  refine k_iconst X0 hx (hb hby d2_16) (pc' := 17) rfl (z := (0 : Int32)) rfl ?_
  exact k_retN X0 hx (t := .boolean) Bd.returns (by simp) (hb hby d2_17) hlk (by decide) (by decide) (z' := (0 : Int32)) rfl ⟨N0, e0, (Or.inl ⟨hc80, rfl⟩)⟩
 ·
  refine k_iloadN X0 hx (hb hby d2_6) rfl (pc' := 7) rfl ?_
  refine k_bipush X0 hx (hb hby d2_7) (pc' := 9) rfl (z := (57 : Int32)) rfl ?_
  refine k_icmp_gt X0 hx (hb hby d2_9) (pn := 12) rfl (py := 16) (by decide) (fun hc81 => ?_) (fun hc81 => ?_)
  ·
   refine k_iconst X0 hx (hb hby d2_16) (pc' := 17) rfl (z := (0 : Int32)) rfl ?_
   exact k_retN X0 hx (t := .boolean) Bd.returns (by simp) (hb hby d2_17) hlk (by decide) (by decide) (z' := (0 : Int32)) rfl ⟨N0, e0, (Or.inr (Or.inl ⟨hc80, hc81, rfl⟩))⟩
  ·
   refine k_iconst X0 hx (hb hby d2_12) (pc' := 13) rfl (z := (1 : Int32)) rfl ?_
   refine k_goto X0 hx (hb hby d2_13) (pc' := 17) (by decide) ?_
   exact k_retN X0 hx (t := .boolean) Bd.returns (by simp) (hb hby d2_17) hlk (by decide) (by decide) (z' := (1 : Int32)) rfl ⟨N0, e0, (Or.inr (Or.inr ⟨hc80, hc81, rfl⟩))⟩
theorem ef0 (m : MethodId) (x0 : Int32) : entryFrame m #[(.int x0)] maxLocals = mkF m 0 #[.val (.int x0), .unset, .unset] [] := by first | (simp [entryFrame, mkF, argsToLocals, Value.category, maxLocals]; done) | rfl
def Q0 (n0 : Nat) (v : Option Value) (h : Heap) (L : List Loc) : Prop := v = some (.int 1) ∧ Fr n0 L
set_option maxRecDepth 65536 in
set_option maxHeartbeats 40000000 in
theorem rm0 (l : Launch) (Z : State) (a0 : Array Value) (hw : ∀ d ∈ tables_1, d.before a0 Z = true) (ws : List Jvm.Cond) (i0 : Int32) (h0 : Heap) (n0 : Nat) (Z0 : n0 ≤ h0.size) :
    MetFree l x (head1 (Jvm.Cond.code x code maxLocals ret :: ws) room_1) (fun a U => a = #[(.int i0)] ∧ Z.Warmed39 U.vm ∧ U.heap = h0) (fun _ _ _ _ _ => True) (fun _ U o U' => ∃ v L, o = .returned v ∧ Q0 n0 v U'.heap L ∧ FrameEnd U o U' L 0 0) := by
 refine MetFree.of_bodySF (plainFor_of_name pn_0) hisR ?_
 intro p e s m args below meth c s₁ Bd hml0 hP hK
 obtain ⟨rfl, hZ, hh⟩ := hP
 have hx := Bd.exec
 have hby := Bd.bytes
 have hml : c.maxLocals = 3 := hml0
 have hlk : meth.locks = false := Bd.notSynchronized
 have hown : s.vm.findClass "com/example/halter/halter/WholeNumbersIsDigitPinLaw" = some m.cls := findClass_of_methodNamed Bd.named
 have hnm := (name_of_methodNamed Bd.named Bd.method).1
 have X0 : Stand p l e room_1 s m #[(.int i0)] below meth c s₁ [] 0 0 := Stand.of_body Bd
 have e0 : s₁.heap = h0 := by rw [← hh, Bd.state]; rfl
 have N0 := Fr.nil n0
 rw [show entryFrame m #[(.int i0)] maxLocals = _ from ef0 m i0]
 show KEnds p e below s 0 0 (Q0 n0) s₁ (mkF m 0 #[.val (.int i0), .unset, .unset] [])
 refine k_iloadN X0 hx (hb hby at_0) rfl (pc' := 1) rfl ?_
 refine k_i2c X0 hx (hb hby at_1) (pc' := 2) rfl (fun v1 hv1 => ?_)
 refine k_istoreN X0 hx (hb hby at_2) (Ls' := #[.val (.int i0), .val (.int v1), .unset]) rfl (pc' := 3) rfl ?_
 refine k_iloadN X0 hx (hb hby at_3) rfl (pc' := 4) rfl ?_
 refine k_callS X0 hx hZ hown (hw _ (List.mem_of_getElem? (i := 0) rfl)) (hw _ (List.mem_of_getElem? (i := 1) rfl)) (hw _ (List.mem_of_getElem? (i := 2) rfl)) (hw _ (List.mem_of_getElem? (i := 3) rfl)) (by decide) (rm1_2 l Z a0 hw [] v1 h0 n0 Z0 ) (by decide) (by decide) e0 (by rw [hml]; rfl) (argsL := [(.int v1)]) (rest := []) (lenOf pd_0 rfl) rfl (W := 0) (Nat.le_refl _) rfl (hb hby at_4) (by decide) (by decide) (pc' := 7) rfl (fun T13 L13 r13 X13 q13 => ?_)
 obtain ⟨N13, e13, q13⟩ := q13
 have N13' := Fr.app N0 N13
 rcases q13 with ⟨hc14, rfl⟩ | ⟨hc15, hc16, rfl⟩ | ⟨hc17, hc18, hc19, rfl⟩ | ⟨hc20, hc21, hc22, hc23, rfl⟩ | ⟨hc24, hc25, hc26, hc27, hc28, rfl⟩ | ⟨hc29, hc30, hc31, hc32, hc33, hc34, rfl⟩ | ⟨hc35, hc36, hc37, hc38, hc39, hc40, hc41, rfl⟩ | ⟨hc42, hc43, hc44, hc45, hc46, hc47, hc48, hc49, rfl⟩ | ⟨hc50, hc51, hc52, hc53, hc54, hc55, hc56, hc57, hc58, rfl⟩ | ⟨hc59, hc60, hc61, hc62, hc63, hc64, hc65, hc66, hc67, hc68, rfl⟩ | ⟨hc69, hc70, hc71, hc72, hc73, hc74, hc75, hc76, hc77, hc78, rfl⟩
 ·
  show KEnds p e below s _ _ _ T13 (mkF m 7 #[.val (.int i0), .val (.int v1), .unset] [(.int (1 : Int32))])
  refine k_istoreN X13 hx (hb hby at_7) (Ls' := #[.val (.int i0), .val (.int v1), .val (.int (1 : Int32))]) rfl (pc' := 8) rfl ?_
  refine k_iloadN X13 hx (hb hby at_8) rfl (pc' := 9) rfl ?_
  refine k_callS X13 hx hZ hown (hw _ (List.mem_of_getElem? (i := 4) rfl)) (hw _ (List.mem_of_getElem? (i := 5) rfl)) (hw _ (List.mem_of_getElem? (i := 6) rfl)) (hw _ (List.mem_of_getElem? (i := 7) rfl)) (by decide) (rm2_79 l Z a0 hw [] v1 h0 n0 Z0 ) (by decide) (by decide) e13 (by rw [hml]; rfl) (argsL := [(.int v1)]) (rest := []) (lenOf pd_0 rfl) rfl (W := 0) (Nat.le_refl _) rfl (hb hby at_9) (by decide) (by decide) (pc' := 12) rfl (fun T82 L82 r82 X82 q82 => ?_)
  obtain ⟨N82, e82, q82⟩ := q82
  have N82' := Fr.app N13' N82
  rcases q82 with ⟨hc83, rfl⟩ | ⟨hc84, hc85, rfl⟩ | ⟨hc86, hc87, rfl⟩
  ·
   show KEnds p e below s _ _ _ T82 (mkF m 12 #[.val (.int i0), .val (.int v1), .val (.int (1 : Int32))] [(.int (0 : Int32))])
   exact absurd hc83 (k_d_nxlt_eq hc14 (by decide))
  ·
   show KEnds p e below s _ _ _ T82 (mkF m 12 #[.val (.int i0), .val (.int v1), .val (.int (1 : Int32))] [(.int (0 : Int32))])
   exact absurd hc85 (k_d_nalt_eq hc14 (by decide))
  ·
   show KEnds p e below s _ _ _ T82 (mkF m 12 #[.val (.int i0), .val (.int v1), .val (.int (1 : Int32))] [(.int (1 : Int32))])
   refine k_iloadN X82 hx (hb hby at_12) rfl (pc' := 13) rfl ?_
   refine k_icmp_ne X82 hx (hb hby at_13) (pn := 16) rfl (py := 20) (by decide) (fun hc => absurd (by decide) hc) (fun _ => ?_)
   refine k_iconst X82 hx (hb hby at_16) (pc' := 17) rfl (z := (1 : Int32)) rfl ?_
   refine k_goto X82 hx (hb hby at_17) (pc' := 21) (by decide) ?_
   exact k_retN X82 hx (t := .boolean) Bd.returns (by simp) (hb hby at_21) hlk (by decide) (by decide) (z' := (1 : Int32)) rfl ⟨rfl, N82'⟩
 ·
  show KEnds p e below s _ _ _ T13 (mkF m 7 #[.val (.int i0), .val (.int v1), .unset] [(.int (1 : Int32))])
  refine k_istoreN X13 hx (hb hby at_7) (Ls' := #[.val (.int i0), .val (.int v1), .val (.int (1 : Int32))]) rfl (pc' := 8) rfl ?_
  refine k_iloadN X13 hx (hb hby at_8) rfl (pc' := 9) rfl ?_
  refine k_callS X13 hx hZ hown (hw _ (List.mem_of_getElem? (i := 4) rfl)) (hw _ (List.mem_of_getElem? (i := 5) rfl)) (hw _ (List.mem_of_getElem? (i := 6) rfl)) (hw _ (List.mem_of_getElem? (i := 7) rfl)) (by decide) (rm2_79 l Z a0 hw [] v1 h0 n0 Z0 ) (by decide) (by decide) e13 (by rw [hml]; rfl) (argsL := [(.int v1)]) (rest := []) (lenOf pd_0 rfl) rfl (W := 0) (Nat.le_refl _) rfl (hb hby at_9) (by decide) (by decide) (pc' := 12) rfl (fun T88 L88 r88 X88 q88 => ?_)
  obtain ⟨N88, e88, q88⟩ := q88
  have N88' := Fr.app N13' N88
  rcases q88 with ⟨hc89, rfl⟩ | ⟨hc90, hc91, rfl⟩ | ⟨hc92, hc93, rfl⟩
  ·
   show KEnds p e below s _ _ _ T88 (mkF m 12 #[.val (.int i0), .val (.int v1), .val (.int (1 : Int32))] [(.int (0 : Int32))])
   exact absurd hc89 (k_d_nxlt_eq hc16 (by decide))
  ·
   show KEnds p e below s _ _ _ T88 (mkF m 12 #[.val (.int i0), .val (.int v1), .val (.int (1 : Int32))] [(.int (0 : Int32))])
   exact absurd hc91 (k_d_nalt_eq hc16 (by decide))
  ·
   show KEnds p e below s _ _ _ T88 (mkF m 12 #[.val (.int i0), .val (.int v1), .val (.int (1 : Int32))] [(.int (1 : Int32))])
   refine k_iloadN X88 hx (hb hby at_12) rfl (pc' := 13) rfl ?_
   refine k_icmp_ne X88 hx (hb hby at_13) (pn := 16) rfl (py := 20) (by decide) (fun hc => absurd (by decide) hc) (fun _ => ?_)
   refine k_iconst X88 hx (hb hby at_16) (pc' := 17) rfl (z := (1 : Int32)) rfl ?_
   refine k_goto X88 hx (hb hby at_17) (pc' := 21) (by decide) ?_
   exact k_retN X88 hx (t := .boolean) Bd.returns (by simp) (hb hby at_21) hlk (by decide) (by decide) (z' := (1 : Int32)) rfl ⟨rfl, N88'⟩
 ·
  show KEnds p e below s _ _ _ T13 (mkF m 7 #[.val (.int i0), .val (.int v1), .unset] [(.int (1 : Int32))])
  refine k_istoreN X13 hx (hb hby at_7) (Ls' := #[.val (.int i0), .val (.int v1), .val (.int (1 : Int32))]) rfl (pc' := 8) rfl ?_
  refine k_iloadN X13 hx (hb hby at_8) rfl (pc' := 9) rfl ?_
  refine k_callS X13 hx hZ hown (hw _ (List.mem_of_getElem? (i := 4) rfl)) (hw _ (List.mem_of_getElem? (i := 5) rfl)) (hw _ (List.mem_of_getElem? (i := 6) rfl)) (hw _ (List.mem_of_getElem? (i := 7) rfl)) (by decide) (rm2_79 l Z a0 hw [] v1 h0 n0 Z0 ) (by decide) (by decide) e13 (by rw [hml]; rfl) (argsL := [(.int v1)]) (rest := []) (lenOf pd_0 rfl) rfl (W := 0) (Nat.le_refl _) rfl (hb hby at_9) (by decide) (by decide) (pc' := 12) rfl (fun T94 L94 r94 X94 q94 => ?_)
  obtain ⟨N94, e94, q94⟩ := q94
  have N94' := Fr.app N13' N94
  rcases q94 with ⟨hc95, rfl⟩ | ⟨hc96, hc97, rfl⟩ | ⟨hc98, hc99, rfl⟩
  ·
   show KEnds p e below s _ _ _ T94 (mkF m 12 #[.val (.int i0), .val (.int v1), .val (.int (1 : Int32))] [(.int (0 : Int32))])
   exact absurd hc95 (k_d_nxlt_eq hc19 (by decide))
  ·
   show KEnds p e below s _ _ _ T94 (mkF m 12 #[.val (.int i0), .val (.int v1), .val (.int (1 : Int32))] [(.int (0 : Int32))])
   exact absurd hc97 (k_d_nalt_eq hc19 (by decide))
  ·
   show KEnds p e below s _ _ _ T94 (mkF m 12 #[.val (.int i0), .val (.int v1), .val (.int (1 : Int32))] [(.int (1 : Int32))])
   refine k_iloadN X94 hx (hb hby at_12) rfl (pc' := 13) rfl ?_
   refine k_icmp_ne X94 hx (hb hby at_13) (pn := 16) rfl (py := 20) (by decide) (fun hc => absurd (by decide) hc) (fun _ => ?_)
   refine k_iconst X94 hx (hb hby at_16) (pc' := 17) rfl (z := (1 : Int32)) rfl ?_
   refine k_goto X94 hx (hb hby at_17) (pc' := 21) (by decide) ?_
   exact k_retN X94 hx (t := .boolean) Bd.returns (by simp) (hb hby at_21) hlk (by decide) (by decide) (z' := (1 : Int32)) rfl ⟨rfl, N94'⟩
 ·
  show KEnds p e below s _ _ _ T13 (mkF m 7 #[.val (.int i0), .val (.int v1), .unset] [(.int (1 : Int32))])
  refine k_istoreN X13 hx (hb hby at_7) (Ls' := #[.val (.int i0), .val (.int v1), .val (.int (1 : Int32))]) rfl (pc' := 8) rfl ?_
  refine k_iloadN X13 hx (hb hby at_8) rfl (pc' := 9) rfl ?_
  refine k_callS X13 hx hZ hown (hw _ (List.mem_of_getElem? (i := 4) rfl)) (hw _ (List.mem_of_getElem? (i := 5) rfl)) (hw _ (List.mem_of_getElem? (i := 6) rfl)) (hw _ (List.mem_of_getElem? (i := 7) rfl)) (by decide) (rm2_79 l Z a0 hw [] v1 h0 n0 Z0 ) (by decide) (by decide) e13 (by rw [hml]; rfl) (argsL := [(.int v1)]) (rest := []) (lenOf pd_0 rfl) rfl (W := 0) (Nat.le_refl _) rfl (hb hby at_9) (by decide) (by decide) (pc' := 12) rfl (fun T100 L100 r100 X100 q100 => ?_)
  obtain ⟨N100, e100, q100⟩ := q100
  have N100' := Fr.app N13' N100
  rcases q100 with ⟨hc101, rfl⟩ | ⟨hc102, hc103, rfl⟩ | ⟨hc104, hc105, rfl⟩
  ·
   show KEnds p e below s _ _ _ T100 (mkF m 12 #[.val (.int i0), .val (.int v1), .val (.int (1 : Int32))] [(.int (0 : Int32))])
   exact absurd hc101 (k_d_nxlt_eq hc23 (by decide))
  ·
   show KEnds p e below s _ _ _ T100 (mkF m 12 #[.val (.int i0), .val (.int v1), .val (.int (1 : Int32))] [(.int (0 : Int32))])
   exact absurd hc103 (k_d_nalt_eq hc23 (by decide))
  ·
   show KEnds p e below s _ _ _ T100 (mkF m 12 #[.val (.int i0), .val (.int v1), .val (.int (1 : Int32))] [(.int (1 : Int32))])
   refine k_iloadN X100 hx (hb hby at_12) rfl (pc' := 13) rfl ?_
   refine k_icmp_ne X100 hx (hb hby at_13) (pn := 16) rfl (py := 20) (by decide) (fun hc => absurd (by decide) hc) (fun _ => ?_)
   refine k_iconst X100 hx (hb hby at_16) (pc' := 17) rfl (z := (1 : Int32)) rfl ?_
   refine k_goto X100 hx (hb hby at_17) (pc' := 21) (by decide) ?_
   exact k_retN X100 hx (t := .boolean) Bd.returns (by simp) (hb hby at_21) hlk (by decide) (by decide) (z' := (1 : Int32)) rfl ⟨rfl, N100'⟩
 ·
  show KEnds p e below s _ _ _ T13 (mkF m 7 #[.val (.int i0), .val (.int v1), .unset] [(.int (1 : Int32))])
  refine k_istoreN X13 hx (hb hby at_7) (Ls' := #[.val (.int i0), .val (.int v1), .val (.int (1 : Int32))]) rfl (pc' := 8) rfl ?_
  refine k_iloadN X13 hx (hb hby at_8) rfl (pc' := 9) rfl ?_
  refine k_callS X13 hx hZ hown (hw _ (List.mem_of_getElem? (i := 4) rfl)) (hw _ (List.mem_of_getElem? (i := 5) rfl)) (hw _ (List.mem_of_getElem? (i := 6) rfl)) (hw _ (List.mem_of_getElem? (i := 7) rfl)) (by decide) (rm2_79 l Z a0 hw [] v1 h0 n0 Z0 ) (by decide) (by decide) e13 (by rw [hml]; rfl) (argsL := [(.int v1)]) (rest := []) (lenOf pd_0 rfl) rfl (W := 0) (Nat.le_refl _) rfl (hb hby at_9) (by decide) (by decide) (pc' := 12) rfl (fun T106 L106 r106 X106 q106 => ?_)
  obtain ⟨N106, e106, q106⟩ := q106
  have N106' := Fr.app N13' N106
  rcases q106 with ⟨hc107, rfl⟩ | ⟨hc108, hc109, rfl⟩ | ⟨hc110, hc111, rfl⟩
  ·
   show KEnds p e below s _ _ _ T106 (mkF m 12 #[.val (.int i0), .val (.int v1), .val (.int (1 : Int32))] [(.int (0 : Int32))])
   exact absurd hc107 (k_d_nxlt_eq hc28 (by decide))
  ·
   show KEnds p e below s _ _ _ T106 (mkF m 12 #[.val (.int i0), .val (.int v1), .val (.int (1 : Int32))] [(.int (0 : Int32))])
   exact absurd hc109 (k_d_nalt_eq hc28 (by decide))
  ·
   show KEnds p e below s _ _ _ T106 (mkF m 12 #[.val (.int i0), .val (.int v1), .val (.int (1 : Int32))] [(.int (1 : Int32))])
   refine k_iloadN X106 hx (hb hby at_12) rfl (pc' := 13) rfl ?_
   refine k_icmp_ne X106 hx (hb hby at_13) (pn := 16) rfl (py := 20) (by decide) (fun hc => absurd (by decide) hc) (fun _ => ?_)
   refine k_iconst X106 hx (hb hby at_16) (pc' := 17) rfl (z := (1 : Int32)) rfl ?_
   refine k_goto X106 hx (hb hby at_17) (pc' := 21) (by decide) ?_
   exact k_retN X106 hx (t := .boolean) Bd.returns (by simp) (hb hby at_21) hlk (by decide) (by decide) (z' := (1 : Int32)) rfl ⟨rfl, N106'⟩
 ·
  show KEnds p e below s _ _ _ T13 (mkF m 7 #[.val (.int i0), .val (.int v1), .unset] [(.int (1 : Int32))])
  refine k_istoreN X13 hx (hb hby at_7) (Ls' := #[.val (.int i0), .val (.int v1), .val (.int (1 : Int32))]) rfl (pc' := 8) rfl ?_
  refine k_iloadN X13 hx (hb hby at_8) rfl (pc' := 9) rfl ?_
  refine k_callS X13 hx hZ hown (hw _ (List.mem_of_getElem? (i := 4) rfl)) (hw _ (List.mem_of_getElem? (i := 5) rfl)) (hw _ (List.mem_of_getElem? (i := 6) rfl)) (hw _ (List.mem_of_getElem? (i := 7) rfl)) (by decide) (rm2_79 l Z a0 hw [] v1 h0 n0 Z0 ) (by decide) (by decide) e13 (by rw [hml]; rfl) (argsL := [(.int v1)]) (rest := []) (lenOf pd_0 rfl) rfl (W := 0) (Nat.le_refl _) rfl (hb hby at_9) (by decide) (by decide) (pc' := 12) rfl (fun T112 L112 r112 X112 q112 => ?_)
  obtain ⟨N112, e112, q112⟩ := q112
  have N112' := Fr.app N13' N112
  rcases q112 with ⟨hc113, rfl⟩ | ⟨hc114, hc115, rfl⟩ | ⟨hc116, hc117, rfl⟩
  ·
   show KEnds p e below s _ _ _ T112 (mkF m 12 #[.val (.int i0), .val (.int v1), .val (.int (1 : Int32))] [(.int (0 : Int32))])
   exact absurd hc113 (k_d_nxlt_eq hc34 (by decide))
  ·
   show KEnds p e below s _ _ _ T112 (mkF m 12 #[.val (.int i0), .val (.int v1), .val (.int (1 : Int32))] [(.int (0 : Int32))])
   exact absurd hc115 (k_d_nalt_eq hc34 (by decide))
  ·
   show KEnds p e below s _ _ _ T112 (mkF m 12 #[.val (.int i0), .val (.int v1), .val (.int (1 : Int32))] [(.int (1 : Int32))])
   refine k_iloadN X112 hx (hb hby at_12) rfl (pc' := 13) rfl ?_
   refine k_icmp_ne X112 hx (hb hby at_13) (pn := 16) rfl (py := 20) (by decide) (fun hc => absurd (by decide) hc) (fun _ => ?_)
   refine k_iconst X112 hx (hb hby at_16) (pc' := 17) rfl (z := (1 : Int32)) rfl ?_
   refine k_goto X112 hx (hb hby at_17) (pc' := 21) (by decide) ?_
   exact k_retN X112 hx (t := .boolean) Bd.returns (by simp) (hb hby at_21) hlk (by decide) (by decide) (z' := (1 : Int32)) rfl ⟨rfl, N112'⟩
 ·
  show KEnds p e below s _ _ _ T13 (mkF m 7 #[.val (.int i0), .val (.int v1), .unset] [(.int (1 : Int32))])
  refine k_istoreN X13 hx (hb hby at_7) (Ls' := #[.val (.int i0), .val (.int v1), .val (.int (1 : Int32))]) rfl (pc' := 8) rfl ?_
  refine k_iloadN X13 hx (hb hby at_8) rfl (pc' := 9) rfl ?_
  refine k_callS X13 hx hZ hown (hw _ (List.mem_of_getElem? (i := 4) rfl)) (hw _ (List.mem_of_getElem? (i := 5) rfl)) (hw _ (List.mem_of_getElem? (i := 6) rfl)) (hw _ (List.mem_of_getElem? (i := 7) rfl)) (by decide) (rm2_79 l Z a0 hw [] v1 h0 n0 Z0 ) (by decide) (by decide) e13 (by rw [hml]; rfl) (argsL := [(.int v1)]) (rest := []) (lenOf pd_0 rfl) rfl (W := 0) (Nat.le_refl _) rfl (hb hby at_9) (by decide) (by decide) (pc' := 12) rfl (fun T118 L118 r118 X118 q118 => ?_)
  obtain ⟨N118, e118, q118⟩ := q118
  have N118' := Fr.app N13' N118
  rcases q118 with ⟨hc119, rfl⟩ | ⟨hc120, hc121, rfl⟩ | ⟨hc122, hc123, rfl⟩
  ·
   show KEnds p e below s _ _ _ T118 (mkF m 12 #[.val (.int i0), .val (.int v1), .val (.int (1 : Int32))] [(.int (0 : Int32))])
   exact absurd hc119 (k_d_nxlt_eq hc41 (by decide))
  ·
   show KEnds p e below s _ _ _ T118 (mkF m 12 #[.val (.int i0), .val (.int v1), .val (.int (1 : Int32))] [(.int (0 : Int32))])
   exact absurd hc121 (k_d_nalt_eq hc41 (by decide))
  ·
   show KEnds p e below s _ _ _ T118 (mkF m 12 #[.val (.int i0), .val (.int v1), .val (.int (1 : Int32))] [(.int (1 : Int32))])
   refine k_iloadN X118 hx (hb hby at_12) rfl (pc' := 13) rfl ?_
   refine k_icmp_ne X118 hx (hb hby at_13) (pn := 16) rfl (py := 20) (by decide) (fun hc => absurd (by decide) hc) (fun _ => ?_)
   refine k_iconst X118 hx (hb hby at_16) (pc' := 17) rfl (z := (1 : Int32)) rfl ?_
   refine k_goto X118 hx (hb hby at_17) (pc' := 21) (by decide) ?_
   exact k_retN X118 hx (t := .boolean) Bd.returns (by simp) (hb hby at_21) hlk (by decide) (by decide) (z' := (1 : Int32)) rfl ⟨rfl, N118'⟩
 ·
  show KEnds p e below s _ _ _ T13 (mkF m 7 #[.val (.int i0), .val (.int v1), .unset] [(.int (1 : Int32))])
  refine k_istoreN X13 hx (hb hby at_7) (Ls' := #[.val (.int i0), .val (.int v1), .val (.int (1 : Int32))]) rfl (pc' := 8) rfl ?_
  refine k_iloadN X13 hx (hb hby at_8) rfl (pc' := 9) rfl ?_
  refine k_callS X13 hx hZ hown (hw _ (List.mem_of_getElem? (i := 4) rfl)) (hw _ (List.mem_of_getElem? (i := 5) rfl)) (hw _ (List.mem_of_getElem? (i := 6) rfl)) (hw _ (List.mem_of_getElem? (i := 7) rfl)) (by decide) (rm2_79 l Z a0 hw [] v1 h0 n0 Z0 ) (by decide) (by decide) e13 (by rw [hml]; rfl) (argsL := [(.int v1)]) (rest := []) (lenOf pd_0 rfl) rfl (W := 0) (Nat.le_refl _) rfl (hb hby at_9) (by decide) (by decide) (pc' := 12) rfl (fun T124 L124 r124 X124 q124 => ?_)
  obtain ⟨N124, e124, q124⟩ := q124
  have N124' := Fr.app N13' N124
  rcases q124 with ⟨hc125, rfl⟩ | ⟨hc126, hc127, rfl⟩ | ⟨hc128, hc129, rfl⟩
  ·
   show KEnds p e below s _ _ _ T124 (mkF m 12 #[.val (.int i0), .val (.int v1), .val (.int (1 : Int32))] [(.int (0 : Int32))])
   exact absurd hc125 (k_d_nxlt_eq hc49 (by decide))
  ·
   show KEnds p e below s _ _ _ T124 (mkF m 12 #[.val (.int i0), .val (.int v1), .val (.int (1 : Int32))] [(.int (0 : Int32))])
   exact absurd hc127 (k_d_nalt_eq hc49 (by decide))
  ·
   show KEnds p e below s _ _ _ T124 (mkF m 12 #[.val (.int i0), .val (.int v1), .val (.int (1 : Int32))] [(.int (1 : Int32))])
   refine k_iloadN X124 hx (hb hby at_12) rfl (pc' := 13) rfl ?_
   refine k_icmp_ne X124 hx (hb hby at_13) (pn := 16) rfl (py := 20) (by decide) (fun hc => absurd (by decide) hc) (fun _ => ?_)
   refine k_iconst X124 hx (hb hby at_16) (pc' := 17) rfl (z := (1 : Int32)) rfl ?_
   refine k_goto X124 hx (hb hby at_17) (pc' := 21) (by decide) ?_
   exact k_retN X124 hx (t := .boolean) Bd.returns (by simp) (hb hby at_21) hlk (by decide) (by decide) (z' := (1 : Int32)) rfl ⟨rfl, N124'⟩
 ·
  show KEnds p e below s _ _ _ T13 (mkF m 7 #[.val (.int i0), .val (.int v1), .unset] [(.int (1 : Int32))])
  refine k_istoreN X13 hx (hb hby at_7) (Ls' := #[.val (.int i0), .val (.int v1), .val (.int (1 : Int32))]) rfl (pc' := 8) rfl ?_
  refine k_iloadN X13 hx (hb hby at_8) rfl (pc' := 9) rfl ?_
  refine k_callS X13 hx hZ hown (hw _ (List.mem_of_getElem? (i := 4) rfl)) (hw _ (List.mem_of_getElem? (i := 5) rfl)) (hw _ (List.mem_of_getElem? (i := 6) rfl)) (hw _ (List.mem_of_getElem? (i := 7) rfl)) (by decide) (rm2_79 l Z a0 hw [] v1 h0 n0 Z0 ) (by decide) (by decide) e13 (by rw [hml]; rfl) (argsL := [(.int v1)]) (rest := []) (lenOf pd_0 rfl) rfl (W := 0) (Nat.le_refl _) rfl (hb hby at_9) (by decide) (by decide) (pc' := 12) rfl (fun T130 L130 r130 X130 q130 => ?_)
  obtain ⟨N130, e130, q130⟩ := q130
  have N130' := Fr.app N13' N130
  rcases q130 with ⟨hc131, rfl⟩ | ⟨hc132, hc133, rfl⟩ | ⟨hc134, hc135, rfl⟩
  ·
   show KEnds p e below s _ _ _ T130 (mkF m 12 #[.val (.int i0), .val (.int v1), .val (.int (1 : Int32))] [(.int (0 : Int32))])
   exact absurd hc131 (k_d_nxlt_eq hc58 (by decide))
  ·
   show KEnds p e below s _ _ _ T130 (mkF m 12 #[.val (.int i0), .val (.int v1), .val (.int (1 : Int32))] [(.int (0 : Int32))])
   exact absurd hc133 (k_d_nalt_eq hc58 (by decide))
  ·
   show KEnds p e below s _ _ _ T130 (mkF m 12 #[.val (.int i0), .val (.int v1), .val (.int (1 : Int32))] [(.int (1 : Int32))])
   refine k_iloadN X130 hx (hb hby at_12) rfl (pc' := 13) rfl ?_
   refine k_icmp_ne X130 hx (hb hby at_13) (pn := 16) rfl (py := 20) (by decide) (fun hc => absurd (by decide) hc) (fun _ => ?_)
   refine k_iconst X130 hx (hb hby at_16) (pc' := 17) rfl (z := (1 : Int32)) rfl ?_
   refine k_goto X130 hx (hb hby at_17) (pc' := 21) (by decide) ?_
   exact k_retN X130 hx (t := .boolean) Bd.returns (by simp) (hb hby at_21) hlk (by decide) (by decide) (z' := (1 : Int32)) rfl ⟨rfl, N130'⟩
 ·
  show KEnds p e below s _ _ _ T13 (mkF m 7 #[.val (.int i0), .val (.int v1), .unset] [(.int (0 : Int32))])
  refine k_istoreN X13 hx (hb hby at_7) (Ls' := #[.val (.int i0), .val (.int v1), .val (.int (0 : Int32))]) rfl (pc' := 8) rfl ?_
  refine k_iloadN X13 hx (hb hby at_8) rfl (pc' := 9) rfl ?_
  refine k_callS X13 hx hZ hown (hw _ (List.mem_of_getElem? (i := 4) rfl)) (hw _ (List.mem_of_getElem? (i := 5) rfl)) (hw _ (List.mem_of_getElem? (i := 6) rfl)) (hw _ (List.mem_of_getElem? (i := 7) rfl)) (by decide) (rm2_79 l Z a0 hw [] v1 h0 n0 Z0 ) (by decide) (by decide) e13 (by rw [hml]; rfl) (argsL := [(.int v1)]) (rest := []) (lenOf pd_0 rfl) rfl (W := 0) (Nat.le_refl _) rfl (hb hby at_9) (by decide) (by decide) (pc' := 12) rfl (fun T136 L136 r136 X136 q136 => ?_)
  obtain ⟨N136, e136, q136⟩ := q136
  have N136' := Fr.app N13' N136
  rcases q136 with ⟨hc137, rfl⟩ | ⟨hc138, hc139, rfl⟩ | ⟨hc140, hc141, rfl⟩
  ·
   show KEnds p e below s _ _ _ T136 (mkF m 12 #[.val (.int i0), .val (.int v1), .val (.int (0 : Int32))] [(.int (0 : Int32))])
   refine k_iloadN X136 hx (hb hby at_12) rfl (pc' := 13) rfl ?_
   refine k_icmp_ne X136 hx (hb hby at_13) (pn := 16) rfl (py := 20) (by decide) (fun hc => absurd (by decide) hc) (fun _ => ?_)
   refine k_iconst X136 hx (hb hby at_16) (pc' := 17) rfl (z := (1 : Int32)) rfl ?_
   refine k_goto X136 hx (hb hby at_17) (pc' := 21) (by decide) ?_
   exact k_retN X136 hx (t := .boolean) Bd.returns (by simp) (hb hby at_21) hlk (by decide) (by decide) (z' := (1 : Int32)) rfl ⟨rfl, N136'⟩
  ·
   show KEnds p e below s _ _ _ T136 (mkF m 12 #[.val (.int i0), .val (.int v1), .val (.int (0 : Int32))] [(.int (0 : Int32))])
   refine k_iloadN X136 hx (hb hby at_12) rfl (pc' := 13) rfl ?_
   refine k_icmp_ne X136 hx (hb hby at_13) (pn := 16) rfl (py := 20) (by decide) (fun hc => absurd (by decide) hc) (fun _ => ?_)
   refine k_iconst X136 hx (hb hby at_16) (pc' := 17) rfl (z := (1 : Int32)) rfl ?_
   refine k_goto X136 hx (hb hby at_17) (pc' := 21) (by decide) ?_
   exact k_retN X136 hx (t := .boolean) Bd.returns (by simp) (hb hby at_21) hlk (by decide) (by decide) (z' := (1 : Int32)) rfl ⟨rfl, N136'⟩
  ·
   show KEnds p e below s _ _ _ T136 (mkF m 12 #[.val (.int i0), .val (.int v1), .val (.int (0 : Int32))] [(.int (1 : Int32))])
   refine k_iloadN X136 hx (hb hby at_12) rfl (pc' := 13) rfl ?_
   refine k_icmp_ne X136 hx (hb hby at_13) (pn := 16) rfl (py := 20) (by decide) (fun _ => ?_) (fun hc => absurd hc (by decide))
   refine k_iconst X136 hx (hb hby at_20) (pc' := 21) rfl (z := (0 : Int32)) rfl ?_
   exfalso
   have := rng32 v1
   have := rng32 i0
   have q142 : (v1.toInt - i0.toInt) % 65536 = 0 ∧ 0 ≤ v1.toInt ∧ v1.toInt < 65536 := by rw [hv1]; exact c_i2c _
   have : (48 : Int32).toInt = 48 := by decide
   have q143 : ¬ v1.toInt = (48 : Int32).toInt := fun q => hc59 (Int32.toInt_inj.mp q)
   have : (49 : Int32).toInt = 49 := by decide
   have q144 : ¬ v1.toInt = (49 : Int32).toInt := fun q => hc60 (Int32.toInt_inj.mp q)
   have : (50 : Int32).toInt = 50 := by decide
   have q145 : ¬ v1.toInt = (50 : Int32).toInt := fun q => hc61 (Int32.toInt_inj.mp q)
   have : (51 : Int32).toInt = 51 := by decide
   have q146 : ¬ v1.toInt = (51 : Int32).toInt := fun q => hc62 (Int32.toInt_inj.mp q)
   have : (52 : Int32).toInt = 52 := by decide
   have q147 : ¬ v1.toInt = (52 : Int32).toInt := fun q => hc63 (Int32.toInt_inj.mp q)
   have : (53 : Int32).toInt = 53 := by decide
   have q148 : ¬ v1.toInt = (53 : Int32).toInt := fun q => hc64 (Int32.toInt_inj.mp q)
   have : (54 : Int32).toInt = 54 := by decide
   have q149 : ¬ v1.toInt = (54 : Int32).toInt := fun q => hc65 (Int32.toInt_inj.mp q)
   have : (55 : Int32).toInt = 55 := by decide
   have q150 : ¬ v1.toInt = (55 : Int32).toInt := fun q => hc66 (Int32.toInt_inj.mp q)
   have : (56 : Int32).toInt = 56 := by decide
   have q151 : ¬ v1.toInt = (56 : Int32).toInt := fun q => hc67 (Int32.toInt_inj.mp q)
   have : (57 : Int32).toInt = 57 := by decide
   have q152 : ¬ v1.toInt = (57 : Int32).toInt := fun q => hc68 (Int32.toInt_inj.mp q)
   have q153 := hc140; rw [Int32.lt_iff_toInt_lt] at q153
   have q154 := hc141; rw [Int32.lt_iff_toInt_lt] at q154
   omega
 ·
  show KEnds p e below s _ _ _ T13 (mkF m 7 #[.val (.int i0), .val (.int v1), .unset] [(.int (1 : Int32))])
  refine k_istoreN X13 hx (hb hby at_7) (Ls' := #[.val (.int i0), .val (.int v1), .val (.int (1 : Int32))]) rfl (pc' := 8) rfl ?_
  refine k_iloadN X13 hx (hb hby at_8) rfl (pc' := 9) rfl ?_
  refine k_callS X13 hx hZ hown (hw _ (List.mem_of_getElem? (i := 4) rfl)) (hw _ (List.mem_of_getElem? (i := 5) rfl)) (hw _ (List.mem_of_getElem? (i := 6) rfl)) (hw _ (List.mem_of_getElem? (i := 7) rfl)) (by decide) (rm2_79 l Z a0 hw [] v1 h0 n0 Z0 ) (by decide) (by decide) e13 (by rw [hml]; rfl) (argsL := [(.int v1)]) (rest := []) (lenOf pd_0 rfl) rfl (W := 0) (Nat.le_refl _) rfl (hb hby at_9) (by decide) (by decide) (pc' := 12) rfl (fun T155 L155 r155 X155 q155 => ?_)
  obtain ⟨N155, e155, q155⟩ := q155
  have N155' := Fr.app N13' N155
  rcases q155 with ⟨hc156, rfl⟩ | ⟨hc157, hc158, rfl⟩ | ⟨hc159, hc160, rfl⟩
  ·
   show KEnds p e below s _ _ _ T155 (mkF m 12 #[.val (.int i0), .val (.int v1), .val (.int (1 : Int32))] [(.int (0 : Int32))])
   exact absurd hc156 (k_d_nxlt_eq hc78 (by decide))
  ·
   show KEnds p e below s _ _ _ T155 (mkF m 12 #[.val (.int i0), .val (.int v1), .val (.int (1 : Int32))] [(.int (0 : Int32))])
   exact absurd hc158 (k_d_nalt_eq hc78 (by decide))
  ·
   show KEnds p e below s _ _ _ T155 (mkF m 12 #[.val (.int i0), .val (.int v1), .val (.int (1 : Int32))] [(.int (1 : Int32))])
   refine k_iloadN X155 hx (hb hby at_12) rfl (pc' := 13) rfl ?_
   refine k_icmp_ne X155 hx (hb hby at_13) (pn := 16) rfl (py := 20) (by decide) (fun hc => absurd (by decide) hc) (fun _ => ?_)
   refine k_iconst X155 hx (hb hby at_16) (pc' := 17) rfl (z := (1 : Int32)) rfl ?_
   refine k_goto X155 hx (hb hby at_17) (pc' := 21) (by decide) ?_
   exact k_retN X155 hx (t := .boolean) Bd.returns (by simp) (hb hby at_21) hlk (by decide) (by decide) (z' := (1 : Int32)) rfl ⟨rfl, N155'⟩
set_option maxRecDepth 65536 in
set_option maxHeartbeats 40000000 in
theorem comes_1 {Post : Tables → Env → Array Value → State → Outcome → State → Prop} (hpost : ∀ tb e args s v u, (limb_1_1.after args s (.returned v) u = true ∧ limb_1_2.after args s (.returned v) u = true ∧ True) → FrameEnd s (.returned v) u (Jvm.fieldLocs frame_1_writes args s ++ Jvm.arrayLocs frame_1_arrays args s ++ Jvm.staticLocs frame_1_statics s) 0 0 → Post tb e args s (.returned v) u) :
    ArmFor flags0 classFile x code maxLocals ret World_1 tables_1 room_1 Calls_1 rest_1 Pre_1 Post := by
  intro l hfl _ _ p e ha hc hk s m args below hf hA hF happ hP
  obtain ⟨hcalls, hrest, hpre⟩ := hP
  obtain ⟨-, -, -, hnamed, -, -, -, hat⟩ := (Spec.applies_iff hf).mp happ
  obtain ⟨hg, hn⟩ := and_e (Cond.before_iff.mp (show (Jvm.Cond.and given_1 narrow_1).before args s = true from hpre))
  obtain ⟨g161, g162⟩ := and_e hg
  obtain ⟨w0, rfl⟩ : ∃ w0 : Value, args = #[w0] := by
    have hs : args.size = 1 := by simpa [Cond.value, given_1] using g161
    obtain ⟨L⟩ := args
    match L, hs with
    | [w0], _ => exact ⟨w0, rfl⟩
  have hw := fun d (hd : d ∈ tables_1) => atoms_spec (ws := Jvm.Cond.code x code maxLocals ret :: tables_1) hat d (List.mem_cons_of_mem _ hd)
  obtain ⟨i0, ei0⟩ := is_v g162
  obtain rfl : w0 = (.int i0) := Option.some.inj ei0
  obtain ⟨n, o, h1, h2, h3, _, L, rfl, ⟨rfl, N⟩, hq⟩ := rm0 l s _ hw tables_1 i0 s.heap s.heap.size (Nat.le_refl _) p e ha hc hk s m _ below hf ((Spec.applies_iff_loose hf).mp happ).1 ⟨rfl, State.Warmed39.refl s, rfl⟩ trivial
  refine ⟨n, _, h1, h2, h3, hpost _ _ _ _ _ _ ⟨Cond.after_iff.mpr rfl, Cond.after_iff.mpr (eq_i res_at (Term.int_eval (1)) rfl), trivial⟩ ⟨hq.1, hq.2.1, (hq.2.2.sift fun y hy => Or.inr (N y hy)).mono (by decide) (by decide)⟩⟩
theorem main_1_1 : Claimed_1_1 := comes_1 fun _ _ _ _ _ _ h hF => ⟨h.1, hF⟩
theorem main_1_2 : Claimed_1_2 := comes_1 fun _ _ _ _ _ _ h hF => ⟨h.2.1, hF⟩
end Jvm.Pilot.@@N@@
namespace Jvm.Pilot.@@N@@
open Jvm Jvm.ClassFile Sem Op Lib Jvm.Free Jvm.Stand Jvm.Pilot.@@N@@.Jvm.D
/-! MADE BY PROGRAM (witnessworld.py) out of the Statement's table words and the real class files: 9 classes; the members and pool entries that the words name. The judged class is class 1, her method 2. -/
namespace start1
open Jvm.ClassFile
def u (s : String) : CpInfo := .utf8 (stringToUtf16 s)
/-- a pool by its gaps: so many unusable entries, then the entry; so many at the end -/
def gap : Nat → List CpInfo → List CpInfo
  | 0, r => r
  | n + 1, r => .unusable :: gap n r
def poolList (es : List (Nat × CpInfo)) (last : Nat) : List CpInfo := es.foldr (fun e r => gap e.1 (e.2 :: r)) (gap last [])
def pool (es : List (Nat × CpInfo)) (last : Nat) : Array CpInfo := ⟨poolList es last⟩
def fileOf (pool : Array CpInfo) (this : Nat) (attrs : Array Attribute := #[]) (ms : Array MethodInfo := #[]) (fl : Nat := 33) (sup : Nat := 0) (ifs : Array Nat := #[]) (fds : Array FieldInfo := #[]) : ClassFile where
  minorVersion := 0
  majorVersion := 65
  constantPool := pool
  accessFlags := fl
  thisClass := this
  superClass := sup
  interfaces := ifs
  fields := fds
  methods := ms
  attributes := attrs
def plain (name : String) (sup : Option ClassId) : Class where
  name := name
  kind := .ordinary
  loader := none
  accessFlags := 33
  super := sup
  interfaces := #[]
  cf := none
  fields := #[]
  methods := #[]
  instanceTypes := #[]
  staticTypes := #[]
  resolved := #[]
  callSites := []
  init := .initialized
  statics := none
  mirror := none

def pool0 : Array CpInfo := pool [(5, u "<init>"), (0, u "()V"), (1, .class_ 10), (1, u "java/lang/Object")] 113

def k0m0 : Method := { name := "<init>", desc := "()V", sig := { parameters := [], returnType := none }, accessFlags := 1, code := none }
/-- java/lang/Object -/
def k0 : Class := { plain "java/lang/Object" none with
  accessFlags := 33
  interfaces := #[]
  cf := some (fileOf pool0 8 #[] #[{ accessFlags := 1, nameIndex := 5, descriptorIndex := 6, attributes := #[] }] 33 0 #[] #[])
  fields := #[]
  methods := #[k0m0]
  instanceTypes := #[]
  staticTypes := #[]
  resolved := Array.replicate 124 none
  statics := none }

def pool1 : Array CpInfo := pool [(2, .class_ 4), (1, u "java/lang/Object"), (0, u "<init>"), (0, u "()V"), (0, .methodref 8 9), (0, .class_ 10), (0, .nameAndType 11 12), (0, u "com/example/halter/halter/WholeNumbersIsDigitPinLaw"), (0, u "oneOfTheTen"), (0, u "(C)Z"), (0, .methodref 14 15), (0, .class_ 16), (0, .nameAndType 17 12), (0, u "com/example/halter/halter/WholeNumbers"), (0, u "isDigit"), (3, u "law"), (0, u "(I)Z")] 2

def k1m0 : Method := { name := "<init>", desc := "()V", sig := { parameters := [], returnType := none }, accessFlags := 2, code := none }
def k1c1 : Code := { maxStack := 2, maxLocals := 1, code := method_2_code, exceptionTable := #[], attributes := #[] }
def k1m1 : Method := { name := "oneOfTheTen", desc := "(C)Z", sig := { parameters := [.char], returnType := some .boolean }, accessFlags := 10, code := some k1c1 }
def k1c2 : Code := { maxStack := 2, maxLocals := 3, code := code, exceptionTable := #[], attributes := #[] }
def k1m2 : Method := { name := "law", desc := "(I)Z", sig := { parameters := [.int], returnType := some .boolean }, accessFlags := 9, code := some k1c2 }
/-- com/example/halter/halter/WholeNumbersIsDigitPinLaw -/
def k1 : Class := { plain "com/example/halter/halter/WholeNumbersIsDigitPinLaw" (some 0) with
  accessFlags := 49
  interfaces := #[]
  cf := some (fileOf pool1 8 #[] #[{ accessFlags := 2, nameIndex := 5, descriptorIndex := 6, attributes := #[] }, { accessFlags := 10, nameIndex := 11, descriptorIndex := 12, attributes := #[] }, { accessFlags := 9, nameIndex := 21, descriptorIndex := 22, attributes := #[] }] 49 2 #[] #[])
  fields := #[]
  methods := #[k1m0, k1m1, k1m2]
  instanceTypes := #[]
  staticTypes := #[]
  resolved := Array.replicate 25 none
  statics := none }

def pool2 : Array CpInfo := pool [(2, .class_ 4), (1, u "java/lang/Object"), (0, u "<init>"), (0, u "()V"), (17, .class_ 26), (1, u "com/example/halter/halter/WholeNumbers"), (0, u "isDigit"), (0, u "(C)Z")] 41

def k2m0 : Method := { name := "<init>", desc := "()V", sig := { parameters := [], returnType := none }, accessFlags := 2, code := none }
def k2c1 : Code := { maxStack := 2, maxLocals := 1, code := prog_27_method_4_code, exceptionTable := #[], attributes := #[] }
def k2m1 : Method := { name := "isDigit", desc := "(C)Z", sig := { parameters := [.char], returnType := some .boolean }, accessFlags := 8, code := some k2c1 }
/-- com/example/halter/halter/WholeNumbers -/
def k2 : Class := { plain "com/example/halter/halter/WholeNumbers" (some 0) with
  accessFlags := 33
  interfaces := #[]
  cf := some (fileOf pool2 24 #[] #[{ accessFlags := 2, nameIndex := 5, descriptorIndex := 6, attributes := #[] }, { accessFlags := 8, nameIndex := 27, descriptorIndex := 28, attributes := #[] }] 33 2 #[] #[])
  fields := #[]
  methods := #[k2m0, k2m1]
  instanceTypes := #[]
  staticTypes := #[]
  resolved := Array.replicate 70 none
  statics := none }

def pool3 : Array CpInfo := pool [(1, u "java/lang/Cloneable"), (0, .class_ 1), (0, u "java/lang/Object"), (0, .class_ 3)] 3

/-- java/lang/Cloneable -/
def k3 : Class := { plain "java/lang/Cloneable" (some 0) with
  accessFlags := 1537
  interfaces := #[]
  cf := some (fileOf pool3 2 #[] #[] 1537 4 #[] #[])
  fields := #[]
  methods := #[]
  instanceTypes := #[]
  staticTypes := #[]
  resolved := Array.replicate 8 none
  statics := none }

def pool4 : Array CpInfo := pool [(1, u "java/io/Serializable"), (0, .class_ 1), (0, u "java/lang/Object"), (0, .class_ 3)] 3

/-- java/io/Serializable -/
def k4 : Class := { plain "java/io/Serializable" (some 0) with
  accessFlags := 1537
  interfaces := #[]
  cf := some (fileOf pool4 2 #[] #[] 1537 4 #[] #[])
  fields := #[]
  methods := #[]
  instanceTypes := #[]
  staticTypes := #[]
  resolved := Array.replicate 8 none
  statics := none }

/-- the primitive byte -/
def k5 : Class := { plain "byte" none with kind := .primitive 'B', accessFlags := 0x411 }
/-- [B -/
def k6 : Class := { plain "[B" (some 0) with kind := .array 5 .byte, interfaces := #[3, 4], accessFlags := 1041 }

/-- the primitive int -/
def k7 : Class := { plain "int" none with kind := .primitive 'I', accessFlags := 0x411 }
/-- [I -/
def k8 : Class := { plain "[I" (some 0) with kind := .array 7 .int, interfaces := #[3, 4], accessFlags := 1041 }

def heap : Heap := #[]
def classes : Array Class := #[k0, k1, k2, k3, k4, k5, k6, k7, k8]
def interned : List (Array UInt16 × Addr) := []
def slotsUsed : Nat := 0
def theMethod : MethodId := ⟨1, 2⟩
def args0 : Array Value := #[.int 5]
def aboutOver (below : List Frame) : State where
  vm := { classes := classes, interned := interned.toArray }
  heap := heap
  slotsUsed := slotsUsed
  threads := #[{ frames := .invoking theMethod args0 :: below }]
def below0 : List Frame := [.native { method := ⟨0, 0⟩, args := #[] }]
def about1 : State := aboutOver below0
def p0 : Program := .bare "" "" ""
def e0 : Env := launch0.env 0 0 0
theorem w_frames : about1.frames = Frame.invoking theMethod args0 :: below0 := rfl
set_option maxRecDepth 65536 in
theorem w_args : argsFit about1.vm theMethod args0 = true := by decide +kernel
set_option maxRecDepth 65536 in
theorem w_heap : heapFits about1 = true := by decide +kernel
set_option maxRecDepth 65536 in
theorem w_runnable : about1.curStatus? = some .runnable := by decide +kernel
set_option maxRecDepth 65536 in
theorem w_alone : about1.alone = true := by decide +kernel
set_option maxRecDepth 65536 in
theorem w_named : about1.methodNamed? x = some theMethod := by decide +kernel
set_option maxRecDepth 65536 in
theorem w_hears : about1.hears theMethod below0 = true := by decide +kernel
set_option maxRecDepth 65536 in
theorem w_ripe : about1.ripe theMethod args0 below0 = true := by decide +kernel
theorem w_running : about1.status = .running := rfl
set_option maxRecDepth 65536 in
theorem w_room : about1.hasRoom e0.platform room_1 = true :=
  launch0.hasRoom_least _ room_1 (by decide +kernel) (by decide +kernel) (by decide +kernel) (by decide +kernel) (by decide +kernel) (by decide +kernel)
theorem allAtoms_all (ts : List Jvm.Cond) (a : Array Jvm.Value) (st : Jvm.State) : (allAtoms ts).before a st = ts.all (fun c => c.before a st) := by
  induction ts with
  | nil => rfl
  | cons c t ih =>
    show (Jvm.Cond.and c (allAtoms t)).before a st = _
    rw [Jvm.Cond.before_and, ih, List.all_cons]
def words1 : List Jvm.Cond := Jvm.Cond.code x code maxLocals ret :: tables_1
/-- a 'code' word, met by the world's own term for the bytes: nothing is compared byte by byte -/
theorem code_word {y : MethodName} {bytes : ByteArray} {mx : Nat} {rt : Option FieldType} {a : Array Value} {s : State} {m : MethodId} {meth : Method} {c : Code} (h1 : s.methodNamed? y = some m) (h2 : s.vm.method? m = some meth) (h3 : meth.code = some c) (h4 : c.code = bytes)
    (h5 : (c.maxLocals == mx && c.exceptionTable.isEmpty && decide (c.maxStack ≤ mostOperands) && decide (meth.sig.returnType = rt) && !meth.locks && decide (parseMethodDescriptor y.desc = some meth.sig)) = true) : (Jvm.Cond.code y bytes mx rt).before a s = true := by
  simp only [Bool.and_eq_true, beq_iff_eq, Bool.not_eq_true', decide_eq_true_eq] at h5
  obtain ⟨⟨⟨⟨⟨g1, g2⟩, g3⟩, g4⟩, g5⟩, g6⟩ := h5
  simp [Cond.before, Cond.holds, Cond.value, h1, h2, h3, h4, g1, g2, g3, g4, g5, g6]
def isCode : Jvm.Cond → Bool
  | .code _ _ _ _ => true
  | _ => false
theorem all_split {L : List Jvm.Cond} {P : Jvm.Cond → Bool} (h1 : L.all (fun c => isCode c || P c) = true) (h2 : ∀ c ∈ L.filter isCode, P c = true) : L.all P = true := by
  refine List.all_eq_true.mpr fun c hc => ?_
  have h := List.all_eq_true.mp h1 c hc
  rcases Bool.eq_false_or_eq_true (isCode c) with hi | hi
  · exact h2 c (List.mem_filter.mpr ⟨hc, hi⟩)
  · simpa [hi] using h
set_option maxRecDepth 65536 in
theorem w_c0 : (Jvm.Cond.code x code maxLocals ret).before args0 about1 = true := code_word (m := ⟨1, 2⟩) (meth := k1m2) (c := k1c2) (by decide +kernel) rfl rfl rfl (by decide +kernel)
set_option maxRecDepth 65536 in
theorem w_c1 : (Jvm.Cond.code ({ cls := "com/example/halter/halter/WholeNumbersIsDigitPinLaw", name := "oneOfTheTen", desc := "(C)Z" } : Jvm.MethodName) method_2_code (1 : Nat) (Option.some Jvm.ClassFile.FieldType.boolean)).before args0 about1 = true := code_word (m := ⟨1, 1⟩) (meth := k1m1) (c := k1c1) (by decide +kernel) rfl rfl rfl (by decide +kernel)
set_option maxRecDepth 65536 in
theorem w_c2 : (Jvm.Cond.code ({ cls := "com/example/halter/halter/WholeNumbers", name := "isDigit", desc := "(C)Z" } : Jvm.MethodName) prog_27_method_4_code (1 : Nat) (Option.some Jvm.ClassFile.FieldType.boolean)).before args0 about1 = true := code_word (m := ⟨2, 1⟩) (meth := k2m1) (c := k2c1) (by decide +kernel) rfl rfl rfl (by decide +kernel)
def codes1 : List Jvm.Cond := [Jvm.Cond.code x code maxLocals ret, Jvm.Cond.code ({ cls := "com/example/halter/halter/WholeNumbersIsDigitPinLaw", name := "oneOfTheTen", desc := "(C)Z" } : Jvm.MethodName) method_2_code (1 : Nat) (Option.some Jvm.ClassFile.FieldType.boolean), Jvm.Cond.code ({ cls := "com/example/halter/halter/WholeNumbers", name := "isDigit", desc := "(C)Z" } : Jvm.MethodName) prog_27_method_4_code (1 : Nat) (Option.some Jvm.ClassFile.FieldType.boolean)]
set_option maxRecDepth 65536 in
theorem codes_eq : words1.filter isCode = codes1 := rfl
theorem w_codes : ∀ c ∈ words1.filter isCode, c.before args0 about1 = true := by
  rw [codes_eq]
  intro c hc
  simp only [codes1, List.mem_cons, List.not_mem_nil, or_false] at hc
  rcases hc with rfl | rfl | rfl
  · exact w_c0
  · exact w_c1
  · exact w_c2
set_option maxRecDepth 65536 in
theorem w_t1 : words1.all (fun c => isCode c || c.before args0 about1) = true := by decide +kernel
theorem w_tables : (allAtoms (Jvm.Cond.code x code maxLocals ret :: tables_1)).before args0 about1 = true := by
  rw [allAtoms_all]
  show words1.all (fun c => c.before args0 about1) = true
  refine all_split ?_ w_codes
  rw [w_t1]
set_option maxRecDepth 65536 in
theorem w_case : (Jvm.Cond.and given_1 narrow_1).before args0 about1 = true := by decide +kernel
theorem w_applies : (headSpec (Jvm.Cond.code x code maxLocals ret :: tables_1) room_1).applies x e0.platform about1 = true :=
  (Spec.applies_iff w_frames).mpr ⟨w_running, w_runnable, w_alone, w_named, w_hears, w_ripe, w_room, w_tables⟩
theorem atStart : AtStart classFile x code maxLocals ret World_1 tables_1 room_1 Calls_1 rest_1 Pre_1 launch0 p0 e0 about1 theMethod args0 below0 :=
  ⟨lists_1, trivial, launch0.admits_env _ _ _, launch0.least_env, fairChoices_fair.cas, fairChoices_fair.clock, w_frames, w_args, w_heap, w_applies, trivial, trivial, w_case⟩
end start1
theorem witness_1 : WitnessClaimed_1 := ⟨start1.p0, start1.e0, start1.about1, start1.theMethod, start1.args0, start1.below0, start1.atStart⟩
end Jvm.Pilot.@@N@@
