import JvmDerived
import JvmDerived.Pilot.@@N@@Statement
import JvmDerived.Pilot.@@N@@Code
set_option linter.unusedVariables false
set_option linter.unusedSimpArgs false
namespace Jvm.OwnK
open Sem ClassFile Op Lib Jvm.Stand Jvm.Free Jvm.LawKit Jvm.RoadKit
section
variable {p : Program} {l : Launch} {e : Env} {R : Room} {s : State} {m : MethodId} {args : Array Value} {below : List Frame} {meth : Method} {c : Code} {T : State} {locs : List Loc} {cells slots : Nat} {Cn Sn : Nat} {Q : Option Value → Heap → List Loc → Prop}
/-- from the frame f the run comes to an end that Q takes -/
def KEnds (p : Program) (e : Env) (below : List Frame) (s : State) (Cn Sn : Nat) (Q : Option Value → Heap → List Loc → Prop) (T : State) (f : JFrame) : Prop :=
  ∃ s₂ o, Steps p.tables e below (T.setTop f) s₂ ∧ s₂.status = .running ∧ Ended s₂ below o ∧ ∃ v L, o = .returned v ∧ Q v s₂.heap L ∧ FrameEnd s o s₂ L Cn Sn
theorem k_via {T' : State} {f f' : JFrame} (st : ∀ t, Steps p.tables e below (T'.setTop f') t → Steps p.tables e below (T.setTop f) t) (k : KEnds p e below s Cn Sn Q T' f') : KEnds p e below s Cn Sn Q T f := by
  obtain ⟨s₂, o, h, r⟩ := k
  exact ⟨s₂, o, st _ h, r⟩
theorem k_iloadN (X : Stand p l e R s m args below meth c T locs cells slots) (hx : p.tables.exec = Jvm.exec) {pc pc' : Nat} {Ls : Array Slot} {St : List Value} {i : Fin 4} {v : Int32} (hd : decode c.code pc = .ok (.iload_n i, 1)) (hl : Ls[i.val]? = some (.val (.int v))) (hpc : pc + 1 = pc') (k : KEnds p e below s Cn Sn Q T (mkF m pc' Ls (.int v :: St))) : KEnds p e below s Cn Sn Q T (mkF m pc Ls (St)) := by
  subst hpc; exact k_via (fun t h => XS.iloadN X.here hx rfl hd hl h) k
theorem k_iload (X : Stand p l e R s m args below meth c T locs cells slots) (hx : p.tables.exec = Jvm.exec) {pc pc' : Nat} {Ls : Array Slot} {St : List Value} {i : Nat} {v : Int32} (hd : decode c.code pc = .ok (.iload i, 2)) (hl : Ls[i]? = some (.val (.int v))) (hpc : pc + 2 = pc') (k : KEnds p e below s Cn Sn Q T (mkF m pc' Ls (.int v :: St))) : KEnds p e below s Cn Sn Q T (mkF m pc Ls (St)) := by
  subst hpc; exact k_via (fun t h => XS.iload X.here hx rfl hd hl h) k
theorem k_istoreN (X : Stand p l e R s m args below meth c T locs cells slots) (hx : p.tables.exec = Jvm.exec) {pc pc' : Nat} {Ls : Array Slot} {St : List Value} {i : Fin 4} {v : Int32} {Ls' : Array Slot} (hd : decode c.code pc = .ok (.istore_n i, 1)) (hl : storeLocals Ls i.val (.int v) = some Ls') (hpc : pc + 1 = pc') (k : KEnds p e below s Cn Sn Q T (mkF m pc' Ls' (St))) : KEnds p e below s Cn Sn Q T (mkF m pc Ls (.int v :: St)) := by
  subst hpc; exact k_via (fun t h => XS.istoreN X.here hx rfl hd rfl hl h) k
theorem k_istore (X : Stand p l e R s m args below meth c T locs cells slots) (hx : p.tables.exec = Jvm.exec) {pc pc' : Nat} {Ls : Array Slot} {St : List Value} {i : Nat} {v : Int32} {Ls' : Array Slot} (hd : decode c.code pc = .ok (.istore i, 2)) (hl : storeLocals Ls i (.int v) = some Ls') (hpc : pc + 2 = pc') (k : KEnds p e below s Cn Sn Q T (mkF m pc' Ls' (St))) : KEnds p e below s Cn Sn Q T (mkF m pc Ls (.int v :: St)) := by
  subst hpc; exact k_via (fun t h => XS.istore X.here hx rfl hd rfl hl h) k
theorem k_iconst (X : Stand p l e R s m args below meth c T locs cells slots) (hx : p.tables.exec = Jvm.exec) {pc pc' : Nat} {Ls : Array Slot} {St : List Value} {i : Int} {z : Int32} (hd : decode c.code pc = .ok (.iconst i, 1)) (hpc : pc + 1 = pc') (hz : Int32.ofInt i = z) (k : KEnds p e below s Cn Sn Q T (mkF m pc' Ls (.int z :: St))) : KEnds p e below s Cn Sn Q T (mkF m pc Ls St) := by
  subst hpc hz; exact k_via (fun t h => XS.iconst X.here hx rfl hd h) k
theorem k_sipush (X : Stand p l e R s m args below meth c T locs cells slots) (hx : p.tables.exec = Jvm.exec) {pc pc' : Nat} {Ls : Array Slot} {St : List Value} {i : Int} {z : Int32} (hd : decode c.code pc = .ok (.sipush i, 3)) (hpc : pc + 3 = pc') (hz : (Int16.ofInt i).toInt32 = z) (k : KEnds p e below s Cn Sn Q T (mkF m pc' Ls (.int z :: St))) : KEnds p e below s Cn Sn Q T (mkF m pc Ls St) := by
  subst hpc hz; exact k_via (fun t h => XS.sipush X.here hx rfl hd h) k
theorem k_iandL (X : Stand p l e R s m args below meth c T locs cells slots) (hx : p.tables.exec = Jvm.exec) {pc pc' : Nat} {Ls : Array Slot} {St : List Value} {x y : Int32} {z : Int32} (hd : decode c.code pc = .ok (.iand, 1))  (hpc : pc + 1 = pc') (hz : x &&& y = z) (k : KEnds p e below s Cn Sn Q T (mkF m pc' Ls (.int z :: St))) : KEnds p e below s Cn Sn Q T (mkF m pc Ls (.int y :: .int x :: St)) := by
  subst hpc hz; exact k_via (fun t h => XS.iand X.here hx rfl hd rfl h) k
theorem k_iand (X : Stand p l e R s m args below meth c T locs cells slots) (hx : p.tables.exec = Jvm.exec) {pc pc' : Nat} {Ls : Array Slot} {St : List Value} {x y : Int32} (hd : decode c.code pc = .ok (.iand, 1))  (hpc : pc + 1 = pc') (k : ∀ z : Int32, z = x &&& y → KEnds p e below s Cn Sn Q T (mkF m pc' Ls (.int z :: St))) : KEnds p e below s Cn Sn Q T (mkF m pc Ls (.int y :: .int x :: St)) := by
  subst hpc; exact k_via (fun t h => XS.iand X.here hx rfl hd rfl h) (k _ rfl)
theorem k_i2b (X : Stand p l e R s m args below meth c T locs cells slots) (hx : p.tables.exec = Jvm.exec) {pc pc' : Nat} {Ls : Array Slot} {St : List Value} {x : Int32} (hd : decode c.code pc = .ok (.i2b, 1))  (hpc : pc + 1 = pc') (k : ∀ z : Int32, z = x.toInt8.toInt32 → KEnds p e below s Cn Sn Q T (mkF m pc' Ls (.int z :: St))) : KEnds p e below s Cn Sn Q T (mkF m pc Ls (.int x :: St)) := by
  subst hpc; exact k_via (fun t h => XS.i2b X.here hx rfl hd rfl h) (k _ rfl)
theorem k_goto (X : Stand p l e R s m args below meth c T locs cells slots) (hx : p.tables.exec = Jvm.exec) {pc pc' : Nat} {Ls : Array Slot} {St : List Value} {o : Int} (hd : decode c.code pc = .ok (.goto o, 3)) (hp : (pc : Int) + o = (pc' : Int)) (k : KEnds p e below s Cn Sn Q T (mkF m pc' Ls St)) : KEnds p e below s Cn Sn Q T (mkF m pc Ls St) :=
  k_via (fun t h => XS.goto X.here hx rfl (pc0 := pc) rfl hd (by omega) (by omega) h) k
theorem k_icmp_lt (X : Stand p l e R s m args below meth c T locs cells slots) (hx : p.tables.exec = Jvm.exec) {pc pn py : Nat} {Ls : Array Slot} {St : List Value} {x y : Int32} {o : Int} (hd : decode c.code pc = .ok (.if_icmp .lt o, 3)) (hn : pc + 3 = pn) (hp : (pc : Int) + o = (py : Int)) (ky : x < y → KEnds p e below s Cn Sn Q T (mkF m py Ls St)) (kn : ¬ x < y → KEnds p e below s Cn Sn Q T (mkF m pn Ls St)) : KEnds p e below s Cn Sn Q T (mkF m pc Ls (.int y :: .int x :: St)) := by
  subst hn
  by_cases hc : x < y
  · exact k_via (fun t h => XS.icmpYes X.here hx rfl (pc0 := pc) rfl hd rfl (tlt hc).1 (by omega) (by omega) h) (ky hc)
  · exact k_via (fun t h => XS.icmpNo X.here hx rfl hd rfl (flt hc).1 h) (kn hc)
theorem k_icmp_ge (X : Stand p l e R s m args below meth c T locs cells slots) (hx : p.tables.exec = Jvm.exec) {pc pn py : Nat} {Ls : Array Slot} {St : List Value} {x y : Int32} {o : Int} (hd : decode c.code pc = .ok (.if_icmp .ge o, 3)) (hn : pc + 3 = pn) (hp : (pc : Int) + o = (py : Int)) (ky : ¬ x < y → KEnds p e below s Cn Sn Q T (mkF m py Ls St)) (kn : x < y → KEnds p e below s Cn Sn Q T (mkF m pn Ls St)) : KEnds p e below s Cn Sn Q T (mkF m pc Ls (.int y :: .int x :: St)) := by
  subst hn
  by_cases hc : x < y
  · exact k_via (fun t h => XS.icmpNo X.here hx rfl hd rfl (tlt hc).2.1 h) (kn hc)
  · exact k_via (fun t h => XS.icmpYes X.here hx rfl (pc0 := pc) rfl hd rfl (flt hc).2.1 (by omega) (by omega) h) (ky hc)
theorem k_icmp_gt (X : Stand p l e R s m args below meth c T locs cells slots) (hx : p.tables.exec = Jvm.exec) {pc pn py : Nat} {Ls : Array Slot} {St : List Value} {x y : Int32} {o : Int} (hd : decode c.code pc = .ok (.if_icmp .gt o, 3)) (hn : pc + 3 = pn) (hp : (pc : Int) + o = (py : Int)) (ky : y < x → KEnds p e below s Cn Sn Q T (mkF m py Ls St)) (kn : ¬ y < x → KEnds p e below s Cn Sn Q T (mkF m pn Ls St)) : KEnds p e below s Cn Sn Q T (mkF m pc Ls (.int y :: .int x :: St)) := by
  subst hn
  by_cases hc : y < x
  · exact k_via (fun t h => XS.icmpYes X.here hx rfl (pc0 := pc) rfl hd rfl (tlt hc).2.2.1 (by omega) (by omega) h) (ky hc)
  · exact k_via (fun t h => XS.icmpNo X.here hx rfl hd rfl (flt hc).2.2.1 h) (kn hc)
theorem k_if_eq (X : Stand p l e R s m args below meth c T locs cells slots) (hx : p.tables.exec = Jvm.exec) {pc pn py : Nat} {Ls : Array Slot} {St : List Value} {x : Int32} {o : Int} (hd : decode c.code pc = .ok (.ifCond .eq o, 3)) (hn : pc + 3 = pn) (hp : (pc : Int) + o = (py : Int)) (ky : x = (0 : Int32) → KEnds p e below s Cn Sn Q T (mkF m py Ls St)) (kn : ¬ x = (0 : Int32) → KEnds p e below s Cn Sn Q T (mkF m pn Ls St)) : KEnds p e below s Cn Sn Q T (mkF m pc Ls (.int x :: St)) := by
  subst hn
  by_cases hc : x = (0 : Int32)
  · exact k_via (fun t h => XS.ifYes X.here hx rfl (pc0 := pc) rfl hd rfl ((if0 _ _).trans (teq hc).1) (by omega) (by omega) h) (ky hc)
  · exact k_via (fun t h => XS.ifNo X.here hx rfl hd rfl ((if0 _ _).trans (feq hc).1) h) (kn hc)
theorem k_icmp_ne (X : Stand p l e R s m args below meth c T locs cells slots) (hx : p.tables.exec = Jvm.exec) {pc pn py : Nat} {Ls : Array Slot} {St : List Value} {x y : Int32} {o : Int} (hd : decode c.code pc = .ok (.if_icmp .ne o, 3)) (hn : pc + 3 = pn) (hp : (pc : Int) + o = (py : Int)) (ky : ¬ x = y → KEnds p e below s Cn Sn Q T (mkF m py Ls St)) (kn : x = y → KEnds p e below s Cn Sn Q T (mkF m pn Ls St)) : KEnds p e below s Cn Sn Q T (mkF m pc Ls (.int y :: .int x :: St)) := by
  subst hn
  by_cases hc : x = y
  · exact k_via (fun t h => XS.icmpNo X.here hx rfl hd rfl (teq hc).2 h) (kn hc)
  · exact k_via (fun t h => XS.icmpYes X.here hx rfl (pc0 := pc) rfl hd rfl (feq hc).2 (by omega) (by omega) h) (ky hc)
theorem k_if_ne (X : Stand p l e R s m args below meth c T locs cells slots) (hx : p.tables.exec = Jvm.exec) {pc pn py : Nat} {Ls : Array Slot} {St : List Value} {x : Int32} {o : Int} (hd : decode c.code pc = .ok (.ifCond .ne o, 3)) (hn : pc + 3 = pn) (hp : (pc : Int) + o = (py : Int)) (ky : ¬ x = (0 : Int32) → KEnds p e below s Cn Sn Q T (mkF m py Ls St)) (kn : x = (0 : Int32) → KEnds p e below s Cn Sn Q T (mkF m pn Ls St)) : KEnds p e below s Cn Sn Q T (mkF m pc Ls (.int x :: St)) := by
  subst hn
  by_cases hc : x = (0 : Int32)
  · exact k_via (fun t h => XS.ifNo X.here hx rfl hd rfl ((if0 _ _).trans (teq hc).2) h) (kn hc)
  · exact k_via (fun t h => XS.ifYes X.here hx rfl (pc0 := pc) rfl hd rfl ((if0 _ _).trans (feq hc).2) (by omega) (by omega) h) (ky hc)
theorem k_retN (X : Stand p l e R s m args below meth c T locs cells slots) (hx : p.tables.exec = Jvm.exec) {pc : Nat} {Ls : Array Slot} {St : List Value} {t : FieldType} {z z' : Int32} (hret : meth.sig.returnType = some t) (ht : t = .boolean ∨ t = .byte ∨ t = .char ∨ t = .short) (hd : decode c.code pc = .ok (.ireturn, 1)) (hlk : meth.locks = false) (hC : cells ≤ Cn) (hS : slots ≤ Sn) (hz : nar t z = z') (q : Q (some (.int z')) T.heap locs) : KEnds p e below s Cn Sn Q T (mkF m pc Ls (.int z :: St)) := by
  subst hz
  obtain ⟨fs, hr, hrun, hended, hW, hsame⟩ := X.leave (v := some (.int (nar t z))) (fun h => by rw [hret] at h; cases h) hlk
  exact ⟨_, _, retN X hx hret ht hd hr, hrun, hended, _, _, rfl, q, ⟨_, rfl⟩, hW, hsame.mono hC hS⟩
theorem k_retI (X : Stand p l e R s m args below meth c T locs cells slots) (hx : p.tables.exec = Jvm.exec) {pc : Nat} {Ls : Array Slot} {St : List Value} {z : Int32} (hret : meth.sig.returnType = some .int) (hd : decode c.code pc = .ok (.ireturn, 1)) (hlk : meth.locks = false) (hC : cells ≤ Cn) (hS : slots ≤ Sn) (q : Q (some (.int z)) T.heap locs) : KEnds p e below s Cn Sn Q T (mkF m pc Ls (.int z :: St)) := by
  obtain ⟨fs, hr, hrun, hended, hW, hsame⟩ := X.leave (v := some (.int z)) (fun h => by rw [hret] at h; cases h) hlk
  exact ⟨_, _, retOut X hx hret rfl (Or.inl ⟨rfl, Or.inl rfl, _, rfl⟩) hd hr, hrun, hended, _, _, rfl, q, ⟨_, rfl⟩, hW, hsame.mono hC hS⟩
variable {Z : State} {a0 : Array Value} {h : Heap} {own : String}
theorem k_callS (X : Stand p l e R s m args below meth c T locs cells slots) (hx : p.tables.exec = Jvm.exec) (hZ : Z.Warmed39 s.vm) (hown : s.vm.findClass own = some m.cls) {pc pc' : Nat} {Ls : Array Slot} {St : List Value} {y : MethodName} {bytes : ByteArray} {maxL : Nat} {ret : Option FieldType} {rm : Room} {index W : Nat} {as' : Array Value} {Q' : Option Value → Heap → List Loc → Prop} (w1 : (Cond.methodLink own index y).before a0 Z = true) (w2 : (Cond.static y).before a0 Z = true) (w3 : (Cond.initialized y.cls).before a0 Z = true) (w4 : (Cond.code y bytes maxL ret).before a0 Z = true) (hy : y.cls ≠ "java/lang/invoke/MethodHandle" ∧ y.cls ≠ "java/lang/invoke/VarHandle") (hM : MetFree l y (head1 [Cond.code y bytes maxL ret] rm) (fun a U => a = as' ∧ Z.Warmed39 U.vm ∧ U.heap = h) (fun _ _ _ _ _ => True) (fun _ U o U' => ∃ v L, o = .returned v ∧ Q' v U'.heap L ∧ FrameEnd U o U' L rm.cells rm.slots)) (hf : rm.frames + 1 ≤ R.frames) (hl : W + (maxL + 11) + rm.locals ≤ R.locals) (eT : T.heap = h) (hsize : Ls.size = c.maxLocals) {argsL rest : List Value} (hlen : ∀ sig, parseMethodDescriptor y.desc = some sig → argsL.length = sig.parameters.length) (hst : St = argsL.reverse ++ rest) (hW : (rest.map fun v => v.category).sum ≤ W) (has : argsL.toArray = as') (hd : decode c.code pc = .ok (.invokestatic index, 3)) (hce : cells + rm.cells ≤ R.cells) (hsl : slots + rm.slots ≤ R.slots) (hpc : pc + 3 = pc') (k : ∀ T' L v, Stand p l e R s m args below meth c T' (locs ++ L) (cells + rm.cells) (slots + rm.slots) → Q' v T'.heap L → KEnds p e below s Cn Sn Q T' (mkF m pc' Ls (v.toList ++ rest))) : KEnds p e below s Cn Sn Q T (mkF m pc Ls St) := by
  subst hpc
  obtain ⟨v, _, ⟨T', L', k', n'⟩, -, X', ⟨Lc, hQ, l', y', z'⟩, st⟩ := Jvm.LawKit.callS X hx (y := y) hown (mvT hZ w1) (mvT hZ w2) (mvT hZ w3) (mvT hZ w4) hy (backOf (W := W) hM hZ w4 w3 hf hl) (g := mkF m pc Ls St) rfl hsize hlen hst (by show 2 * 0 + _ ≤ _; omega) hd (fun _ _ => ⟨has, eT, hce, hsl⟩)
  dsimp only [Pt.U, Pt.locs, Pt.cells, Pt.slots] at X' l' y' z' st hQ
  subst l' y' z'
  exact k_via st (k T' Lc v X' hQ)
end
end Jvm.OwnK
namespace Jvm.Pilot.@@N@@
open Jvm Jvm.ClassFile Sem Op Lib Jvm.Free Jvm.Stand Jvm.LawKit Jvm.RoadKit Jvm.OwnK Bundle Jvm.Pilot.@@N@@.Jvm.D
theorem d1_0 : decode prog_4_method_7_code 0 = .ok (.iload_n 0, 1) := by decide +kernel
theorem d1_1 : decode prog_4_method_7_code 1 = .ok (.sipush 255, 3) := by decide +kernel
theorem d1_4 : decode prog_4_method_7_code 4 = .ok (.iand, 1) := by decide +kernel
theorem d1_5 : decode prog_4_method_7_code 5 = .ok (.istore_n 1, 1) := by decide +kernel
theorem d1_6 : decode prog_4_method_7_code 6 = .ok (.iload_n 1, 1) := by decide +kernel
theorem d1_7 : decode prog_4_method_7_code 7 = .ok (.sipush 128, 3) := by decide +kernel
theorem d1_10 : decode prog_4_method_7_code 10 = .ok (.if_icmp .ge 8, 3) := by decide +kernel
theorem d1_18 : decode prog_4_method_7_code 18 = .ok (.iload_n 1, 1) := by decide +kernel
theorem d1_19 : decode prog_4_method_7_code 19 = .ok (.sipush 224, 3) := by decide +kernel
theorem d1_22 : decode prog_4_method_7_code 22 = .ok (.if_icmp .ge 8, 3) := by decide +kernel
theorem d1_30 : decode prog_4_method_7_code 30 = .ok (.iload_n 1, 1) := by decide +kernel
theorem d1_31 : decode prog_4_method_7_code 31 = .ok (.sipush 240, 3) := by decide +kernel
theorem d1_34 : decode prog_4_method_7_code 34 = .ok (.if_icmp .ge 8, 3) := by decide +kernel
theorem d1_42 : decode prog_4_method_7_code 42 = .ok (.iconst 4, 1) := by decide +kernel
theorem d1_43 : decode prog_4_method_7_code 43 = .ok (.istore_n 2, 1) := by decide +kernel
theorem d1_44 : decode prog_4_method_7_code 44 = .ok (.iload_n 2, 1) := by decide +kernel
theorem d1_45 : decode prog_4_method_7_code 45 = .ok (.ireturn, 1) := by decide +kernel
theorem d1_37 : decode prog_4_method_7_code 37 = .ok (.iconst 3, 1) := by decide +kernel
theorem d1_38 : decode prog_4_method_7_code 38 = .ok (.istore_n 2, 1) := by decide +kernel
theorem d1_39 : decode prog_4_method_7_code 39 = .ok (.goto 5, 3) := by decide +kernel
theorem d1_25 : decode prog_4_method_7_code 25 = .ok (.iconst 2, 1) := by decide +kernel
theorem d1_26 : decode prog_4_method_7_code 26 = .ok (.istore_n 2, 1) := by decide +kernel
theorem d1_27 : decode prog_4_method_7_code 27 = .ok (.goto 17, 3) := by decide +kernel
theorem d1_13 : decode prog_4_method_7_code 13 = .ok (.iconst 1, 1) := by decide +kernel
theorem d1_14 : decode prog_4_method_7_code 14 = .ok (.istore_n 2, 1) := by decide +kernel
theorem d1_15 : decode prog_4_method_7_code 15 = .ok (.goto 29, 3) := by decide +kernel
abbrev R1_3 : Room := { frames := 0, cells := 0, slots := 0, locals := 0 }
def f1_3 (p1 : Int32) : Int32 := (if (p1 &&& (255 : Int32)) < (128 : Int32) then (1 : Int32) else (if (p1 &&& (255 : Int32)) < (224 : Int32) then (2 : Int32) else (if (p1 &&& (255 : Int32)) < (240 : Int32) then (3 : Int32) else (4 : Int32))))
def Q1_3 (Z : State) (p1 : Int32) (h0 : Heap) (n0 : Nat) (v : Option Value) (h : Heap) (L : List Loc) : Prop := Fr n0 L ∧ h = h0 ∧ v = some (.int (f1_3 p1))
theorem ef1_3 (m : MethodId) (x0 : Int32) : entryFrame m #[(.int x0)] 3 = mkF m 0 #[.val (.int x0), .unset, .unset] [] := by first | (simp [entryFrame, mkF, argsToLocals, Value.category]; done) | rfl
theorem pn_0 : plainName "com/example/parlance/parlance/MessageBytes" = true := by first | (simp [plainName, overriddenIn]; done) | decide +kernel
set_option maxRecDepth 65536 in
set_option maxHeartbeats 40000000 in
theorem rm1_3 (l : Launch) (Z : State) (a0 : Array Value) (hw : ∀ d ∈ tables_1, d.before a0 Z = true) (ws : List Jvm.Cond) (p1 : Int32) (h0 : Heap) (n0 : Nat) (Z0 : n0 ≤ h0.size)  :
    MetFree l (⟨"com/example/parlance/parlance/MessageBytes", "sequenceLength", "(B)I"⟩ : MethodName) (head1 (Jvm.Cond.code (⟨"com/example/parlance/parlance/MessageBytes", "sequenceLength", "(B)I"⟩ : MethodName) prog_4_method_7_code 3 (some .int) :: ws) R1_3) (fun a U => a = #[(.int p1)] ∧ Z.Warmed39 U.vm ∧ U.heap = h0) (fun _ _ _ _ _ => True) (fun _ U o U' => ∃ v L, o = .returned v ∧ Q1_3 Z p1 h0 n0 v U'.heap L ∧ FrameEnd U o U' L R1_3.cells R1_3.slots) := by
 refine MetFree.of_bodySF (plainFor_of_name pn_0) hisR ?_
 intro p e s m args below meth c s₁ Bd hml0 hP hK
 obtain ⟨rfl, hZ, hh⟩ := hP
 have hx := Bd.exec
 have hby := Bd.bytes
 have hml : c.maxLocals = 3 := hml0
 have hlk : meth.locks = false := Bd.notSynchronized
 have hown : s.vm.findClass "com/example/parlance/parlance/MessageBytes" = some m.cls := findClass_of_methodNamed Bd.named
 have hnm := (name_of_methodNamed Bd.named Bd.method).1
 have X0 : Stand p l e R1_3 s m #[(.int p1)] below meth c s₁ [] 0 0 := Stand.of_body Bd
 have e0 : s₁.heap = h0 := by rw [← hh, Bd.state]; rfl
 have N0 := Fr.nil n0
 rw [ef1_3 m p1]
 show KEnds p e below s R1_3.cells R1_3.slots (Q1_3 Z p1 h0 n0) s₁ (mkF m 0 #[.val (.int p1), .unset, .unset] [])
 refine k_iloadN X0 hx (hb hby d1_0) rfl (pc' := 1) rfl ?_
 refine k_sipush X0 hx (hb hby d1_1) (pc' := 4) rfl (z := (255 : Int32)) rfl ?_
 refine k_iandL X0 hx (hb hby d1_4) (pc' := 5) rfl rfl ?_
 refine k_istoreN X0 hx (hb hby d1_5) (Ls' := #[.val (.int p1), .val (.int (p1 &&& (255 : Int32))), .unset]) rfl (pc' := 6) rfl ?_
 refine k_iloadN X0 hx (hb hby d1_6) rfl (pc' := 7) rfl ?_
 refine k_sipush X0 hx (hb hby d1_7) (pc' := 10) rfl (z := (128 : Int32)) rfl ?_
 refine k_icmp_ge X0 hx (hb hby d1_10) (pn := 13) rfl (py := 18) (by decide) (fun hc4 => ?_) (fun hc4 => ?_)
 ·
  refine k_iloadN X0 hx (hb hby d1_18) rfl (pc' := 19) rfl ?_
  refine k_sipush X0 hx (hb hby d1_19) (pc' := 22) rfl (z := (224 : Int32)) rfl ?_
  refine k_icmp_ge X0 hx (hb hby d1_22) (pn := 25) rfl (py := 30) (by decide) (fun hc5 => ?_) (fun hc5 => ?_)
  ·
   refine k_iloadN X0 hx (hb hby d1_30) rfl (pc' := 31) rfl ?_
   refine k_sipush X0 hx (hb hby d1_31) (pc' := 34) rfl (z := (240 : Int32)) rfl ?_
   refine k_icmp_ge X0 hx (hb hby d1_34) (pn := 37) rfl (py := 42) (by decide) (fun hc6 => ?_) (fun hc6 => ?_)
   ·
    refine k_iconst X0 hx (hb hby d1_42) (pc' := 43) rfl (z := (4 : Int32)) rfl ?_
    refine k_istoreN X0 hx (hb hby d1_43) (Ls' := #[.val (.int p1), .val (.int (p1 &&& (255 : Int32))), .val (.int (4 : Int32))]) rfl (pc' := 44) rfl ?_
    refine k_iloadN X0 hx (hb hby d1_44) rfl (pc' := 45) rfl ?_
    have hf : f1_3 p1 = (4 : Int32) := by simp only [f1_3, if_neg hc4, if_neg hc5, if_neg hc6]
    exact k_retI X0 hx Bd.returns (hb hby d1_45) hlk (by decide) (by decide) ⟨N0, e0, by rw [hf]⟩
   ·
    refine k_iconst X0 hx (hb hby d1_37) (pc' := 38) rfl (z := (3 : Int32)) rfl ?_
    refine k_istoreN X0 hx (hb hby d1_38) (Ls' := #[.val (.int p1), .val (.int (p1 &&& (255 : Int32))), .val (.int (3 : Int32))]) rfl (pc' := 39) rfl ?_
    refine k_goto X0 hx (hb hby d1_39) (pc' := 44) (by decide) ?_
    refine k_iloadN X0 hx (hb hby d1_44) rfl (pc' := 45) rfl ?_
    have hf : f1_3 p1 = (3 : Int32) := by simp only [f1_3, if_neg hc4, if_neg hc5, if_pos hc6]
    exact k_retI X0 hx Bd.returns (hb hby d1_45) hlk (by decide) (by decide) ⟨N0, e0, by rw [hf]⟩
  ·
   refine k_iconst X0 hx (hb hby d1_25) (pc' := 26) rfl (z := (2 : Int32)) rfl ?_
   refine k_istoreN X0 hx (hb hby d1_26) (Ls' := #[.val (.int p1), .val (.int (p1 &&& (255 : Int32))), .val (.int (2 : Int32))]) rfl (pc' := 27) rfl ?_
   refine k_goto X0 hx (hb hby d1_27) (pc' := 44) (by decide) ?_
   refine k_iloadN X0 hx (hb hby d1_44) rfl (pc' := 45) rfl ?_
   have hf : f1_3 p1 = (2 : Int32) := by simp only [f1_3, if_neg hc4, if_pos hc5]
   exact k_retI X0 hx Bd.returns (hb hby d1_45) hlk (by decide) (by decide) ⟨N0, e0, by rw [hf]⟩
 ·
  refine k_iconst X0 hx (hb hby d1_13) (pc' := 14) rfl (z := (1 : Int32)) rfl ?_
  refine k_istoreN X0 hx (hb hby d1_14) (Ls' := #[.val (.int p1), .val (.int (p1 &&& (255 : Int32))), .val (.int (1 : Int32))]) rfl (pc' := 15) rfl ?_
  refine k_goto X0 hx (hb hby d1_15) (pc' := 44) (by decide) ?_
  refine k_iloadN X0 hx (hb hby d1_44) rfl (pc' := 45) rfl ?_
  have hf : f1_3 p1 = (1 : Int32) := by simp only [f1_3, if_pos hc4]
  exact k_retI X0 hx Bd.returns (hb hby d1_45) hlk (by decide) (by decide) ⟨N0, e0, by rw [hf]⟩
theorem pd_0 : parseMethodDescriptor "(B)I" = some ⟨[.byte], some .int⟩ := by decide +kernel
theorem d2_0 : decode method_2_code 0 = .ok (.iload_n 0, 1) := by decide +kernel
theorem d2_1 : decode method_2_code 1 = .ok (.sipush 128, 3) := by decide +kernel
theorem d2_4 : decode method_2_code 4 = .ok (.iand, 1) := by decide +kernel
theorem d2_5 : decode method_2_code 5 = .ok (.ifCond .ne 5, 3) := by decide +kernel
theorem d2_10 : decode method_2_code 10 = .ok (.iload_n 0, 1) := by decide +kernel
theorem d2_11 : decode method_2_code 11 = .ok (.sipush 224, 3) := by decide +kernel
theorem d2_14 : decode method_2_code 14 = .ok (.iand, 1) := by decide +kernel
theorem d2_15 : decode method_2_code 15 = .ok (.sipush 192, 3) := by decide +kernel
theorem d2_18 : decode method_2_code 18 = .ok (.if_icmp .ne 5, 3) := by decide +kernel
theorem d2_23 : decode method_2_code 23 = .ok (.iload_n 0, 1) := by decide +kernel
theorem d2_24 : decode method_2_code 24 = .ok (.sipush 240, 3) := by decide +kernel
theorem d2_27 : decode method_2_code 27 = .ok (.iand, 1) := by decide +kernel
theorem d2_28 : decode method_2_code 28 = .ok (.sipush 224, 3) := by decide +kernel
theorem d2_31 : decode method_2_code 31 = .ok (.if_icmp .ne 5, 3) := by decide +kernel
theorem d2_36 : decode method_2_code 36 = .ok (.iload_n 0, 1) := by decide +kernel
theorem d2_37 : decode method_2_code 37 = .ok (.sipush 248, 3) := by decide +kernel
theorem d2_40 : decode method_2_code 40 = .ok (.iand, 1) := by decide +kernel
theorem d2_41 : decode method_2_code 41 = .ok (.sipush 240, 3) := by decide +kernel
theorem d2_44 : decode method_2_code 44 = .ok (.if_icmp .ne 5, 3) := by decide +kernel
theorem d2_49 : decode method_2_code 49 = .ok (.iconst 0, 1) := by decide +kernel
theorem d2_50 : decode method_2_code 50 = .ok (.ireturn, 1) := by decide +kernel
theorem d2_47 : decode method_2_code 47 = .ok (.iconst 4, 1) := by decide +kernel
theorem d2_48 : decode method_2_code 48 = .ok (.ireturn, 1) := by decide +kernel
theorem d2_34 : decode method_2_code 34 = .ok (.iconst 3, 1) := by decide +kernel
theorem d2_35 : decode method_2_code 35 = .ok (.ireturn, 1) := by decide +kernel
theorem d2_21 : decode method_2_code 21 = .ok (.iconst 2, 1) := by decide +kernel
theorem d2_22 : decode method_2_code 22 = .ok (.ireturn, 1) := by decide +kernel
theorem d2_8 : decode method_2_code 8 = .ok (.iconst 1, 1) := by decide +kernel
theorem d2_9 : decode method_2_code 9 = .ok (.ireturn, 1) := by decide +kernel
abbrev R2_9 : Room := { frames := 0, cells := 0, slots := 0, locals := 0 }
def f2_9 (p1 : Int32) : Int32 := (if (p1 &&& (128 : Int32)) = (0 : Int32) then (1 : Int32) else (if (p1 &&& (224 : Int32)) = (192 : Int32) then (2 : Int32) else (if (p1 &&& (240 : Int32)) = (224 : Int32) then (3 : Int32) else (if (p1 &&& (248 : Int32)) = (240 : Int32) then (4 : Int32) else (0 : Int32)))))
def Q2_9 (Z : State) (p1 : Int32) (h0 : Heap) (n0 : Nat) (v : Option Value) (h : Heap) (L : List Loc) : Prop := Fr n0 L ∧ h = h0 ∧ v = some (.int (f2_9 p1))
theorem ef2_9 (m : MethodId) (x0 : Int32) : entryFrame m #[(.int x0)] 1 = mkF m 0 #[.val (.int x0)] [] := by first | (simp [entryFrame, mkF, argsToLocals, Value.category]; done) | rfl
theorem pn_1 : plainName "com/example/parlance/parlance/MessageBytesSequenceLengthPinLaw" = true := by first | (simp [plainName, overriddenIn]; done) | decide +kernel
set_option maxRecDepth 65536 in
set_option maxHeartbeats 40000000 in
theorem rm2_9 (l : Launch) (Z : State) (a0 : Array Value) (hw : ∀ d ∈ tables_1, d.before a0 Z = true) (ws : List Jvm.Cond) (p1 : Int32) (h0 : Heap) (n0 : Nat) (Z0 : n0 ≤ h0.size)  :
    MetFree l (⟨"com/example/parlance/parlance/MessageBytesSequenceLengthPinLaw", "expected", "(I)I"⟩ : MethodName) (head1 (Jvm.Cond.code (⟨"com/example/parlance/parlance/MessageBytesSequenceLengthPinLaw", "expected", "(I)I"⟩ : MethodName) method_2_code 1 (some .int) :: ws) R2_9) (fun a U => a = #[(.int p1)] ∧ Z.Warmed39 U.vm ∧ U.heap = h0) (fun _ _ _ _ _ => True) (fun _ U o U' => ∃ v L, o = .returned v ∧ Q2_9 Z p1 h0 n0 v U'.heap L ∧ FrameEnd U o U' L R2_9.cells R2_9.slots) := by
 refine MetFree.of_bodySF (plainFor_of_name pn_1) hisR ?_
 intro p e s m args below meth c s₁ Bd hml0 hP hK
 obtain ⟨rfl, hZ, hh⟩ := hP
 have hx := Bd.exec
 have hby := Bd.bytes
 have hml : c.maxLocals = 1 := hml0
 have hlk : meth.locks = false := Bd.notSynchronized
 have hown : s.vm.findClass "com/example/parlance/parlance/MessageBytesSequenceLengthPinLaw" = some m.cls := findClass_of_methodNamed Bd.named
 have hnm := (name_of_methodNamed Bd.named Bd.method).1
 have X0 : Stand p l e R2_9 s m #[(.int p1)] below meth c s₁ [] 0 0 := Stand.of_body Bd
 have e0 : s₁.heap = h0 := by rw [← hh, Bd.state]; rfl
 have N0 := Fr.nil n0
 rw [ef2_9 m p1]
 show KEnds p e below s R2_9.cells R2_9.slots (Q2_9 Z p1 h0 n0) s₁ (mkF m 0 #[.val (.int p1)] [])
 refine k_iloadN X0 hx (hb hby d2_0) rfl (pc' := 1) rfl ?_
 refine k_sipush X0 hx (hb hby d2_1) (pc' := 4) rfl (z := (128 : Int32)) rfl ?_
 refine k_iandL X0 hx (hb hby d2_4) (pc' := 5) rfl rfl ?_
 refine k_if_ne X0 hx (hb hby d2_5) (pn := 8) rfl (py := 10) (by decide) (fun hc10 => ?_) (fun hc10 => ?_)
 ·
  refine k_iloadN X0 hx (hb hby d2_10) rfl (pc' := 11) rfl ?_
  refine k_sipush X0 hx (hb hby d2_11) (pc' := 14) rfl (z := (224 : Int32)) rfl ?_
  refine k_iandL X0 hx (hb hby d2_14) (pc' := 15) rfl rfl ?_
  refine k_sipush X0 hx (hb hby d2_15) (pc' := 18) rfl (z := (192 : Int32)) rfl ?_
  refine k_icmp_ne X0 hx (hb hby d2_18) (pn := 21) rfl (py := 23) (by decide) (fun hc11 => ?_) (fun hc11 => ?_)
  ·
   refine k_iloadN X0 hx (hb hby d2_23) rfl (pc' := 24) rfl ?_
   refine k_sipush X0 hx (hb hby d2_24) (pc' := 27) rfl (z := (240 : Int32)) rfl ?_
   refine k_iandL X0 hx (hb hby d2_27) (pc' := 28) rfl rfl ?_
   refine k_sipush X0 hx (hb hby d2_28) (pc' := 31) rfl (z := (224 : Int32)) rfl ?_
   refine k_icmp_ne X0 hx (hb hby d2_31) (pn := 34) rfl (py := 36) (by decide) (fun hc12 => ?_) (fun hc12 => ?_)
   ·
    refine k_iloadN X0 hx (hb hby d2_36) rfl (pc' := 37) rfl ?_
    refine k_sipush X0 hx (hb hby d2_37) (pc' := 40) rfl (z := (248 : Int32)) rfl ?_
    refine k_iandL X0 hx (hb hby d2_40) (pc' := 41) rfl rfl ?_
    refine k_sipush X0 hx (hb hby d2_41) (pc' := 44) rfl (z := (240 : Int32)) rfl ?_
    refine k_icmp_ne X0 hx (hb hby d2_44) (pn := 47) rfl (py := 49) (by decide) (fun hc13 => ?_) (fun hc13 => ?_)
    ·
     refine k_iconst X0 hx (hb hby d2_49) (pc' := 50) rfl (z := (0 : Int32)) rfl ?_
     have hf : f2_9 p1 = (0 : Int32) := by simp only [f2_9, if_neg hc10, if_neg hc11, if_neg hc12, if_neg hc13]
     exact k_retI X0 hx Bd.returns (hb hby d2_50) hlk (by decide) (by decide) ⟨N0, e0, by rw [hf]⟩
    ·
     refine k_iconst X0 hx (hb hby d2_47) (pc' := 48) rfl (z := (4 : Int32)) rfl ?_
     have hf : f2_9 p1 = (4 : Int32) := by simp only [f2_9, if_neg hc10, if_neg hc11, if_neg hc12, if_pos hc13]
     exact k_retI X0 hx Bd.returns (hb hby d2_48) hlk (by decide) (by decide) ⟨N0, e0, by rw [hf]⟩
   ·
    refine k_iconst X0 hx (hb hby d2_34) (pc' := 35) rfl (z := (3 : Int32)) rfl ?_
    have hf : f2_9 p1 = (3 : Int32) := by simp only [f2_9, if_neg hc10, if_neg hc11, if_pos hc12]
    exact k_retI X0 hx Bd.returns (hb hby d2_35) hlk (by decide) (by decide) ⟨N0, e0, by rw [hf]⟩
  ·
   refine k_iconst X0 hx (hb hby d2_21) (pc' := 22) rfl (z := (2 : Int32)) rfl ?_
   have hf : f2_9 p1 = (2 : Int32) := by simp only [f2_9, if_neg hc10, if_pos hc11]
   exact k_retI X0 hx Bd.returns (hb hby d2_22) hlk (by decide) (by decide) ⟨N0, e0, by rw [hf]⟩
 ·
  refine k_iconst X0 hx (hb hby d2_8) (pc' := 9) rfl (z := (1 : Int32)) rfl ?_
  have hf : f2_9 p1 = (1 : Int32) := by simp only [f2_9, if_pos hc10]
  exact k_retI X0 hx Bd.returns (hb hby d2_9) hlk (by decide) (by decide) ⟨N0, e0, by rw [hf]⟩
theorem pd_1 : parseMethodDescriptor "(I)I" = some ⟨[.int], some .int⟩ := by decide +kernel
theorem ef0 (m : MethodId) (x0 : Int32) : entryFrame m #[(.int x0)] maxLocals = mkF m 0 #[.val (.int x0), .unset, .unset, .unset, .unset, .unset] [] := by first | (simp [entryFrame, mkF, argsToLocals, Value.category, maxLocals]; done) | rfl
theorem own_enum : ∀ n : Fin 256, (let u : Int32 := Int32.ofNat n.val; let r : Int32 := (if u < (128 : Int32) then (1 : Int32) else (if u < (224 : Int32) then (2 : Int32) else (if u < (240 : Int32) then (3 : Int32) else (4 : Int32)))); ¬ r < 1 ∧ ¬ 4 < r ∧ (f2_9 u = 0 ∨ r = f2_9 u)) := by decide +kernel
theorem own_law (x : Int32) : ¬ f1_3 x.toInt8.toInt32 < 1 ∧ ¬ 4 < f1_3 x.toInt8.toInt32 ∧ (f2_9 (x &&& 255) = 0 ∨ f1_3 x.toInt8.toInt32 = f2_9 (x &&& 255)) := by
  have e : x.toInt8.toInt32 &&& 255 = x &&& 255 := by
    apply Int32.toInt_inj.mp
    have h1 : (x.toInt8.toInt32 &&& 255).toInt = x.toInt8.toInt32.toInt % 256 := c_mask _ _ 8 (by decide) (by decide)
    have h2 : (x &&& 255).toInt = x.toInt % 256 := c_mask _ _ 8 (by decide) (by decide)
    have h3 := c_i2b x
    omega
  have h2 : (x &&& 255).toInt = x.toInt % 256 := c_mask _ _ 8 (by decide) (by decide)
  have hu : x &&& 255 = Int32.ofNat (x.toInt % 256).toNat := by
    apply Int32.toInt_inj.mp
    rw [h2, Int32.toInt_ofNat_of_lt (by omega)]
    omega
  have q := own_enum ⟨(x.toInt % 256).toNat, by omega⟩
  simp only [f1_3] at q ⊢
  rw [e, hu]
  exact q

def Q0 (n0 : Nat) (v : Option Value) (h : Heap) (L : List Loc) : Prop := v = some (.int 1) ∧ Fr n0 L
set_option maxRecDepth 65536 in
set_option maxHeartbeats 40000000 in
theorem rm0 (l : Launch) (Z : State) (a0 : Array Value) (hw : ∀ d ∈ tables_1, d.before a0 Z = true) (ws : List Jvm.Cond) (i0 : Int32) (h0 : Heap) (n0 : Nat) (Z0 : n0 ≤ h0.size) :
    MetFree l x (head1 (Jvm.Cond.code x code maxLocals ret :: ws) room_1) (fun a U => a = #[(.int i0)] ∧ Z.Warmed39 U.vm ∧ U.heap = h0) (fun _ _ _ _ _ => True) (fun _ U o U' => ∃ v L, o = .returned v ∧ Q0 n0 v U'.heap L ∧ FrameEnd U o U' L 0 0) := by
 refine MetFree.of_bodySF (plainFor_of_name pn_1) hisR ?_
 intro p e s m args below meth c s₁ Bd hml0 hP hK
 obtain ⟨rfl, hZ, hh⟩ := hP
 have hx := Bd.exec
 have hby := Bd.bytes
 have hml : c.maxLocals = 6 := hml0
 have hlk : meth.locks = false := Bd.notSynchronized
 have hown : s.vm.findClass "com/example/parlance/parlance/MessageBytesSequenceLengthPinLaw" = some m.cls := findClass_of_methodNamed Bd.named
 have hnm := (name_of_methodNamed Bd.named Bd.method).1
 have X0 : Stand p l e room_1 s m #[(.int i0)] below meth c s₁ [] 0 0 := Stand.of_body Bd
 have e0 : s₁.heap = h0 := by rw [← hh, Bd.state]; rfl
 have N0 := Fr.nil n0
 rw [show entryFrame m #[(.int i0)] maxLocals = _ from ef0 m i0]
 show KEnds p e below s 0 0 (Q0 n0) s₁ (mkF m 0 #[.val (.int i0), .unset, .unset, .unset, .unset, .unset] [])
 refine k_iloadN X0 hx (hb hby at_0) rfl (pc' := 1) rfl ?_
 refine k_i2b X0 hx (hb hby at_1) (pc' := 2) rfl (fun v1 hv1 => ?_)
 refine k_istoreN X0 hx (hb hby at_2) (Ls' := #[.val (.int i0), .val (.int v1), .unset, .unset, .unset, .unset]) rfl (pc' := 3) rfl ?_
 refine k_iloadN X0 hx (hb hby at_3) rfl (pc' := 4) rfl ?_
 refine k_sipush X0 hx (hb hby at_4) (pc' := 7) rfl (z := (255 : Int32)) rfl ?_
 refine k_iand X0 hx (hb hby at_7) (pc' := 8) rfl (fun v2 hv2 => ?_)
 refine k_istoreN X0 hx (hb hby at_8) (Ls' := #[.val (.int i0), .val (.int v1), .val (.int v2), .unset, .unset, .unset]) rfl (pc' := 9) rfl ?_
 refine k_iloadN X0 hx (hb hby at_9) rfl (pc' := 10) rfl ?_
 refine k_callS X0 hx hZ hown (hw _ (List.mem_of_getElem? (i := 0) rfl)) (hw _ (List.mem_of_getElem? (i := 1) rfl)) (hw _ (List.mem_of_getElem? (i := 2) rfl)) (hw _ (List.mem_of_getElem? (i := 3) rfl)) (by decide) (rm1_3 l Z a0 hw [] v1 h0 n0 Z0 ) (by decide) (by decide) e0 (by rw [hml]; rfl) (argsL := [(.int v1)]) (rest := []) (lenOf pd_0 rfl) rfl (W := 0) (Nat.le_refl _) rfl (hb hby at_10) (by decide) (by decide) (pc' := 13) rfl (fun T7 L7 r7 X7 q7 => ?_)
 obtain ⟨N7, e7, rfl⟩ := q7
 have N7' := Fr.app N0 N7
 show KEnds p e below s _ _ _ T7 (mkF m 13 #[.val (.int i0), .val (.int v1), .val (.int v2), .unset, .unset, .unset] ((.int (f1_3 v1)) :: []))
 obtain ⟨v8, hv8⟩ : ∃ z, z = f1_3 v1 := ⟨_, rfl⟩
 rw [← hv8]
 refine k_istoreN X7 hx (hb hby at_13) (Ls' := #[.val (.int i0), .val (.int v1), .val (.int v2), .val (.int v8), .unset, .unset]) rfl (pc' := 14) rfl ?_
 refine k_iloadN X7 hx (hb hby at_14) rfl (pc' := 15) rfl ?_
 refine k_callS X7 hx hZ hown (hw _ (List.mem_of_getElem? (i := 4) rfl)) (hw _ (List.mem_of_getElem? (i := 5) rfl)) (hw _ (List.mem_of_getElem? (i := 6) rfl)) (hw _ (List.mem_of_getElem? (i := 7) rfl)) (by decide) (rm2_9 l Z a0 hw [] v2 h0 n0 Z0 ) (by decide) (by decide) e7 (by rw [hml]; rfl) (argsL := [(.int v2)]) (rest := []) (lenOf pd_1 rfl) rfl (W := 0) (Nat.le_refl _) rfl (hb hby at_15) (by decide) (by decide) (pc' := 18) rfl (fun T14 L14 r14 X14 q14 => ?_)
 obtain ⟨N14, e14, rfl⟩ := q14
 have N14' := Fr.app N7' N14
 show KEnds p e below s _ _ _ T14 (mkF m 18 #[.val (.int i0), .val (.int v1), .val (.int v2), .val (.int v8), .unset, .unset] ((.int (f2_9 v2)) :: []))
 obtain ⟨v15, hv15⟩ : ∃ z, z = f2_9 v2 := ⟨_, rfl⟩
 rw [← hv15]
 refine k_istore X14 hx (hb hby at_18) (Ls' := #[.val (.int i0), .val (.int v1), .val (.int v2), .val (.int v8), .val (.int v15), .unset]) rfl (pc' := 20) rfl ?_
 refine k_iloadN X14 hx (hb hby at_20) rfl (pc' := 21) rfl ?_
 refine k_iconst X14 hx (hb hby at_21) (pc' := 22) rfl (z := (1 : Int32)) rfl ?_
 refine k_icmp_lt X14 hx (hb hby at_22) (pn := 25) rfl (py := 34) (by decide) (fun hc16 => ?_) (fun hc16 => ?_)
 ·
  refine k_iconst X14 hx (hb hby at_34) (pc' := 35) rfl (z := (0 : Int32)) rfl ?_
  refine k_istore X14 hx (hb hby at_35) (Ls' := #[.val (.int i0), .val (.int v1), .val (.int v2), .val (.int v8), .val (.int v15), .val (.int (0 : Int32))]) rfl (pc' := 37) rfl ?_
  refine k_iload X14 hx (hb hby at_37) rfl (pc' := 39) rfl ?_
  refine k_if_eq X14 hx (hb hby at_39) (pn := 42) rfl (py := 57) (by decide) (fun _ => ?_) (fun hc => absurd (by decide) hc)
  refine k_iconst X14 hx (hb hby at_57) (pc' := 58) rfl (z := (0 : Int32)) rfl ?_
  exfalso
  have ql := own_law i0
  subst hv15 hv8 hv2 hv1
  simp_all
 ·
  refine k_iloadN X14 hx (hb hby at_25) rfl (pc' := 26) rfl ?_
  refine k_iconst X14 hx (hb hby at_26) (pc' := 27) rfl (z := (4 : Int32)) rfl ?_
  refine k_icmp_gt X14 hx (hb hby at_27) (pn := 30) rfl (py := 34) (by decide) (fun hc17 => ?_) (fun hc17 => ?_)
  ·
   refine k_iconst X14 hx (hb hby at_34) (pc' := 35) rfl (z := (0 : Int32)) rfl ?_
   refine k_istore X14 hx (hb hby at_35) (Ls' := #[.val (.int i0), .val (.int v1), .val (.int v2), .val (.int v8), .val (.int v15), .val (.int (0 : Int32))]) rfl (pc' := 37) rfl ?_
   refine k_iload X14 hx (hb hby at_37) rfl (pc' := 39) rfl ?_
   refine k_if_eq X14 hx (hb hby at_39) (pn := 42) rfl (py := 57) (by decide) (fun _ => ?_) (fun hc => absurd (by decide) hc)
   refine k_iconst X14 hx (hb hby at_57) (pc' := 58) rfl (z := (0 : Int32)) rfl ?_
   exfalso
   have ql := own_law i0
   subst hv15 hv8 hv2 hv1
   simp_all
  ·
   refine k_iconst X14 hx (hb hby at_30) (pc' := 31) rfl (z := (1 : Int32)) rfl ?_
   refine k_goto X14 hx (hb hby at_31) (pc' := 35) (by decide) ?_
   refine k_istore X14 hx (hb hby at_35) (Ls' := #[.val (.int i0), .val (.int v1), .val (.int v2), .val (.int v8), .val (.int v15), .val (.int (1 : Int32))]) rfl (pc' := 37) rfl ?_
   refine k_iload X14 hx (hb hby at_37) rfl (pc' := 39) rfl ?_
   refine k_if_eq X14 hx (hb hby at_39) (pn := 42) rfl (py := 57) (by decide) (fun hc => absurd hc (by decide)) (fun _ => ?_)
   refine k_iload X14 hx (hb hby at_42) rfl (pc' := 44) rfl ?_
   refine k_if_eq X14 hx (hb hby at_44) (pn := 47) rfl (py := 53) (by decide) (fun hc18 => ?_) (fun hc18 => ?_)
   ·
    refine k_iconst X14 hx (hb hby at_53) (pc' := 54) rfl (z := (1 : Int32)) rfl ?_
    refine k_goto X14 hx (hb hby at_54) (pc' := 58) (by decide) ?_
    exact k_retN X14 hx (t := .boolean) Bd.returns (by simp) (hb hby at_58) hlk (by decide) (by decide) (z' := (1 : Int32)) rfl ⟨rfl, N14'⟩
   ·
    refine k_iloadN X14 hx (hb hby at_47) rfl (pc' := 48) rfl ?_
    refine k_iload X14 hx (hb hby at_48) rfl (pc' := 50) rfl ?_
    refine k_icmp_ne X14 hx (hb hby at_50) (pn := 53) rfl (py := 57) (by decide) (fun hc19 => ?_) (fun hc19 => ?_)
    ·
     refine k_iconst X14 hx (hb hby at_57) (pc' := 58) rfl (z := (0 : Int32)) rfl ?_
     exfalso
     have ql := own_law i0
     subst hv15 hv8 hv2 hv1
     simp_all
    ·
     refine k_iconst X14 hx (hb hby at_53) (pc' := 54) rfl (z := (1 : Int32)) rfl ?_
     refine k_goto X14 hx (hb hby at_54) (pc' := 58) (by decide) ?_
     exact k_retN X14 hx (t := .boolean) Bd.returns (by simp) (hb hby at_58) hlk (by decide) (by decide) (z' := (1 : Int32)) rfl ⟨rfl, N14'⟩
set_option maxRecDepth 65536 in
set_option maxHeartbeats 40000000 in
theorem comes_1 {Post : Tables → Env → Array Value → State → Outcome → State → Prop} (hpost : ∀ tb e args s v u, (limb_1_1.after args s (.returned v) u = true ∧ limb_1_2.after args s (.returned v) u = true ∧ True) → FrameEnd s (.returned v) u (Jvm.fieldLocs frame_1_writes args s ++ Jvm.arrayLocs frame_1_arrays args s ++ Jvm.staticLocs frame_1_statics s) 0 0 → Post tb e args s (.returned v) u) :
    ArmFor flags0 classFile x code maxLocals ret World_1 tables_1 room_1 Calls_1 rest_1 Pre_1 Post := by
  intro l hfl _ _ p e ha hc hk s m args below hf hA hF happ hP
  obtain ⟨hcalls, hrest, hpre⟩ := hP
  obtain ⟨-, -, -, hnamed, -, -, -, hat⟩ := (Spec.applies_iff hf).mp happ
  obtain ⟨hg, hn⟩ := and_e (Cond.before_iff.mp (show (Jvm.Cond.and given_1 narrow_1).before args s = true from hpre))
  obtain ⟨g20, g21⟩ := and_e hg
  obtain ⟨w0, rfl⟩ : ∃ w0 : Value, args = #[w0] := by
    have hs : args.size = 1 := by simpa [Cond.value, given_1] using g20
    obtain ⟨L⟩ := args
    match L, hs with
    | [w0], _ => exact ⟨w0, rfl⟩
  have hw := fun d (hd : d ∈ tables_1) => atoms_spec (ws := Jvm.Cond.code x code maxLocals ret :: tables_1) hat d (List.mem_cons_of_mem _ hd)
  obtain ⟨i0, ei0⟩ := is_v g21
  obtain rfl : w0 = (.int i0) := Option.some.inj ei0
  obtain ⟨n, o, h1, h2, h3, _, L, rfl, ⟨rfl, N⟩, hq⟩ := rm0 l s _ hw tables_1 i0 s.heap s.heap.size (Nat.le_refl _) p e ha hc hk s m _ below hf ((Spec.applies_iff_loose hf).mp happ).1 ⟨rfl, State.Warmed39.refl s, rfl⟩ trivial
  refine ⟨n, _, h1, h2, h3, hpost _ _ _ _ _ _ ⟨Cond.after_iff.mpr rfl, Cond.after_iff.mpr (eq_i res_at (Term.int_eval (1)) rfl), trivial⟩ ⟨hq.1, hq.2.1, (hq.2.2.sift fun y hy => Or.inr (N y hy)).mono (by decide) (by decide)⟩⟩
theorem main_1_1 : Claimed_1_1 := comes_1 fun _ _ _ _ _ _ h hF => ⟨h.1, hF⟩
theorem main_1_2 : Claimed_1_2 := comes_1 fun _ _ _ _ _ _ h hF => ⟨h.2.1, hF⟩
end Jvm.Pilot.@@N@@
namespace Jvm.Pilot.@@N@@
open Jvm Jvm.ClassFile Sem Op Lib Jvm.Free Jvm.Stand Jvm.Pilot.@@N@@.Jvm.D
/-! MADE BY PROGRAM (witnessworld.py) out of the Statement's table words and the real class files: 9 classes; the members and pool entries that the words name. The judged class is class 1, her method 2. -/
namespace start1
open Jvm.ClassFile
def u (s : String) : CpInfo := .utf8 (stringToUtf16 s)
/-- a pool by its gaps: so many unusable entries, then the entry; so many at the end -/
def gap : Nat → List CpInfo → List CpInfo
  | 0, r => r
  | n + 1, r => .unusable :: gap n r
def poolList (es : List (Nat × CpInfo)) (last : Nat) : List CpInfo := es.foldr (fun e r => gap e.1 (e.2 :: r)) (gap last [])
def pool (es : List (Nat × CpInfo)) (last : Nat) : Array CpInfo := ⟨poolList es last⟩
def fileOf (pool : Array CpInfo) (this : Nat) (attrs : Array Attribute := #[]) (ms : Array MethodInfo := #[]) (fl : Nat := 33) (sup : Nat := 0) (ifs : Array Nat := #[]) (fds : Array FieldInfo := #[]) : ClassFile where
  minorVersion := 0
  majorVersion := 65
  constantPool := pool
  accessFlags := fl
  thisClass := this
  superClass := sup
  interfaces := ifs
  fields := fds
  methods := ms
  attributes := attrs
def plain (name : String) (sup : Option ClassId) : Class where
  name := name
  kind := .ordinary
  loader := none
  accessFlags := 33
  super := sup
  interfaces := #[]
  cf := none
  fields := #[]
  methods := #[]
  instanceTypes := #[]
  staticTypes := #[]
  resolved := #[]
  callSites := []
  init := .initialized
  statics := none
  mirror := none

def pool0 : Array CpInfo := pool [(5, u "<init>"), (0, u "()V"), (1, .class_ 10), (1, u "java/lang/Object")] 113

def k0m0 : Method := { name := "<init>", desc := "()V", sig := { parameters := [], returnType := none }, accessFlags := 1, code := none }
/-- java/lang/Object -/
def k0 : Class := { plain "java/lang/Object" none with
  accessFlags := 33
  interfaces := #[]
  cf := some (fileOf pool0 8 #[] #[{ accessFlags := 1, nameIndex := 5, descriptorIndex := 6, attributes := #[] }] 33 0 #[] #[])
  fields := #[]
  methods := #[k0m0]
  instanceTypes := #[]
  staticTypes := #[]
  resolved := Array.replicate 124 none
  statics := none }

def pool1 : Array CpInfo := pool [(2, .class_ 4), (1, u "java/lang/Object"), (0, u "<init>"), (0, u "()V"), (0, .methodref 8 9), (0, .class_ 10), (0, .nameAndType 11 12), (0, u "com/example/parlance/parlance/MessageBytes"), (0, u "sequenceLength"), (0, u "(B)I"), (0, .methodref 14 15), (0, .class_ 16), (0, .nameAndType 17 18), (0, u "com/example/parlance/parlance/MessageBytesSequenceLengthPinLaw"), (0, u "expected"), (0, u "(I)I"), (3, u "law"), (0, u "(I)Z")] 2

def k1m0 : Method := { name := "<init>", desc := "()V", sig := { parameters := [], returnType := none }, accessFlags := 2, code := none }
def k1c1 : Code := { maxStack := 2, maxLocals := 1, code := method_2_code, exceptionTable := #[], attributes := #[] }
def k1m1 : Method := { name := "expected", desc := "(I)I", sig := { parameters := [.int], returnType := some .int }, accessFlags := 10, code := some k1c1 }
def k1c2 : Code := { maxStack := 2, maxLocals := 6, code := code, exceptionTable := #[], attributes := #[] }
def k1m2 : Method := { name := "law", desc := "(I)Z", sig := { parameters := [.int], returnType := some .boolean }, accessFlags := 9, code := some k1c2 }
/-- com/example/parlance/parlance/MessageBytesSequenceLengthPinLaw -/
def k1 : Class := { plain "com/example/parlance/parlance/MessageBytesSequenceLengthPinLaw" (some 0) with
  accessFlags := 49
  interfaces := #[]
  cf := some (fileOf pool1 14 #[] #[{ accessFlags := 2, nameIndex := 5, descriptorIndex := 6, attributes := #[] }, { accessFlags := 10, nameIndex := 17, descriptorIndex := 18, attributes := #[] }, { accessFlags := 9, nameIndex := 22, descriptorIndex := 23, attributes := #[] }] 49 2 #[] #[])
  fields := #[]
  methods := #[k1m0, k1m1, k1m2]
  instanceTypes := #[]
  staticTypes := #[]
  resolved := Array.replicate 26 none
  statics := none }

def pool2 : Array CpInfo := pool [(2, .class_ 4), (1, u "java/lang/Object"), (0, u "<init>"), (0, u "()V"), (0, .class_ 8), (0, u "com/example/parlance/parlance/MessageBytes"), (44, .class_ 55), (1, u "com/example/parlance/parlance/MessageBytes$Pass"), (2, .class_ 59), (0, u "com/example/parlance/parlance/MessageBytes$Utf8Check"), (20, u "sequenceLength"), (0, u "(B)I"), (0, u "LIMIT"), (0, u "I"), (1, u "ONE_PASS"), (0, u "DECODE_CHUNK")] 26

def k2m0 : Method := { name := "<init>", desc := "()V", sig := { parameters := [], returnType := none }, accessFlags := 2, code := none }
def k2c1 : Code := { maxStack := 2, maxLocals := 3, code := prog_4_method_7_code, exceptionTable := #[], attributes := #[] }
def k2m1 : Method := { name := "sequenceLength", desc := "(B)I", sig := { parameters := [.byte], returnType := some .int }, accessFlags := 9, code := some k2c1 }
/-- com/example/parlance/parlance/MessageBytes -/
def k2 : Class := { plain "com/example/parlance/parlance/MessageBytes" (some 0) with
  accessFlags := 49
  interfaces := #[]
  cf := some (fileOf pool2 7 #[.nestMembers #[58, 53]] #[{ accessFlags := 2, nameIndex := 5, descriptorIndex := 6, attributes := #[] }, { accessFlags := 9, nameIndex := 80, descriptorIndex := 81, attributes := #[] }] 49 2 #[] #[{ accessFlags := 25, nameIndex := 82, descriptorIndex := 83, attributes := #[] }, { accessFlags := 25, nameIndex := 85, descriptorIndex := 83, attributes := #[] }, { accessFlags := 26, nameIndex := 86, descriptorIndex := 83, attributes := #[] }])
  fields := #[{ name := "LIMIT", type := .int, accessFlags := 25, slot := 0, constantValue := 0 }, { name := "ONE_PASS", type := .int, accessFlags := 25, slot := 1, constantValue := 0 }, { name := "DECODE_CHUNK", type := .int, accessFlags := 26, slot := 2, constantValue := 0 }]
  methods := #[k2m0, k2m1]
  instanceTypes := #[]
  staticTypes := #[.int, .int, .int]
  resolved := Array.replicate 113 none
  statics := none }

def pool3 : Array CpInfo := pool [(1, u "java/lang/Cloneable"), (0, .class_ 1), (0, u "java/lang/Object"), (0, .class_ 3)] 3

/-- java/lang/Cloneable -/
def k3 : Class := { plain "java/lang/Cloneable" (some 0) with
  accessFlags := 1537
  interfaces := #[]
  cf := some (fileOf pool3 2 #[] #[] 1537 4 #[] #[])
  fields := #[]
  methods := #[]
  instanceTypes := #[]
  staticTypes := #[]
  resolved := Array.replicate 8 none
  statics := none }

def pool4 : Array CpInfo := pool [(1, u "java/io/Serializable"), (0, .class_ 1), (0, u "java/lang/Object"), (0, .class_ 3)] 3

/-- java/io/Serializable -/
def k4 : Class := { plain "java/io/Serializable" (some 0) with
  accessFlags := 1537
  interfaces := #[]
  cf := some (fileOf pool4 2 #[] #[] 1537 4 #[] #[])
  fields := #[]
  methods := #[]
  instanceTypes := #[]
  staticTypes := #[]
  resolved := Array.replicate 8 none
  statics := none }

/-- the primitive byte -/
def k5 : Class := { plain "byte" none with kind := .primitive 'B', accessFlags := 0x411 }
/-- [B -/
def k6 : Class := { plain "[B" (some 0) with kind := .array 5 .byte, interfaces := #[3, 4], accessFlags := 1041 }

/-- the primitive int -/
def k7 : Class := { plain "int" none with kind := .primitive 'I', accessFlags := 0x411 }
/-- [I -/
def k8 : Class := { plain "[I" (some 0) with kind := .array 7 .int, interfaces := #[3, 4], accessFlags := 1041 }

def heap : Heap := #[]
def classes : Array Class := #[k0, k1, k2, k3, k4, k5, k6, k7, k8]
def interned : List (Array UInt16 × Addr) := []
def slotsUsed : Nat := 0
def theMethod : MethodId := ⟨1, 2⟩
def args0 : Array Value := #[.int 5]
def aboutOver (below : List Frame) : State where
  vm := { classes := classes, interned := interned.toArray }
  heap := heap
  slotsUsed := slotsUsed
  threads := #[{ frames := .invoking theMethod args0 :: below }]
def below0 : List Frame := [.native { method := ⟨0, 0⟩, args := #[] }]
def about1 : State := aboutOver below0
def p0 : Program := .bare "" "" ""
def e0 : Env := launch0.env 0 0 0
theorem w_frames : about1.frames = Frame.invoking theMethod args0 :: below0 := rfl
set_option maxRecDepth 65536 in
theorem w_args : argsFit about1.vm theMethod args0 = true := by decide +kernel
set_option maxRecDepth 65536 in
theorem w_heap : heapFits about1 = true := by decide +kernel
set_option maxRecDepth 65536 in
theorem w_runnable : about1.curStatus? = some .runnable := by decide +kernel
set_option maxRecDepth 65536 in
theorem w_alone : about1.alone = true := by decide +kernel
set_option maxRecDepth 65536 in
theorem w_named : about1.methodNamed? x = some theMethod := by decide +kernel
set_option maxRecDepth 65536 in
theorem w_hears : about1.hears theMethod below0 = true := by decide +kernel
set_option maxRecDepth 65536 in
theorem w_ripe : about1.ripe theMethod args0 below0 = true := by decide +kernel
theorem w_running : about1.status = .running := rfl
set_option maxRecDepth 65536 in
theorem w_room : about1.hasRoom e0.platform room_1 = true :=
  launch0.hasRoom_least _ room_1 (by decide +kernel) (by decide +kernel) (by decide +kernel) (by decide +kernel) (by decide +kernel) (by decide +kernel)
theorem allAtoms_all (ts : List Jvm.Cond) (a : Array Jvm.Value) (st : Jvm.State) : (allAtoms ts).before a st = ts.all (fun c => c.before a st) := by
  induction ts with
  | nil => rfl
  | cons c t ih =>
    show (Jvm.Cond.and c (allAtoms t)).before a st = _
    rw [Jvm.Cond.before_and, ih, List.all_cons]
def words1 : List Jvm.Cond := Jvm.Cond.code x code maxLocals ret :: tables_1
/-- a 'code' word, met by the world's own term for the bytes: nothing is compared byte by byte -/
theorem code_word {y : MethodName} {bytes : ByteArray} {mx : Nat} {rt : Option FieldType} {a : Array Value} {s : State} {m : MethodId} {meth : Method} {c : Code} (h1 : s.methodNamed? y = some m) (h2 : s.vm.method? m = some meth) (h3 : meth.code = some c) (h4 : c.code = bytes)
    (h5 : (c.maxLocals == mx && c.exceptionTable.isEmpty && decide (c.maxStack ≤ mostOperands) && decide (meth.sig.returnType = rt) && !meth.locks && decide (parseMethodDescriptor y.desc = some meth.sig)) = true) : (Jvm.Cond.code y bytes mx rt).before a s = true := by
  simp only [Bool.and_eq_true, beq_iff_eq, Bool.not_eq_true', decide_eq_true_eq] at h5
  obtain ⟨⟨⟨⟨⟨g1, g2⟩, g3⟩, g4⟩, g5⟩, g6⟩ := h5
  simp [Cond.before, Cond.holds, Cond.value, h1, h2, h3, h4, g1, g2, g3, g4, g5, g6]
def isCode : Jvm.Cond → Bool
  | .code _ _ _ _ => true
  | _ => false
theorem all_split {L : List Jvm.Cond} {P : Jvm.Cond → Bool} (h1 : L.all (fun c => isCode c || P c) = true) (h2 : ∀ c ∈ L.filter isCode, P c = true) : L.all P = true := by
  refine List.all_eq_true.mpr fun c hc => ?_
  have h := List.all_eq_true.mp h1 c hc
  rcases Bool.eq_false_or_eq_true (isCode c) with hi | hi
  · exact h2 c (List.mem_filter.mpr ⟨hc, hi⟩)
  · simpa [hi] using h
set_option maxRecDepth 65536 in
theorem w_c0 : (Jvm.Cond.code x code maxLocals ret).before args0 about1 = true := code_word (m := ⟨1, 2⟩) (meth := k1m2) (c := k1c2) (by decide +kernel) rfl rfl rfl (by decide +kernel)
set_option maxRecDepth 65536 in
theorem w_c1 : (Jvm.Cond.code ({ cls := "com/example/parlance/parlance/MessageBytes", name := "sequenceLength", desc := "(B)I" } : Jvm.MethodName) prog_4_method_7_code (3 : Nat) (Option.some Jvm.ClassFile.FieldType.int)).before args0 about1 = true := code_word (m := ⟨2, 1⟩) (meth := k2m1) (c := k2c1) (by decide +kernel) rfl rfl rfl (by decide +kernel)
set_option maxRecDepth 65536 in
theorem w_c2 : (Jvm.Cond.code ({ cls := "com/example/parlance/parlance/MessageBytesSequenceLengthPinLaw", name := "expected", desc := "(I)I" } : Jvm.MethodName) method_2_code (1 : Nat) (Option.some Jvm.ClassFile.FieldType.int)).before args0 about1 = true := code_word (m := ⟨1, 1⟩) (meth := k1m1) (c := k1c1) (by decide +kernel) rfl rfl rfl (by decide +kernel)
def codes1 : List Jvm.Cond := [Jvm.Cond.code x code maxLocals ret, Jvm.Cond.code ({ cls := "com/example/parlance/parlance/MessageBytes", name := "sequenceLength", desc := "(B)I" } : Jvm.MethodName) prog_4_method_7_code (3 : Nat) (Option.some Jvm.ClassFile.FieldType.int), Jvm.Cond.code ({ cls := "com/example/parlance/parlance/MessageBytesSequenceLengthPinLaw", name := "expected", desc := "(I)I" } : Jvm.MethodName) method_2_code (1 : Nat) (Option.some Jvm.ClassFile.FieldType.int)]
set_option maxRecDepth 65536 in
theorem codes_eq : words1.filter isCode = codes1 := rfl
theorem w_codes : ∀ c ∈ words1.filter isCode, c.before args0 about1 = true := by
  rw [codes_eq]
  intro c hc
  simp only [codes1, List.mem_cons, List.not_mem_nil, or_false] at hc
  rcases hc with rfl | rfl | rfl
  · exact w_c0
  · exact w_c1
  · exact w_c2
set_option maxRecDepth 65536 in
theorem w_t1 : words1.all (fun c => isCode c || c.before args0 about1) = true := by decide +kernel
theorem w_tables : (allAtoms (Jvm.Cond.code x code maxLocals ret :: tables_1)).before args0 about1 = true := by
  rw [allAtoms_all]
  show words1.all (fun c => c.before args0 about1) = true
  refine all_split ?_ w_codes
  rw [w_t1]
set_option maxRecDepth 65536 in
theorem w_case : (Jvm.Cond.and given_1 narrow_1).before args0 about1 = true := by decide +kernel
theorem w_applies : (headSpec (Jvm.Cond.code x code maxLocals ret :: tables_1) room_1).applies x e0.platform about1 = true :=
  (Spec.applies_iff w_frames).mpr ⟨w_running, w_runnable, w_alone, w_named, w_hears, w_ripe, w_room, w_tables⟩
theorem atStart : AtStart classFile x code maxLocals ret World_1 tables_1 room_1 Calls_1 rest_1 Pre_1 launch0 p0 e0 about1 theMethod args0 below0 :=
  ⟨lists_1, trivial, launch0.admits_env _ _ _, launch0.least_env, fairChoices_fair.cas, fairChoices_fair.clock, w_frames, w_args, w_heap, w_applies, trivial, trivial, w_case⟩
end start1
theorem witness_1 : WitnessClaimed_1 := ⟨start1.p0, start1.e0, start1.about1, start1.theMethod, start1.args0, start1.below0, start1.atStart⟩
end Jvm.Pilot.@@N@@
