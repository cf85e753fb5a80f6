import JvmDerived
import JvmDerived.Pilot.@@N@@Statement
import JvmDerived.Pilot.@@N@@Code
set_option linter.unusedVariables false
set_option linter.unusedSimpArgs false
namespace Jvm.OwnK
open Sem ClassFile Op Lib Jvm.Stand Jvm.Free Jvm.LawKit Jvm.RoadKit
section
variable {p : Program} {l : Launch} {e : Env} {R : Room} {s : State} {m : MethodId} {args : Array Value} {below : List Frame} {meth : Method} {c : Code} {T : State} {locs : List Loc} {cells slots : Nat} {Cn Sn : Nat} {Q : Option Value → Heap → List Loc → Prop}
/-- from the frame f the run comes to an end that Q takes -/
def KEnds (p : Program) (e : Env) (below : List Frame) (s : State) (Cn Sn : Nat) (Q : Option Value → Heap → List Loc → Prop) (T : State) (f : JFrame) : Prop :=
  ∃ s₂ o, Steps p.tables e below (T.setTop f) s₂ ∧ s₂.status = .running ∧ Ended s₂ below o ∧ ∃ v L, o = .returned v ∧ Q v s₂.heap L ∧ FrameEnd s o s₂ L Cn Sn
theorem k_via {T' : State} {f f' : JFrame} (st : ∀ t, Steps p.tables e below (T'.setTop f') t → Steps p.tables e below (T.setTop f) t) (k : KEnds p e below s Cn Sn Q T' f') : KEnds p e below s Cn Sn Q T f := by
  obtain ⟨s₂, o, h, r⟩ := k
  exact ⟨s₂, o, st _ h, r⟩
theorem k_iloadN (X : Stand p l e R s m args below meth c T locs cells slots) (hx : p.tables.exec = Jvm.exec) {pc pc' : Nat} {Ls : Array Slot} {St : List Value} {i : Fin 4} {v : Int32} (hd : decode c.code pc = .ok (.iload_n i, 1)) (hl : Ls[i.val]? = some (.val (.int v))) (hpc : pc + 1 = pc') (k : KEnds p e below s Cn Sn Q T (mkF m pc' Ls (.int v :: St))) : KEnds p e below s Cn Sn Q T (mkF m pc Ls (St)) := by
  subst hpc; exact k_via (fun t h => XS.iloadN X.here hx rfl hd hl h) k
theorem k_iload (X : Stand p l e R s m args below meth c T locs cells slots) (hx : p.tables.exec = Jvm.exec) {pc pc' : Nat} {Ls : Array Slot} {St : List Value} {i : Nat} {v : Int32} (hd : decode c.code pc = .ok (.iload i, 2)) (hl : Ls[i]? = some (.val (.int v))) (hpc : pc + 2 = pc') (k : KEnds p e below s Cn Sn Q T (mkF m pc' Ls (.int v :: St))) : KEnds p e below s Cn Sn Q T (mkF m pc Ls (St)) := by
  subst hpc; exact k_via (fun t h => XS.iload X.here hx rfl hd hl h) k
theorem k_istoreN (X : Stand p l e R s m args below meth c T locs cells slots) (hx : p.tables.exec = Jvm.exec) {pc pc' : Nat} {Ls : Array Slot} {St : List Value} {i : Fin 4} {v : Int32} {Ls' : Array Slot} (hd : decode c.code pc = .ok (.istore_n i, 1)) (hl : storeLocals Ls i.val (.int v) = some Ls') (hpc : pc + 1 = pc') (k : KEnds p e below s Cn Sn Q T (mkF m pc' Ls' (St))) : KEnds p e below s Cn Sn Q T (mkF m pc Ls (.int v :: St)) := by
  subst hpc; exact k_via (fun t h => XS.istoreN X.here hx rfl hd rfl hl h) k
theorem k_istore (X : Stand p l e R s m args below meth c T locs cells slots) (hx : p.tables.exec = Jvm.exec) {pc pc' : Nat} {Ls : Array Slot} {St : List Value} {i : Nat} {v : Int32} {Ls' : Array Slot} (hd : decode c.code pc = .ok (.istore i, 2)) (hl : storeLocals Ls i (.int v) = some Ls') (hpc : pc + 2 = pc') (k : KEnds p e below s Cn Sn Q T (mkF m pc' Ls' (St))) : KEnds p e below s Cn Sn Q T (mkF m pc Ls (.int v :: St)) := by
  subst hpc; exact k_via (fun t h => XS.istore X.here hx rfl hd rfl hl h) k
theorem k_iconst (X : Stand p l e R s m args below meth c T locs cells slots) (hx : p.tables.exec = Jvm.exec) {pc pc' : Nat} {Ls : Array Slot} {St : List Value} {i : Int} {z : Int32} (hd : decode c.code pc = .ok (.iconst i, 1)) (hpc : pc + 1 = pc') (hz : Int32.ofInt i = z) (k : KEnds p e below s Cn Sn Q T (mkF m pc' Ls (.int z :: St))) : KEnds p e below s Cn Sn Q T (mkF m pc Ls St) := by
  subst hpc hz; exact k_via (fun t h => XS.iconst X.here hx rfl hd h) k
theorem k_bipush (X : Stand p l e R s m args below meth c T locs cells slots) (hx : p.tables.exec = Jvm.exec) {pc pc' : Nat} {Ls : Array Slot} {St : List Value} {i : Int} {z : Int32} (hd : decode c.code pc = .ok (.bipush i, 2)) (hpc : pc + 2 = pc') (hz : (Int8.ofInt i).toInt32 = z) (k : KEnds p e below s Cn Sn Q T (mkF m pc' Ls (.int z :: St))) : KEnds p e below s Cn Sn Q T (mkF m pc Ls St) := by
  subst hpc hz; exact k_via (fun t h => XS.bipush X.here hx rfl hd h) k
theorem k_lconst (X : Stand p l e R s m args below meth c T locs cells slots) (hx : p.tables.exec = Jvm.exec) {pc pc' : Nat} {Ls : Array Slot} {St : List Value} {i : Fin 2} {z : Int64} (hd : decode c.code pc = .ok (.lconst i, 1)) (hpc : pc + 1 = pc') (hz : Int64.ofNat i = z) (k : KEnds p e below s Cn Sn Q T (mkF m pc' Ls (.long z :: St))) : KEnds p e below s Cn Sn Q T (mkF m pc Ls St) := by
  subst hpc hz; exact k_via (fun t h => XS.lconst X.here hx rfl hd h) k
theorem k_iand (X : Stand p l e R s m args below meth c T locs cells slots) (hx : p.tables.exec = Jvm.exec) {pc pc' : Nat} {Ls : Array Slot} {St : List Value} {x y : Int32} (hd : decode c.code pc = .ok (.iand, 1))  (hpc : pc + 1 = pc') (k : ∀ z : Int32, z = x &&& y → KEnds p e below s Cn Sn Q T (mkF m pc' Ls (.int z :: St))) : KEnds p e below s Cn Sn Q T (mkF m pc Ls (.int y :: .int x :: St)) := by
  subst hpc; exact k_via (fun t h => XS.iand X.here hx rfl hd rfl h) (k _ rfl)
theorem k_land (X : Stand p l e R s m args below meth c T locs cells slots) (hx : p.tables.exec = Jvm.exec) {pc pc' : Nat} {Ls : Array Slot} {St : List Value} {x y : Int64} (hd : decode c.code pc = .ok (.land, 1))  (hpc : pc + 1 = pc') (k : ∀ z : Int64, z = x &&& y → KEnds p e below s Cn Sn Q T (mkF m pc' Ls (.long z :: St))) : KEnds p e below s Cn Sn Q T (mkF m pc Ls (.long y :: .long x :: St)) := by
  subst hpc; exact k_via (fun t h => XS.land X.here hx rfl hd rfl h) (k _ rfl)
theorem k_lushr (X : Stand p l e R s m args below meth c T locs cells slots) (hx : p.tables.exec = Jvm.exec) {pc pc' : Nat} {Ls : Array Slot} {St : List Value} {x : Int64} {y : Int32} (hd : decode c.code pc = .ok (.lushr, 1))  (hpc : pc + 1 = pc') (k : ∀ z : Int64, z = ((x.toUInt64 >>> (y &&& 0x3f).toInt64.toUInt64).toInt64) → KEnds p e below s Cn Sn Q T (mkF m pc' Ls (.long z :: St))) : KEnds p e below s Cn Sn Q T (mkF m pc Ls (.int y :: .long x :: St)) := by
  subst hpc; exact k_via (fun t h => XS.lushr X.here hx rfl hd rfl h) (k _ rfl)
theorem k_i2c (X : Stand p l e R s m args below meth c T locs cells slots) (hx : p.tables.exec = Jvm.exec) {pc pc' : Nat} {Ls : Array Slot} {St : List Value} {x : Int32} (hd : decode c.code pc = .ok (.i2c, 1))  (hpc : pc + 1 = pc') (k : ∀ z : Int32, z = x.toUInt32.toUInt16.toUInt32.toInt32 → KEnds p e below s Cn Sn Q T (mkF m pc' Ls (.int z :: St))) : KEnds p e below s Cn Sn Q T (mkF m pc Ls (.int x :: St)) := by
  subst hpc; exact k_via (fun t h => XS.i2c X.here hx rfl hd rfl h) (k _ rfl)
theorem k_goto (X : Stand p l e R s m args below meth c T locs cells slots) (hx : p.tables.exec = Jvm.exec) {pc pc' : Nat} {Ls : Array Slot} {St : List Value} {o : Int} (hd : decode c.code pc = .ok (.goto o, 3)) (hp : (pc : Int) + o = (pc' : Int)) (k : KEnds p e below s Cn Sn Q T (mkF m pc' Ls St)) : KEnds p e below s Cn Sn Q T (mkF m pc Ls St) :=
  k_via (fun t h => XS.goto X.here hx rfl (pc0 := pc) rfl hd (by omega) (by omega) h) k
theorem k_icmp_lt (X : Stand p l e R s m args below meth c T locs cells slots) (hx : p.tables.exec = Jvm.exec) {pc pn py : Nat} {Ls : Array Slot} {St : List Value} {x y : Int32} {o : Int} (hd : decode c.code pc = .ok (.if_icmp .lt o, 3)) (hn : pc + 3 = pn) (hp : (pc : Int) + o = (py : Int)) (ky : x < y → KEnds p e below s Cn Sn Q T (mkF m py Ls St)) (kn : ¬ x < y → KEnds p e below s Cn Sn Q T (mkF m pn Ls St)) : KEnds p e below s Cn Sn Q T (mkF m pc Ls (.int y :: .int x :: St)) := by
  subst hn
  by_cases hc : x < y
  · exact k_via (fun t h => XS.icmpYes X.here hx rfl (pc0 := pc) rfl hd rfl (tlt hc).1 (by omega) (by omega) h) (ky hc)
  · exact k_via (fun t h => XS.icmpNo X.here hx rfl hd rfl (flt hc).1 h) (kn hc)
theorem k_icmp_ge (X : Stand p l e R s m args below meth c T locs cells slots) (hx : p.tables.exec = Jvm.exec) {pc pn py : Nat} {Ls : Array Slot} {St : List Value} {x y : Int32} {o : Int} (hd : decode c.code pc = .ok (.if_icmp .ge o, 3)) (hn : pc + 3 = pn) (hp : (pc : Int) + o = (py : Int)) (ky : ¬ x < y → KEnds p e below s Cn Sn Q T (mkF m py Ls St)) (kn : x < y → KEnds p e below s Cn Sn Q T (mkF m pn Ls St)) : KEnds p e below s Cn Sn Q T (mkF m pc Ls (.int y :: .int x :: St)) := by
  subst hn
  by_cases hc : x < y
  · exact k_via (fun t h => XS.icmpNo X.here hx rfl hd rfl (tlt hc).2.1 h) (kn hc)
  · exact k_via (fun t h => XS.icmpYes X.here hx rfl (pc0 := pc) rfl hd rfl (flt hc).2.1 (by omega) (by omega) h) (ky hc)
theorem k_icmp_gt (X : Stand p l e R s m args below meth c T locs cells slots) (hx : p.tables.exec = Jvm.exec) {pc pn py : Nat} {Ls : Array Slot} {St : List Value} {x y : Int32} {o : Int} (hd : decode c.code pc = .ok (.if_icmp .gt o, 3)) (hn : pc + 3 = pn) (hp : (pc : Int) + o = (py : Int)) (ky : y < x → KEnds p e below s Cn Sn Q T (mkF m py Ls St)) (kn : ¬ y < x → KEnds p e below s Cn Sn Q T (mkF m pn Ls St)) : KEnds p e below s Cn Sn Q T (mkF m pc Ls (.int y :: .int x :: St)) := by
  subst hn
  by_cases hc : y < x
  · exact k_via (fun t h => XS.icmpYes X.here hx rfl (pc0 := pc) rfl hd rfl (tlt hc).2.2.1 (by omega) (by omega) h) (ky hc)
  · exact k_via (fun t h => XS.icmpNo X.here hx rfl hd rfl (flt hc).2.2.1 h) (kn hc)
theorem k_icmp_le (X : Stand p l e R s m args below meth c T locs cells slots) (hx : p.tables.exec = Jvm.exec) {pc pn py : Nat} {Ls : Array Slot} {St : List Value} {x y : Int32} {o : Int} (hd : decode c.code pc = .ok (.if_icmp .le o, 3)) (hn : pc + 3 = pn) (hp : (pc : Int) + o = (py : Int)) (ky : ¬ y < x → KEnds p e below s Cn Sn Q T (mkF m py Ls St)) (kn : y < x → KEnds p e below s Cn Sn Q T (mkF m pn Ls St)) : KEnds p e below s Cn Sn Q T (mkF m pc Ls (.int y :: .int x :: St)) := by
  subst hn
  by_cases hc : y < x
  · exact k_via (fun t h => XS.icmpNo X.here hx rfl hd rfl (tlt hc).2.2.2 h) (kn hc)
  · exact k_via (fun t h => XS.icmpYes X.here hx rfl (pc0 := pc) rfl hd rfl (flt hc).2.2.2 (by omega) (by omega) h) (ky hc)
theorem k_icmp_eq (X : Stand p l e R s m args below meth c T locs cells slots) (hx : p.tables.exec = Jvm.exec) {pc pn py : Nat} {Ls : Array Slot} {St : List Value} {x y : Int32} {o : Int} (hd : decode c.code pc = .ok (.if_icmp .eq o, 3)) (hn : pc + 3 = pn) (hp : (pc : Int) + o = (py : Int)) (ky : x = y → KEnds p e below s Cn Sn Q T (mkF m py Ls St)) (kn : ¬ x = y → KEnds p e below s Cn Sn Q T (mkF m pn Ls St)) : KEnds p e below s Cn Sn Q T (mkF m pc Ls (.int y :: .int x :: St)) := by
  subst hn
  by_cases hc : x = y
  · exact k_via (fun t h => XS.icmpYes X.here hx rfl (pc0 := pc) rfl hd rfl (teq hc).1 (by omega) (by omega) h) (ky hc)
  · exact k_via (fun t h => XS.icmpNo X.here hx rfl hd rfl (feq hc).1 h) (kn hc)
theorem k_if_eq (X : Stand p l e R s m args below meth c T locs cells slots) (hx : p.tables.exec = Jvm.exec) {pc pn py : Nat} {Ls : Array Slot} {St : List Value} {x : Int32} {o : Int} (hd : decode c.code pc = .ok (.ifCond .eq o, 3)) (hn : pc + 3 = pn) (hp : (pc : Int) + o = (py : Int)) (ky : x = (0 : Int32) → KEnds p e below s Cn Sn Q T (mkF m py Ls St)) (kn : ¬ x = (0 : Int32) → KEnds p e below s Cn Sn Q T (mkF m pn Ls St)) : KEnds p e below s Cn Sn Q T (mkF m pc Ls (.int x :: St)) := by
  subst hn
  by_cases hc : x = (0 : Int32)
  · exact k_via (fun t h => XS.ifYes X.here hx rfl (pc0 := pc) rfl hd rfl ((if0 _ _).trans (teq hc).1) (by omega) (by omega) h) (ky hc)
  · exact k_via (fun t h => XS.ifNo X.here hx rfl hd rfl ((if0 _ _).trans (feq hc).1) h) (kn hc)
theorem k_lcif_eq (X : Stand p l e R s m args below meth c T locs cells slots) (hx : p.tables.exec = Jvm.exec) {pc pn py : Nat} {Ls : Array Slot} {St : List Value} {x y : Int64} {o : Int} {pm : Nat} (hd0 : decode c.code pc = .ok (.lcmp, 1)) (hm : pc + 1 = pm) (hd : decode c.code pm = .ok (.ifCond .eq o, 3)) (hn : pm + 3 = pn) (hp : (pm : Int) + o = (py : Int)) (ky : x = y → KEnds p e below s Cn Sn Q T (mkF m py Ls St)) (kn : ¬ x = y → KEnds p e below s Cn Sn Q T (mkF m pn Ls St)) : KEnds p e below s Cn Sn Q T (mkF m pc Ls (.long y :: .long x :: St)) := by
  subst hm
  have F := k_if_eq (Q := Q) (Cn := Cn) (Sn := Sn) (Ls := Ls) (St := St) (x := lcmpW x y) X hx hd hn hp (fun hc => ky ((lw_eq x y).mp hc)) (fun hc => kn (fun q => hc ((lw_eq x y).mpr q)))
  exact k_via (fun t h => XS.lcmp X.here hx rfl hd0 rfl h) F
theorem k_icmp_ne (X : Stand p l e R s m args below meth c T locs cells slots) (hx : p.tables.exec = Jvm.exec) {pc pn py : Nat} {Ls : Array Slot} {St : List Value} {x y : Int32} {o : Int} (hd : decode c.code pc = .ok (.if_icmp .ne o, 3)) (hn : pc + 3 = pn) (hp : (pc : Int) + o = (py : Int)) (ky : ¬ x = y → KEnds p e below s Cn Sn Q T (mkF m py Ls St)) (kn : x = y → KEnds p e below s Cn Sn Q T (mkF m pn Ls St)) : KEnds p e below s Cn Sn Q T (mkF m pc Ls (.int y :: .int x :: St)) := by
  subst hn
  by_cases hc : x = y
  · exact k_via (fun t h => XS.icmpNo X.here hx rfl hd rfl (teq hc).2 h) (kn hc)
  · exact k_via (fun t h => XS.icmpYes X.here hx rfl (pc0 := pc) rfl hd rfl (feq hc).2 (by omega) (by omega) h) (ky hc)
theorem k_d_xlt_xlt {x a b : Int32} (h : x < a) (q : ¬ b < a) : x < b := by
  simp only [Int32.lt_iff_toInt_lt, ← Int32.toInt_inj] at *; omega
theorem k_d_alt_nxlt {x a b : Int32} (h : ¬ x < a) (q : b < a) : b < x := by
  simp only [Int32.lt_iff_toInt_lt, ← Int32.toInt_inj] at *; omega
theorem k_d_ne_nxlt {x a b : Int32} (h : ¬ x < a) (q : b < a) : ¬ x = b := by
  simp only [Int32.lt_iff_toInt_lt, ← Int32.toInt_inj] at *; omega
theorem k_retN (X : Stand p l e R s m args below meth c T locs cells slots) (hx : p.tables.exec = Jvm.exec) {pc : Nat} {Ls : Array Slot} {St : List Value} {t : FieldType} {z z' : Int32} (hret : meth.sig.returnType = some t) (ht : t = .boolean ∨ t = .byte ∨ t = .char ∨ t = .short) (hd : decode c.code pc = .ok (.ireturn, 1)) (hlk : meth.locks = false) (hC : cells ≤ Cn) (hS : slots ≤ Sn) (hz : nar t z = z') (q : Q (some (.int z')) T.heap locs) : KEnds p e below s Cn Sn Q T (mkF m pc Ls (.int z :: St)) := by
  subst hz
  obtain ⟨fs, hr, hrun, hended, hW, hsame⟩ := X.leave (v := some (.int (nar t z))) (fun h => by rw [hret] at h; cases h) hlk
  exact ⟨_, _, retN X hx hret ht hd hr, hrun, hended, _, _, rfl, q, ⟨_, rfl⟩, hW, hsame.mono hC hS⟩
variable {Z : State} {a0 : Array Value} {h : Heap} {own : String}
theorem k_ldc (X : Stand p l e R s m args below meth c T locs cells slots) (hx : p.tables.exec = Jvm.exec) (hZ : Z.Warmed39 s.vm) (hown : s.vm.findClass own = some m.cls) {pc pc' : Nat} {Ls : Array Slot} {St : List Value} {index : Nat} {v : Int32} (w : (Cond.constant own index v).before a0 Z = true) (hd : decode c.code pc = .ok (.ldc index, 2)) (hpc : pc + 2 = pc') (k : KEnds p e below s Cn Sn Q T (mkF m pc' Ls (.int v :: St))) : KEnds p e below s Cn Sn Q T (mkF m pc Ls St) := by
  subst hpc; exact k_via (X.ldcInt hx hown (mvT hZ w) (g := mkF m pc Ls St) rfl hd) k
theorem k_ldcL (X : Stand p l e R s m args below meth c T locs cells slots) (hx : p.tables.exec = Jvm.exec) (hZ : Z.Warmed39 s.vm) (hown : s.vm.findClass own = some m.cls) {pc pc' : Nat} {Ls : Array Slot} {St : List Value} {index : Nat} {v : Int64} (w : (Cond.constantLong own index v).before a0 Z = true) (hd : decode c.code pc = .ok (.ldc2_w index, 3)) (hpc : pc + 3 = pc') (k : KEnds p e below s Cn Sn Q T (mkF m pc' Ls (.long v :: St))) : KEnds p e below s Cn Sn Q T (mkF m pc Ls St) := by
  subst hpc; exact k_via (X.ldc2Long hx hown (mvT hZ w) (g := mkF m pc Ls St) rfl hd) k
theorem k_callS (X : Stand p l e R s m args below meth c T locs cells slots) (hx : p.tables.exec = Jvm.exec) (hZ : Z.Warmed39 s.vm) (hown : s.vm.findClass own = some m.cls) {pc pc' : Nat} {Ls : Array Slot} {St : List Value} {y : MethodName} {bytes : ByteArray} {maxL : Nat} {ret : Option FieldType} {rm : Room} {index W : Nat} {as' : Array Value} {Q' : Option Value → Heap → List Loc → Prop} (w1 : (Cond.methodLink own index y).before a0 Z = true) (w2 : (Cond.static y).before a0 Z = true) (w3 : (Cond.initialized y.cls).before a0 Z = true) (w4 : (Cond.code y bytes maxL ret).before a0 Z = true) (hy : y.cls ≠ "java/lang/invoke/MethodHandle" ∧ y.cls ≠ "java/lang/invoke/VarHandle") (hM : MetFree l y (head1 [Cond.code y bytes maxL ret] rm) (fun a U => a = as' ∧ Z.Warmed39 U.vm ∧ U.heap = h) (fun _ _ _ _ _ => True) (fun _ U o U' => ∃ v L, o = .returned v ∧ Q' v U'.heap L ∧ FrameEnd U o U' L rm.cells rm.slots)) (hf : rm.frames + 1 ≤ R.frames) (hl : W + (maxL + 11) + rm.locals ≤ R.locals) (eT : T.heap = h) (hsize : Ls.size = c.maxLocals) {argsL rest : List Value} (hlen : ∀ sig, parseMethodDescriptor y.desc = some sig → argsL.length = sig.parameters.length) (hst : St = argsL.reverse ++ rest) (hW : (rest.map fun v => v.category).sum ≤ W) (has : argsL.toArray = as') (hd : decode c.code pc = .ok (.invokestatic index, 3)) (hce : cells + rm.cells ≤ R.cells) (hsl : slots + rm.slots ≤ R.slots) (hpc : pc + 3 = pc') (k : ∀ T' L v, Stand p l e R s m args below meth c T' (locs ++ L) (cells + rm.cells) (slots + rm.slots) → Q' v T'.heap L → KEnds p e below s Cn Sn Q T' (mkF m pc' Ls (v.toList ++ rest))) : KEnds p e below s Cn Sn Q T (mkF m pc Ls St) := by
  subst hpc
  obtain ⟨v, _, ⟨T', L', k', n'⟩, -, X', ⟨Lc, hQ, l', y', z'⟩, st⟩ := Jvm.LawKit.callS X hx (y := y) hown (mvT hZ w1) (mvT hZ w2) (mvT hZ w3) (mvT hZ w4) hy (backOf (W := W) hM hZ w4 w3 hf hl) (g := mkF m pc Ls St) rfl hsize hlen hst (by show 2 * 0 + _ ≤ _; omega) hd (fun _ _ => ⟨has, eT, hce, hsl⟩)
  dsimp only [Pt.U, Pt.locs, Pt.cells, Pt.slots] at X' l' y' z' st hQ
  subst l' y' z'
  exact k_via st (k T' Lc v X' hQ)
end
end Jvm.OwnK
namespace Jvm.Pilot.@@N@@
open Jvm Jvm.ClassFile Sem Op Lib Jvm.Free Jvm.Stand Jvm.LawKit Jvm.RoadKit Jvm.OwnK Bundle Jvm.Pilot.@@N@@.Jvm.D
theorem d1_0 : decode prog_44_method_3_code 0 = .ok (.iload_n 0, 1) := by decide +kernel
theorem d1_1 : decode prog_44_method_3_code 1 = .ok (.bipush 32, 2) := by decide +kernel
theorem d1_3 : decode prog_44_method_3_code 3 = .ok (.if_icmp .eq 21, 3) := by decide +kernel
theorem d1_24 : decode prog_44_method_3_code 24 = .ok (.iconst 1, 1) := by decide +kernel
theorem d1_25 : decode prog_44_method_3_code 25 = .ok (.goto 4, 3) := by decide +kernel
theorem d1_29 : decode prog_44_method_3_code 29 = .ok (.ireturn, 1) := by decide +kernel
theorem d1_6 : decode prog_44_method_3_code 6 = .ok (.iload_n 0, 1) := by decide +kernel
theorem d1_7 : decode prog_44_method_3_code 7 = .ok (.bipush 10, 2) := by decide +kernel
theorem d1_9 : decode prog_44_method_3_code 9 = .ok (.if_icmp .eq 15, 3) := by decide +kernel
theorem d1_12 : decode prog_44_method_3_code 12 = .ok (.iload_n 0, 1) := by decide +kernel
theorem d1_13 : decode prog_44_method_3_code 13 = .ok (.bipush 9, 2) := by decide +kernel
theorem d1_15 : decode prog_44_method_3_code 15 = .ok (.if_icmp .eq 9, 3) := by decide +kernel
theorem d1_18 : decode prog_44_method_3_code 18 = .ok (.iload_n 0, 1) := by decide +kernel
theorem d1_19 : decode prog_44_method_3_code 19 = .ok (.bipush 13, 2) := by decide +kernel
theorem d1_21 : decode prog_44_method_3_code 21 = .ok (.if_icmp .ne 7, 3) := by decide +kernel
theorem d1_28 : decode prog_44_method_3_code 28 = .ok (.iconst 0, 1) := by decide +kernel
abbrev R1_4 : Room := { frames := 0, cells := 0, slots := 0, locals := 0 }
def f1_4 (p1 : Int32) : Int32 := (if p1 = (32 : Int32) then (1 : Int32) else (if p1 = (10 : Int32) then (1 : Int32) else (if p1 = (9 : Int32) then (1 : Int32) else (if p1 = (13 : Int32) then (1 : Int32) else (0 : Int32)))))
theorem f1_4_nar (p1 : Int32) : nar .boolean (f1_4 p1) = f1_4 p1 := by
  unfold f1_4; (repeat' split) <;> rfl
def Q1_4 (Z : State) (p1 : Int32) (h0 : Heap) (n0 : Nat) (v : Option Value) (h : Heap) (L : List Loc) : Prop := Fr n0 L ∧ h = h0 ∧ v = some (.int (f1_4 p1))
theorem ef1_4 (m : MethodId) (x0 : Int32) : entryFrame m #[(.int x0)] 1 = mkF m 0 #[.val (.int x0)] [] := by first | (simp [entryFrame, mkF, argsToLocals, Value.category]; done) | rfl
theorem pn_0 : plainName "com/example/xylem/xylem/core/xml/XmlChar" = true := by first | (simp [plainName, overriddenIn]; done) | decide +kernel
set_option maxRecDepth 65536 in
set_option maxHeartbeats 40000000 in
theorem rm1_4 (l : Launch) (Z : State) (a0 : Array Value) (hw : ∀ d ∈ tables_1, d.before a0 Z = true) (ws : List Jvm.Cond) (p1 : Int32) (h0 : Heap) (n0 : Nat) (Z0 : n0 ≤ h0.size)  :
    MetFree l (⟨"com/example/xylem/xylem/core/xml/XmlChar", "isWhiteSpace", "(C)Z"⟩ : MethodName) (head1 (Jvm.Cond.code (⟨"com/example/xylem/xylem/core/xml/XmlChar", "isWhiteSpace", "(C)Z"⟩ : MethodName) prog_44_method_3_code 1 (some .boolean) :: ws) R1_4) (fun a U => a = #[(.int p1)] ∧ Z.Warmed39 U.vm ∧ U.heap = h0) (fun _ _ _ _ _ => True) (fun _ U o U' => ∃ v L, o = .returned v ∧ Q1_4 Z p1 h0 n0 v U'.heap L ∧ FrameEnd U o U' L R1_4.cells R1_4.slots) := by
 refine MetFree.of_bodySF (plainFor_of_name pn_0) hisR ?_
 intro p e s m args below meth c s₁ Bd hml0 hP hK
 obtain ⟨rfl, hZ, hh⟩ := hP
 have hx := Bd.exec
 have hby := Bd.bytes
 have hml : c.maxLocals = 1 := hml0
 have hlk : meth.locks = false := Bd.notSynchronized
 have hown : s.vm.findClass "com/example/xylem/xylem/core/xml/XmlChar" = some m.cls := findClass_of_methodNamed Bd.named
 have hnm := (name_of_methodNamed Bd.named Bd.method).1
 have X0 : Stand p l e R1_4 s m #[(.int p1)] below meth c s₁ [] 0 0 := Stand.of_body Bd
 have e0 : s₁.heap = h0 := by rw [← hh, Bd.state]; rfl
 have N0 := Fr.nil n0
 rw [ef1_4 m p1]
 show KEnds p e below s R1_4.cells R1_4.slots (Q1_4 Z p1 h0 n0) s₁ (mkF m 0 #[.val (.int p1)] [])
 refine k_iloadN X0 hx (hb hby d1_0) rfl (pc' := 1) rfl ?_
 refine k_bipush X0 hx (hb hby d1_1) (pc' := 3) rfl (z := (32 : Int32)) rfl ?_
 refine k_icmp_eq X0 hx (hb hby d1_3) (pn := 6) rfl (py := 24) (by decide) (fun hc5 => ?_) (fun hc5 => ?_)
 ·
  refine k_iconst X0 hx (hb hby d1_24) (pc' := 25) rfl (z := (1 : Int32)) rfl ?_
  refine k_goto X0 hx (hb hby d1_25) (pc' := 29) (by decide) ?_
  have hf : f1_4 p1 = (1 : Int32) := by simp only [f1_4, if_pos hc5]
  exact k_retN X0 hx (t := .boolean) Bd.returns (by simp) (hb hby d1_29) hlk (by decide) (by decide) (z' := (1 : Int32)) rfl ⟨N0, e0, by rw [hf]⟩
 ·
  refine k_iloadN X0 hx (hb hby d1_6) rfl (pc' := 7) rfl ?_
  refine k_bipush X0 hx (hb hby d1_7) (pc' := 9) rfl (z := (10 : Int32)) rfl ?_
  refine k_icmp_eq X0 hx (hb hby d1_9) (pn := 12) rfl (py := 24) (by decide) (fun hc6 => ?_) (fun hc6 => ?_)
  ·
   refine k_iconst X0 hx (hb hby d1_24) (pc' := 25) rfl (z := (1 : Int32)) rfl ?_
   refine k_goto X0 hx (hb hby d1_25) (pc' := 29) (by decide) ?_
   have hf : f1_4 p1 = (1 : Int32) := by simp only [f1_4, if_neg hc5, if_pos hc6]
   exact k_retN X0 hx (t := .boolean) Bd.returns (by simp) (hb hby d1_29) hlk (by decide) (by decide) (z' := (1 : Int32)) rfl ⟨N0, e0, by rw [hf]⟩
  ·
   refine k_iloadN X0 hx (hb hby d1_12) rfl (pc' := 13) rfl ?_
   refine k_bipush X0 hx (hb hby d1_13) (pc' := 15) rfl (z := (9 : Int32)) rfl ?_
   refine k_icmp_eq X0 hx (hb hby d1_15) (pn := 18) rfl (py := 24) (by decide) (fun hc7 => ?_) (fun hc7 => ?_)
   ·
    refine k_iconst X0 hx (hb hby d1_24) (pc' := 25) rfl (z := (1 : Int32)) rfl ?_
    refine k_goto X0 hx (hb hby d1_25) (pc' := 29) (by decide) ?_
    have hf : f1_4 p1 = (1 : Int32) := by simp only [f1_4, if_neg hc5, if_neg hc6, if_pos hc7]
    exact k_retN X0 hx (t := .boolean) Bd.returns (by simp) (hb hby d1_29) hlk (by decide) (by decide) (z' := (1 : Int32)) rfl ⟨N0, e0, by rw [hf]⟩
   ·
    refine k_iloadN X0 hx (hb hby d1_18) rfl (pc' := 19) rfl ?_
    refine k_bipush X0 hx (hb hby d1_19) (pc' := 21) rfl (z := (13 : Int32)) rfl ?_
    refine k_icmp_ne X0 hx (hb hby d1_21) (pn := 24) rfl (py := 28) (by decide) (fun hc8 => ?_) (fun hc8 => ?_)
    ·
     refine k_iconst X0 hx (hb hby d1_28) (pc' := 29) rfl (z := (0 : Int32)) rfl ?_
     have hf : f1_4 p1 = (0 : Int32) := by simp only [f1_4, if_neg hc5, if_neg hc6, if_neg hc7, if_neg hc8]
     exact k_retN X0 hx (t := .boolean) Bd.returns (by simp) (hb hby d1_29) hlk (by decide) (by decide) (z' := (0 : Int32)) rfl ⟨N0, e0, by rw [hf]⟩
    ·
     refine k_iconst X0 hx (hb hby d1_24) (pc' := 25) rfl (z := (1 : Int32)) rfl ?_
     refine k_goto X0 hx (hb hby d1_25) (pc' := 29) (by decide) ?_
     have hf : f1_4 p1 = (1 : Int32) := by simp only [f1_4, if_neg hc5, if_neg hc6, if_neg hc7, if_pos hc8]
     exact k_retN X0 hx (t := .boolean) Bd.returns (by simp) (hb hby d1_29) hlk (by decide) (by decide) (z' := (1 : Int32)) rfl ⟨N0, e0, by rw [hf]⟩
theorem pd_0 : parseMethodDescriptor "(C)Z" = some ⟨[.char], some .boolean⟩ := by decide +kernel
theorem d2_0 : decode prog_44_method_2_code 0 = .ok (.iload_n 0, 1) := by decide +kernel
theorem d2_1 : decode prog_44_method_2_code 1 = .ok (.bipush 32, 2) := by decide +kernel
theorem d2_3 : decode prog_44_method_2_code 3 = .ok (.if_icmp .lt 9, 3) := by decide +kernel
theorem d2_12 : decode prog_44_method_2_code 12 = .ok (.iload_n 0, 1) := by decide +kernel
theorem d2_13 : decode prog_44_method_2_code 13 = .ok (.bipush 9, 2) := by decide +kernel
theorem d2_15 : decode prog_44_method_2_code 15 = .ok (.if_icmp .eq 39, 3) := by decide +kernel
theorem d2_54 : decode prog_44_method_2_code 54 = .ok (.iconst 1, 1) := by decide +kernel
theorem d2_55 : decode prog_44_method_2_code 55 = .ok (.goto 4, 3) := by decide +kernel
theorem d2_59 : decode prog_44_method_2_code 59 = .ok (.ireturn, 1) := by decide +kernel
theorem d2_18 : decode prog_44_method_2_code 18 = .ok (.iload_n 0, 1) := by decide +kernel
theorem d2_19 : decode prog_44_method_2_code 19 = .ok (.bipush 10, 2) := by decide +kernel
theorem d2_21 : decode prog_44_method_2_code 21 = .ok (.if_icmp .eq 33, 3) := by decide +kernel
theorem d2_24 : decode prog_44_method_2_code 24 = .ok (.iload_n 0, 1) := by decide +kernel
theorem d2_25 : decode prog_44_method_2_code 25 = .ok (.bipush 13, 2) := by decide +kernel
theorem d2_27 : decode prog_44_method_2_code 27 = .ok (.if_icmp .eq 27, 3) := by decide +kernel
theorem d2_30 : decode prog_44_method_2_code 30 = .ok (.iload_n 0, 1) := by decide +kernel
theorem d2_31 : decode prog_44_method_2_code 31 = .ok (.ldc 8, 2) := by decide +kernel
theorem d2_33 : decode prog_44_method_2_code 33 = .ok (.if_icmp .lt 9, 3) := by decide +kernel
theorem d2_42 : decode prog_44_method_2_code 42 = .ok (.iload_n 0, 1) := by decide +kernel
theorem d2_43 : decode prog_44_method_2_code 43 = .ok (.ldc 10, 2) := by decide +kernel
theorem d2_45 : decode prog_44_method_2_code 45 = .ok (.if_icmp .lt 13, 3) := by decide +kernel
theorem d2_58 : decode prog_44_method_2_code 58 = .ok (.iconst 0, 1) := by decide +kernel
theorem d2_6 : decode prog_44_method_2_code 6 = .ok (.iload_n 0, 1) := by decide +kernel
theorem d2_7 : decode prog_44_method_2_code 7 = .ok (.ldc 7, 2) := by decide +kernel
theorem d2_9 : decode prog_44_method_2_code 9 = .ok (.if_icmp .le 45, 3) := by decide +kernel
theorem d2_36 : decode prog_44_method_2_code 36 = .ok (.iload_n 0, 1) := by decide +kernel
theorem d2_37 : decode prog_44_method_2_code 37 = .ok (.ldc 9, 2) := by decide +kernel
theorem d2_39 : decode prog_44_method_2_code 39 = .ok (.if_icmp .le 15, 3) := by decide +kernel
theorem d2_48 : decode prog_44_method_2_code 48 = .ok (.iload_n 0, 1) := by decide +kernel
theorem d2_49 : decode prog_44_method_2_code 49 = .ok (.ldc 13, 2) := by decide +kernel
theorem d2_51 : decode prog_44_method_2_code 51 = .ok (.if_icmp .gt 7, 3) := by decide +kernel
abbrev R2_16 : Room := { frames := 0, cells := 0, slots := 0, locals := 0 }
def f2_16 (p1 : Int32) : Int32 := (if p1 < (32 : Int32) then (if p1 = (9 : Int32) then (1 : Int32) else (if p1 = (10 : Int32) then (1 : Int32) else (if p1 = (13 : Int32) then (1 : Int32) else (0 : Int32)))) else (if (55295 : Int32) < p1 then (if p1 < (57344 : Int32) then (0 : Int32) else (if (65533 : Int32) < p1 then (if p1 < (65536 : Int32) then (0 : Int32) else (if (1114111 : Int32) < p1 then (0 : Int32) else (1 : Int32))) else (1 : Int32))) else (1 : Int32)))
theorem f2_16_nar (p1 : Int32) : nar .boolean (f2_16 p1) = f2_16 p1 := by
  unfold f2_16; (repeat' split) <;> rfl
def Q2_16 (Z : State) (p1 : Int32) (h0 : Heap) (n0 : Nat) (v : Option Value) (h : Heap) (L : List Loc) : Prop := Fr n0 L ∧ h = h0 ∧ v = some (.int (f2_16 p1))
theorem ef2_16 (m : MethodId) (x0 : Int32) : entryFrame m #[(.int x0)] 1 = mkF m 0 #[.val (.int x0)] [] := by first | (simp [entryFrame, mkF, argsToLocals, Value.category]; done) | rfl
set_option maxRecDepth 65536 in
set_option maxHeartbeats 40000000 in
theorem rm2_16 (l : Launch) (Z : State) (a0 : Array Value) (hw : ∀ d ∈ tables_1, d.before a0 Z = true) (ws : List Jvm.Cond) (p1 : Int32) (h0 : Heap) (n0 : Nat) (Z0 : n0 ≤ h0.size)  :
    MetFree l (⟨"com/example/xylem/xylem/core/xml/XmlChar", "isAllowed", "(I)Z"⟩ : MethodName) (head1 (Jvm.Cond.code (⟨"com/example/xylem/xylem/core/xml/XmlChar", "isAllowed", "(I)Z"⟩ : MethodName) prog_44_method_2_code 1 (some .boolean) :: ws) R2_16) (fun a U => a = #[(.int p1)] ∧ Z.Warmed39 U.vm ∧ U.heap = h0) (fun _ _ _ _ _ => True) (fun _ U o U' => ∃ v L, o = .returned v ∧ Q2_16 Z p1 h0 n0 v U'.heap L ∧ FrameEnd U o U' L R2_16.cells R2_16.slots) := by
 refine MetFree.of_bodySF (plainFor_of_name pn_0) hisR ?_
 intro p e s m args below meth c s₁ Bd hml0 hP hK
 obtain ⟨rfl, hZ, hh⟩ := hP
 have hx := Bd.exec
 have hby := Bd.bytes
 have hml : c.maxLocals = 1 := hml0
 have hlk : meth.locks = false := Bd.notSynchronized
 have hown : s.vm.findClass "com/example/xylem/xylem/core/xml/XmlChar" = some m.cls := findClass_of_methodNamed Bd.named
 have hnm := (name_of_methodNamed Bd.named Bd.method).1
 have X0 : Stand p l e R2_16 s m #[(.int p1)] below meth c s₁ [] 0 0 := Stand.of_body Bd
 have e0 : s₁.heap = h0 := by rw [← hh, Bd.state]; rfl
 have N0 := Fr.nil n0
 rw [ef2_16 m p1]
 show KEnds p e below s R2_16.cells R2_16.slots (Q2_16 Z p1 h0 n0) s₁ (mkF m 0 #[.val (.int p1)] [])
 refine k_iloadN X0 hx (hb hby d2_0) rfl (pc' := 1) rfl ?_
 refine k_bipush X0 hx (hb hby d2_1) (pc' := 3) rfl (z := (32 : Int32)) rfl ?_
 refine k_icmp_lt X0 hx (hb hby d2_3) (pn := 6) rfl (py := 12) (by decide) (fun hc17 => ?_) (fun hc17 => ?_)
 ·
  refine k_iloadN X0 hx (hb hby d2_12) rfl (pc' := 13) rfl ?_
  refine k_bipush X0 hx (hb hby d2_13) (pc' := 15) rfl (z := (9 : Int32)) rfl ?_
  refine k_icmp_eq X0 hx (hb hby d2_15) (pn := 18) rfl (py := 54) (by decide) (fun hc18 => ?_) (fun hc18 => ?_)
  ·
   refine k_iconst X0 hx (hb hby d2_54) (pc' := 55) rfl (z := (1 : Int32)) rfl ?_
   refine k_goto X0 hx (hb hby d2_55) (pc' := 59) (by decide) ?_
   have hf : f2_16 p1 = (1 : Int32) := by simp only [f2_16, if_pos hc17, if_pos hc18]
   exact k_retN X0 hx (t := .boolean) Bd.returns (by simp) (hb hby d2_59) hlk (by decide) (by decide) (z' := (1 : Int32)) rfl ⟨N0, e0, by rw [hf]⟩
  ·
   refine k_iloadN X0 hx (hb hby d2_18) rfl (pc' := 19) rfl ?_
   refine k_bipush X0 hx (hb hby d2_19) (pc' := 21) rfl (z := (10 : Int32)) rfl ?_
   refine k_icmp_eq X0 hx (hb hby d2_21) (pn := 24) rfl (py := 54) (by decide) (fun hc19 => ?_) (fun hc19 => ?_)
   ·
    refine k_iconst X0 hx (hb hby d2_54) (pc' := 55) rfl (z := (1 : Int32)) rfl ?_
    refine k_goto X0 hx (hb hby d2_55) (pc' := 59) (by decide) ?_
    have hf : f2_16 p1 = (1 : Int32) := by simp only [f2_16, if_pos hc17, if_neg hc18, if_pos hc19]
    exact k_retN X0 hx (t := .boolean) Bd.returns (by simp) (hb hby d2_59) hlk (by decide) (by decide) (z' := (1 : Int32)) rfl ⟨N0, e0, by rw [hf]⟩
   ·
    refine k_iloadN X0 hx (hb hby d2_24) rfl (pc' := 25) rfl ?_
    refine k_bipush X0 hx (hb hby d2_25) (pc' := 27) rfl (z := (13 : Int32)) rfl ?_
    refine k_icmp_eq X0 hx (hb hby d2_27) (pn := 30) rfl (py := 54) (by decide) (fun hc20 => ?_) (fun hc20 => ?_)
    ·
     refine k_iconst X0 hx (hb hby d2_54) (pc' := 55) rfl (z := (1 : Int32)) rfl ?_
     refine k_goto X0 hx (hb hby d2_55) (pc' := 59) (by decide) ?_
     have hf : f2_16 p1 = (1 : Int32) := by simp only [f2_16, if_pos hc17, if_neg hc18, if_neg hc19, if_pos hc20]
     exact k_retN X0 hx (t := .boolean) Bd.returns (by simp) (hb hby d2_59) hlk (by decide) (by decide) (z' := (1 : Int32)) rfl ⟨N0, e0, by rw [hf]⟩
    ·
     refine k_iloadN X0 hx (hb hby d2_30) rfl (pc' := 31) rfl ?_
     refine k_ldc X0 hx hZ hown (hw _ (List.mem_of_getElem? (i := 8) rfl)) (hb hby d2_31) (pc' := 33) rfl ?_
     refine k_icmp_lt X0 hx (hb hby d2_33) (pn := 36) rfl (py := 42) (by decide) (fun _ => ?_) (fun hc => absurd (k_d_xlt_xlt hc17 (by decide)) hc)
     refine k_iloadN X0 hx (hb hby d2_42) rfl (pc' := 43) rfl ?_
     refine k_ldc X0 hx hZ hown (hw _ (List.mem_of_getElem? (i := 9) rfl)) (hb hby d2_43) (pc' := 45) rfl ?_
     refine k_icmp_lt X0 hx (hb hby d2_45) (pn := 48) rfl (py := 58) (by decide) (fun _ => ?_) (fun hc => absurd (k_d_xlt_xlt hc17 (by decide)) hc)
     refine k_iconst X0 hx (hb hby d2_58) (pc' := 59) rfl (z := (0 : Int32)) rfl ?_
     have hf : f2_16 p1 = (0 : Int32) := by simp only [f2_16, if_pos hc17, if_neg hc18, if_neg hc19, if_neg hc20]
     exact k_retN X0 hx (t := .boolean) Bd.returns (by simp) (hb hby d2_59) hlk (by decide) (by decide) (z' := (0 : Int32)) rfl ⟨N0, e0, by rw [hf]⟩
 ·
  refine k_iloadN X0 hx (hb hby d2_6) rfl (pc' := 7) rfl ?_
  refine k_ldc X0 hx hZ hown (hw _ (List.mem_of_getElem? (i := 10) rfl)) (hb hby d2_7) (pc' := 9) rfl ?_
  refine k_icmp_le X0 hx (hb hby d2_9) (pn := 12) rfl (py := 54) (by decide) (fun hc21 => ?_) (fun hc21 => ?_)
  ·
   refine k_iconst X0 hx (hb hby d2_54) (pc' := 55) rfl (z := (1 : Int32)) rfl ?_
   refine k_goto X0 hx (hb hby d2_55) (pc' := 59) (by decide) ?_
   have hf : f2_16 p1 = (1 : Int32) := by simp only [f2_16, if_neg hc17, if_neg hc21]
   exact k_retN X0 hx (t := .boolean) Bd.returns (by simp) (hb hby d2_59) hlk (by decide) (by decide) (z' := (1 : Int32)) rfl ⟨N0, e0, by rw [hf]⟩
  ·
   refine k_iloadN X0 hx (hb hby d2_12) rfl (pc' := 13) rfl ?_
   refine k_bipush X0 hx (hb hby d2_13) (pc' := 15) rfl (z := (9 : Int32)) rfl ?_
   refine k_icmp_eq X0 hx (hb hby d2_15) (pn := 18) rfl (py := 54) (by decide) (fun hc => absurd hc (k_d_ne_nxlt hc17 (by decide))) (fun _ => ?_)
   refine k_iloadN X0 hx (hb hby d2_18) rfl (pc' := 19) rfl ?_
   refine k_bipush X0 hx (hb hby d2_19) (pc' := 21) rfl (z := (10 : Int32)) rfl ?_
   refine k_icmp_eq X0 hx (hb hby d2_21) (pn := 24) rfl (py := 54) (by decide) (fun hc => absurd hc (k_d_ne_nxlt hc17 (by decide))) (fun _ => ?_)
   refine k_iloadN X0 hx (hb hby d2_24) rfl (pc' := 25) rfl ?_
   refine k_bipush X0 hx (hb hby d2_25) (pc' := 27) rfl (z := (13 : Int32)) rfl ?_
   refine k_icmp_eq X0 hx (hb hby d2_27) (pn := 30) rfl (py := 54) (by decide) (fun hc => absurd hc (k_d_ne_nxlt hc17 (by decide))) (fun _ => ?_)
   refine k_iloadN X0 hx (hb hby d2_30) rfl (pc' := 31) rfl ?_
   refine k_ldc X0 hx hZ hown (hw _ (List.mem_of_getElem? (i := 8) rfl)) (hb hby d2_31) (pc' := 33) rfl ?_
   refine k_icmp_lt X0 hx (hb hby d2_33) (pn := 36) rfl (py := 42) (by decide) (fun hc22 => ?_) (fun hc22 => ?_)
   ·
    refine k_iloadN X0 hx (hb hby d2_42) rfl (pc' := 43) rfl ?_
    refine k_ldc X0 hx hZ hown (hw _ (List.mem_of_getElem? (i := 9) rfl)) (hb hby d2_43) (pc' := 45) rfl ?_
    refine k_icmp_lt X0 hx (hb hby d2_45) (pn := 48) rfl (py := 58) (by decide) (fun _ => ?_) (fun hc => absurd (k_d_xlt_xlt hc22 (by decide)) hc)
    refine k_iconst X0 hx (hb hby d2_58) (pc' := 59) rfl (z := (0 : Int32)) rfl ?_
    have hf : f2_16 p1 = (0 : Int32) := by simp only [f2_16, if_neg hc17, if_pos hc21, if_pos hc22]
    exact k_retN X0 hx (t := .boolean) Bd.returns (by simp) (hb hby d2_59) hlk (by decide) (by decide) (z' := (0 : Int32)) rfl ⟨N0, e0, by rw [hf]⟩
   ·
    refine k_iloadN X0 hx (hb hby d2_36) rfl (pc' := 37) rfl ?_
    refine k_ldc X0 hx hZ hown (hw _ (List.mem_of_getElem? (i := 11) rfl)) (hb hby d2_37) (pc' := 39) rfl ?_
    refine k_icmp_le X0 hx (hb hby d2_39) (pn := 42) rfl (py := 54) (by decide) (fun hc23 => ?_) (fun hc23 => ?_)
    ·
     refine k_iconst X0 hx (hb hby d2_54) (pc' := 55) rfl (z := (1 : Int32)) rfl ?_
     refine k_goto X0 hx (hb hby d2_55) (pc' := 59) (by decide) ?_
     have hf : f2_16 p1 = (1 : Int32) := by simp only [f2_16, if_neg hc17, if_pos hc21, if_neg hc22, if_neg hc23]
     exact k_retN X0 hx (t := .boolean) Bd.returns (by simp) (hb hby d2_59) hlk (by decide) (by decide) (z' := (1 : Int32)) rfl ⟨N0, e0, by rw [hf]⟩
    ·
     refine k_iloadN X0 hx (hb hby d2_42) rfl (pc' := 43) rfl ?_
     refine k_ldc X0 hx hZ hown (hw _ (List.mem_of_getElem? (i := 9) rfl)) (hb hby d2_43) (pc' := 45) rfl ?_
     refine k_icmp_lt X0 hx (hb hby d2_45) (pn := 48) rfl (py := 58) (by decide) (fun hc24 => ?_) (fun hc24 => ?_)
     ·
      refine k_iconst X0 hx (hb hby d2_58) (pc' := 59) rfl (z := (0 : Int32)) rfl ?_
      have hf : f2_16 p1 = (0 : Int32) := by simp only [f2_16, if_neg hc17, if_pos hc21, if_neg hc22, if_pos hc23, if_pos hc24]
      exact k_retN X0 hx (t := .boolean) Bd.returns (by simp) (hb hby d2_59) hlk (by decide) (by decide) (z' := (0 : Int32)) rfl ⟨N0, e0, by rw [hf]⟩
     ·
      refine k_iloadN X0 hx (hb hby d2_48) rfl (pc' := 49) rfl ?_
      refine k_ldc X0 hx hZ hown (hw _ (List.mem_of_getElem? (i := 12) rfl)) (hb hby d2_49) (pc' := 51) rfl ?_
      refine k_icmp_gt X0 hx (hb hby d2_51) (pn := 54) rfl (py := 58) (by decide) (fun hc25 => ?_) (fun hc25 => ?_)
      ·
       refine k_iconst X0 hx (hb hby d2_58) (pc' := 59) rfl (z := (0 : Int32)) rfl ?_
       have hf : f2_16 p1 = (0 : Int32) := by simp only [f2_16, if_neg hc17, if_pos hc21, if_neg hc22, if_pos hc23, if_neg hc24, if_pos hc25]
       exact k_retN X0 hx (t := .boolean) Bd.returns (by simp) (hb hby d2_59) hlk (by decide) (by decide) (z' := (0 : Int32)) rfl ⟨N0, e0, by rw [hf]⟩
      ·
       refine k_iconst X0 hx (hb hby d2_54) (pc' := 55) rfl (z := (1 : Int32)) rfl ?_
       refine k_goto X0 hx (hb hby d2_55) (pc' := 59) (by decide) ?_
       have hf : f2_16 p1 = (1 : Int32) := by simp only [f2_16, if_neg hc17, if_pos hc21, if_neg hc22, if_pos hc23, if_neg hc24, if_neg hc25]
       exact k_retN X0 hx (t := .boolean) Bd.returns (by simp) (hb hby d2_59) hlk (by decide) (by decide) (z' := (1 : Int32)) rfl ⟨N0, e0, by rw [hf]⟩
theorem pd_1 : parseMethodDescriptor "(I)Z" = some ⟨[.int], some .boolean⟩ := by decide +kernel
theorem ef0 (m : MethodId) (x0 : Int32) (x1 : Int32) : entryFrame m #[(.int x0), (.int x1)] maxLocals = mkF m 0 #[.val (.int x0), .val (.int x1), .unset, .unset, .unset, .unset] [] := by first | (simp [entryFrame, mkF, argsToLocals, Value.category, maxLocals]; done) | rfl
theorem pn_1 : plainName "com/example/xylem/xylem/core/xml/XmlCharIsWhiteSpacePinLaw" = true := by first | (simp [plainName, overriddenIn]; done) | decide +kernel
theorem own_b (c : Int32) : f2_16 c = 0 ∨ f2_16 c = 1 := by
  unfold f2_16
  (repeat' split) <;> first | exact Or.inl rfl | exact Or.inr rfl
theorem own_enum : ∀ n : Fin 64, (let c : Int32 := Int32.ofNat n.val; (((4294977024 : Int64).toUInt64 >>> (c &&& 0x3f).toInt64.toUInt64).toInt64 &&& (1 : Int64) = 0 → f1_4 c = 0) ∧ (¬ ((4294977024 : Int64).toUInt64 >>> (c &&& 0x3f).toInt64.toUInt64).toInt64 &&& (1 : Int64) = 0 → f1_4 c = 1) ∧ (¬ 32 < c → f1_4 c = f2_16 c) ∧ (32 < c → f1_4 c = 0)) := by decide +kernel
theorem own_law (c : Int32) (h0 : 0 ≤ c.toInt) : (c < 64 → (((4294977024 : Int64).toUInt64 >>> (c &&& 0x3f).toInt64.toUInt64).toInt64 &&& (1 : Int64) = 0 → f1_4 c = 0) ∧ (¬ ((4294977024 : Int64).toUInt64 >>> (c &&& 0x3f).toInt64.toUInt64).toInt64 &&& (1 : Int64) = 0 → f1_4 c = 1)) ∧ (¬ c < 64 → f1_4 c = 0) ∧ (¬ 32 < c → f1_4 c = f2_16 c) ∧ (32 < c → f1_4 c = 0) := by
  have r := rng32 c
  by_cases h : c.toInt < 64
  · have hc : c = Int32.ofNat c.toInt.toNat := by
      apply Int32.toInt_inj.mp
      rw [Int32.toInt_ofNat_of_lt (by omega)]
      omega
    have q := own_enum ⟨c.toInt.toNat, by omega⟩
    simp only [← hc] at q
    exact ⟨fun _ => ⟨q.1, q.2.1⟩, fun z => absurd (Int32.lt_iff_toInt_lt.mpr (show c.toInt < (64 : Int32).toInt from h)) z, q.2.2.1, q.2.2.2⟩
  · have e1 : f1_4 c = 0 := by
      unfold f1_4
      simp only [Int32.lt_iff_toInt_lt, ← Int32.toInt_inj, show (10 : Int32).toInt = 10 from rfl, show (13 : Int32).toInt = 13 from rfl, show (32 : Int32).toInt = 32 from rfl, show (9 : Int32).toInt = 9 from rfl]
      (repeat' split) <;> first | rfl | (exfalso; omega)
    have n1 : ¬ c < 64 := fun z => h (Int32.lt_iff_toInt_lt.mp z)
    have n2 : 32 < c := Int32.lt_iff_toInt_lt.mpr (by rw [show (32 : Int32).toInt = 32 from rfl]; omega)
    exact ⟨fun z => absurd z n1, fun _ => e1, fun z => absurd n2 z, fun _ => e1⟩
def Q0 (n0 : Nat) (v : Option Value) (h : Heap) (L : List Loc) : Prop := v = some (.int 1) ∧ Fr n0 L
set_option maxRecDepth 65536 in
set_option maxHeartbeats 40000000 in
theorem rm0 (l : Launch) (Z : State) (a0 : Array Value) (hw : ∀ d ∈ tables_1, d.before a0 Z = true) (ws : List Jvm.Cond) (i0 : Int32) (i1 : Int32) (h0 : Heap) (n0 : Nat) (Z0 : n0 ≤ h0.size) :
    MetFree l x (head1 (Jvm.Cond.code x code maxLocals ret :: ws) room_1) (fun a U => a = #[(.int i0), (.int i1)] ∧ Z.Warmed39 U.vm ∧ U.heap = h0) (fun _ _ _ _ _ => True) (fun _ U o U' => ∃ v L, o = .returned v ∧ Q0 n0 v U'.heap L ∧ FrameEnd U o U' L 0 0) := by
 refine MetFree.of_bodySF (plainFor_of_name pn_1) hisR ?_
 intro p e s m args below meth c s₁ Bd hml0 hP hK
 obtain ⟨rfl, hZ, hh⟩ := hP
 have hx := Bd.exec
 have hby := Bd.bytes
 have hml : c.maxLocals = 6 := hml0
 have hlk : meth.locks = false := Bd.notSynchronized
 have hown : s.vm.findClass "com/example/xylem/xylem/core/xml/XmlCharIsWhiteSpacePinLaw" = some m.cls := findClass_of_methodNamed Bd.named
 have hnm := (name_of_methodNamed Bd.named Bd.method).1
 have X0 : Stand p l e room_1 s m #[(.int i0), (.int i1)] below meth c s₁ [] 0 0 := Stand.of_body Bd
 have e0 : s₁.heap = h0 := by rw [← hh, Bd.state]; rfl
 have N0 := Fr.nil n0
 rw [show entryFrame m #[(.int i0), (.int i1)] maxLocals = _ from ef0 m i0 i1]
 show KEnds p e below s 0 0 (Q0 n0) s₁ (mkF m 0 #[.val (.int i0), .val (.int i1), .unset, .unset, .unset, .unset] [])
 refine k_iloadN X0 hx (hb hby at_0) rfl (pc' := 1) rfl ?_
 refine k_iconst X0 hx (hb hby at_1) (pc' := 2) rfl (z := (1 : Int32)) rfl ?_
 refine k_iand X0 hx (hb hby at_2) (pc' := 3) rfl (fun v1 hv1 => ?_)
 refine k_if_eq X0 hx (hb hby at_3) (pn := 6) rfl (py := 14) (by decide) (fun hc2 => ?_) (fun hc2 => ?_)
 ·
  refine k_iloadN X0 hx (hb hby at_14) rfl (pc' := 15) rfl ?_
  refine k_i2c X0 hx (hb hby at_15) (pc' := 16) rfl (fun v3 hv3 => ?_)
  refine k_istoreN X0 hx (hb hby at_16) (Ls' := #[.val (.int i0), .val (.int i1), .val (.int v3), .unset, .unset, .unset]) rfl (pc' := 17) rfl ?_
  refine k_iloadN X0 hx (hb hby at_17) rfl (pc' := 18) rfl ?_
  refine k_callS X0 hx hZ hown (hw _ (List.mem_of_getElem? (i := 0) rfl)) (hw _ (List.mem_of_getElem? (i := 1) rfl)) (hw _ (List.mem_of_getElem? (i := 2) rfl)) (hw _ (List.mem_of_getElem? (i := 3) rfl)) (by decide) (rm1_4 l Z a0 hw [] v3 h0 n0 Z0 ) (by decide) (by decide) e0 (by rw [hml]; rfl) (argsL := [(.int v3)]) (rest := []) (lenOf pd_0 rfl) rfl (W := 0) (Nat.le_refl _) rfl (hb hby at_18) (by decide) (by decide) (pc' := 21) rfl (fun T9 L9 r9 X9 q9 => ?_)
  obtain ⟨N9, e9, rfl⟩ := q9
  have N9' := Fr.app N0 N9
  show KEnds p e below s _ _ _ T9 (mkF m 21 #[.val (.int i0), .val (.int i1), .val (.int v3), .unset, .unset, .unset] ((.int (f1_4 v3)) :: []))
  obtain ⟨v10, hv10⟩ : ∃ z, z = f1_4 v3 := ⟨_, rfl⟩
  rw [← hv10]
  refine k_istoreN X9 hx (hb hby at_21) (Ls' := #[.val (.int i0), .val (.int i1), .val (.int v3), .val (.int v10), .unset, .unset]) rfl (pc' := 22) rfl ?_
  refine k_iloadN X9 hx (hb hby at_22) rfl (pc' := 23) rfl ?_
  refine k_bipush X9 hx (hb hby at_23) (pc' := 25) rfl (z := (64 : Int32)) rfl ?_
  refine k_icmp_ge X9 hx (hb hby at_25) (pn := 28) rfl (py := 44) (by decide) (fun hc11 => ?_) (fun hc11 => ?_)
  ·
   refine k_iconst X9 hx (hb hby at_44) (pc' := 45) rfl (z := (0 : Int32)) rfl ?_
   refine k_istore X9 hx (hb hby at_45) (Ls' := #[.val (.int i0), .val (.int i1), .val (.int v3), .val (.int v10), .val (.int (0 : Int32)), .unset]) rfl (pc' := 47) rfl ?_
   refine k_iloadN X9 hx (hb hby at_47) rfl (pc' := 48) rfl ?_
   refine k_bipush X9 hx (hb hby at_48) (pc' := 50) rfl (z := (32 : Int32)) rfl ?_
   refine k_icmp_gt X9 hx (hb hby at_50) (pn := 53) rfl (py := 64) (by decide) (fun _ => ?_) (fun hc => absurd (k_d_alt_nxlt hc11 (by decide)) hc)
   refine k_iconst X9 hx (hb hby at_64) (pc' := 65) rfl (z := (0 : Int32)) rfl ?_
   refine k_istore X9 hx (hb hby at_65) (Ls' := #[.val (.int i0), .val (.int i1), .val (.int v3), .val (.int v10), .val (.int (0 : Int32)), .val (.int (0 : Int32))]) rfl (pc' := 67) rfl ?_
   refine k_iloadN X9 hx (hb hby at_67) rfl (pc' := 68) rfl ?_
   refine k_iload X9 hx (hb hby at_68) rfl (pc' := 70) rfl ?_
   refine k_icmp_ne X9 hx (hb hby at_70) (pn := 73) rfl (py := 83) (by decide) (fun hc => absurd (by rw [hv10]; exact (own_law v3 (by rw [hv3]; exact (c_i2c _).2.1)).2.1 hc11) hc) (fun _ => ?_)
   refine k_iloadN X9 hx (hb hby at_73) rfl (pc' := 74) rfl ?_
   refine k_iload X9 hx (hb hby at_74) rfl (pc' := 76) rfl ?_
   refine k_icmp_ne X9 hx (hb hby at_76) (pn := 79) rfl (py := 83) (by decide) (fun hc => absurd (by rw [hv10]; exact (own_law v3 (by rw [hv3]; exact (c_i2c _).2.1)).2.1 hc11) hc) (fun _ => ?_)
   refine k_iconst X9 hx (hb hby at_79) (pc' := 80) rfl (z := (1 : Int32)) rfl ?_
   refine k_goto X9 hx (hb hby at_80) (pc' := 84) (by decide) ?_
   exact k_retN X9 hx (t := .boolean) Bd.returns (by simp) (hb hby at_84) hlk (by decide) (by decide) (z' := (1 : Int32)) rfl ⟨rfl, N9'⟩
  ·
   refine k_ldcL X9 hx hZ hown (hw _ (List.mem_of_getElem? (i := 4) rfl)) (hb hby at_28) (pc' := 31) rfl ?_
   refine k_iloadN X9 hx (hb hby at_31) rfl (pc' := 32) rfl ?_
   refine k_lushr X9 hx (hb hby at_32) (pc' := 33) rfl (fun v12 hv12 => ?_)
   refine k_lconst X9 hx (hb hby at_33) (pc' := 34) rfl (z := (1 : Int64)) rfl ?_
   refine k_land X9 hx (hb hby at_34) (pc' := 35) rfl (fun v13 hv13 => ?_)
   refine k_lconst X9 hx (hb hby at_35) (pc' := 36) rfl (z := (0 : Int64)) rfl ?_
   refine k_lcif_eq X9 hx (hb hby at_36) (pm := 37) rfl (hb hby at_37) (pn := 40) rfl (py := 44) (by decide) (fun hc14 => ?_) (fun hc14 => ?_)
   ·
    refine k_iconst X9 hx (hb hby at_44) (pc' := 45) rfl (z := (0 : Int32)) rfl ?_
    refine k_istore X9 hx (hb hby at_45) (Ls' := #[.val (.int i0), .val (.int i1), .val (.int v3), .val (.int v10), .val (.int (0 : Int32)), .unset]) rfl (pc' := 47) rfl ?_
    refine k_iloadN X9 hx (hb hby at_47) rfl (pc' := 48) rfl ?_
    refine k_bipush X9 hx (hb hby at_48) (pc' := 50) rfl (z := (32 : Int32)) rfl ?_
    refine k_icmp_gt X9 hx (hb hby at_50) (pn := 53) rfl (py := 64) (by decide) (fun hc15 => ?_) (fun hc15 => ?_)
    ·
     refine k_iconst X9 hx (hb hby at_64) (pc' := 65) rfl (z := (0 : Int32)) rfl ?_
     refine k_istore X9 hx (hb hby at_65) (Ls' := #[.val (.int i0), .val (.int i1), .val (.int v3), .val (.int v10), .val (.int (0 : Int32)), .val (.int (0 : Int32))]) rfl (pc' := 67) rfl ?_
     refine k_iloadN X9 hx (hb hby at_67) rfl (pc' := 68) rfl ?_
     refine k_iload X9 hx (hb hby at_68) rfl (pc' := 70) rfl ?_
     refine k_icmp_ne X9 hx (hb hby at_70) (pn := 73) rfl (py := 83) (by decide) (fun hc => absurd (by rw [hv10]; exact ((own_law v3 (by rw [hv3]; exact (c_i2c _).2.1)).1 hc11).1 (by rw [← hv12, ← hv13]; exact hc14)) hc) (fun _ => ?_)
     refine k_iloadN X9 hx (hb hby at_73) rfl (pc' := 74) rfl ?_
     refine k_iload X9 hx (hb hby at_74) rfl (pc' := 76) rfl ?_
     refine k_icmp_ne X9 hx (hb hby at_76) (pn := 79) rfl (py := 83) (by decide) (fun hc => absurd (by rw [hv10]; exact (own_law v3 (by rw [hv3]; exact (c_i2c _).2.1)).2.2.2 hc15) hc) (fun _ => ?_)
     refine k_iconst X9 hx (hb hby at_79) (pc' := 80) rfl (z := (1 : Int32)) rfl ?_
     refine k_goto X9 hx (hb hby at_80) (pc' := 84) (by decide) ?_
     exact k_retN X9 hx (t := .boolean) Bd.returns (by simp) (hb hby at_84) hlk (by decide) (by decide) (z' := (1 : Int32)) rfl ⟨rfl, N9'⟩
    ·
     refine k_iloadN X9 hx (hb hby at_53) rfl (pc' := 54) rfl ?_
     refine k_callS X9 hx hZ hown (hw _ (List.mem_of_getElem? (i := 5) rfl)) (hw _ (List.mem_of_getElem? (i := 6) rfl)) (hw _ (List.mem_of_getElem? (i := 2) rfl)) (hw _ (List.mem_of_getElem? (i := 7) rfl)) (by decide) (rm2_16 l Z a0 hw [] v3 h0 n0 Z0 ) (by decide) (by decide) e9 (by rw [hml]; rfl) (argsL := [(.int v3)]) (rest := []) (lenOf pd_1 rfl) rfl (W := 0) (Nat.le_refl _) rfl (hb hby at_54) (by decide) (by decide) (pc' := 57) rfl (fun T26 L26 r26 X26 q26 => ?_)
     obtain ⟨N26, e26, rfl⟩ := q26
     have N26' := Fr.app N9' N26
     show KEnds p e below s _ _ _ T26 (mkF m 57 #[.val (.int i0), .val (.int i1), .val (.int v3), .val (.int v10), .val (.int (0 : Int32)), .unset] ((.int (f2_16 v3)) :: []))
     obtain ⟨v27, hv27⟩ : ∃ z, z = f2_16 v3 := ⟨_, rfl⟩
     rw [← hv27]
     refine k_if_eq X26 hx (hb hby at_57) (pn := 60) rfl (py := 64) (by decide) (fun hc28 => ?_) (fun hc28 => ?_)
     ·
      refine k_iconst X26 hx (hb hby at_64) (pc' := 65) rfl (z := (0 : Int32)) rfl ?_
      refine k_istore X26 hx (hb hby at_65) (Ls' := #[.val (.int i0), .val (.int i1), .val (.int v3), .val (.int v10), .val (.int (0 : Int32)), .val (.int (0 : Int32))]) rfl (pc' := 67) rfl ?_
      refine k_iloadN X26 hx (hb hby at_67) rfl (pc' := 68) rfl ?_
      refine k_iload X26 hx (hb hby at_68) rfl (pc' := 70) rfl ?_
      refine k_icmp_ne X26 hx (hb hby at_70) (pn := 73) rfl (py := 83) (by decide) (fun hc => absurd (by rw [hv10]; exact ((own_law v3 (by rw [hv3]; exact (c_i2c _).2.1)).1 hc11).1 (by rw [← hv12, ← hv13]; exact hc14)) hc) (fun _ => ?_)
      refine k_iloadN X26 hx (hb hby at_73) rfl (pc' := 74) rfl ?_
      refine k_iload X26 hx (hb hby at_74) rfl (pc' := 76) rfl ?_
      refine k_icmp_ne X26 hx (hb hby at_76) (pn := 79) rfl (py := 83) (by decide) (fun hc => absurd (by rw [hv10, (own_law v3 (by rw [hv3]; exact (c_i2c _).2.1)).2.2.1 hc15, ← hv27]; exact hc28) hc) (fun _ => ?_)
      refine k_iconst X26 hx (hb hby at_79) (pc' := 80) rfl (z := (1 : Int32)) rfl ?_
      refine k_goto X26 hx (hb hby at_80) (pc' := 84) (by decide) ?_
      exact k_retN X26 hx (t := .boolean) Bd.returns (by simp) (hb hby at_84) hlk (by decide) (by decide) (z' := (1 : Int32)) rfl ⟨rfl, N26'⟩
     ·
      refine k_iconst X26 hx (hb hby at_60) (pc' := 61) rfl (z := (1 : Int32)) rfl ?_
      refine k_goto X26 hx (hb hby at_61) (pc' := 65) (by decide) ?_
      refine k_istore X26 hx (hb hby at_65) (Ls' := #[.val (.int i0), .val (.int i1), .val (.int v3), .val (.int v10), .val (.int (0 : Int32)), .val (.int (1 : Int32))]) rfl (pc' := 67) rfl ?_
      refine k_iloadN X26 hx (hb hby at_67) rfl (pc' := 68) rfl ?_
      refine k_iload X26 hx (hb hby at_68) rfl (pc' := 70) rfl ?_
      refine k_icmp_ne X26 hx (hb hby at_70) (pn := 73) rfl (py := 83) (by decide) (fun hc => absurd (by rw [hv10]; exact ((own_law v3 (by rw [hv3]; exact (c_i2c _).2.1)).1 hc11).1 (by rw [← hv12, ← hv13]; exact hc14)) hc) (fun _ => ?_)
      refine k_iloadN X26 hx (hb hby at_73) rfl (pc' := 74) rfl ?_
      refine k_iload X26 hx (hb hby at_74) rfl (pc' := 76) rfl ?_
      refine k_icmp_ne X26 hx (hb hby at_76) (pn := 79) rfl (py := 83) (by decide) (fun hc => absurd (by rw [hv10, (own_law v3 (by rw [hv3]; exact (c_i2c _).2.1)).2.2.1 hc15]; exact (own_b _).resolve_left (by rw [← hv27]; exact hc28)) hc) (fun _ => ?_)
      refine k_iconst X26 hx (hb hby at_79) (pc' := 80) rfl (z := (1 : Int32)) rfl ?_
      refine k_goto X26 hx (hb hby at_80) (pc' := 84) (by decide) ?_
      exact k_retN X26 hx (t := .boolean) Bd.returns (by simp) (hb hby at_84) hlk (by decide) (by decide) (z' := (1 : Int32)) rfl ⟨rfl, N26'⟩
   ·
    refine k_iconst X9 hx (hb hby at_40) (pc' := 41) rfl (z := (1 : Int32)) rfl ?_
    refine k_goto X9 hx (hb hby at_41) (pc' := 45) (by decide) ?_
    refine k_istore X9 hx (hb hby at_45) (Ls' := #[.val (.int i0), .val (.int i1), .val (.int v3), .val (.int v10), .val (.int (1 : Int32)), .unset]) rfl (pc' := 47) rfl ?_
    refine k_iloadN X9 hx (hb hby at_47) rfl (pc' := 48) rfl ?_
    refine k_bipush X9 hx (hb hby at_48) (pc' := 50) rfl (z := (32 : Int32)) rfl ?_
    refine k_icmp_gt X9 hx (hb hby at_50) (pn := 53) rfl (py := 64) (by decide) (fun hc29 => ?_) (fun hc29 => ?_)
    ·
     refine k_iconst X9 hx (hb hby at_64) (pc' := 65) rfl (z := (0 : Int32)) rfl ?_
     refine k_istore X9 hx (hb hby at_65) (Ls' := #[.val (.int i0), .val (.int i1), .val (.int v3), .val (.int v10), .val (.int (1 : Int32)), .val (.int (0 : Int32))]) rfl (pc' := 67) rfl ?_
     refine k_iloadN X9 hx (hb hby at_67) rfl (pc' := 68) rfl ?_
     refine k_iload X9 hx (hb hby at_68) rfl (pc' := 70) rfl ?_
     refine k_icmp_ne X9 hx (hb hby at_70) (pn := 73) rfl (py := 83) (by decide) (fun hc => absurd (by rw [hv10]; exact ((own_law v3 (by rw [hv3]; exact (c_i2c _).2.1)).1 hc11).2 (by rw [← hv12, ← hv13]; exact hc14)) hc) (fun _ => ?_)
     refine k_iloadN X9 hx (hb hby at_73) rfl (pc' := 74) rfl ?_
     refine k_iload X9 hx (hb hby at_74) rfl (pc' := 76) rfl ?_
     refine k_icmp_ne X9 hx (hb hby at_76) (pn := 79) rfl (py := 83) (by decide) (fun hc => absurd (by rw [hv10]; exact (own_law v3 (by rw [hv3]; exact (c_i2c _).2.1)).2.2.2 hc29) hc) (fun _ => ?_)
     refine k_iconst X9 hx (hb hby at_79) (pc' := 80) rfl (z := (1 : Int32)) rfl ?_
     refine k_goto X9 hx (hb hby at_80) (pc' := 84) (by decide) ?_
     exact k_retN X9 hx (t := .boolean) Bd.returns (by simp) (hb hby at_84) hlk (by decide) (by decide) (z' := (1 : Int32)) rfl ⟨rfl, N9'⟩
    ·
     refine k_iloadN X9 hx (hb hby at_53) rfl (pc' := 54) rfl ?_
     refine k_callS X9 hx hZ hown (hw _ (List.mem_of_getElem? (i := 5) rfl)) (hw _ (List.mem_of_getElem? (i := 6) rfl)) (hw _ (List.mem_of_getElem? (i := 2) rfl)) (hw _ (List.mem_of_getElem? (i := 7) rfl)) (by decide) (rm2_16 l Z a0 hw [] v3 h0 n0 Z0 ) (by decide) (by decide) e9 (by rw [hml]; rfl) (argsL := [(.int v3)]) (rest := []) (lenOf pd_1 rfl) rfl (W := 0) (Nat.le_refl _) rfl (hb hby at_54) (by decide) (by decide) (pc' := 57) rfl (fun T30 L30 r30 X30 q30 => ?_)
     obtain ⟨N30, e30, rfl⟩ := q30
     have N30' := Fr.app N9' N30
     show KEnds p e below s _ _ _ T30 (mkF m 57 #[.val (.int i0), .val (.int i1), .val (.int v3), .val (.int v10), .val (.int (1 : Int32)), .unset] ((.int (f2_16 v3)) :: []))
     obtain ⟨v31, hv31⟩ : ∃ z, z = f2_16 v3 := ⟨_, rfl⟩
     rw [← hv31]
     refine k_if_eq X30 hx (hb hby at_57) (pn := 60) rfl (py := 64) (by decide) (fun hc32 => ?_) (fun hc32 => ?_)
     ·
      refine k_iconst X30 hx (hb hby at_64) (pc' := 65) rfl (z := (0 : Int32)) rfl ?_
      refine k_istore X30 hx (hb hby at_65) (Ls' := #[.val (.int i0), .val (.int i1), .val (.int v3), .val (.int v10), .val (.int (1 : Int32)), .val (.int (0 : Int32))]) rfl (pc' := 67) rfl ?_
      refine k_iloadN X30 hx (hb hby at_67) rfl (pc' := 68) rfl ?_
      refine k_iload X30 hx (hb hby at_68) rfl (pc' := 70) rfl ?_
      refine k_icmp_ne X30 hx (hb hby at_70) (pn := 73) rfl (py := 83) (by decide) (fun hc => absurd (by rw [hv10]; exact ((own_law v3 (by rw [hv3]; exact (c_i2c _).2.1)).1 hc11).2 (by rw [← hv12, ← hv13]; exact hc14)) hc) (fun _ => ?_)
      refine k_iloadN X30 hx (hb hby at_73) rfl (pc' := 74) rfl ?_
      refine k_iload X30 hx (hb hby at_74) rfl (pc' := 76) rfl ?_
      refine k_icmp_ne X30 hx (hb hby at_76) (pn := 79) rfl (py := 83) (by decide) (fun hc => absurd (by rw [hv10, (own_law v3 (by rw [hv3]; exact (c_i2c _).2.1)).2.2.1 hc29, ← hv31]; exact hc32) hc) (fun _ => ?_)
      refine k_iconst X30 hx (hb hby at_79) (pc' := 80) rfl (z := (1 : Int32)) rfl ?_
      refine k_goto X30 hx (hb hby at_80) (pc' := 84) (by decide) ?_
      exact k_retN X30 hx (t := .boolean) Bd.returns (by simp) (hb hby at_84) hlk (by decide) (by decide) (z' := (1 : Int32)) rfl ⟨rfl, N30'⟩
     ·
      refine k_iconst X30 hx (hb hby at_60) (pc' := 61) rfl (z := (1 : Int32)) rfl ?_
      refine k_goto X30 hx (hb hby at_61) (pc' := 65) (by decide) ?_
      refine k_istore X30 hx (hb hby at_65) (Ls' := #[.val (.int i0), .val (.int i1), .val (.int v3), .val (.int v10), .val (.int (1 : Int32)), .val (.int (1 : Int32))]) rfl (pc' := 67) rfl ?_
      refine k_iloadN X30 hx (hb hby at_67) rfl (pc' := 68) rfl ?_
      refine k_iload X30 hx (hb hby at_68) rfl (pc' := 70) rfl ?_
      refine k_icmp_ne X30 hx (hb hby at_70) (pn := 73) rfl (py := 83) (by decide) (fun hc => absurd (by rw [hv10]; exact ((own_law v3 (by rw [hv3]; exact (c_i2c _).2.1)).1 hc11).2 (by rw [← hv12, ← hv13]; exact hc14)) hc) (fun _ => ?_)
      refine k_iloadN X30 hx (hb hby at_73) rfl (pc' := 74) rfl ?_
      refine k_iload X30 hx (hb hby at_74) rfl (pc' := 76) rfl ?_
      refine k_icmp_ne X30 hx (hb hby at_76) (pn := 79) rfl (py := 83) (by decide) (fun hc => absurd (by rw [hv10, (own_law v3 (by rw [hv3]; exact (c_i2c _).2.1)).2.2.1 hc29]; exact (own_b _).resolve_left (by rw [← hv31]; exact hc32)) hc) (fun _ => ?_)
      refine k_iconst X30 hx (hb hby at_79) (pc' := 80) rfl (z := (1 : Int32)) rfl ?_
      refine k_goto X30 hx (hb hby at_80) (pc' := 84) (by decide) ?_
      exact k_retN X30 hx (t := .boolean) Bd.returns (by simp) (hb hby at_84) hlk (by decide) (by decide) (z' := (1 : Int32)) rfl ⟨rfl, N30'⟩
 ·
  refine k_iloadN X0 hx (hb hby at_6) rfl (pc' := 7) rfl ?_
  refine k_bipush X0 hx (hb hby at_7) (pc' := 9) rfl (z := (63 : Int32)) rfl ?_
  refine k_iand X0 hx (hb hby at_9) (pc' := 10) rfl (fun v33 hv33 => ?_)
  refine k_i2c X0 hx (hb hby at_10) (pc' := 11) rfl (fun v34 hv34 => ?_)
  refine k_goto X0 hx (hb hby at_11) (pc' := 16) (by decide) ?_
  refine k_istoreN X0 hx (hb hby at_16) (Ls' := #[.val (.int i0), .val (.int i1), .val (.int v34), .unset, .unset, .unset]) rfl (pc' := 17) rfl ?_
  refine k_iloadN X0 hx (hb hby at_17) rfl (pc' := 18) rfl ?_
  refine k_callS X0 hx hZ hown (hw _ (List.mem_of_getElem? (i := 0) rfl)) (hw _ (List.mem_of_getElem? (i := 1) rfl)) (hw _ (List.mem_of_getElem? (i := 2) rfl)) (hw _ (List.mem_of_getElem? (i := 3) rfl)) (by decide) (rm1_4 l Z a0 hw [] v34 h0 n0 Z0 ) (by decide) (by decide) e0 (by rw [hml]; rfl) (argsL := [(.int v34)]) (rest := []) (lenOf pd_0 rfl) rfl (W := 0) (Nat.le_refl _) rfl (hb hby at_18) (by decide) (by decide) (pc' := 21) rfl (fun T35 L35 r35 X35 q35 => ?_)
  obtain ⟨N35, e35, rfl⟩ := q35
  have N35' := Fr.app N0 N35
  show KEnds p e below s _ _ _ T35 (mkF m 21 #[.val (.int i0), .val (.int i1), .val (.int v34), .unset, .unset, .unset] ((.int (f1_4 v34)) :: []))
  obtain ⟨v36, hv36⟩ : ∃ z, z = f1_4 v34 := ⟨_, rfl⟩
  rw [← hv36]
  refine k_istoreN X35 hx (hb hby at_21) (Ls' := #[.val (.int i0), .val (.int i1), .val (.int v34), .val (.int v36), .unset, .unset]) rfl (pc' := 22) rfl ?_
  refine k_iloadN X35 hx (hb hby at_22) rfl (pc' := 23) rfl ?_
  refine k_bipush X35 hx (hb hby at_23) (pc' := 25) rfl (z := (64 : Int32)) rfl ?_
  refine k_icmp_ge X35 hx (hb hby at_25) (pn := 28) rfl (py := 44) (by decide) (fun hc37 => ?_) (fun hc37 => ?_)
  ·
   refine k_iconst X35 hx (hb hby at_44) (pc' := 45) rfl (z := (0 : Int32)) rfl ?_
   refine k_istore X35 hx (hb hby at_45) (Ls' := #[.val (.int i0), .val (.int i1), .val (.int v34), .val (.int v36), .val (.int (0 : Int32)), .unset]) rfl (pc' := 47) rfl ?_
   refine k_iloadN X35 hx (hb hby at_47) rfl (pc' := 48) rfl ?_
   refine k_bipush X35 hx (hb hby at_48) (pc' := 50) rfl (z := (32 : Int32)) rfl ?_
   refine k_icmp_gt X35 hx (hb hby at_50) (pn := 53) rfl (py := 64) (by decide) (fun _ => ?_) (fun hc => absurd (k_d_alt_nxlt hc37 (by decide)) hc)
   refine k_iconst X35 hx (hb hby at_64) (pc' := 65) rfl (z := (0 : Int32)) rfl ?_
   refine k_istore X35 hx (hb hby at_65) (Ls' := #[.val (.int i0), .val (.int i1), .val (.int v34), .val (.int v36), .val (.int (0 : Int32)), .val (.int (0 : Int32))]) rfl (pc' := 67) rfl ?_
   refine k_iloadN X35 hx (hb hby at_67) rfl (pc' := 68) rfl ?_
   refine k_iload X35 hx (hb hby at_68) rfl (pc' := 70) rfl ?_
   refine k_icmp_ne X35 hx (hb hby at_70) (pn := 73) rfl (py := 83) (by decide) (fun hc => absurd (by rw [hv36]; exact (own_law v34 (by rw [hv34]; exact (c_i2c _).2.1)).2.1 hc37) hc) (fun _ => ?_)
   refine k_iloadN X35 hx (hb hby at_73) rfl (pc' := 74) rfl ?_
   refine k_iload X35 hx (hb hby at_74) rfl (pc' := 76) rfl ?_
   refine k_icmp_ne X35 hx (hb hby at_76) (pn := 79) rfl (py := 83) (by decide) (fun hc => absurd (by rw [hv36]; exact (own_law v34 (by rw [hv34]; exact (c_i2c _).2.1)).2.1 hc37) hc) (fun _ => ?_)
   refine k_iconst X35 hx (hb hby at_79) (pc' := 80) rfl (z := (1 : Int32)) rfl ?_
   refine k_goto X35 hx (hb hby at_80) (pc' := 84) (by decide) ?_
   exact k_retN X35 hx (t := .boolean) Bd.returns (by simp) (hb hby at_84) hlk (by decide) (by decide) (z' := (1 : Int32)) rfl ⟨rfl, N35'⟩
  ·
   refine k_ldcL X35 hx hZ hown (hw _ (List.mem_of_getElem? (i := 4) rfl)) (hb hby at_28) (pc' := 31) rfl ?_
   refine k_iloadN X35 hx (hb hby at_31) rfl (pc' := 32) rfl ?_
   refine k_lushr X35 hx (hb hby at_32) (pc' := 33) rfl (fun v38 hv38 => ?_)
   refine k_lconst X35 hx (hb hby at_33) (pc' := 34) rfl (z := (1 : Int64)) rfl ?_
   refine k_land X35 hx (hb hby at_34) (pc' := 35) rfl (fun v39 hv39 => ?_)
   refine k_lconst X35 hx (hb hby at_35) (pc' := 36) rfl (z := (0 : Int64)) rfl ?_
   refine k_lcif_eq X35 hx (hb hby at_36) (pm := 37) rfl (hb hby at_37) (pn := 40) rfl (py := 44) (by decide) (fun hc40 => ?_) (fun hc40 => ?_)
   ·
    refine k_iconst X35 hx (hb hby at_44) (pc' := 45) rfl (z := (0 : Int32)) rfl ?_
    refine k_istore X35 hx (hb hby at_45) (Ls' := #[.val (.int i0), .val (.int i1), .val (.int v34), .val (.int v36), .val (.int (0 : Int32)), .unset]) rfl (pc' := 47) rfl ?_
    refine k_iloadN X35 hx (hb hby at_47) rfl (pc' := 48) rfl ?_
    refine k_bipush X35 hx (hb hby at_48) (pc' := 50) rfl (z := (32 : Int32)) rfl ?_
    refine k_icmp_gt X35 hx (hb hby at_50) (pn := 53) rfl (py := 64) (by decide) (fun hc41 => ?_) (fun hc41 => ?_)
    ·
     refine k_iconst X35 hx (hb hby at_64) (pc' := 65) rfl (z := (0 : Int32)) rfl ?_
     refine k_istore X35 hx (hb hby at_65) (Ls' := #[.val (.int i0), .val (.int i1), .val (.int v34), .val (.int v36), .val (.int (0 : Int32)), .val (.int (0 : Int32))]) rfl (pc' := 67) rfl ?_
     refine k_iloadN X35 hx (hb hby at_67) rfl (pc' := 68) rfl ?_
     refine k_iload X35 hx (hb hby at_68) rfl (pc' := 70) rfl ?_
     refine k_icmp_ne X35 hx (hb hby at_70) (pn := 73) rfl (py := 83) (by decide) (fun hc => absurd (by rw [hv36]; exact ((own_law v34 (by rw [hv34]; exact (c_i2c _).2.1)).1 hc37).1 (by rw [← hv38, ← hv39]; exact hc40)) hc) (fun _ => ?_)
     refine k_iloadN X35 hx (hb hby at_73) rfl (pc' := 74) rfl ?_
     refine k_iload X35 hx (hb hby at_74) rfl (pc' := 76) rfl ?_
     refine k_icmp_ne X35 hx (hb hby at_76) (pn := 79) rfl (py := 83) (by decide) (fun hc => absurd (by rw [hv36]; exact (own_law v34 (by rw [hv34]; exact (c_i2c _).2.1)).2.2.2 hc41) hc) (fun _ => ?_)
     refine k_iconst X35 hx (hb hby at_79) (pc' := 80) rfl (z := (1 : Int32)) rfl ?_
     refine k_goto X35 hx (hb hby at_80) (pc' := 84) (by decide) ?_
     exact k_retN X35 hx (t := .boolean) Bd.returns (by simp) (hb hby at_84) hlk (by decide) (by decide) (z' := (1 : Int32)) rfl ⟨rfl, N35'⟩
    ·
     refine k_iloadN X35 hx (hb hby at_53) rfl (pc' := 54) rfl ?_
     refine k_callS X35 hx hZ hown (hw _ (List.mem_of_getElem? (i := 5) rfl)) (hw _ (List.mem_of_getElem? (i := 6) rfl)) (hw _ (List.mem_of_getElem? (i := 2) rfl)) (hw _ (List.mem_of_getElem? (i := 7) rfl)) (by decide) (rm2_16 l Z a0 hw [] v34 h0 n0 Z0 ) (by decide) (by decide) e35 (by rw [hml]; rfl) (argsL := [(.int v34)]) (rest := []) (lenOf pd_1 rfl) rfl (W := 0) (Nat.le_refl _) rfl (hb hby at_54) (by decide) (by decide) (pc' := 57) rfl (fun T42 L42 r42 X42 q42 => ?_)
     obtain ⟨N42, e42, rfl⟩ := q42
     have N42' := Fr.app N35' N42
     show KEnds p e below s _ _ _ T42 (mkF m 57 #[.val (.int i0), .val (.int i1), .val (.int v34), .val (.int v36), .val (.int (0 : Int32)), .unset] ((.int (f2_16 v34)) :: []))
     obtain ⟨v43, hv43⟩ : ∃ z, z = f2_16 v34 := ⟨_, rfl⟩
     rw [← hv43]
     refine k_if_eq X42 hx (hb hby at_57) (pn := 60) rfl (py := 64) (by decide) (fun hc44 => ?_) (fun hc44 => ?_)
     ·
      refine k_iconst X42 hx (hb hby at_64) (pc' := 65) rfl (z := (0 : Int32)) rfl ?_
      refine k_istore X42 hx (hb hby at_65) (Ls' := #[.val (.int i0), .val (.int i1), .val (.int v34), .val (.int v36), .val (.int (0 : Int32)), .val (.int (0 : Int32))]) rfl (pc' := 67) rfl ?_
      refine k_iloadN X42 hx (hb hby at_67) rfl (pc' := 68) rfl ?_
      refine k_iload X42 hx (hb hby at_68) rfl (pc' := 70) rfl ?_
      refine k_icmp_ne X42 hx (hb hby at_70) (pn := 73) rfl (py := 83) (by decide) (fun hc => absurd (by rw [hv36]; exact ((own_law v34 (by rw [hv34]; exact (c_i2c _).2.1)).1 hc37).1 (by rw [← hv38, ← hv39]; exact hc40)) hc) (fun _ => ?_)
      refine k_iloadN X42 hx (hb hby at_73) rfl (pc' := 74) rfl ?_
      refine k_iload X42 hx (hb hby at_74) rfl (pc' := 76) rfl ?_
      refine k_icmp_ne X42 hx (hb hby at_76) (pn := 79) rfl (py := 83) (by decide) (fun hc => absurd (by rw [hv36, (own_law v34 (by rw [hv34]; exact (c_i2c _).2.1)).2.2.1 hc41, ← hv43]; exact hc44) hc) (fun _ => ?_)
      refine k_iconst X42 hx (hb hby at_79) (pc' := 80) rfl (z := (1 : Int32)) rfl ?_
      refine k_goto X42 hx (hb hby at_80) (pc' := 84) (by decide) ?_
      exact k_retN X42 hx (t := .boolean) Bd.returns (by simp) (hb hby at_84) hlk (by decide) (by decide) (z' := (1 : Int32)) rfl ⟨rfl, N42'⟩
     ·
      refine k_iconst X42 hx (hb hby at_60) (pc' := 61) rfl (z := (1 : Int32)) rfl ?_
      refine k_goto X42 hx (hb hby at_61) (pc' := 65) (by decide) ?_
      refine k_istore X42 hx (hb hby at_65) (Ls' := #[.val (.int i0), .val (.int i1), .val (.int v34), .val (.int v36), .val (.int (0 : Int32)), .val (.int (1 : Int32))]) rfl (pc' := 67) rfl ?_
      refine k_iloadN X42 hx (hb hby at_67) rfl (pc' := 68) rfl ?_
      refine k_iload X42 hx (hb hby at_68) rfl (pc' := 70) rfl ?_
      refine k_icmp_ne X42 hx (hb hby at_70) (pn := 73) rfl (py := 83) (by decide) (fun hc => absurd (by rw [hv36]; exact ((own_law v34 (by rw [hv34]; exact (c_i2c _).2.1)).1 hc37).1 (by rw [← hv38, ← hv39]; exact hc40)) hc) (fun _ => ?_)
      refine k_iloadN X42 hx (hb hby at_73) rfl (pc' := 74) rfl ?_
      refine k_iload X42 hx (hb hby at_74) rfl (pc' := 76) rfl ?_
      refine k_icmp_ne X42 hx (hb hby at_76) (pn := 79) rfl (py := 83) (by decide) (fun hc => absurd (by rw [hv36, (own_law v34 (by rw [hv34]; exact (c_i2c _).2.1)).2.2.1 hc41]; exact (own_b _).resolve_left (by rw [← hv43]; exact hc44)) hc) (fun _ => ?_)
      refine k_iconst X42 hx (hb hby at_79) (pc' := 80) rfl (z := (1 : Int32)) rfl ?_
      refine k_goto X42 hx (hb hby at_80) (pc' := 84) (by decide) ?_
      exact k_retN X42 hx (t := .boolean) Bd.returns (by simp) (hb hby at_84) hlk (by decide) (by decide) (z' := (1 : Int32)) rfl ⟨rfl, N42'⟩
   ·
    refine k_iconst X35 hx (hb hby at_40) (pc' := 41) rfl (z := (1 : Int32)) rfl ?_
    refine k_goto X35 hx (hb hby at_41) (pc' := 45) (by decide) ?_
    refine k_istore X35 hx (hb hby at_45) (Ls' := #[.val (.int i0), .val (.int i1), .val (.int v34), .val (.int v36), .val (.int (1 : Int32)), .unset]) rfl (pc' := 47) rfl ?_
    refine k_iloadN X35 hx (hb hby at_47) rfl (pc' := 48) rfl ?_
    refine k_bipush X35 hx (hb hby at_48) (pc' := 50) rfl (z := (32 : Int32)) rfl ?_
    refine k_icmp_gt X35 hx (hb hby at_50) (pn := 53) rfl (py := 64) (by decide) (fun hc45 => ?_) (fun hc45 => ?_)
    ·
     refine k_iconst X35 hx (hb hby at_64) (pc' := 65) rfl (z := (0 : Int32)) rfl ?_
     refine k_istore X35 hx (hb hby at_65) (Ls' := #[.val (.int i0), .val (.int i1), .val (.int v34), .val (.int v36), .val (.int (1 : Int32)), .val (.int (0 : Int32))]) rfl (pc' := 67) rfl ?_
     refine k_iloadN X35 hx (hb hby at_67) rfl (pc' := 68) rfl ?_
     refine k_iload X35 hx (hb hby at_68) rfl (pc' := 70) rfl ?_
     refine k_icmp_ne X35 hx (hb hby at_70) (pn := 73) rfl (py := 83) (by decide) (fun hc => absurd (by rw [hv36]; exact ((own_law v34 (by rw [hv34]; exact (c_i2c _).2.1)).1 hc37).2 (by rw [← hv38, ← hv39]; exact hc40)) hc) (fun _ => ?_)
     refine k_iloadN X35 hx (hb hby at_73) rfl (pc' := 74) rfl ?_
     refine k_iload X35 hx (hb hby at_74) rfl (pc' := 76) rfl ?_
     refine k_icmp_ne X35 hx (hb hby at_76) (pn := 79) rfl (py := 83) (by decide) (fun hc => absurd (by rw [hv36]; exact (own_law v34 (by rw [hv34]; exact (c_i2c _).2.1)).2.2.2 hc45) hc) (fun _ => ?_)
     refine k_iconst X35 hx (hb hby at_79) (pc' := 80) rfl (z := (1 : Int32)) rfl ?_
     refine k_goto X35 hx (hb hby at_80) (pc' := 84) (by decide) ?_
     exact k_retN X35 hx (t := .boolean) Bd.returns (by simp) (hb hby at_84) hlk (by decide) (by decide) (z' := (1 : Int32)) rfl ⟨rfl, N35'⟩
    ·
     refine k_iloadN X35 hx (hb hby at_53) rfl (pc' := 54) rfl ?_
     refine k_callS X35 hx hZ hown (hw _ (List.mem_of_getElem? (i := 5) rfl)) (hw _ (List.mem_of_getElem? (i := 6) rfl)) (hw _ (List.mem_of_getElem? (i := 2) rfl)) (hw _ (List.mem_of_getElem? (i := 7) rfl)) (by decide) (rm2_16 l Z a0 hw [] v34 h0 n0 Z0 ) (by decide) (by decide) e35 (by rw [hml]; rfl) (argsL := [(.int v34)]) (rest := []) (lenOf pd_1 rfl) rfl (W := 0) (Nat.le_refl _) rfl (hb hby at_54) (by decide) (by decide) (pc' := 57) rfl (fun T46 L46 r46 X46 q46 => ?_)
     obtain ⟨N46, e46, rfl⟩ := q46
     have N46' := Fr.app N35' N46
     show KEnds p e below s _ _ _ T46 (mkF m 57 #[.val (.int i0), .val (.int i1), .val (.int v34), .val (.int v36), .val (.int (1 : Int32)), .unset] ((.int (f2_16 v34)) :: []))
     obtain ⟨v47, hv47⟩ : ∃ z, z = f2_16 v34 := ⟨_, rfl⟩
     rw [← hv47]
     refine k_if_eq X46 hx (hb hby at_57) (pn := 60) rfl (py := 64) (by decide) (fun hc48 => ?_) (fun hc48 => ?_)
     ·
      refine k_iconst X46 hx (hb hby at_64) (pc' := 65) rfl (z := (0 : Int32)) rfl ?_
      refine k_istore X46 hx (hb hby at_65) (Ls' := #[.val (.int i0), .val (.int i1), .val (.int v34), .val (.int v36), .val (.int (1 : Int32)), .val (.int (0 : Int32))]) rfl (pc' := 67) rfl ?_
      refine k_iloadN X46 hx (hb hby at_67) rfl (pc' := 68) rfl ?_
      refine k_iload X46 hx (hb hby at_68) rfl (pc' := 70) rfl ?_
      refine k_icmp_ne X46 hx (hb hby at_70) (pn := 73) rfl (py := 83) (by decide) (fun hc => absurd (by rw [hv36]; exact ((own_law v34 (by rw [hv34]; exact (c_i2c _).2.1)).1 hc37).2 (by rw [← hv38, ← hv39]; exact hc40)) hc) (fun _ => ?_)
      refine k_iloadN X46 hx (hb hby at_73) rfl (pc' := 74) rfl ?_
      refine k_iload X46 hx (hb hby at_74) rfl (pc' := 76) rfl ?_
      refine k_icmp_ne X46 hx (hb hby at_76) (pn := 79) rfl (py := 83) (by decide) (fun hc => absurd (by rw [hv36, (own_law v34 (by rw [hv34]; exact (c_i2c _).2.1)).2.2.1 hc45, ← hv47]; exact hc48) hc) (fun _ => ?_)
      refine k_iconst X46 hx (hb hby at_79) (pc' := 80) rfl (z := (1 : Int32)) rfl ?_
      refine k_goto X46 hx (hb hby at_80) (pc' := 84) (by decide) ?_
      exact k_retN X46 hx (t := .boolean) Bd.returns (by simp) (hb hby at_84) hlk (by decide) (by decide) (z' := (1 : Int32)) rfl ⟨rfl, N46'⟩
     ·
      refine k_iconst X46 hx (hb hby at_60) (pc' := 61) rfl (z := (1 : Int32)) rfl ?_
      refine k_goto X46 hx (hb hby at_61) (pc' := 65) (by decide) ?_
      refine k_istore X46 hx (hb hby at_65) (Ls' := #[.val (.int i0), .val (.int i1), .val (.int v34), .val (.int v36), .val (.int (1 : Int32)), .val (.int (1 : Int32))]) rfl (pc' := 67) rfl ?_
      refine k_iloadN X46 hx (hb hby at_67) rfl (pc' := 68) rfl ?_
      refine k_iload X46 hx (hb hby at_68) rfl (pc' := 70) rfl ?_
      refine k_icmp_ne X46 hx (hb hby at_70) (pn := 73) rfl (py := 83) (by decide) (fun hc => absurd (by rw [hv36]; exact ((own_law v34 (by rw [hv34]; exact (c_i2c _).2.1)).1 hc37).2 (by rw [← hv38, ← hv39]; exact hc40)) hc) (fun _ => ?_)
      refine k_iloadN X46 hx (hb hby at_73) rfl (pc' := 74) rfl ?_
      refine k_iload X46 hx (hb hby at_74) rfl (pc' := 76) rfl ?_
      refine k_icmp_ne X46 hx (hb hby at_76) (pn := 79) rfl (py := 83) (by decide) (fun hc => absurd (by rw [hv36, (own_law v34 (by rw [hv34]; exact (c_i2c _).2.1)).2.2.1 hc45]; exact (own_b _).resolve_left (by rw [← hv47]; exact hc48)) hc) (fun _ => ?_)
      refine k_iconst X46 hx (hb hby at_79) (pc' := 80) rfl (z := (1 : Int32)) rfl ?_
      refine k_goto X46 hx (hb hby at_80) (pc' := 84) (by decide) ?_
      exact k_retN X46 hx (t := .boolean) Bd.returns (by simp) (hb hby at_84) hlk (by decide) (by decide) (z' := (1 : Int32)) rfl ⟨rfl, N46'⟩
set_option maxRecDepth 65536 in
set_option maxHeartbeats 40000000 in
theorem comes_1 {Post : Tables → Env → Array Value → State → Outcome → State → Prop} (hpost : ∀ tb e args s v u, (limb_1_1.after args s (.returned v) u = true ∧ limb_1_2.after args s (.returned v) u = true ∧ True) → FrameEnd s (.returned v) u (Jvm.fieldLocs frame_1_writes args s ++ Jvm.arrayLocs frame_1_arrays args s ++ Jvm.staticLocs frame_1_statics s) 0 0 → Post tb e args s (.returned v) u) :
    ArmFor flags0 classFile x code maxLocals ret World_1 tables_1 room_1 Calls_1 rest_1 Pre_1 Post := by
  intro l hfl _ _ p e ha hc hk s m args below hf hA hF happ hP
  obtain ⟨hcalls, hrest, hpre⟩ := hP
  obtain ⟨-, -, -, hnamed, -, -, -, hat⟩ := (Spec.applies_iff hf).mp happ
  obtain ⟨hg, hn⟩ := and_e (Cond.before_iff.mp (show (Jvm.Cond.and given_1 narrow_1).before args s = true from hpre))
  obtain ⟨g49, g50⟩ := and_e hg
  obtain ⟨g51, g52⟩ := and_e g50
  obtain ⟨w0, w1, rfl⟩ : ∃ w0 w1 : Value, args = #[w0, w1] := by
    have hs : args.size = 2 := by simpa [Cond.value, given_1] using g49
    obtain ⟨L⟩ := args
    match L, hs with
    | [w0, w1], _ => exact ⟨w0, w1, rfl⟩
  have hw := fun d (hd : d ∈ tables_1) => atoms_spec (ws := Jvm.Cond.code x code maxLocals ret :: tables_1) hat d (List.mem_cons_of_mem _ hd)
  obtain ⟨i0, ei0⟩ := is_v g51
  obtain rfl : w0 = (.int i0) := Option.some.inj ei0
  obtain ⟨i1, ei1⟩ := is_v g52
  obtain rfl : w1 = (.int i1) := Option.some.inj ei1
  obtain ⟨n, o, h1, h2, h3, _, L, rfl, ⟨rfl, N⟩, hq⟩ := rm0 l s _ hw tables_1 i0 i1 s.heap s.heap.size (Nat.le_refl _) p e ha hc hk s m _ below hf ((Spec.applies_iff_loose hf).mp happ).1 ⟨rfl, State.Warmed39.refl s, rfl⟩ trivial
  refine ⟨n, _, h1, h2, h3, hpost _ _ _ _ _ _ ⟨Cond.after_iff.mpr rfl, Cond.after_iff.mpr (eq_i res_at (Term.int_eval (1)) rfl), trivial⟩ ⟨hq.1, hq.2.1, (hq.2.2.sift fun y hy => Or.inr (N y hy)).mono (by decide) (by decide)⟩⟩
theorem main_1_1 : Claimed_1_1 := comes_1 fun _ _ _ _ _ _ h hF => ⟨h.1, hF⟩
theorem main_1_2 : Claimed_1_2 := comes_1 fun _ _ _ _ _ _ h hF => ⟨h.2.1, hF⟩
end Jvm.Pilot.@@N@@
namespace Jvm.Pilot.@@N@@
open Jvm Jvm.ClassFile Sem Op Lib Jvm.Free Jvm.Stand Jvm.Pilot.@@N@@.Jvm.D
/-! MADE BY PROGRAM (witnessworld.py) out of the Statement's table words and the real class files: 9 classes; the members and pool entries that the words name. The judged class is class 1, her method 1. -/
namespace start1
open Jvm.ClassFile
def u (s : String) : CpInfo := .utf8 (stringToUtf16 s)
/-- a pool by its gaps: so many unusable entries, then the entry; so many at the end -/
def gap : Nat → List CpInfo → List CpInfo
  | 0, r => r
  | n + 1, r => .unusable :: gap n r
def poolList (es : List (Nat × CpInfo)) (last : Nat) : List CpInfo := es.foldr (fun e r => gap e.1 (e.2 :: r)) (gap last [])
def pool (es : List (Nat × CpInfo)) (last : Nat) : Array CpInfo := ⟨poolList es last⟩
def fileOf (pool : Array CpInfo) (this : Nat) (attrs : Array Attribute := #[]) (ms : Array MethodInfo := #[]) (fl : Nat := 33) (sup : Nat := 0) (ifs : Array Nat := #[]) (fds : Array FieldInfo := #[]) : ClassFile where
  minorVersion := 0
  majorVersion := 65
  constantPool := pool
  accessFlags := fl
  thisClass := this
  superClass := sup
  interfaces := ifs
  fields := fds
  methods := ms
  attributes := attrs
def plain (name : String) (sup : Option ClassId) : Class where
  name := name
  kind := .ordinary
  loader := none
  accessFlags := 33
  super := sup
  interfaces := #[]
  cf := none
  fields := #[]
  methods := #[]
  instanceTypes := #[]
  staticTypes := #[]
  resolved := #[]
  callSites := []
  init := .initialized
  statics := none
  mirror := none

def pool0 : Array CpInfo := pool [(5, u "<init>"), (0, u "()V"), (1, .class_ 10), (1, u "java/lang/Object")] 113

def k0m0 : Method := { name := "<init>", desc := "()V", sig := { parameters := [], returnType := none }, accessFlags := 1, code := none }
/-- java/lang/Object -/
def k0 : Class := { plain "java/lang/Object" none with
  accessFlags := 33
  interfaces := #[]
  cf := some (fileOf pool0 8 #[] #[{ accessFlags := 1, nameIndex := 5, descriptorIndex := 6, attributes := #[] }] 33 0 #[] #[])
  fields := #[]
  methods := #[k0m0]
  instanceTypes := #[]
  staticTypes := #[]
  resolved := Array.replicate 124 none
  statics := none }

def pool1 : Array CpInfo := pool [(2, .class_ 4), (1, u "java/lang/Object"), (0, u "<init>"), (0, u "()V"), (0, .methodref 8 9), (0, .class_ 10), (0, .nameAndType 11 12), (0, u "com/example/xylem/xylem/core/xml/XmlChar"), (0, u "isWhiteSpace"), (0, u "(C)Z"), (0, .class_ 14), (0, u "com/example/xylem/xylem/core/xml/XmlCharIsWhiteSpacePinLaw"), (0, .long 4294977024), (1, .methodref 8 18), (0, .nameAndType 19 20), (0, u "isAllowed"), (0, u "(I)Z"), (0, u "WS_MASK"), (0, u "J"), (3, u "law"), (0, u "(II)Z")] 3

def k1m0 : Method := { name := "<init>", desc := "()V", sig := { parameters := [], returnType := none }, accessFlags := 2, code := none }
def k1c1 : Code := { maxStack := 4, maxLocals := 6, code := code, exceptionTable := #[], attributes := #[] }
def k1m1 : Method := { name := "law", desc := "(II)Z", sig := { parameters := [.int, .int], returnType := some .boolean }, accessFlags := 9, code := some k1c1 }
/-- com/example/xylem/xylem/core/xml/XmlCharIsWhiteSpacePinLaw -/
def k1 : Class := { plain "com/example/xylem/xylem/core/xml/XmlCharIsWhiteSpacePinLaw" (some 0) with
  accessFlags := 49
  interfaces := #[]
  cf := some (fileOf pool1 13 #[] #[{ accessFlags := 2, nameIndex := 5, descriptorIndex := 6, attributes := #[] }, { accessFlags := 9, nameIndex := 26, descriptorIndex := 27, attributes := #[] }] 49 2 #[] #[{ accessFlags := 26, nameIndex := 21, descriptorIndex := 22, attributes := #[] }])
  fields := #[{ name := "WS_MASK", type := .long, accessFlags := 26, slot := 0, constantValue := 0 }]
  methods := #[k1m0, k1m1]
  instanceTypes := #[]
  staticTypes := #[.long]
  resolved := Array.replicate 31 none
  statics := none }

def pool2 : Array CpInfo := pool [(2, .class_ 4), (1, u "java/lang/Object"), (0, u "<init>"), (0, u "()V"), (0, .integer 55295), (0, .integer 57344), (0, .integer 65533), (0, .integer 65536), (2, .integer 1114111), (11, .class_ 27), (1, u "com/example/xylem/xylem/core/xml/XmlChar"), (0, u "isAllowed"), (0, u "(I)Z"), (31, u "isWhiteSpace"), (0, u "(C)Z")] 3

def k2m0 : Method := { name := "<init>", desc := "()V", sig := { parameters := [], returnType := none }, accessFlags := 2, code := none }
def k2c1 : Code := { maxStack := 2, maxLocals := 1, code := prog_44_method_2_code, exceptionTable := #[], attributes := #[] }
def k2m1 : Method := { name := "isAllowed", desc := "(I)Z", sig := { parameters := [.int], returnType := some .boolean }, accessFlags := 9, code := some k2c1 }
def k2c2 : Code := { maxStack := 2, maxLocals := 1, code := prog_44_method_3_code, exceptionTable := #[], attributes := #[] }
def k2m2 : Method := { name := "isWhiteSpace", desc := "(C)Z", sig := { parameters := [.char], returnType := some .boolean }, accessFlags := 9, code := some k2c2 }
/-- com/example/xylem/xylem/core/xml/XmlChar -/
def k2 : Class := { plain "com/example/xylem/xylem/core/xml/XmlChar" (some 0) with
  accessFlags := 49
  interfaces := #[]
  cf := some (fileOf pool2 25 #[] #[{ accessFlags := 2, nameIndex := 5, descriptorIndex := 6, attributes := #[] }, { accessFlags := 9, nameIndex := 28, descriptorIndex := 29, attributes := #[] }, { accessFlags := 9, nameIndex := 61, descriptorIndex := 62, attributes := #[] }] 49 2 #[] #[])
  fields := #[]
  methods := #[k2m0, k2m1, k2m2]
  instanceTypes := #[]
  staticTypes := #[]
  resolved := Array.replicate 66 none
  statics := none }

def pool3 : Array CpInfo := pool [(1, u "java/lang/Cloneable"), (0, .class_ 1), (0, u "java/lang/Object"), (0, .class_ 3)] 3

/-- java/lang/Cloneable -/
def k3 : Class := { plain "java/lang/Cloneable" (some 0) with
  accessFlags := 1537
  interfaces := #[]
  cf := some (fileOf pool3 2 #[] #[] 1537 4 #[] #[])
  fields := #[]
  methods := #[]
  instanceTypes := #[]
  staticTypes := #[]
  resolved := Array.replicate 8 none
  statics := none }

def pool4 : Array CpInfo := pool [(1, u "java/io/Serializable"), (0, .class_ 1), (0, u "java/lang/Object"), (0, .class_ 3)] 3

/-- java/io/Serializable -/
def k4 : Class := { plain "java/io/Serializable" (some 0) with
  accessFlags := 1537
  interfaces := #[]
  cf := some (fileOf pool4 2 #[] #[] 1537 4 #[] #[])
  fields := #[]
  methods := #[]
  instanceTypes := #[]
  staticTypes := #[]
  resolved := Array.replicate 8 none
  statics := none }

/-- the primitive byte -/
def k5 : Class := { plain "byte" none with kind := .primitive 'B', accessFlags := 0x411 }
/-- [B -/
def k6 : Class := { plain "[B" (some 0) with kind := .array 5 .byte, interfaces := #[3, 4], accessFlags := 1041 }

/-- the primitive int -/
def k7 : Class := { plain "int" none with kind := .primitive 'I', accessFlags := 0x411 }
/-- [I -/
def k8 : Class := { plain "[I" (some 0) with kind := .array 7 .int, interfaces := #[3, 4], accessFlags := 1041 }

def heap : Heap := #[]
def classes : Array Class := #[k0, k1, k2, k3, k4, k5, k6, k7, k8]
def interned : List (Array UInt16 × Addr) := []
def slotsUsed : Nat := 0
def theMethod : MethodId := ⟨1, 1⟩
def args0 : Array Value := #[.int 5, .int 7]
def aboutOver (below : List Frame) : State where
  vm := { classes := classes, interned := interned.toArray }
  heap := heap
  slotsUsed := slotsUsed
  threads := #[{ frames := .invoking theMethod args0 :: below }]
def below0 : List Frame := [.native { method := ⟨0, 0⟩, args := #[] }]
def about1 : State := aboutOver below0
def p0 : Program := .bare "" "" ""
def e0 : Env := launch0.env 0 0 0
theorem w_frames : about1.frames = Frame.invoking theMethod args0 :: below0 := rfl
set_option maxRecDepth 65536 in
theorem w_args : argsFit about1.vm theMethod args0 = true := by decide +kernel
set_option maxRecDepth 65536 in
theorem w_heap : heapFits about1 = true := by decide +kernel
set_option maxRecDepth 65536 in
theorem w_runnable : about1.curStatus? = some .runnable := by decide +kernel
set_option maxRecDepth 65536 in
theorem w_alone : about1.alone = true := by decide +kernel
set_option maxRecDepth 65536 in
theorem w_named : about1.methodNamed? x = some theMethod := by decide +kernel
set_option maxRecDepth 65536 in
theorem w_hears : about1.hears theMethod below0 = true := by decide +kernel
set_option maxRecDepth 65536 in
theorem w_ripe : about1.ripe theMethod args0 below0 = true := by decide +kernel
theorem w_running : about1.status = .running := rfl
set_option maxRecDepth 65536 in
theorem w_room : about1.hasRoom e0.platform room_1 = true :=
  launch0.hasRoom_least _ room_1 (by decide +kernel) (by decide +kernel) (by decide +kernel) (by decide +kernel) (by decide +kernel) (by decide +kernel)
theorem allAtoms_all (ts : List Jvm.Cond) (a : Array Jvm.Value) (st : Jvm.State) : (allAtoms ts).before a st = ts.all (fun c => c.before a st) := by
  induction ts with
  | nil => rfl
  | cons c t ih =>
    show (Jvm.Cond.and c (allAtoms t)).before a st = _
    rw [Jvm.Cond.before_and, ih, List.all_cons]
def words1 : List Jvm.Cond := Jvm.Cond.code x code maxLocals ret :: tables_1
/-- a 'code' word, met by the world's own term for the bytes: nothing is compared byte by byte -/
theorem code_word {y : MethodName} {bytes : ByteArray} {mx : Nat} {rt : Option FieldType} {a : Array Value} {s : State} {m : MethodId} {meth : Method} {c : Code} (h1 : s.methodNamed? y = some m) (h2 : s.vm.method? m = some meth) (h3 : meth.code = some c) (h4 : c.code = bytes)
    (h5 : (c.maxLocals == mx && c.exceptionTable.isEmpty && decide (c.maxStack ≤ mostOperands) && decide (meth.sig.returnType = rt) && !meth.locks && decide (parseMethodDescriptor y.desc = some meth.sig)) = true) : (Jvm.Cond.code y bytes mx rt).before a s = true := by
  simp only [Bool.and_eq_true, beq_iff_eq, Bool.not_eq_true', decide_eq_true_eq] at h5
  obtain ⟨⟨⟨⟨⟨g1, g2⟩, g3⟩, g4⟩, g5⟩, g6⟩ := h5
  simp [Cond.before, Cond.holds, Cond.value, h1, h2, h3, h4, g1, g2, g3, g4, g5, g6]
def isCode : Jvm.Cond → Bool
  | .code _ _ _ _ => true
  | _ => false
theorem all_split {L : List Jvm.Cond} {P : Jvm.Cond → Bool} (h1 : L.all (fun c => isCode c || P c) = true) (h2 : ∀ c ∈ L.filter isCode, P c = true) : L.all P = true := by
  refine List.all_eq_true.mpr fun c hc => ?_
  have h := List.all_eq_true.mp h1 c hc
  rcases Bool.eq_false_or_eq_true (isCode c) with hi | hi
  · exact h2 c (List.mem_filter.mpr ⟨hc, hi⟩)
  · simpa [hi] using h
set_option maxRecDepth 65536 in
theorem w_c0 : (Jvm.Cond.code x code maxLocals ret).before args0 about1 = true := code_word (m := ⟨1, 1⟩) (meth := k1m1) (c := k1c1) (by decide +kernel) rfl rfl rfl (by decide +kernel)
set_option maxRecDepth 65536 in
theorem w_c1 : (Jvm.Cond.code ({ cls := "com/example/xylem/xylem/core/xml/XmlChar", name := "isWhiteSpace", desc := "(C)Z" } : Jvm.MethodName) prog_44_method_3_code (1 : Nat) (Option.some Jvm.ClassFile.FieldType.boolean)).before args0 about1 = true := code_word (m := ⟨2, 2⟩) (meth := k2m2) (c := k2c2) (by decide +kernel) rfl rfl rfl (by decide +kernel)
set_option maxRecDepth 65536 in
theorem w_c2 : (Jvm.Cond.code ({ cls := "com/example/xylem/xylem/core/xml/XmlChar", name := "isAllowed", desc := "(I)Z" } : Jvm.MethodName) prog_44_method_2_code (1 : Nat) (Option.some Jvm.ClassFile.FieldType.boolean)).before args0 about1 = true := code_word (m := ⟨2, 1⟩) (meth := k2m1) (c := k2c1) (by decide +kernel) rfl rfl rfl (by decide +kernel)
def codes1 : List Jvm.Cond := [Jvm.Cond.code x code maxLocals ret, Jvm.Cond.code ({ cls := "com/example/xylem/xylem/core/xml/XmlChar", name := "isWhiteSpace", desc := "(C)Z" } : Jvm.MethodName) prog_44_method_3_code (1 : Nat) (Option.some Jvm.ClassFile.FieldType.boolean), Jvm.Cond.code ({ cls := "com/example/xylem/xylem/core/xml/XmlChar", name := "isAllowed", desc := "(I)Z" } : Jvm.MethodName) prog_44_method_2_code (1 : Nat) (Option.some Jvm.ClassFile.FieldType.boolean)]
set_option maxRecDepth 65536 in
theorem codes_eq : words1.filter isCode = codes1 := rfl
theorem w_codes : ∀ c ∈ words1.filter isCode, c.before args0 about1 = true := by
  rw [codes_eq]
  intro c hc
  simp only [codes1, List.mem_cons, List.not_mem_nil, or_false] at hc
  rcases hc with rfl | rfl | rfl
  · exact w_c0
  · exact w_c1
  · exact w_c2
set_option maxRecDepth 65536 in
theorem w_t1 : words1.all (fun c => isCode c || c.before args0 about1) = true := by decide +kernel
theorem w_tables : (allAtoms (Jvm.Cond.code x code maxLocals ret :: tables_1)).before args0 about1 = true := by
  rw [allAtoms_all]
  show words1.all (fun c => c.before args0 about1) = true
  refine all_split ?_ w_codes
  rw [w_t1]
set_option maxRecDepth 65536 in
theorem w_case : (Jvm.Cond.and given_1 narrow_1).before args0 about1 = true := by decide +kernel
theorem w_applies : (headSpec (Jvm.Cond.code x code maxLocals ret :: tables_1) room_1).applies x e0.platform about1 = true :=
  (Spec.applies_iff w_frames).mpr ⟨w_running, w_runnable, w_alone, w_named, w_hears, w_ripe, w_room, w_tables⟩
theorem atStart : AtStart classFile x code maxLocals ret World_1 tables_1 room_1 Calls_1 rest_1 Pre_1 launch0 p0 e0 about1 theMethod args0 below0 :=
  ⟨lists_1, trivial, launch0.admits_env _ _ _, launch0.least_env, fairChoices_fair.cas, fairChoices_fair.clock, w_frames, w_args, w_heap, w_applies, trivial, trivial, w_case⟩
end start1
theorem witness_1 : WitnessClaimed_1 := ⟨start1.p0, start1.e0, start1.about1, start1.theMethod, start1.args0, start1.below0, start1.atStart⟩
end Jvm.Pilot.@@N@@
