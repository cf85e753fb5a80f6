import JvmDerived
import JvmDerived.Pilot.@@N@@Statement
import JvmDerived.Pilot.@@N@@Code
set_option linter.unusedVariables false
set_option linter.unusedSimpArgs false
namespace Jvm.OwnK
open Sem ClassFile Op Lib Jvm.Stand Jvm.Free Jvm.LawKit Jvm.RoadKit
section
variable {p : Program} {l : Launch} {e : Env} {R : Room} {s : State} {m : MethodId} {args : Array Value} {below : List Frame} {meth : Method} {c : Code} {T : State} {locs : List Loc} {cells slots : Nat} {Cn Sn : Nat} {Q : Option Value → Heap → List Loc → Prop}
/-- from the frame f the run comes to an end that Q takes -/
def KEnds (p : Program) (e : Env) (below : List Frame) (s : State) (Cn Sn : Nat) (Q : Option Value → Heap → List Loc → Prop) (T : State) (f : JFrame) : Prop :=
  ∃ s₂ o, Steps p.tables e below (T.setTop f) s₂ ∧ s₂.status = .running ∧ Ended s₂ below o ∧ ∃ v L, o = .returned v ∧ Q v s₂.heap L ∧ FrameEnd s o s₂ L Cn Sn
theorem k_via {T' : State} {f f' : JFrame} (st : ∀ t, Steps p.tables e below (T'.setTop f') t → Steps p.tables e below (T.setTop f) t) (k : KEnds p e below s Cn Sn Q T' f') : KEnds p e below s Cn Sn Q T f := by
  obtain ⟨s₂, o, h, r⟩ := k
  exact ⟨s₂, o, st _ h, r⟩
theorem k_iloadN (X : Stand p l e R s m args below meth c T locs cells slots) (hx : p.tables.exec = Jvm.exec) {pc pc' : Nat} {Ls : Array Slot} {St : List Value} {i : Fin 4} {v : Int32} (hd : decode c.code pc = .ok (.iload_n i, 1)) (hl : Ls[i.val]? = some (.val (.int v))) (hpc : pc + 1 = pc') (k : KEnds p e below s Cn Sn Q T (mkF m pc' Ls (.int v :: St))) : KEnds p e below s Cn Sn Q T (mkF m pc Ls (St)) := by
  subst hpc; exact k_via (fun t h => XS.iloadN X.here hx rfl hd hl h) k
theorem k_istoreN (X : Stand p l e R s m args below meth c T locs cells slots) (hx : p.tables.exec = Jvm.exec) {pc pc' : Nat} {Ls : Array Slot} {St : List Value} {i : Fin 4} {v : Int32} {Ls' : Array Slot} (hd : decode c.code pc = .ok (.istore_n i, 1)) (hl : storeLocals Ls i.val (.int v) = some Ls') (hpc : pc + 1 = pc') (k : KEnds p e below s Cn Sn Q T (mkF m pc' Ls' (St))) : KEnds p e below s Cn Sn Q T (mkF m pc Ls (.int v :: St)) := by
  subst hpc; exact k_via (fun t h => XS.istoreN X.here hx rfl hd rfl hl h) k
theorem k_iconst (X : Stand p l e R s m args below meth c T locs cells slots) (hx : p.tables.exec = Jvm.exec) {pc pc' : Nat} {Ls : Array Slot} {St : List Value} {i : Int} {z : Int32} (hd : decode c.code pc = .ok (.iconst i, 1)) (hpc : pc + 1 = pc') (hz : Int32.ofInt i = z) (k : KEnds p e below s Cn Sn Q T (mkF m pc' Ls (.int z :: St))) : KEnds p e below s Cn Sn Q T (mkF m pc Ls St) := by
  subst hpc hz; exact k_via (fun t h => XS.iconst X.here hx rfl hd h) k
theorem k_bipush (X : Stand p l e R s m args below meth c T locs cells slots) (hx : p.tables.exec = Jvm.exec) {pc pc' : Nat} {Ls : Array Slot} {St : List Value} {i : Int} {z : Int32} (hd : decode c.code pc = .ok (.bipush i, 2)) (hpc : pc + 2 = pc') (hz : (Int8.ofInt i).toInt32 = z) (k : KEnds p e below s Cn Sn Q T (mkF m pc' Ls (.int z :: St))) : KEnds p e below s Cn Sn Q T (mkF m pc Ls St) := by
  subst hpc hz; exact k_via (fun t h => XS.bipush X.here hx rfl hd h) k
theorem k_sipush (X : Stand p l e R s m args below meth c T locs cells slots) (hx : p.tables.exec = Jvm.exec) {pc pc' : Nat} {Ls : Array Slot} {St : List Value} {i : Int} {z : Int32} (hd : decode c.code pc = .ok (.sipush i, 3)) (hpc : pc + 3 = pc') (hz : (Int16.ofInt i).toInt32 = z) (k : KEnds p e below s Cn Sn Q T (mkF m pc' Ls (.int z :: St))) : KEnds p e below s Cn Sn Q T (mkF m pc Ls St) := by
  subst hpc hz; exact k_via (fun t h => XS.sipush X.here hx rfl hd h) k
theorem k_lconst (X : Stand p l e R s m args below meth c T locs cells slots) (hx : p.tables.exec = Jvm.exec) {pc pc' : Nat} {Ls : Array Slot} {St : List Value} {i : Fin 2} {z : Int64} (hd : decode c.code pc = .ok (.lconst i, 1)) (hpc : pc + 1 = pc') (hz : Int64.ofNat i = z) (k : KEnds p e below s Cn Sn Q T (mkF m pc' Ls (.long z :: St))) : KEnds p e below s Cn Sn Q T (mkF m pc Ls St) := by
  subst hpc hz; exact k_via (fun t h => XS.lconst X.here hx rfl hd h) k
theorem k_isubL (X : Stand p l e R s m args below meth c T locs cells slots) (hx : p.tables.exec = Jvm.exec) {pc pc' : Nat} {Ls : Array Slot} {St : List Value} {x y : Int32} {z : Int32} (hd : decode c.code pc = .ok (.isub, 1))  (hpc : pc + 1 = pc') (hz : x - y = z) (k : KEnds p e below s Cn Sn Q T (mkF m pc' Ls (.int z :: St))) : KEnds p e below s Cn Sn Q T (mkF m pc Ls (.int y :: .int x :: St)) := by
  subst hpc hz; exact k_via (fun t h => XS.isub X.here hx rfl hd rfl h) k
theorem k_iand (X : Stand p l e R s m args below meth c T locs cells slots) (hx : p.tables.exec = Jvm.exec) {pc pc' : Nat} {Ls : Array Slot} {St : List Value} {x y : Int32} (hd : decode c.code pc = .ok (.iand, 1))  (hpc : pc + 1 = pc') (k : ∀ z : Int32, z = x &&& y → KEnds p e below s Cn Sn Q T (mkF m pc' Ls (.int z :: St))) : KEnds p e below s Cn Sn Q T (mkF m pc Ls (.int y :: .int x :: St)) := by
  subst hpc; exact k_via (fun t h => XS.iand X.here hx rfl hd rfl h) (k _ rfl)
theorem k_landL (X : Stand p l e R s m args below meth c T locs cells slots) (hx : p.tables.exec = Jvm.exec) {pc pc' : Nat} {Ls : Array Slot} {St : List Value} {x y : Int64} {z : Int64} (hd : decode c.code pc = .ok (.land, 1))  (hpc : pc + 1 = pc') (hz : x &&& y = z) (k : KEnds p e below s Cn Sn Q T (mkF m pc' Ls (.long z :: St))) : KEnds p e below s Cn Sn Q T (mkF m pc Ls (.long y :: .long x :: St)) := by
  subst hpc hz; exact k_via (fun t h => XS.land X.here hx rfl hd rfl h) k
theorem k_lushrL (X : Stand p l e R s m args below meth c T locs cells slots) (hx : p.tables.exec = Jvm.exec) {pc pc' : Nat} {Ls : Array Slot} {St : List Value} {x : Int64} {y : Int32} {z : Int64} (hd : decode c.code pc = .ok (.lushr, 1))  (hpc : pc + 1 = pc') (hz : ((x.toUInt64 >>> (y &&& 0x3f).toInt64.toUInt64).toInt64) = z) (k : KEnds p e below s Cn Sn Q T (mkF m pc' Ls (.long z :: St))) : KEnds p e below s Cn Sn Q T (mkF m pc Ls (.int y :: .long x :: St)) := by
  subst hpc hz; exact k_via (fun t h => XS.lushr X.here hx rfl hd rfl h) k
theorem k_i2b (X : Stand p l e R s m args below meth c T locs cells slots) (hx : p.tables.exec = Jvm.exec) {pc pc' : Nat} {Ls : Array Slot} {St : List Value} {x : Int32} (hd : decode c.code pc = .ok (.i2b, 1))  (hpc : pc + 1 = pc') (k : ∀ z : Int32, z = x.toInt8.toInt32 → KEnds p e below s Cn Sn Q T (mkF m pc' Ls (.int z :: St))) : KEnds p e below s Cn Sn Q T (mkF m pc Ls (.int x :: St)) := by
  subst hpc; exact k_via (fun t h => XS.i2b X.here hx rfl hd rfl h) (k _ rfl)
theorem k_goto (X : Stand p l e R s m args below meth c T locs cells slots) (hx : p.tables.exec = Jvm.exec) {pc pc' : Nat} {Ls : Array Slot} {St : List Value} {o : Int} (hd : decode c.code pc = .ok (.goto o, 3)) (hp : (pc : Int) + o = (pc' : Int)) (k : KEnds p e below s Cn Sn Q T (mkF m pc' Ls St)) : KEnds p e below s Cn Sn Q T (mkF m pc Ls St) :=
  k_via (fun t h => XS.goto X.here hx rfl (pc0 := pc) rfl hd (by omega) (by omega) h) k
theorem k_icmp_lt (X : Stand p l e R s m args below meth c T locs cells slots) (hx : p.tables.exec = Jvm.exec) {pc pn py : Nat} {Ls : Array Slot} {St : List Value} {x y : Int32} {o : Int} (hd : decode c.code pc = .ok (.if_icmp .lt o, 3)) (hn : pc + 3 = pn) (hp : (pc : Int) + o = (py : Int)) (ky : x < y → KEnds p e below s Cn Sn Q T (mkF m py Ls St)) (kn : ¬ x < y → KEnds p e below s Cn Sn Q T (mkF m pn Ls St)) : KEnds p e below s Cn Sn Q T (mkF m pc Ls (.int y :: .int x :: St)) := by
  subst hn
  by_cases hc : x < y
  · exact k_via (fun t h => XS.icmpYes X.here hx rfl (pc0 := pc) rfl hd rfl (tlt hc).1 (by omega) (by omega) h) (ky hc)
  · exact k_via (fun t h => XS.icmpNo X.here hx rfl hd rfl (flt hc).1 h) (kn hc)
theorem k_if_lt (X : Stand p l e R s m args below meth c T locs cells slots) (hx : p.tables.exec = Jvm.exec) {pc pn py : Nat} {Ls : Array Slot} {St : List Value} {x : Int32} {o : Int} (hd : decode c.code pc = .ok (.ifCond .lt o, 3)) (hn : pc + 3 = pn) (hp : (pc : Int) + o = (py : Int)) (ky : x < (0 : Int32) → KEnds p e below s Cn Sn Q T (mkF m py Ls St)) (kn : ¬ x < (0 : Int32) → KEnds p e below s Cn Sn Q T (mkF m pn Ls St)) : KEnds p e below s Cn Sn Q T (mkF m pc Ls (.int x :: St)) := by
  subst hn
  by_cases hc : x < (0 : Int32)
  · exact k_via (fun t h => XS.ifYes X.here hx rfl (pc0 := pc) rfl hd rfl ((if0 _ _).trans (tlt hc).1) (by omega) (by omega) h) (ky hc)
  · exact k_via (fun t h => XS.ifNo X.here hx rfl hd rfl ((if0 _ _).trans (flt hc).1) h) (kn hc)
theorem k_icmp_ge (X : Stand p l e R s m args below meth c T locs cells slots) (hx : p.tables.exec = Jvm.exec) {pc pn py : Nat} {Ls : Array Slot} {St : List Value} {x y : Int32} {o : Int} (hd : decode c.code pc = .ok (.if_icmp .ge o, 3)) (hn : pc + 3 = pn) (hp : (pc : Int) + o = (py : Int)) (ky : ¬ x < y → KEnds p e below s Cn Sn Q T (mkF m py Ls St)) (kn : x < y → KEnds p e below s Cn Sn Q T (mkF m pn Ls St)) : KEnds p e below s Cn Sn Q T (mkF m pc Ls (.int y :: .int x :: St)) := by
  subst hn
  by_cases hc : x < y
  · exact k_via (fun t h => XS.icmpNo X.here hx rfl hd rfl (tlt hc).2.1 h) (kn hc)
  · exact k_via (fun t h => XS.icmpYes X.here hx rfl (pc0 := pc) rfl hd rfl (flt hc).2.1 (by omega) (by omega) h) (ky hc)
theorem k_icmp_le (X : Stand p l e R s m args below meth c T locs cells slots) (hx : p.tables.exec = Jvm.exec) {pc pn py : Nat} {Ls : Array Slot} {St : List Value} {x y : Int32} {o : Int} (hd : decode c.code pc = .ok (.if_icmp .le o, 3)) (hn : pc + 3 = pn) (hp : (pc : Int) + o = (py : Int)) (ky : ¬ y < x → KEnds p e below s Cn Sn Q T (mkF m py Ls St)) (kn : y < x → KEnds p e below s Cn Sn Q T (mkF m pn Ls St)) : KEnds p e below s Cn Sn Q T (mkF m pc Ls (.int y :: .int x :: St)) := by
  subst hn
  by_cases hc : y < x
  · exact k_via (fun t h => XS.icmpNo X.here hx rfl hd rfl (tlt hc).2.2.2 h) (kn hc)
  · exact k_via (fun t h => XS.icmpYes X.here hx rfl (pc0 := pc) rfl hd rfl (flt hc).2.2.2 (by omega) (by omega) h) (ky hc)
theorem k_icmp_eq (X : Stand p l e R s m args below meth c T locs cells slots) (hx : p.tables.exec = Jvm.exec) {pc pn py : Nat} {Ls : Array Slot} {St : List Value} {x y : Int32} {o : Int} (hd : decode c.code pc = .ok (.if_icmp .eq o, 3)) (hn : pc + 3 = pn) (hp : (pc : Int) + o = (py : Int)) (ky : x = y → KEnds p e below s Cn Sn Q T (mkF m py Ls St)) (kn : ¬ x = y → KEnds p e below s Cn Sn Q T (mkF m pn Ls St)) : KEnds p e below s Cn Sn Q T (mkF m pc Ls (.int y :: .int x :: St)) := by
  subst hn
  by_cases hc : x = y
  · exact k_via (fun t h => XS.icmpYes X.here hx rfl (pc0 := pc) rfl hd rfl (teq hc).1 (by omega) (by omega) h) (ky hc)
  · exact k_via (fun t h => XS.icmpNo X.here hx rfl hd rfl (feq hc).1 h) (kn hc)
theorem k_if_eq (X : Stand p l e R s m args below meth c T locs cells slots) (hx : p.tables.exec = Jvm.exec) {pc pn py : Nat} {Ls : Array Slot} {St : List Value} {x : Int32} {o : Int} (hd : decode c.code pc = .ok (.ifCond .eq o, 3)) (hn : pc + 3 = pn) (hp : (pc : Int) + o = (py : Int)) (ky : x = (0 : Int32) → KEnds p e below s Cn Sn Q T (mkF m py Ls St)) (kn : ¬ x = (0 : Int32) → KEnds p e below s Cn Sn Q T (mkF m pn Ls St)) : KEnds p e below s Cn Sn Q T (mkF m pc Ls (.int x :: St)) := by
  subst hn
  by_cases hc : x = (0 : Int32)
  · exact k_via (fun t h => XS.ifYes X.here hx rfl (pc0 := pc) rfl hd rfl ((if0 _ _).trans (teq hc).1) (by omega) (by omega) h) (ky hc)
  · exact k_via (fun t h => XS.ifNo X.here hx rfl hd rfl ((if0 _ _).trans (feq hc).1) h) (kn hc)
theorem k_lcif_eq (X : Stand p l e R s m args below meth c T locs cells slots) (hx : p.tables.exec = Jvm.exec) {pc pn py : Nat} {Ls : Array Slot} {St : List Value} {x y : Int64} {o : Int} {pm : Nat} (hd0 : decode c.code pc = .ok (.lcmp, 1)) (hm : pc + 1 = pm) (hd : decode c.code pm = .ok (.ifCond .eq o, 3)) (hn : pm + 3 = pn) (hp : (pm : Int) + o = (py : Int)) (ky : x = y → KEnds p e below s Cn Sn Q T (mkF m py Ls St)) (kn : ¬ x = y → KEnds p e below s Cn Sn Q T (mkF m pn Ls St)) : KEnds p e below s Cn Sn Q T (mkF m pc Ls (.long y :: .long x :: St)) := by
  subst hm
  have F := k_if_eq (Q := Q) (Cn := Cn) (Sn := Sn) (Ls := Ls) (St := St) (x := lcmpW x y) X hx hd hn hp (fun hc => ky ((lw_eq x y).mp hc)) (fun hc => kn (fun q => hc ((lw_eq x y).mpr q)))
  exact k_via (fun t h => XS.lcmp X.here hx rfl hd0 rfl h) F
theorem k_icmp_ne (X : Stand p l e R s m args below meth c T locs cells slots) (hx : p.tables.exec = Jvm.exec) {pc pn py : Nat} {Ls : Array Slot} {St : List Value} {x y : Int32} {o : Int} (hd : decode c.code pc = .ok (.if_icmp .ne o, 3)) (hn : pc + 3 = pn) (hp : (pc : Int) + o = (py : Int)) (ky : ¬ x = y → KEnds p e below s Cn Sn Q T (mkF m py Ls St)) (kn : x = y → KEnds p e below s Cn Sn Q T (mkF m pn Ls St)) : KEnds p e below s Cn Sn Q T (mkF m pc Ls (.int y :: .int x :: St)) := by
  subst hn
  by_cases hc : x = y
  · exact k_via (fun t h => XS.icmpNo X.here hx rfl hd rfl (teq hc).2 h) (kn hc)
  · exact k_via (fun t h => XS.icmpYes X.here hx rfl (pc0 := pc) rfl hd rfl (feq hc).2 (by omega) (by omega) h) (ky hc)
theorem k_if_ne (X : Stand p l e R s m args below meth c T locs cells slots) (hx : p.tables.exec = Jvm.exec) {pc pn py : Nat} {Ls : Array Slot} {St : List Value} {x : Int32} {o : Int} (hd : decode c.code pc = .ok (.ifCond .ne o, 3)) (hn : pc + 3 = pn) (hp : (pc : Int) + o = (py : Int)) (ky : ¬ x = (0 : Int32) → KEnds p e below s Cn Sn Q T (mkF m py Ls St)) (kn : x = (0 : Int32) → KEnds p e below s Cn Sn Q T (mkF m pn Ls St)) : KEnds p e below s Cn Sn Q T (mkF m pc Ls (.int x :: St)) := by
  subst hn
  by_cases hc : x = (0 : Int32)
  · exact k_via (fun t h => XS.ifNo X.here hx rfl hd rfl ((if0 _ _).trans (teq hc).2) h) (kn hc)
  · exact k_via (fun t h => XS.ifYes X.here hx rfl (pc0 := pc) rfl hd rfl ((if0 _ _).trans (feq hc).2) (by omega) (by omega) h) (ky hc)
theorem k_d_nxlt_nxlt {x a b : Int32} (h : ¬ x < a) (q : ¬ a < b) : ¬ x < b := by
  simp only [Int32.lt_iff_toInt_lt, ← Int32.toInt_inj] at *; omega
theorem k_d_alt_nxlt {x a b : Int32} (h : ¬ x < a) (q : b < a) : b < x := by
  simp only [Int32.lt_iff_toInt_lt, ← Int32.toInt_inj] at *; omega
theorem k_d_ne_xlt {x a b : Int32} (h : x < a) (q : ¬ b < a) : ¬ x = b := by
  simp only [Int32.lt_iff_toInt_lt, ← Int32.toInt_inj] at *; omega
theorem k_d_ne_nxlt {x a b : Int32} (h : ¬ x < a) (q : b < a) : ¬ x = b := by
  simp only [Int32.lt_iff_toInt_lt, ← Int32.toInt_inj] at *; omega
theorem k_retN (X : Stand p l e R s m args below meth c T locs cells slots) (hx : p.tables.exec = Jvm.exec) {pc : Nat} {Ls : Array Slot} {St : List Value} {t : FieldType} {z z' : Int32} (hret : meth.sig.returnType = some t) (ht : t = .boolean ∨ t = .byte ∨ t = .char ∨ t = .short) (hd : decode c.code pc = .ok (.ireturn, 1)) (hlk : meth.locks = false) (hC : cells ≤ Cn) (hS : slots ≤ Sn) (hz : nar t z = z') (q : Q (some (.int z')) T.heap locs) : KEnds p e below s Cn Sn Q T (mkF m pc Ls (.int z :: St)) := by
  subst hz
  obtain ⟨fs, hr, hrun, hended, hW, hsame⟩ := X.leave (v := some (.int (nar t z))) (fun h => by rw [hret] at h; cases h) hlk
  exact ⟨_, _, retN X hx hret ht hd hr, hrun, hended, _, _, rfl, q, ⟨_, rfl⟩, hW, hsame.mono hC hS⟩
variable {Z : State} {a0 : Array Value} {h : Heap} {own : String}
theorem k_ldc (X : Stand p l e R s m args below meth c T locs cells slots) (hx : p.tables.exec = Jvm.exec) (hZ : Z.Warmed39 s.vm) (hown : s.vm.findClass own = some m.cls) {pc pc' : Nat} {Ls : Array Slot} {St : List Value} {index : Nat} {v : Int32} (w : (Cond.constant own index v).before a0 Z = true) (hd : decode c.code pc = .ok (.ldc index, 2)) (hpc : pc + 2 = pc') (k : KEnds p e below s Cn Sn Q T (mkF m pc' Ls (.int v :: St))) : KEnds p e below s Cn Sn Q T (mkF m pc Ls St) := by
  subst hpc; exact k_via (X.ldcInt hx hown (mvT hZ w) (g := mkF m pc Ls St) rfl hd) k
theorem k_ldcL (X : Stand p l e R s m args below meth c T locs cells slots) (hx : p.tables.exec = Jvm.exec) (hZ : Z.Warmed39 s.vm) (hown : s.vm.findClass own = some m.cls) {pc pc' : Nat} {Ls : Array Slot} {St : List Value} {index : Nat} {v : Int64} (w : (Cond.constantLong own index v).before a0 Z = true) (hd : decode c.code pc = .ok (.ldc2_w index, 3)) (hpc : pc + 3 = pc') (k : KEnds p e below s Cn Sn Q T (mkF m pc' Ls (.long v :: St))) : KEnds p e below s Cn Sn Q T (mkF m pc Ls St) := by
  subst hpc; exact k_via (X.ldc2Long hx hown (mvT hZ w) (g := mkF m pc Ls St) rfl hd) k
theorem k_callS (X : Stand p l e R s m args below meth c T locs cells slots) (hx : p.tables.exec = Jvm.exec) (hZ : Z.Warmed39 s.vm) (hown : s.vm.findClass own = some m.cls) {pc pc' : Nat} {Ls : Array Slot} {St : List Value} {y : MethodName} {bytes : ByteArray} {maxL : Nat} {ret : Option FieldType} {rm : Room} {index W : Nat} {as' : Array Value} {Q' : Option Value → Heap → List Loc → Prop} (w1 : (Cond.methodLink own index y).before a0 Z = true) (w2 : (Cond.static y).before a0 Z = true) (w3 : (Cond.initialized y.cls).before a0 Z = true) (w4 : (Cond.code y bytes maxL ret).before a0 Z = true) (hy : y.cls ≠ "java/lang/invoke/MethodHandle" ∧ y.cls ≠ "java/lang/invoke/VarHandle") (hM : MetFree l y (head1 [Cond.code y bytes maxL ret] rm) (fun a U => a = as' ∧ Z.Warmed39 U.vm ∧ U.heap = h) (fun _ _ _ _ _ => True) (fun _ U o U' => ∃ v L, o = .returned v ∧ Q' v U'.heap L ∧ FrameEnd U o U' L rm.cells rm.slots)) (hf : rm.frames + 1 ≤ R.frames) (hl : W + (maxL + 11) + rm.locals ≤ R.locals) (eT : T.heap = h) (hsize : Ls.size = c.maxLocals) {argsL rest : List Value} (hlen : ∀ sig, parseMethodDescriptor y.desc = some sig → argsL.length = sig.parameters.length) (hst : St = argsL.reverse ++ rest) (hW : (rest.map fun v => v.category).sum ≤ W) (has : argsL.toArray = as') (hd : decode c.code pc = .ok (.invokestatic index, 3)) (hce : cells + rm.cells ≤ R.cells) (hsl : slots + rm.slots ≤ R.slots) (hpc : pc + 3 = pc') (k : ∀ T' L v, Stand p l e R s m args below meth c T' (locs ++ L) (cells + rm.cells) (slots + rm.slots) → Q' v T'.heap L → KEnds p e below s Cn Sn Q T' (mkF m pc' Ls (v.toList ++ rest))) : KEnds p e below s Cn Sn Q T (mkF m pc Ls St) := by
  subst hpc
  obtain ⟨v, _, ⟨T', L', k', n'⟩, -, X', ⟨Lc, hQ, l', y', z'⟩, st⟩ := Jvm.LawKit.callS X hx (y := y) hown (mvT hZ w1) (mvT hZ w2) (mvT hZ w3) (mvT hZ w4) hy (backOf (W := W) hM hZ w4 w3 hf hl) (g := mkF m pc Ls St) rfl hsize hlen hst (by show 2 * 0 + _ ≤ _; omega) hd (fun _ _ => ⟨has, eT, hce, hsl⟩)
  dsimp only [Pt.U, Pt.locs, Pt.cells, Pt.slots] at X' l' y' z' st hQ
  subst l' y' z'
  exact k_via st (k T' Lc v X' hQ)
end
end Jvm.OwnK
namespace Jvm.Pilot.@@N@@
open Jvm Jvm.ClassFile Sem Op Lib Jvm.Free Jvm.Stand Jvm.LawKit Jvm.RoadKit Jvm.OwnK Bundle Jvm.Pilot.@@N@@.Jvm.D
theorem d1_0 : decode prog_44_method_3_code 0 = .ok (.iload_n 0, 1) := by decide +kernel
theorem d1_1 : decode prog_44_method_3_code 1 = .ok (.bipush 97, 2) := by decide +kernel
theorem d1_3 : decode prog_44_method_3_code 3 = .ok (.if_icmp .lt 9, 3) := by decide +kernel
theorem d1_12 : decode prog_44_method_3_code 12 = .ok (.iload_n 0, 1) := by decide +kernel
theorem d1_13 : decode prog_44_method_3_code 13 = .ok (.bipush 65, 2) := by decide +kernel
theorem d1_15 : decode prog_44_method_3_code 15 = .ok (.if_icmp .lt 9, 3) := by decide +kernel
theorem d1_24 : decode prog_44_method_3_code 24 = .ok (.iload_n 0, 1) := by decide +kernel
theorem d1_25 : decode prog_44_method_3_code 25 = .ok (.bipush 48, 2) := by decide +kernel
theorem d1_27 : decode prog_44_method_3_code 27 = .ok (.if_icmp .lt 9, 3) := by decide +kernel
theorem d1_36 : decode prog_44_method_3_code 36 = .ok (.iload_n 0, 1) := by decide +kernel
theorem d1_37 : decode prog_44_method_3_code 37 = .ok (.bipush 95, 2) := by decide +kernel
theorem d1_39 : decode prog_44_method_3_code 39 = .ok (.if_icmp .eq 15, 3) := by decide +kernel
theorem d1_42 : decode prog_44_method_3_code 42 = .ok (.iload_n 0, 1) := by decide +kernel
theorem d1_43 : decode prog_44_method_3_code 43 = .ok (.bipush 45, 2) := by decide +kernel
theorem d1_45 : decode prog_44_method_3_code 45 = .ok (.if_icmp .eq 9, 3) := by decide +kernel
theorem d1_54 : decode prog_44_method_3_code 54 = .ok (.iconst 1, 1) := by decide +kernel
theorem d1_55 : decode prog_44_method_3_code 55 = .ok (.goto 4, 3) := by decide +kernel
theorem d1_59 : decode prog_44_method_3_code 59 = .ok (.ireturn, 1) := by decide +kernel
theorem d1_48 : decode prog_44_method_3_code 48 = .ok (.iload_n 0, 1) := by decide +kernel
theorem d1_49 : decode prog_44_method_3_code 49 = .ok (.bipush 46, 2) := by decide +kernel
theorem d1_51 : decode prog_44_method_3_code 51 = .ok (.if_icmp .ne 7, 3) := by decide +kernel
theorem d1_58 : decode prog_44_method_3_code 58 = .ok (.iconst 0, 1) := by decide +kernel
theorem d1_30 : decode prog_44_method_3_code 30 = .ok (.iload_n 0, 1) := by decide +kernel
theorem d1_31 : decode prog_44_method_3_code 31 = .ok (.bipush 57, 2) := by decide +kernel
theorem d1_33 : decode prog_44_method_3_code 33 = .ok (.if_icmp .le 21, 3) := by decide +kernel
theorem d1_18 : decode prog_44_method_3_code 18 = .ok (.iload_n 0, 1) := by decide +kernel
theorem d1_19 : decode prog_44_method_3_code 19 = .ok (.bipush 90, 2) := by decide +kernel
theorem d1_21 : decode prog_44_method_3_code 21 = .ok (.if_icmp .le 33, 3) := by decide +kernel
theorem d1_6 : decode prog_44_method_3_code 6 = .ok (.iload_n 0, 1) := by decide +kernel
theorem d1_7 : decode prog_44_method_3_code 7 = .ok (.bipush 122, 2) := by decide +kernel
theorem d1_9 : decode prog_44_method_3_code 9 = .ok (.if_icmp .le 45, 3) := by decide +kernel
abbrev R1_6 : Room := { frames := 0, cells := 0, slots := 0, locals := 0 }
def f1_6 (p1 : Int32) : Int32 := (if p1 < (97 : Int32) then (if p1 < (65 : Int32) then (if p1 < (48 : Int32) then (if p1 = (45 : Int32) then (1 : Int32) else (if p1 = (46 : Int32) then (1 : Int32) else (0 : Int32))) else (if (57 : Int32) < p1 then (0 : Int32) else (1 : Int32))) else (if (90 : Int32) < p1 then (if p1 = (95 : Int32) then (1 : Int32) else (0 : Int32)) else (1 : Int32))) else (if (122 : Int32) < p1 then (0 : Int32) else (1 : Int32)))
theorem f1_6_nar (p1 : Int32) : nar .boolean (f1_6 p1) = f1_6 p1 := by
  unfold f1_6; (repeat' split) <;> rfl
def Q1_6 (Z : State) (p1 : Int32) (h0 : Heap) (n0 : Nat) (v : Option Value) (h : Heap) (L : List Loc) : Prop := Fr n0 L ∧ h = h0 ∧ v = some (.int (f1_6 p1))
theorem ef1_6 (m : MethodId) (x0 : Int32) : entryFrame m #[(.int x0)] 1 = mkF m 0 #[.val (.int x0)] [] := by first | (simp [entryFrame, mkF, argsToLocals, Value.category]; done) | rfl
theorem pn_0 : plainName "com/example/knotcut/knotcut/core/InputFields" = true := by first | (simp [plainName, overriddenIn]; done) | decide +kernel
set_option maxRecDepth 65536 in
set_option maxHeartbeats 40000000 in
theorem rm1_6 (l : Launch) (Z : State) (a0 : Array Value) (hw : ∀ d ∈ tables_1, d.before a0 Z = true) (ws : List Jvm.Cond) (p1 : Int32) (h0 : Heap) (n0 : Nat) (Z0 : n0 ≤ h0.size)  :
    MetFree l (⟨"com/example/knotcut/knotcut/core/InputFields", "isAsciiNameCharacter", "(I)Z"⟩ : MethodName) (head1 (Jvm.Cond.code (⟨"com/example/knotcut/knotcut/core/InputFields", "isAsciiNameCharacter", "(I)Z"⟩ : MethodName) prog_44_method_3_code 1 (some .boolean) :: ws) R1_6) (fun a U => a = #[(.int p1)] ∧ Z.Warmed39 U.vm ∧ U.heap = h0) (fun _ _ _ _ _ => True) (fun _ U o U' => ∃ v L, o = .returned v ∧ Q1_6 Z p1 h0 n0 v U'.heap L ∧ FrameEnd U o U' L R1_6.cells R1_6.slots) := by
 refine MetFree.of_bodySF (plainFor_of_name pn_0) hisR ?_
 intro p e s m args below meth c s₁ Bd hml0 hP hK
 obtain ⟨rfl, hZ, hh⟩ := hP
 have hx := Bd.exec
 have hby := Bd.bytes
 have hml : c.maxLocals = 1 := hml0
 have hlk : meth.locks = false := Bd.notSynchronized
 have hown : s.vm.findClass "com/example/knotcut/knotcut/core/InputFields" = some m.cls := findClass_of_methodNamed Bd.named
 have hnm := (name_of_methodNamed Bd.named Bd.method).1
 have X0 : Stand p l e R1_6 s m #[(.int p1)] below meth c s₁ [] 0 0 := Stand.of_body Bd
 have e0 : s₁.heap = h0 := by rw [← hh, Bd.state]; rfl
 have N0 := Fr.nil n0
 rw [ef1_6 m p1]
 show KEnds p e below s R1_6.cells R1_6.slots (Q1_6 Z p1 h0 n0) s₁ (mkF m 0 #[.val (.int p1)] [])
 refine k_iloadN X0 hx (hb hby d1_0) rfl (pc' := 1) rfl ?_
 refine k_bipush X0 hx (hb hby d1_1) (pc' := 3) rfl (z := (97 : Int32)) rfl ?_
 refine k_icmp_lt X0 hx (hb hby d1_3) (pn := 6) rfl (py := 12) (by decide) (fun hc7 => ?_) (fun hc7 => ?_)
 ·
  refine k_iloadN X0 hx (hb hby d1_12) rfl (pc' := 13) rfl ?_
  refine k_bipush X0 hx (hb hby d1_13) (pc' := 15) rfl (z := (65 : Int32)) rfl ?_
  refine k_icmp_lt X0 hx (hb hby d1_15) (pn := 18) rfl (py := 24) (by decide) (fun hc8 => ?_) (fun hc8 => ?_)
  ·
   refine k_iloadN X0 hx (hb hby d1_24) rfl (pc' := 25) rfl ?_
   refine k_bipush X0 hx (hb hby d1_25) (pc' := 27) rfl (z := (48 : Int32)) rfl ?_
   refine k_icmp_lt X0 hx (hb hby d1_27) (pn := 30) rfl (py := 36) (by decide) (fun hc9 => ?_) (fun hc9 => ?_)
   ·
    refine k_iloadN X0 hx (hb hby d1_36) rfl (pc' := 37) rfl ?_
    refine k_bipush X0 hx (hb hby d1_37) (pc' := 39) rfl (z := (95 : Int32)) rfl ?_
    refine k_icmp_eq X0 hx (hb hby d1_39) (pn := 42) rfl (py := 54) (by decide) (fun hc => absurd hc (k_d_ne_xlt hc8 (by decide))) (fun _ => ?_)
    refine k_iloadN X0 hx (hb hby d1_42) rfl (pc' := 43) rfl ?_
    refine k_bipush X0 hx (hb hby d1_43) (pc' := 45) rfl (z := (45 : Int32)) rfl ?_
    refine k_icmp_eq X0 hx (hb hby d1_45) (pn := 48) rfl (py := 54) (by decide) (fun hc10 => ?_) (fun hc10 => ?_)
    ·
     refine k_iconst X0 hx (hb hby d1_54) (pc' := 55) rfl (z := (1 : Int32)) rfl ?_
     refine k_goto X0 hx (hb hby d1_55) (pc' := 59) (by decide) ?_
     have hf : f1_6 p1 = (1 : Int32) := by simp only [f1_6, if_pos hc7, if_pos hc8, if_pos hc9, if_pos hc10]
     exact k_retN X0 hx (t := .boolean) Bd.returns (by simp) (hb hby d1_59) hlk (by decide) (by decide) (z' := (1 : Int32)) rfl ⟨N0, e0, by rw [hf]⟩
    ·
     refine k_iloadN X0 hx (hb hby d1_48) rfl (pc' := 49) rfl ?_
     refine k_bipush X0 hx (hb hby d1_49) (pc' := 51) rfl (z := (46 : Int32)) rfl ?_
     refine k_icmp_ne X0 hx (hb hby d1_51) (pn := 54) rfl (py := 58) (by decide) (fun hc11 => ?_) (fun hc11 => ?_)
     ·
      refine k_iconst X0 hx (hb hby d1_58) (pc' := 59) rfl (z := (0 : Int32)) rfl ?_
      have hf : f1_6 p1 = (0 : Int32) := by simp only [f1_6, if_pos hc7, if_pos hc8, if_pos hc9, if_neg hc10, if_neg hc11]
      exact k_retN X0 hx (t := .boolean) Bd.returns (by simp) (hb hby d1_59) hlk (by decide) (by decide) (z' := (0 : Int32)) rfl ⟨N0, e0, by rw [hf]⟩
     ·
      refine k_iconst X0 hx (hb hby d1_54) (pc' := 55) rfl (z := (1 : Int32)) rfl ?_
      refine k_goto X0 hx (hb hby d1_55) (pc' := 59) (by decide) ?_
      have hf : f1_6 p1 = (1 : Int32) := by simp only [f1_6, if_pos hc7, if_pos hc8, if_pos hc9, if_neg hc10, if_pos hc11]
      exact k_retN X0 hx (t := .boolean) Bd.returns (by simp) (hb hby d1_59) hlk (by decide) (by decide) (z' := (1 : Int32)) rfl ⟨N0, e0, by rw [hf]⟩
   ·
    refine k_iloadN X0 hx (hb hby d1_30) rfl (pc' := 31) rfl ?_
    refine k_bipush X0 hx (hb hby d1_31) (pc' := 33) rfl (z := (57 : Int32)) rfl ?_
    refine k_icmp_le X0 hx (hb hby d1_33) (pn := 36) rfl (py := 54) (by decide) (fun hc12 => ?_) (fun hc12 => ?_)
    ·
     refine k_iconst X0 hx (hb hby d1_54) (pc' := 55) rfl (z := (1 : Int32)) rfl ?_
     refine k_goto X0 hx (hb hby d1_55) (pc' := 59) (by decide) ?_
     have hf : f1_6 p1 = (1 : Int32) := by simp only [f1_6, if_pos hc7, if_pos hc8, if_neg hc9, if_neg hc12]
     exact k_retN X0 hx (t := .boolean) Bd.returns (by simp) (hb hby d1_59) hlk (by decide) (by decide) (z' := (1 : Int32)) rfl ⟨N0, e0, by rw [hf]⟩
    ·
     refine k_iloadN X0 hx (hb hby d1_36) rfl (pc' := 37) rfl ?_
     refine k_bipush X0 hx (hb hby d1_37) (pc' := 39) rfl (z := (95 : Int32)) rfl ?_
     refine k_icmp_eq X0 hx (hb hby d1_39) (pn := 42) rfl (py := 54) (by decide) (fun hc => absurd hc (k_d_ne_xlt hc8 (by decide))) (fun _ => ?_)
     refine k_iloadN X0 hx (hb hby d1_42) rfl (pc' := 43) rfl ?_
     refine k_bipush X0 hx (hb hby d1_43) (pc' := 45) rfl (z := (45 : Int32)) rfl ?_
     refine k_icmp_eq X0 hx (hb hby d1_45) (pn := 48) rfl (py := 54) (by decide) (fun hc => absurd hc (k_d_ne_nxlt hc9 (by decide))) (fun _ => ?_)
     refine k_iloadN X0 hx (hb hby d1_48) rfl (pc' := 49) rfl ?_
     refine k_bipush X0 hx (hb hby d1_49) (pc' := 51) rfl (z := (46 : Int32)) rfl ?_
     refine k_icmp_ne X0 hx (hb hby d1_51) (pn := 54) rfl (py := 58) (by decide) (fun _ => ?_) (fun hc => absurd hc (k_d_ne_nxlt hc9 (by decide)))
     refine k_iconst X0 hx (hb hby d1_58) (pc' := 59) rfl (z := (0 : Int32)) rfl ?_
     have hf : f1_6 p1 = (0 : Int32) := by simp only [f1_6, if_pos hc7, if_pos hc8, if_neg hc9, if_pos hc12]
     exact k_retN X0 hx (t := .boolean) Bd.returns (by simp) (hb hby d1_59) hlk (by decide) (by decide) (z' := (0 : Int32)) rfl ⟨N0, e0, by rw [hf]⟩
  ·
   refine k_iloadN X0 hx (hb hby d1_18) rfl (pc' := 19) rfl ?_
   refine k_bipush X0 hx (hb hby d1_19) (pc' := 21) rfl (z := (90 : Int32)) rfl ?_
   refine k_icmp_le X0 hx (hb hby d1_21) (pn := 24) rfl (py := 54) (by decide) (fun hc13 => ?_) (fun hc13 => ?_)
   ·
    refine k_iconst X0 hx (hb hby d1_54) (pc' := 55) rfl (z := (1 : Int32)) rfl ?_
    refine k_goto X0 hx (hb hby d1_55) (pc' := 59) (by decide) ?_
    have hf : f1_6 p1 = (1 : Int32) := by simp only [f1_6, if_pos hc7, if_neg hc8, if_neg hc13]
    exact k_retN X0 hx (t := .boolean) Bd.returns (by simp) (hb hby d1_59) hlk (by decide) (by decide) (z' := (1 : Int32)) rfl ⟨N0, e0, by rw [hf]⟩
   ·
    refine k_iloadN X0 hx (hb hby d1_24) rfl (pc' := 25) rfl ?_
    refine k_bipush X0 hx (hb hby d1_25) (pc' := 27) rfl (z := (48 : Int32)) rfl ?_
    refine k_icmp_lt X0 hx (hb hby d1_27) (pn := 30) rfl (py := 36) (by decide) (fun hc => absurd hc (k_d_nxlt_nxlt hc8 (by decide))) (fun _ => ?_)
    refine k_iloadN X0 hx (hb hby d1_30) rfl (pc' := 31) rfl ?_
    refine k_bipush X0 hx (hb hby d1_31) (pc' := 33) rfl (z := (57 : Int32)) rfl ?_
    refine k_icmp_le X0 hx (hb hby d1_33) (pn := 36) rfl (py := 54) (by decide) (fun hc => absurd (k_d_alt_nxlt hc8 (by decide)) hc) (fun _ => ?_)
    refine k_iloadN X0 hx (hb hby d1_36) rfl (pc' := 37) rfl ?_
    refine k_bipush X0 hx (hb hby d1_37) (pc' := 39) rfl (z := (95 : Int32)) rfl ?_
    refine k_icmp_eq X0 hx (hb hby d1_39) (pn := 42) rfl (py := 54) (by decide) (fun hc14 => ?_) (fun hc14 => ?_)
    ·
     refine k_iconst X0 hx (hb hby d1_54) (pc' := 55) rfl (z := (1 : Int32)) rfl ?_
     refine k_goto X0 hx (hb hby d1_55) (pc' := 59) (by decide) ?_
     have hf : f1_6 p1 = (1 : Int32) := by simp only [f1_6, if_pos hc7, if_neg hc8, if_pos hc13, if_pos hc14]
     exact k_retN X0 hx (t := .boolean) Bd.returns (by simp) (hb hby d1_59) hlk (by decide) (by decide) (z' := (1 : Int32)) rfl ⟨N0, e0, by rw [hf]⟩
    ·
     refine k_iloadN X0 hx (hb hby d1_42) rfl (pc' := 43) rfl ?_
     refine k_bipush X0 hx (hb hby d1_43) (pc' := 45) rfl (z := (45 : Int32)) rfl ?_
     refine k_icmp_eq X0 hx (hb hby d1_45) (pn := 48) rfl (py := 54) (by decide) (fun hc => absurd hc (k_d_ne_nxlt hc8 (by decide))) (fun _ => ?_)
     refine k_iloadN X0 hx (hb hby d1_48) rfl (pc' := 49) rfl ?_
     refine k_bipush X0 hx (hb hby d1_49) (pc' := 51) rfl (z := (46 : Int32)) rfl ?_
     refine k_icmp_ne X0 hx (hb hby d1_51) (pn := 54) rfl (py := 58) (by decide) (fun _ => ?_) (fun hc => absurd hc (k_d_ne_nxlt hc8 (by decide)))
     refine k_iconst X0 hx (hb hby d1_58) (pc' := 59) rfl (z := (0 : Int32)) rfl ?_
     have hf : f1_6 p1 = (0 : Int32) := by simp only [f1_6, if_pos hc7, if_neg hc8, if_pos hc13, if_neg hc14]
     exact k_retN X0 hx (t := .boolean) Bd.returns (by simp) (hb hby d1_59) hlk (by decide) (by decide) (z' := (0 : Int32)) rfl ⟨N0, e0, by rw [hf]⟩
 ·
  refine k_iloadN X0 hx (hb hby d1_6) rfl (pc' := 7) rfl ?_
  refine k_bipush X0 hx (hb hby d1_7) (pc' := 9) rfl (z := (122 : Int32)) rfl ?_
  refine k_icmp_le X0 hx (hb hby d1_9) (pn := 12) rfl (py := 54) (by decide) (fun hc15 => ?_) (fun hc15 => ?_)
  ·
   refine k_iconst X0 hx (hb hby d1_54) (pc' := 55) rfl (z := (1 : Int32)) rfl ?_
   refine k_goto X0 hx (hb hby d1_55) (pc' := 59) (by decide) ?_
   have hf : f1_6 p1 = (1 : Int32) := by simp only [f1_6, if_neg hc7, if_neg hc15]
   exact k_retN X0 hx (t := .boolean) Bd.returns (by simp) (hb hby d1_59) hlk (by decide) (by decide) (z' := (1 : Int32)) rfl ⟨N0, e0, by rw [hf]⟩
  ·
   refine k_iloadN X0 hx (hb hby d1_12) rfl (pc' := 13) rfl ?_
   refine k_bipush X0 hx (hb hby d1_13) (pc' := 15) rfl (z := (65 : Int32)) rfl ?_
   refine k_icmp_lt X0 hx (hb hby d1_15) (pn := 18) rfl (py := 24) (by decide) (fun hc => absurd hc (k_d_nxlt_nxlt hc7 (by decide))) (fun _ => ?_)
   refine k_iloadN X0 hx (hb hby d1_18) rfl (pc' := 19) rfl ?_
   refine k_bipush X0 hx (hb hby d1_19) (pc' := 21) rfl (z := (90 : Int32)) rfl ?_
   refine k_icmp_le X0 hx (hb hby d1_21) (pn := 24) rfl (py := 54) (by decide) (fun hc => absurd (k_d_alt_nxlt hc7 (by decide)) hc) (fun _ => ?_)
   refine k_iloadN X0 hx (hb hby d1_24) rfl (pc' := 25) rfl ?_
   refine k_bipush X0 hx (hb hby d1_25) (pc' := 27) rfl (z := (48 : Int32)) rfl ?_
   refine k_icmp_lt X0 hx (hb hby d1_27) (pn := 30) rfl (py := 36) (by decide) (fun hc => absurd hc (k_d_nxlt_nxlt hc7 (by decide))) (fun _ => ?_)
   refine k_iloadN X0 hx (hb hby d1_30) rfl (pc' := 31) rfl ?_
   refine k_bipush X0 hx (hb hby d1_31) (pc' := 33) rfl (z := (57 : Int32)) rfl ?_
   refine k_icmp_le X0 hx (hb hby d1_33) (pn := 36) rfl (py := 54) (by decide) (fun hc => absurd (k_d_alt_nxlt hc7 (by decide)) hc) (fun _ => ?_)
   refine k_iloadN X0 hx (hb hby d1_36) rfl (pc' := 37) rfl ?_
   refine k_bipush X0 hx (hb hby d1_37) (pc' := 39) rfl (z := (95 : Int32)) rfl ?_
   refine k_icmp_eq X0 hx (hb hby d1_39) (pn := 42) rfl (py := 54) (by decide) (fun hc => absurd hc (k_d_ne_nxlt hc7 (by decide))) (fun _ => ?_)
   refine k_iloadN X0 hx (hb hby d1_42) rfl (pc' := 43) rfl ?_
   refine k_bipush X0 hx (hb hby d1_43) (pc' := 45) rfl (z := (45 : Int32)) rfl ?_
   refine k_icmp_eq X0 hx (hb hby d1_45) (pn := 48) rfl (py := 54) (by decide) (fun hc => absurd hc (k_d_ne_nxlt hc7 (by decide))) (fun _ => ?_)
   refine k_iloadN X0 hx (hb hby d1_48) rfl (pc' := 49) rfl ?_
   refine k_bipush X0 hx (hb hby d1_49) (pc' := 51) rfl (z := (46 : Int32)) rfl ?_
   refine k_icmp_ne X0 hx (hb hby d1_51) (pn := 54) rfl (py := 58) (by decide) (fun _ => ?_) (fun hc => absurd hc (k_d_ne_nxlt hc7 (by decide)))
   refine k_iconst X0 hx (hb hby d1_58) (pc' := 59) rfl (z := (0 : Int32)) rfl ?_
   have hf : f1_6 p1 = (0 : Int32) := by simp only [f1_6, if_neg hc7, if_pos hc15]
   exact k_retN X0 hx (t := .boolean) Bd.returns (by simp) (hb hby d1_59) hlk (by decide) (by decide) (z' := (0 : Int32)) rfl ⟨N0, e0, by rw [hf]⟩
theorem pd_0 : parseMethodDescriptor "(I)Z" = some ⟨[.int], some .boolean⟩ := by decide +kernel
theorem d2_0 : decode method_2_code 0 = .ok (.iload_n 0, 1) := by decide +kernel
theorem d2_1 : decode method_2_code 1 = .ok (.ifCond .lt 10, 3) := by decide +kernel
theorem d2_11 : decode method_2_code 11 = .ok (.iconst 0, 1) := by decide +kernel
theorem d2_12 : decode method_2_code 12 = .ok (.ireturn, 1) := by decide +kernel
theorem d2_4 : decode method_2_code 4 = .ok (.iload_n 0, 1) := by decide +kernel
theorem d2_5 : decode method_2_code 5 = .ok (.sipush 128, 3) := by decide +kernel
theorem d2_8 : decode method_2_code 8 = .ok (.if_icmp .lt 5, 3) := by decide +kernel
theorem d2_13 : decode method_2_code 13 = .ok (.iload_n 0, 1) := by decide +kernel
theorem d2_14 : decode method_2_code 14 = .ok (.bipush 64, 2) := by decide +kernel
theorem d2_16 : decode method_2_code 16 = .ok (.if_icmp .ge 21, 3) := by decide +kernel
theorem d2_37 : decode method_2_code 37 = .ok (.ldc2_w 11, 3) := by decide +kernel
theorem d2_40 : decode method_2_code 40 = .ok (.iload_n 0, 1) := by decide +kernel
theorem d2_41 : decode method_2_code 41 = .ok (.bipush 64, 2) := by decide +kernel
theorem d2_43 : decode method_2_code 43 = .ok (.isub, 1) := by decide +kernel
theorem d2_44 : decode method_2_code 44 = .ok (.lushr, 1) := by decide +kernel
theorem d2_45 : decode method_2_code 45 = .ok (.lconst 1, 1) := by decide +kernel
theorem d2_46 : decode method_2_code 46 = .ok (.land, 1) := by decide +kernel
theorem d2_47 : decode method_2_code 47 = .ok (.lconst 0, 1) := by decide +kernel
theorem d2_48 : decode method_2_code 48 = .ok (.lcmp, 1) := by decide +kernel
theorem d2_49 : decode method_2_code 49 = .ok (.ifCond .eq 7, 3) := by decide +kernel
theorem d2_56 : decode method_2_code 56 = .ok (.iconst 0, 1) := by decide +kernel
theorem d2_57 : decode method_2_code 57 = .ok (.ireturn, 1) := by decide +kernel
theorem d2_52 : decode method_2_code 52 = .ok (.iconst 1, 1) := by decide +kernel
theorem d2_53 : decode method_2_code 53 = .ok (.goto 4, 3) := by decide +kernel
theorem d2_19 : decode method_2_code 19 = .ok (.ldc2_w 9, 3) := by decide +kernel
theorem d2_22 : decode method_2_code 22 = .ok (.iload_n 0, 1) := by decide +kernel
theorem d2_23 : decode method_2_code 23 = .ok (.lushr, 1) := by decide +kernel
theorem d2_24 : decode method_2_code 24 = .ok (.lconst 1, 1) := by decide +kernel
theorem d2_25 : decode method_2_code 25 = .ok (.land, 1) := by decide +kernel
theorem d2_26 : decode method_2_code 26 = .ok (.lconst 0, 1) := by decide +kernel
theorem d2_27 : decode method_2_code 27 = .ok (.lcmp, 1) := by decide +kernel
theorem d2_28 : decode method_2_code 28 = .ok (.ifCond .eq 7, 3) := by decide +kernel
theorem d2_35 : decode method_2_code 35 = .ok (.iconst 0, 1) := by decide +kernel
theorem d2_36 : decode method_2_code 36 = .ok (.ireturn, 1) := by decide +kernel
theorem d2_31 : decode method_2_code 31 = .ok (.iconst 1, 1) := by decide +kernel
theorem d2_32 : decode method_2_code 32 = .ok (.goto 4, 3) := by decide +kernel
abbrev R2_18 : Room := { frames := 0, cells := 0, slots := 0, locals := 0 }
def f2_18 (p1 : Int32) : Int32 := (if p1 < (0 : Int32) then (0 : Int32) else (if p1 < (128 : Int32) then (if p1 < (64 : Int32) then (if (((((288054454291267584 : Int64).toUInt64 >>> (p1 &&& 0x3f).toInt64.toUInt64).toInt64)) &&& (1 : Int64)) = (0 : Int64) then (0 : Int32) else (1 : Int32)) else (if (((((576460745995190270 : Int64).toUInt64 >>> ((p1 - (64 : Int32)) &&& 0x3f).toInt64.toUInt64).toInt64)) &&& (1 : Int64)) = (0 : Int64) then (0 : Int32) else (1 : Int32))) else (0 : Int32)))
theorem f2_18_nar (p1 : Int32) : nar .boolean (f2_18 p1) = f2_18 p1 := by
  unfold f2_18; (repeat' split) <;> rfl
def Q2_18 (Z : State) (p1 : Int32) (h0 : Heap) (n0 : Nat) (v : Option Value) (h : Heap) (L : List Loc) : Prop := Fr n0 L ∧ h = h0 ∧ v = some (.int (f2_18 p1))
theorem ef2_18 (m : MethodId) (x0 : Int32) : entryFrame m #[(.int x0)] 1 = mkF m 0 #[.val (.int x0)] [] := by first | (simp [entryFrame, mkF, argsToLocals, Value.category]; done) | rfl
theorem pn_1 : plainName "com/example/knotcut/knotcut/core/InputFieldsIsAsciiNameCharacterPinLaw" = true := by first | (simp [plainName, overriddenIn]; done) | decide +kernel
set_option maxRecDepth 65536 in
set_option maxHeartbeats 40000000 in
theorem rm2_18 (l : Launch) (Z : State) (a0 : Array Value) (hw : ∀ d ∈ tables_1, d.before a0 Z = true) (ws : List Jvm.Cond) (p1 : Int32) (h0 : Heap) (n0 : Nat) (Z0 : n0 ≤ h0.size)  :
    MetFree l (⟨"com/example/knotcut/knotcut/core/InputFieldsIsAsciiNameCharacterPinLaw", "expected", "(I)Z"⟩ : MethodName) (head1 (Jvm.Cond.code (⟨"com/example/knotcut/knotcut/core/InputFieldsIsAsciiNameCharacterPinLaw", "expected", "(I)Z"⟩ : MethodName) method_2_code 1 (some .boolean) :: ws) R2_18) (fun a U => a = #[(.int p1)] ∧ Z.Warmed39 U.vm ∧ U.heap = h0) (fun _ _ _ _ _ => True) (fun _ U o U' => ∃ v L, o = .returned v ∧ Q2_18 Z p1 h0 n0 v U'.heap L ∧ FrameEnd U o U' L R2_18.cells R2_18.slots) := by
 refine MetFree.of_bodySF (plainFor_of_name pn_1) hisR ?_
 intro p e s m args below meth c s₁ Bd hml0 hP hK
 obtain ⟨rfl, hZ, hh⟩ := hP
 have hx := Bd.exec
 have hby := Bd.bytes
 have hml : c.maxLocals = 1 := hml0
 have hlk : meth.locks = false := Bd.notSynchronized
 have hown : s.vm.findClass "com/example/knotcut/knotcut/core/InputFieldsIsAsciiNameCharacterPinLaw" = some m.cls := findClass_of_methodNamed Bd.named
 have hnm := (name_of_methodNamed Bd.named Bd.method).1
 have X0 : Stand p l e R2_18 s m #[(.int p1)] below meth c s₁ [] 0 0 := Stand.of_body Bd
 have e0 : s₁.heap = h0 := by rw [← hh, Bd.state]; rfl
 have N0 := Fr.nil n0
 rw [ef2_18 m p1]
 show KEnds p e below s R2_18.cells R2_18.slots (Q2_18 Z p1 h0 n0) s₁ (mkF m 0 #[.val (.int p1)] [])
 refine k_iloadN X0 hx (hb hby d2_0) rfl (pc' := 1) rfl ?_
 refine k_if_lt X0 hx (hb hby d2_1) (pn := 4) rfl (py := 11) (by decide) (fun hc19 => ?_) (fun hc19 => ?_)
 ·
  refine k_iconst X0 hx (hb hby d2_11) (pc' := 12) rfl (z := (0 : Int32)) rfl ?_
  have hf : f2_18 p1 = (0 : Int32) := by simp only [f2_18, if_pos hc19]
  exact k_retN X0 hx (t := .boolean) Bd.returns (by simp) (hb hby d2_12) hlk (by decide) (by decide) (z' := (0 : Int32)) rfl ⟨N0, e0, by rw [hf]⟩
 ·
  refine k_iloadN X0 hx (hb hby d2_4) rfl (pc' := 5) rfl ?_
  refine k_sipush X0 hx (hb hby d2_5) (pc' := 8) rfl (z := (128 : Int32)) rfl ?_
  refine k_icmp_lt X0 hx (hb hby d2_8) (pn := 11) rfl (py := 13) (by decide) (fun hc20 => ?_) (fun hc20 => ?_)
  ·
   refine k_iloadN X0 hx (hb hby d2_13) rfl (pc' := 14) rfl ?_
   refine k_bipush X0 hx (hb hby d2_14) (pc' := 16) rfl (z := (64 : Int32)) rfl ?_
   refine k_icmp_ge X0 hx (hb hby d2_16) (pn := 19) rfl (py := 37) (by decide) (fun hc21 => ?_) (fun hc21 => ?_)
   ·
    refine k_ldcL X0 hx hZ hown (hw _ (List.mem_of_getElem? (i := 10) rfl)) (hb hby d2_37) (pc' := 40) rfl ?_
    refine k_iloadN X0 hx (hb hby d2_40) rfl (pc' := 41) rfl ?_
    refine k_bipush X0 hx (hb hby d2_41) (pc' := 43) rfl (z := (64 : Int32)) rfl ?_
    refine k_isubL X0 hx (hb hby d2_43) (pc' := 44) rfl rfl ?_
    refine k_lushrL X0 hx (hb hby d2_44) (pc' := 45) rfl rfl ?_
    refine k_lconst X0 hx (hb hby d2_45) (pc' := 46) rfl (z := (1 : Int64)) rfl ?_
    refine k_landL X0 hx (hb hby d2_46) (pc' := 47) rfl rfl ?_
    refine k_lconst X0 hx (hb hby d2_47) (pc' := 48) rfl (z := (0 : Int64)) rfl ?_
    refine k_lcif_eq X0 hx (hb hby d2_48) (pm := 49) rfl (hb hby d2_49) (pn := 52) rfl (py := 56) (by decide) (fun hc22 => ?_) (fun hc22 => ?_)
    ·
     refine k_iconst X0 hx (hb hby d2_56) (pc' := 57) rfl (z := (0 : Int32)) rfl ?_
     have hf : f2_18 p1 = (0 : Int32) := by simp only [f2_18, if_neg hc19, if_pos hc20, if_neg hc21, if_pos hc22]
     exact k_retN X0 hx (t := .boolean) Bd.returns (by simp) (hb hby d2_57) hlk (by decide) (by decide) (z' := (0 : Int32)) rfl ⟨N0, e0, by rw [hf]⟩
    ·
     refine k_iconst X0 hx (hb hby d2_52) (pc' := 53) rfl (z := (1 : Int32)) rfl ?_
     refine k_goto X0 hx (hb hby d2_53) (pc' := 57) (by decide) ?_
     have hf : f2_18 p1 = (1 : Int32) := by simp only [f2_18, if_neg hc19, if_pos hc20, if_neg hc21, if_neg hc22]
     exact k_retN X0 hx (t := .boolean) Bd.returns (by simp) (hb hby d2_57) hlk (by decide) (by decide) (z' := (1 : Int32)) rfl ⟨N0, e0, by rw [hf]⟩
   ·
    refine k_ldcL X0 hx hZ hown (hw _ (List.mem_of_getElem? (i := 9) rfl)) (hb hby d2_19) (pc' := 22) rfl ?_
    refine k_iloadN X0 hx (hb hby d2_22) rfl (pc' := 23) rfl ?_
    refine k_lushrL X0 hx (hb hby d2_23) (pc' := 24) rfl rfl ?_
    refine k_lconst X0 hx (hb hby d2_24) (pc' := 25) rfl (z := (1 : Int64)) rfl ?_
    refine k_landL X0 hx (hb hby d2_25) (pc' := 26) rfl rfl ?_
    refine k_lconst X0 hx (hb hby d2_26) (pc' := 27) rfl (z := (0 : Int64)) rfl ?_
    refine k_lcif_eq X0 hx (hb hby d2_27) (pm := 28) rfl (hb hby d2_28) (pn := 31) rfl (py := 35) (by decide) (fun hc23 => ?_) (fun hc23 => ?_)
    ·
     refine k_iconst X0 hx (hb hby d2_35) (pc' := 36) rfl (z := (0 : Int32)) rfl ?_
     have hf : f2_18 p1 = (0 : Int32) := by simp only [f2_18, if_neg hc19, if_pos hc20, if_pos hc21, if_pos hc23]
     exact k_retN X0 hx (t := .boolean) Bd.returns (by simp) (hb hby d2_36) hlk (by decide) (by decide) (z' := (0 : Int32)) rfl ⟨N0, e0, by rw [hf]⟩
    ·
     refine k_iconst X0 hx (hb hby d2_31) (pc' := 32) rfl (z := (1 : Int32)) rfl ?_
     refine k_goto X0 hx (hb hby d2_32) (pc' := 36) (by decide) ?_
     have hf : f2_18 p1 = (1 : Int32) := by simp only [f2_18, if_neg hc19, if_pos hc20, if_pos hc21, if_neg hc23]
     exact k_retN X0 hx (t := .boolean) Bd.returns (by simp) (hb hby d2_36) hlk (by decide) (by decide) (z' := (1 : Int32)) rfl ⟨N0, e0, by rw [hf]⟩
  ·
   refine k_iconst X0 hx (hb hby d2_11) (pc' := 12) rfl (z := (0 : Int32)) rfl ?_
   have hf : f2_18 p1 = (0 : Int32) := by simp only [f2_18, if_neg hc19, if_neg hc20]
   exact k_retN X0 hx (t := .boolean) Bd.returns (by simp) (hb hby d2_12) hlk (by decide) (by decide) (z' := (0 : Int32)) rfl ⟨N0, e0, by rw [hf]⟩
theorem ef0 (m : MethodId) (x0 : Int32) (x1 : Int32) : entryFrame m #[(.int x0), (.int x1)] maxLocals = mkF m 0 #[.val (.int x0), .val (.int x1), .unset, .unset] [] := by first | (simp [entryFrame, mkF, argsToLocals, Value.category, maxLocals]; done) | rfl
theorem own_enum : ∀ n : Fin 128, f1_6 (Int32.ofNat n.val) = f2_18 (Int32.ofNat n.val) := by decide +kernel
theorem own_eq (c : Int32) : f1_6 c = f2_18 c := by
  have r := rng32 c
  by_cases h : 0 ≤ c.toInt ∧ c.toInt < 128
  · have hc : c = Int32.ofNat c.toInt.toNat := by
      apply Int32.toInt_inj.mp
      rw [Int32.toInt_ofNat_of_lt (by omega)]
      omega
    have q := own_enum ⟨c.toInt.toNat, by omega⟩
    rw [hc]
    exact q
  · have e1 : f1_6 c = 0 := by
      unfold f1_6
      simp only [Int32.lt_iff_toInt_lt, ← Int32.toInt_inj, show (0 : Int32).toInt = 0 from rfl, show (122 : Int32).toInt = 122 from rfl, show (128 : Int32).toInt = 128 from rfl, show (45 : Int32).toInt = 45 from rfl, show (46 : Int32).toInt = 46 from rfl, show (48 : Int32).toInt = 48 from rfl, show (57 : Int32).toInt = 57 from rfl, show (64 : Int32).toInt = 64 from rfl, show (65 : Int32).toInt = 65 from rfl, show (90 : Int32).toInt = 90 from rfl, show (95 : Int32).toInt = 95 from rfl, show (97 : Int32).toInt = 97 from rfl]
      (repeat' split) <;> first | rfl | (exfalso; omega)
    have e2 : f2_18 c = 0 := by
      unfold f2_18
      by_cases h1 : c < 0
      · rw [if_pos h1]
      · rw [if_neg h1]
        by_cases h2 : c < 128
        · exfalso
          rw [Int32.lt_iff_toInt_lt, show (0 : Int32).toInt = 0 from rfl] at h1
          rw [Int32.lt_iff_toInt_lt, show (128 : Int32).toInt = 128 from rfl] at h2
          omega
        · rw [if_neg h2]
    rw [e1, e2]
def Q0 (n0 : Nat) (v : Option Value) (h : Heap) (L : List Loc) : Prop := v = some (.int 1) ∧ Fr n0 L
set_option maxRecDepth 65536 in
set_option maxHeartbeats 40000000 in
theorem rm0 (l : Launch) (Z : State) (a0 : Array Value) (hw : ∀ d ∈ tables_1, d.before a0 Z = true) (ws : List Jvm.Cond) (i0 : Int32) (i1 : Int32) (h0 : Heap) (n0 : Nat) (Z0 : n0 ≤ h0.size) :
    MetFree l x (head1 (Jvm.Cond.code x code maxLocals ret :: ws) room_1) (fun a U => a = #[(.int i0), (.int i1)] ∧ Z.Warmed39 U.vm ∧ U.heap = h0) (fun _ _ _ _ _ => True) (fun _ U o U' => ∃ v L, o = .returned v ∧ Q0 n0 v U'.heap L ∧ FrameEnd U o U' L 0 0) := by
 refine MetFree.of_bodySF (plainFor_of_name pn_1) hisR ?_
 intro p e s m args below meth c s₁ Bd hml0 hP hK
 obtain ⟨rfl, hZ, hh⟩ := hP
 have hx := Bd.exec
 have hby := Bd.bytes
 have hml : c.maxLocals = 4 := hml0
 have hlk : meth.locks = false := Bd.notSynchronized
 have hown : s.vm.findClass "com/example/knotcut/knotcut/core/InputFieldsIsAsciiNameCharacterPinLaw" = some m.cls := findClass_of_methodNamed Bd.named
 have hnm := (name_of_methodNamed Bd.named Bd.method).1
 have X0 : Stand p l e room_1 s m #[(.int i0), (.int i1)] below meth c s₁ [] 0 0 := Stand.of_body Bd
 have e0 : s₁.heap = h0 := by rw [← hh, Bd.state]; rfl
 have N0 := Fr.nil n0
 rw [show entryFrame m #[(.int i0), (.int i1)] maxLocals = _ from ef0 m i0 i1]
 show KEnds p e below s 0 0 (Q0 n0) s₁ (mkF m 0 #[.val (.int i0), .val (.int i1), .unset, .unset] [])
 refine k_iloadN X0 hx (hb hby at_0) rfl (pc' := 1) rfl ?_
 refine k_iconst X0 hx (hb hby at_1) (pc' := 2) rfl (z := (3 : Int32)) rfl ?_
 refine k_iand X0 hx (hb hby at_2) (pc' := 3) rfl (fun v1 hv1 => ?_)
 refine k_istoreN X0 hx (hb hby at_3) (Ls' := #[.val (.int i0), .val (.int i1), .val (.int v1), .unset]) rfl (pc' := 4) rfl ?_
 refine k_iloadN X0 hx (hb hby at_4) rfl (pc' := 5) rfl ?_
 refine k_if_ne X0 hx (hb hby at_5) (pn := 8) rfl (py := 13) (by decide) (fun hc2 => ?_) (fun hc2 => ?_)
 ·
  refine k_iloadN X0 hx (hb hby at_13) rfl (pc' := 14) rfl ?_
  refine k_iconst X0 hx (hb hby at_14) (pc' := 15) rfl (z := (1 : Int32)) rfl ?_
  refine k_icmp_ne X0 hx (hb hby at_15) (pn := 18) rfl (py := 26) (by decide) (fun hc3 => ?_) (fun hc3 => ?_)
  ·
   refine k_iloadN X0 hx (hb hby at_26) rfl (pc' := 27) rfl ?_
   refine k_iconst X0 hx (hb hby at_27) (pc' := 28) rfl (z := (2 : Int32)) rfl ?_
   refine k_icmp_ne X0 hx (hb hby at_28) (pn := 31) rfl (py := 37) (by decide) (fun hc4 => ?_) (fun hc4 => ?_)
   ·
    refine k_iloadN X0 hx (hb hby at_37) rfl (pc' := 38) rfl ?_
    refine k_ldc X0 hx hZ hown (hw _ (List.mem_of_getElem? (i := 0) rfl)) (hb hby at_38) (pc' := 40) rfl ?_
    refine k_iand X0 hx (hb hby at_40) (pc' := 41) rfl (fun v5 hv5 => ?_)
    refine k_istoreN X0 hx (hb hby at_41) (Ls' := #[.val (.int i0), .val (.int i1), .val (.int v1), .val (.int v5)]) rfl (pc' := 42) rfl ?_
    refine k_iloadN X0 hx (hb hby at_42) rfl (pc' := 43) rfl ?_
    refine k_callS X0 hx hZ hown (hw _ (List.mem_of_getElem? (i := 1) rfl)) (hw _ (List.mem_of_getElem? (i := 2) rfl)) (hw _ (List.mem_of_getElem? (i := 3) rfl)) (hw _ (List.mem_of_getElem? (i := 4) rfl)) (by decide) (rm1_6 l Z a0 hw [] v5 h0 n0 Z0 ) (by decide) (by decide) e0 (by rw [hml]; rfl) (argsL := [(.int v5)]) (rest := []) (lenOf pd_0 rfl) rfl (W := 0) (Nat.le_refl _) rfl (hb hby at_43) (by decide) (by decide) (pc' := 46) rfl (fun T16 L16 r16 X16 q16 => ?_)
    obtain ⟨N16, e16, rfl⟩ := q16
    have N16' := Fr.app N0 N16
    show KEnds p e below s _ _ _ T16 (mkF m 46 #[.val (.int i0), .val (.int i1), .val (.int v1), .val (.int v5)] ((.int (f1_6 v5)) :: []))
    obtain ⟨v17, hv17⟩ : ∃ z, z = f1_6 v5 := ⟨_, rfl⟩
    rw [← hv17]
    refine k_iloadN X16 hx (hb hby at_46) rfl (pc' := 47) rfl ?_
    refine k_callS X16 hx hZ hown (hw _ (List.mem_of_getElem? (i := 5) rfl)) (hw _ (List.mem_of_getElem? (i := 6) rfl)) (hw _ (List.mem_of_getElem? (i := 7) rfl)) (hw _ (List.mem_of_getElem? (i := 8) rfl)) (by decide) (rm2_18 l Z a0 hw [] v5 h0 n0 Z0 ) (by decide) (by decide) e16 (by rw [hml]; rfl) (argsL := [(.int v5)]) (rest := [(.int v17)]) (lenOf pd_0 rfl) rfl (W := 1) (Nat.le_refl _) rfl (hb hby at_47) (by decide) (by decide) (pc' := 50) rfl (fun T24 L24 r24 X24 q24 => ?_)
    obtain ⟨N24, e24, rfl⟩ := q24
    have N24' := Fr.app N16' N24
    show KEnds p e below s _ _ _ T24 (mkF m 50 #[.val (.int i0), .val (.int i1), .val (.int v1), .val (.int v5)] ((.int (f2_18 v5)) :: (.int v17) :: []))
    obtain ⟨v25, hv25⟩ : ∃ z, z = f2_18 v5 := ⟨_, rfl⟩
    rw [← hv25]
    refine k_icmp_ne X24 hx (hb hby at_50) (pn := 53) rfl (py := 57) (by decide) (fun hc => absurd (by rw [hv17, hv25]; exact own_eq _) hc) (fun _ => ?_)
    refine k_iconst X24 hx (hb hby at_53) (pc' := 54) rfl (z := (1 : Int32)) rfl ?_
    refine k_goto X24 hx (hb hby at_54) (pc' := 58) (by decide) ?_
    exact k_retN X24 hx (t := .boolean) Bd.returns (by simp) (hb hby at_58) hlk (by decide) (by decide) (z' := (1 : Int32)) rfl ⟨rfl, N24'⟩
   ·
    refine k_iloadN X0 hx (hb hby at_31) rfl (pc' := 32) rfl ?_
    refine k_i2b X0 hx (hb hby at_32) (pc' := 33) rfl (fun v26 hv26 => ?_)
    refine k_istoreN X0 hx (hb hby at_33) (Ls' := #[.val (.int i0), .val (.int i1), .val (.int v1), .val (.int v26)]) rfl (pc' := 34) rfl ?_
    refine k_goto X0 hx (hb hby at_34) (pc' := 42) (by decide) ?_
    refine k_iloadN X0 hx (hb hby at_42) rfl (pc' := 43) rfl ?_
    refine k_callS X0 hx hZ hown (hw _ (List.mem_of_getElem? (i := 1) rfl)) (hw _ (List.mem_of_getElem? (i := 2) rfl)) (hw _ (List.mem_of_getElem? (i := 3) rfl)) (hw _ (List.mem_of_getElem? (i := 4) rfl)) (by decide) (rm1_6 l Z a0 hw [] v26 h0 n0 Z0 ) (by decide) (by decide) e0 (by rw [hml]; rfl) (argsL := [(.int v26)]) (rest := []) (lenOf pd_0 rfl) rfl (W := 0) (Nat.le_refl _) rfl (hb hby at_43) (by decide) (by decide) (pc' := 46) rfl (fun T27 L27 r27 X27 q27 => ?_)
    obtain ⟨N27, e27, rfl⟩ := q27
    have N27' := Fr.app N0 N27
    show KEnds p e below s _ _ _ T27 (mkF m 46 #[.val (.int i0), .val (.int i1), .val (.int v1), .val (.int v26)] ((.int (f1_6 v26)) :: []))
    obtain ⟨v28, hv28⟩ : ∃ z, z = f1_6 v26 := ⟨_, rfl⟩
    rw [← hv28]
    refine k_iloadN X27 hx (hb hby at_46) rfl (pc' := 47) rfl ?_
    refine k_callS X27 hx hZ hown (hw _ (List.mem_of_getElem? (i := 5) rfl)) (hw _ (List.mem_of_getElem? (i := 6) rfl)) (hw _ (List.mem_of_getElem? (i := 7) rfl)) (hw _ (List.mem_of_getElem? (i := 8) rfl)) (by decide) (rm2_18 l Z a0 hw [] v26 h0 n0 Z0 ) (by decide) (by decide) e27 (by rw [hml]; rfl) (argsL := [(.int v26)]) (rest := [(.int v28)]) (lenOf pd_0 rfl) rfl (W := 1) (Nat.le_refl _) rfl (hb hby at_47) (by decide) (by decide) (pc' := 50) rfl (fun T29 L29 r29 X29 q29 => ?_)
    obtain ⟨N29, e29, rfl⟩ := q29
    have N29' := Fr.app N27' N29
    show KEnds p e below s _ _ _ T29 (mkF m 50 #[.val (.int i0), .val (.int i1), .val (.int v1), .val (.int v26)] ((.int (f2_18 v26)) :: (.int v28) :: []))
    obtain ⟨v30, hv30⟩ : ∃ z, z = f2_18 v26 := ⟨_, rfl⟩
    rw [← hv30]
    refine k_icmp_ne X29 hx (hb hby at_50) (pn := 53) rfl (py := 57) (by decide) (fun hc => absurd (by rw [hv28, hv30]; exact own_eq _) hc) (fun _ => ?_)
    refine k_iconst X29 hx (hb hby at_53) (pc' := 54) rfl (z := (1 : Int32)) rfl ?_
    refine k_goto X29 hx (hb hby at_54) (pc' := 58) (by decide) ?_
    exact k_retN X29 hx (t := .boolean) Bd.returns (by simp) (hb hby at_58) hlk (by decide) (by decide) (z' := (1 : Int32)) rfl ⟨rfl, N29'⟩
  ·
   refine k_iloadN X0 hx (hb hby at_18) rfl (pc' := 19) rfl ?_
   refine k_bipush X0 hx (hb hby at_19) (pc' := 21) rfl (z := (127 : Int32)) rfl ?_
   refine k_iand X0 hx (hb hby at_21) (pc' := 22) rfl (fun v31 hv31 => ?_)
   refine k_istoreN X0 hx (hb hby at_22) (Ls' := #[.val (.int i0), .val (.int i1), .val (.int v1), .val (.int v31)]) rfl (pc' := 23) rfl ?_
   refine k_goto X0 hx (hb hby at_23) (pc' := 42) (by decide) ?_
   refine k_iloadN X0 hx (hb hby at_42) rfl (pc' := 43) rfl ?_
   refine k_callS X0 hx hZ hown (hw _ (List.mem_of_getElem? (i := 1) rfl)) (hw _ (List.mem_of_getElem? (i := 2) rfl)) (hw _ (List.mem_of_getElem? (i := 3) rfl)) (hw _ (List.mem_of_getElem? (i := 4) rfl)) (by decide) (rm1_6 l Z a0 hw [] v31 h0 n0 Z0 ) (by decide) (by decide) e0 (by rw [hml]; rfl) (argsL := [(.int v31)]) (rest := []) (lenOf pd_0 rfl) rfl (W := 0) (Nat.le_refl _) rfl (hb hby at_43) (by decide) (by decide) (pc' := 46) rfl (fun T32 L32 r32 X32 q32 => ?_)
   obtain ⟨N32, e32, rfl⟩ := q32
   have N32' := Fr.app N0 N32
   show KEnds p e below s _ _ _ T32 (mkF m 46 #[.val (.int i0), .val (.int i1), .val (.int v1), .val (.int v31)] ((.int (f1_6 v31)) :: []))
   obtain ⟨v33, hv33⟩ : ∃ z, z = f1_6 v31 := ⟨_, rfl⟩
   rw [← hv33]
   refine k_iloadN X32 hx (hb hby at_46) rfl (pc' := 47) rfl ?_
   refine k_callS X32 hx hZ hown (hw _ (List.mem_of_getElem? (i := 5) rfl)) (hw _ (List.mem_of_getElem? (i := 6) rfl)) (hw _ (List.mem_of_getElem? (i := 7) rfl)) (hw _ (List.mem_of_getElem? (i := 8) rfl)) (by decide) (rm2_18 l Z a0 hw [] v31 h0 n0 Z0 ) (by decide) (by decide) e32 (by rw [hml]; rfl) (argsL := [(.int v31)]) (rest := [(.int v33)]) (lenOf pd_0 rfl) rfl (W := 1) (Nat.le_refl _) rfl (hb hby at_47) (by decide) (by decide) (pc' := 50) rfl (fun T34 L34 r34 X34 q34 => ?_)
   obtain ⟨N34, e34, rfl⟩ := q34
   have N34' := Fr.app N32' N34
   show KEnds p e below s _ _ _ T34 (mkF m 50 #[.val (.int i0), .val (.int i1), .val (.int v1), .val (.int v31)] ((.int (f2_18 v31)) :: (.int v33) :: []))
   obtain ⟨v35, hv35⟩ : ∃ z, z = f2_18 v31 := ⟨_, rfl⟩
   rw [← hv35]
   refine k_icmp_ne X34 hx (hb hby at_50) (pn := 53) rfl (py := 57) (by decide) (fun hc => absurd (by rw [hv33, hv35]; exact own_eq _) hc) (fun _ => ?_)
   refine k_iconst X34 hx (hb hby at_53) (pc' := 54) rfl (z := (1 : Int32)) rfl ?_
   refine k_goto X34 hx (hb hby at_54) (pc' := 58) (by decide) ?_
   exact k_retN X34 hx (t := .boolean) Bd.returns (by simp) (hb hby at_58) hlk (by decide) (by decide) (z' := (1 : Int32)) rfl ⟨rfl, N34'⟩
 ·
  refine k_iloadN X0 hx (hb hby at_8) rfl (pc' := 9) rfl ?_
  refine k_istoreN X0 hx (hb hby at_9) (Ls' := #[.val (.int i0), .val (.int i1), .val (.int v1), .val (.int i0)]) rfl (pc' := 10) rfl ?_
  refine k_goto X0 hx (hb hby at_10) (pc' := 42) (by decide) ?_
  refine k_iloadN X0 hx (hb hby at_42) rfl (pc' := 43) rfl ?_
  refine k_callS X0 hx hZ hown (hw _ (List.mem_of_getElem? (i := 1) rfl)) (hw _ (List.mem_of_getElem? (i := 2) rfl)) (hw _ (List.mem_of_getElem? (i := 3) rfl)) (hw _ (List.mem_of_getElem? (i := 4) rfl)) (by decide) (rm1_6 l Z a0 hw [] i0 h0 n0 Z0 ) (by decide) (by decide) e0 (by rw [hml]; rfl) (argsL := [(.int i0)]) (rest := []) (lenOf pd_0 rfl) rfl (W := 0) (Nat.le_refl _) rfl (hb hby at_43) (by decide) (by decide) (pc' := 46) rfl (fun T36 L36 r36 X36 q36 => ?_)
  obtain ⟨N36, e36, rfl⟩ := q36
  have N36' := Fr.app N0 N36
  show KEnds p e below s _ _ _ T36 (mkF m 46 #[.val (.int i0), .val (.int i1), .val (.int v1), .val (.int i0)] ((.int (f1_6 i0)) :: []))
  obtain ⟨v37, hv37⟩ : ∃ z, z = f1_6 i0 := ⟨_, rfl⟩
  rw [← hv37]
  refine k_iloadN X36 hx (hb hby at_46) rfl (pc' := 47) rfl ?_
  refine k_callS X36 hx hZ hown (hw _ (List.mem_of_getElem? (i := 5) rfl)) (hw _ (List.mem_of_getElem? (i := 6) rfl)) (hw _ (List.mem_of_getElem? (i := 7) rfl)) (hw _ (List.mem_of_getElem? (i := 8) rfl)) (by decide) (rm2_18 l Z a0 hw [] i0 h0 n0 Z0 ) (by decide) (by decide) e36 (by rw [hml]; rfl) (argsL := [(.int i0)]) (rest := [(.int v37)]) (lenOf pd_0 rfl) rfl (W := 1) (Nat.le_refl _) rfl (hb hby at_47) (by decide) (by decide) (pc' := 50) rfl (fun T38 L38 r38 X38 q38 => ?_)
  obtain ⟨N38, e38, rfl⟩ := q38
  have N38' := Fr.app N36' N38
  show KEnds p e below s _ _ _ T38 (mkF m 50 #[.val (.int i0), .val (.int i1), .val (.int v1), .val (.int i0)] ((.int (f2_18 i0)) :: (.int v37) :: []))
  obtain ⟨v39, hv39⟩ : ∃ z, z = f2_18 i0 := ⟨_, rfl⟩
  rw [← hv39]
  refine k_icmp_ne X38 hx (hb hby at_50) (pn := 53) rfl (py := 57) (by decide) (fun hc => absurd (by rw [hv37, hv39]; exact own_eq _) hc) (fun _ => ?_)
  refine k_iconst X38 hx (hb hby at_53) (pc' := 54) rfl (z := (1 : Int32)) rfl ?_
  refine k_goto X38 hx (hb hby at_54) (pc' := 58) (by decide) ?_
  exact k_retN X38 hx (t := .boolean) Bd.returns (by simp) (hb hby at_58) hlk (by decide) (by decide) (z' := (1 : Int32)) rfl ⟨rfl, N38'⟩
set_option maxRecDepth 65536 in
set_option maxHeartbeats 40000000 in
theorem comes_1 {Post : Tables → Env → Array Value → State → Outcome → State → Prop} (hpost : ∀ tb e args s v u, (limb_1_1.after args s (.returned v) u = true ∧ limb_1_2.after args s (.returned v) u = true ∧ True) → FrameEnd s (.returned v) u (Jvm.fieldLocs frame_1_writes args s ++ Jvm.arrayLocs frame_1_arrays args s ++ Jvm.staticLocs frame_1_statics s) 0 0 → Post tb e args s (.returned v) u) :
    ArmFor flags0 classFile x code maxLocals ret World_1 tables_1 room_1 Calls_1 rest_1 Pre_1 Post := by
  intro l hfl _ _ p e ha hc hk s m args below hf hA hF happ hP
  obtain ⟨hcalls, hrest, hpre⟩ := hP
  obtain ⟨-, -, -, hnamed, -, -, -, hat⟩ := (Spec.applies_iff hf).mp happ
  obtain ⟨hg, hn⟩ := and_e (Cond.before_iff.mp (show (Jvm.Cond.and given_1 narrow_1).before args s = true from hpre))
  obtain ⟨g40, g41⟩ := and_e hg
  obtain ⟨g42, g43⟩ := and_e g41
  obtain ⟨w0, w1, rfl⟩ : ∃ w0 w1 : Value, args = #[w0, w1] := by
    have hs : args.size = 2 := by simpa [Cond.value, given_1] using g40
    obtain ⟨L⟩ := args
    match L, hs with
    | [w0, w1], _ => exact ⟨w0, w1, rfl⟩
  have hw := fun d (hd : d ∈ tables_1) => atoms_spec (ws := Jvm.Cond.code x code maxLocals ret :: tables_1) hat d (List.mem_cons_of_mem _ hd)
  obtain ⟨i0, ei0⟩ := is_v g42
  obtain rfl : w0 = (.int i0) := Option.some.inj ei0
  obtain ⟨i1, ei1⟩ := is_v g43
  obtain rfl : w1 = (.int i1) := Option.some.inj ei1
  obtain ⟨n, o, h1, h2, h3, _, L, rfl, ⟨rfl, N⟩, hq⟩ := rm0 l s _ hw tables_1 i0 i1 s.heap s.heap.size (Nat.le_refl _) p e ha hc hk s m _ below hf ((Spec.applies_iff_loose hf).mp happ).1 ⟨rfl, State.Warmed39.refl s, rfl⟩ trivial
  refine ⟨n, _, h1, h2, h3, hpost _ _ _ _ _ _ ⟨Cond.after_iff.mpr rfl, Cond.after_iff.mpr (eq_i res_at (Term.int_eval (1)) rfl), trivial⟩ ⟨hq.1, hq.2.1, (hq.2.2.sift fun y hy => Or.inr (N y hy)).mono (by decide) (by decide)⟩⟩
theorem main_1_1 : Claimed_1_1 := comes_1 fun _ _ _ _ _ _ h hF => ⟨h.1, hF⟩
theorem main_1_2 : Claimed_1_2 := comes_1 fun _ _ _ _ _ _ h hF => ⟨h.2.1, hF⟩
end Jvm.Pilot.@@N@@
namespace Jvm.Pilot.@@N@@
open Jvm Jvm.ClassFile Sem Op Lib Jvm.Free Jvm.Stand Jvm.Pilot.@@N@@.Jvm.D
/-! MADE BY PROGRAM (witnessworld.py) out of the Statement's table words and the real class files: 9 classes; the members and pool entries that the words name. The judged class is class 1, her method 2. -/
namespace start1
open Jvm.ClassFile
def u (s : String) : CpInfo := .utf8 (stringToUtf16 s)
/-- a pool by its gaps: so many unusable entries, then the entry; so many at the end -/
def gap : Nat → List CpInfo → List CpInfo
  | 0, r => r
  | n + 1, r => .unusable :: gap n r
def poolList (es : List (Nat × CpInfo)) (last : Nat) : List CpInfo := es.foldr (fun e r => gap e.1 (e.2 :: r)) (gap last [])
def pool (es : List (Nat × CpInfo)) (last : Nat) : Array CpInfo := ⟨poolList es last⟩
def fileOf (pool : Array CpInfo) (this : Nat) (attrs : Array Attribute := #[]) (ms : Array MethodInfo := #[]) (fl : Nat := 33) (sup : Nat := 0) (ifs : Array Nat := #[]) (fds : Array FieldInfo := #[]) : ClassFile where
  minorVersion := 0
  majorVersion := 65
  constantPool := pool
  accessFlags := fl
  thisClass := this
  superClass := sup
  interfaces := ifs
  fields := fds
  methods := ms
  attributes := attrs
def plain (name : String) (sup : Option ClassId) : Class where
  name := name
  kind := .ordinary
  loader := none
  accessFlags := 33
  super := sup
  interfaces := #[]
  cf := none
  fields := #[]
  methods := #[]
  instanceTypes := #[]
  staticTypes := #[]
  resolved := #[]
  callSites := []
  init := .initialized
  statics := none
  mirror := none

def pool0 : Array CpInfo := pool [(5, u "<init>"), (0, u "()V"), (1, .class_ 10), (1, u "java/lang/Object")] 113

def k0m0 : Method := { name := "<init>", desc := "()V", sig := { parameters := [], returnType := none }, accessFlags := 1, code := none }
/-- java/lang/Object -/
def k0 : Class := { plain "java/lang/Object" none with
  accessFlags := 33
  interfaces := #[]
  cf := some (fileOf pool0 8 #[] #[{ accessFlags := 1, nameIndex := 5, descriptorIndex := 6, attributes := #[] }] 33 0 #[] #[])
  fields := #[]
  methods := #[k0m0]
  instanceTypes := #[]
  staticTypes := #[]
  resolved := Array.replicate 124 none
  statics := none }

def pool1 : Array CpInfo := pool [(2, .class_ 4), (1, u "java/lang/Object"), (0, u "<init>"), (0, u "()V"), (0, .class_ 8), (0, u "com/example/knotcut/knotcut/core/InputFieldsIsAsciiNameCharacterPinLaw"), (0, .long 288054454291267584), (1, .long 576460745995190270), (1, .integer 65535), (0, .methodref 15 16), (0, .class_ 17), (0, .nameAndType 18 19), (0, u "com/example/knotcut/knotcut/core/InputFields"), (0, u "isAsciiNameCharacter"), (0, u "(I)Z"), (0, .methodref 7 21), (0, .nameAndType 22 19), (0, u "expected"), (0, u "LOW"), (0, u "J"), (1, u "HIGH"), (3, u "law"), (0, u "(II)Z")] 2

def k1m0 : Method := { name := "<init>", desc := "()V", sig := { parameters := [], returnType := none }, accessFlags := 2, code := none }
def k1c1 : Code := { maxStack := 4, maxLocals := 1, code := method_2_code, exceptionTable := #[], attributes := #[] }
def k1m1 : Method := { name := "expected", desc := "(I)Z", sig := { parameters := [.int], returnType := some .boolean }, accessFlags := 10, code := some k1c1 }
def k1c2 : Code := { maxStack := 2, maxLocals := 4, code := code, exceptionTable := #[], attributes := #[] }
def k1m2 : Method := { name := "law", desc := "(II)Z", sig := { parameters := [.int, .int], returnType := some .boolean }, accessFlags := 9, code := some k1c2 }
/-- com/example/knotcut/knotcut/core/InputFieldsIsAsciiNameCharacterPinLaw -/
def k1 : Class := { plain "com/example/knotcut/knotcut/core/InputFieldsIsAsciiNameCharacterPinLaw" (some 0) with
  accessFlags := 49
  interfaces := #[]
  cf := some (fileOf pool1 7 #[] #[{ accessFlags := 2, nameIndex := 5, descriptorIndex := 6, attributes := #[] }, { accessFlags := 10, nameIndex := 22, descriptorIndex := 19, attributes := #[] }, { accessFlags := 9, nameIndex := 30, descriptorIndex := 31, attributes := #[] }] 49 2 #[] #[{ accessFlags := 26, nameIndex := 23, descriptorIndex := 24, attributes := #[] }, { accessFlags := 26, nameIndex := 26, descriptorIndex := 24, attributes := #[] }])
  fields := #[{ name := "LOW", type := .long, accessFlags := 26, slot := 0, constantValue := 0 }, { name := "HIGH", type := .long, accessFlags := 26, slot := 1, constantValue := 0 }]
  methods := #[k1m0, k1m1, k1m2]
  instanceTypes := #[]
  staticTypes := #[.long, .long]
  resolved := Array.replicate 34 none
  statics := none }

def pool2 : Array CpInfo := pool [(2, .class_ 4), (1, u "java/lang/Object"), (0, u "<init>"), (0, u "()V"), (19, u "(I)Z"), (24, .class_ 53), (1, u "com/example/knotcut/knotcut/core/InputFields"), (11, u "isAsciiNameCharacter")] 19

def k2m0 : Method := { name := "<init>", desc := "()V", sig := { parameters := [], returnType := none }, accessFlags := 2, code := none }
def k2c1 : Code := { maxStack := 2, maxLocals := 1, code := prog_44_method_3_code, exceptionTable := #[], attributes := #[] }
def k2m1 : Method := { name := "isAsciiNameCharacter", desc := "(I)Z", sig := { parameters := [.int], returnType := some .boolean }, accessFlags := 8, code := some k2c1 }
/-- com/example/knotcut/knotcut/core/InputFields -/
def k2 : Class := { plain "com/example/knotcut/knotcut/core/InputFields" (some 0) with
  accessFlags := 49
  interfaces := #[]
  cf := some (fileOf pool2 51 #[] #[{ accessFlags := 2, nameIndex := 5, descriptorIndex := 6, attributes := #[] }, { accessFlags := 8, nameIndex := 65, descriptorIndex := 26, attributes := #[] }] 49 2 #[] #[])
  fields := #[]
  methods := #[k2m0, k2m1]
  instanceTypes := #[]
  staticTypes := #[]
  resolved := Array.replicate 85 none
  statics := none }

def pool3 : Array CpInfo := pool [(1, u "java/lang/Cloneable"), (0, .class_ 1), (0, u "java/lang/Object"), (0, .class_ 3)] 3

/-- java/lang/Cloneable -/
def k3 : Class := { plain "java/lang/Cloneable" (some 0) with
  accessFlags := 1537
  interfaces := #[]
  cf := some (fileOf pool3 2 #[] #[] 1537 4 #[] #[])
  fields := #[]
  methods := #[]
  instanceTypes := #[]
  staticTypes := #[]
  resolved := Array.replicate 8 none
  statics := none }

def pool4 : Array CpInfo := pool [(1, u "java/io/Serializable"), (0, .class_ 1), (0, u "java/lang/Object"), (0, .class_ 3)] 3

/-- java/io/Serializable -/
def k4 : Class := { plain "java/io/Serializable" (some 0) with
  accessFlags := 1537
  interfaces := #[]
  cf := some (fileOf pool4 2 #[] #[] 1537 4 #[] #[])
  fields := #[]
  methods := #[]
  instanceTypes := #[]
  staticTypes := #[]
  resolved := Array.replicate 8 none
  statics := none }

/-- the primitive byte -/
def k5 : Class := { plain "byte" none with kind := .primitive 'B', accessFlags := 0x411 }
/-- [B -/
def k6 : Class := { plain "[B" (some 0) with kind := .array 5 .byte, interfaces := #[3, 4], accessFlags := 1041 }

/-- the primitive int -/
def k7 : Class := { plain "int" none with kind := .primitive 'I', accessFlags := 0x411 }
/-- [I -/
def k8 : Class := { plain "[I" (some 0) with kind := .array 7 .int, interfaces := #[3, 4], accessFlags := 1041 }

def heap : Heap := #[]
def classes : Array Class := #[k0, k1, k2, k3, k4, k5, k6, k7, k8]
def interned : List (Array UInt16 × Addr) := []
def slotsUsed : Nat := 0
def theMethod : MethodId := ⟨1, 2⟩
def args0 : Array Value := #[.int 5, .int 7]
def aboutOver (below : List Frame) : State where
  vm := { classes := classes, interned := interned.toArray }
  heap := heap
  slotsUsed := slotsUsed
  threads := #[{ frames := .invoking theMethod args0 :: below }]
def below0 : List Frame := [.native { method := ⟨0, 0⟩, args := #[] }]
def about1 : State := aboutOver below0
def p0 : Program := .bare "" "" ""
def e0 : Env := launch0.env 0 0 0
theorem w_frames : about1.frames = Frame.invoking theMethod args0 :: below0 := rfl
set_option maxRecDepth 65536 in
theorem w_args : argsFit about1.vm theMethod args0 = true := by decide +kernel
set_option maxRecDepth 65536 in
theorem w_heap : heapFits about1 = true := by decide +kernel
set_option maxRecDepth 65536 in
theorem w_runnable : about1.curStatus? = some .runnable := by decide +kernel
set_option maxRecDepth 65536 in
theorem w_alone : about1.alone = true := by decide +kernel
set_option maxRecDepth 65536 in
theorem w_named : about1.methodNamed? x = some theMethod := by decide +kernel
set_option maxRecDepth 65536 in
theorem w_hears : about1.hears theMethod below0 = true := by decide +kernel
set_option maxRecDepth 65536 in
theorem w_ripe : about1.ripe theMethod args0 below0 = true := by decide +kernel
theorem w_running : about1.status = .running := rfl
set_option maxRecDepth 65536 in
theorem w_room : about1.hasRoom e0.platform room_1 = true :=
  launch0.hasRoom_least _ room_1 (by decide +kernel) (by decide +kernel) (by decide +kernel) (by decide +kernel) (by decide +kernel) (by decide +kernel)
theorem allAtoms_all (ts : List Jvm.Cond) (a : Array Jvm.Value) (st : Jvm.State) : (allAtoms ts).before a st = ts.all (fun c => c.before a st) := by
  induction ts with
  | nil => rfl
  | cons c t ih =>
    show (Jvm.Cond.and c (allAtoms t)).before a st = _
    rw [Jvm.Cond.before_and, ih, List.all_cons]
def words1 : List Jvm.Cond := Jvm.Cond.code x code maxLocals ret :: tables_1
/-- a 'code' word, met by the world's own term for the bytes: nothing is compared byte by byte -/
theorem code_word {y : MethodName} {bytes : ByteArray} {mx : Nat} {rt : Option FieldType} {a : Array Value} {s : State} {m : MethodId} {meth : Method} {c : Code} (h1 : s.methodNamed? y = some m) (h2 : s.vm.method? m = some meth) (h3 : meth.code = some c) (h4 : c.code = bytes)
    (h5 : (c.maxLocals == mx && c.exceptionTable.isEmpty && decide (c.maxStack ≤ mostOperands) && decide (meth.sig.returnType = rt) && !meth.locks && decide (parseMethodDescriptor y.desc = some meth.sig)) = true) : (Jvm.Cond.code y bytes mx rt).before a s = true := by
  simp only [Bool.and_eq_true, beq_iff_eq, Bool.not_eq_true', decide_eq_true_eq] at h5
  obtain ⟨⟨⟨⟨⟨g1, g2⟩, g3⟩, g4⟩, g5⟩, g6⟩ := h5
  simp [Cond.before, Cond.holds, Cond.value, h1, h2, h3, h4, g1, g2, g3, g4, g5, g6]
def isCode : Jvm.Cond → Bool
  | .code _ _ _ _ => true
  | _ => false
theorem all_split {L : List Jvm.Cond} {P : Jvm.Cond → Bool} (h1 : L.all (fun c => isCode c || P c) = true) (h2 : ∀ c ∈ L.filter isCode, P c = true) : L.all P = true := by
  refine List.all_eq_true.mpr fun c hc => ?_
  have h := List.all_eq_true.mp h1 c hc
  rcases Bool.eq_false_or_eq_true (isCode c) with hi | hi
  · exact h2 c (List.mem_filter.mpr ⟨hc, hi⟩)
  · simpa [hi] using h
set_option maxRecDepth 65536 in
theorem w_c0 : (Jvm.Cond.code x code maxLocals ret).before args0 about1 = true := code_word (m := ⟨1, 2⟩) (meth := k1m2) (c := k1c2) (by decide +kernel) rfl rfl rfl (by decide +kernel)
set_option maxRecDepth 65536 in
theorem w_c1 : (Jvm.Cond.code ({ cls := "com/example/knotcut/knotcut/core/InputFields", name := "isAsciiNameCharacter", desc := "(I)Z" } : Jvm.MethodName) prog_44_method_3_code (1 : Nat) (Option.some Jvm.ClassFile.FieldType.boolean)).before args0 about1 = true := code_word (m := ⟨2, 1⟩) (meth := k2m1) (c := k2c1) (by decide +kernel) rfl rfl rfl (by decide +kernel)
set_option maxRecDepth 65536 in
theorem w_c2 : (Jvm.Cond.code ({ cls := "com/example/knotcut/knotcut/core/InputFieldsIsAsciiNameCharacterPinLaw", name := "expected", desc := "(I)Z" } : Jvm.MethodName) method_2_code (1 : Nat) (Option.some Jvm.ClassFile.FieldType.boolean)).before args0 about1 = true := code_word (m := ⟨1, 1⟩) (meth := k1m1) (c := k1c1) (by decide +kernel) rfl rfl rfl (by decide +kernel)
def codes1 : List Jvm.Cond := [Jvm.Cond.code x code maxLocals ret, Jvm.Cond.code ({ cls := "com/example/knotcut/knotcut/core/InputFields", name := "isAsciiNameCharacter", desc := "(I)Z" } : Jvm.MethodName) prog_44_method_3_code (1 : Nat) (Option.some Jvm.ClassFile.FieldType.boolean), Jvm.Cond.code ({ cls := "com/example/knotcut/knotcut/core/InputFieldsIsAsciiNameCharacterPinLaw", name := "expected", desc := "(I)Z" } : Jvm.MethodName) method_2_code (1 : Nat) (Option.some Jvm.ClassFile.FieldType.boolean)]
set_option maxRecDepth 65536 in
theorem codes_eq : words1.filter isCode = codes1 := rfl
theorem w_codes : ∀ c ∈ words1.filter isCode, c.before args0 about1 = true := by
  rw [codes_eq]
  intro c hc
  simp only [codes1, List.mem_cons, List.not_mem_nil, or_false] at hc
  rcases hc with rfl | rfl | rfl
  · exact w_c0
  · exact w_c1
  · exact w_c2
set_option maxRecDepth 65536 in
theorem w_t1 : words1.all (fun c => isCode c || c.before args0 about1) = true := by decide +kernel
theorem w_tables : (allAtoms (Jvm.Cond.code x code maxLocals ret :: tables_1)).before args0 about1 = true := by
  rw [allAtoms_all]
  show words1.all (fun c => c.before args0 about1) = true
  refine all_split ?_ w_codes
  rw [w_t1]
set_option maxRecDepth 65536 in
theorem w_case : (Jvm.Cond.and given_1 narrow_1).before args0 about1 = true := by decide +kernel
theorem w_applies : (headSpec (Jvm.Cond.code x code maxLocals ret :: tables_1) room_1).applies x e0.platform about1 = true :=
  (Spec.applies_iff w_frames).mpr ⟨w_running, w_runnable, w_alone, w_named, w_hears, w_ripe, w_room, w_tables⟩
theorem atStart : AtStart classFile x code maxLocals ret World_1 tables_1 room_1 Calls_1 rest_1 Pre_1 launch0 p0 e0 about1 theMethod args0 below0 :=
  ⟨lists_1, trivial, launch0.admits_env _ _ _, launch0.least_env, fairChoices_fair.cas, fairChoices_fair.clock, w_frames, w_args, w_heap, w_applies, trivial, trivial, w_case⟩
end start1
theorem witness_1 : WitnessClaimed_1 := ⟨start1.p0, start1.e0, start1.about1, start1.theMethod, start1.args0, start1.below0, start1.atStart⟩
end Jvm.Pilot.@@N@@
