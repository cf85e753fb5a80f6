import JvmDerived
import JvmDerived.Pilot.@@N@@Statement
import JvmDerived.Pilot.@@N@@Code
set_option linter.unusedVariables false
set_option linter.unusedSimpArgs false
namespace Jvm.OwnK
open Sem ClassFile Op Lib Jvm.Stand Jvm.Free Jvm.LawKit Jvm.RoadKit
section
variable {p : Program} {l : Launch} {e : Env} {R : Room} {s : State} {m : MethodId} {args : Array Value} {below : List Frame} {meth : Method} {c : Code} {T : State} {locs : List Loc} {cells slots : Nat} {Cn Sn : Nat} {Q : Option Value → Heap → List Loc → Prop}
/-- from the frame f the run comes to an end that Q takes -/
def KEnds (p : Program) (e : Env) (below : List Frame) (s : State) (Cn Sn : Nat) (Q : Option Value → Heap → List Loc → Prop) (T : State) (f : JFrame) : Prop :=
  ∃ s₂ o, Steps p.tables e below (T.setTop f) s₂ ∧ s₂.status = .running ∧ Ended s₂ below o ∧ ∃ v L, o = .returned v ∧ Q v s₂.heap L ∧ FrameEnd s o s₂ L Cn Sn
theorem k_via {T' : State} {f f' : JFrame} (st : ∀ t, Steps p.tables e below (T'.setTop f') t → Steps p.tables e below (T.setTop f) t) (k : KEnds p e below s Cn Sn Q T' f') : KEnds p e below s Cn Sn Q T f := by
  obtain ⟨s₂, o, h, r⟩ := k
  exact ⟨s₂, o, st _ h, r⟩
theorem k_i2b2 (x : Int32) : (x.toInt8.toInt32).toInt8.toInt32 = x.toInt8.toInt32 := by rw [Int8.toInt8_toInt32]
theorem k_ushr0 (x : Int64) : ((x.toUInt64 >>> ((0 : Int32) &&& 0x3f).toInt64.toUInt64).toInt64) = x := by
  have : ((0 : Int32) &&& 0x3f).toInt64.toUInt64 = 0 := by decide
  rw [this]; simp
theorem k_iloadN (X : Stand p l e R s m args below meth c T locs cells slots) (hx : p.tables.exec = Jvm.exec) {pc pc' : Nat} {Ls : Array Slot} {St : List Value} {i : Fin 4} {v : Int32} (hd : decode c.code pc = .ok (.iload_n i, 1)) (hl : Ls[i.val]? = some (.val (.int v))) (hpc : pc + 1 = pc') (k : KEnds p e below s Cn Sn Q T (mkF m pc' Ls (.int v :: St))) : KEnds p e below s Cn Sn Q T (mkF m pc Ls (St)) := by
  subst hpc; exact k_via (fun t h => XS.iloadN X.here hx rfl hd hl h) k
theorem k_iload (X : Stand p l e R s m args below meth c T locs cells slots) (hx : p.tables.exec = Jvm.exec) {pc pc' : Nat} {Ls : Array Slot} {St : List Value} {i : Nat} {v : Int32} (hd : decode c.code pc = .ok (.iload i, 2)) (hl : Ls[i]? = some (.val (.int v))) (hpc : pc + 2 = pc') (k : KEnds p e below s Cn Sn Q T (mkF m pc' Ls (.int v :: St))) : KEnds p e below s Cn Sn Q T (mkF m pc Ls (St)) := by
  subst hpc; exact k_via (fun t h => XS.iload X.here hx rfl hd hl h) k
theorem k_istoreN (X : Stand p l e R s m args below meth c T locs cells slots) (hx : p.tables.exec = Jvm.exec) {pc pc' : Nat} {Ls : Array Slot} {St : List Value} {i : Fin 4} {v : Int32} {Ls' : Array Slot} (hd : decode c.code pc = .ok (.istore_n i, 1)) (hl : storeLocals Ls i.val (.int v) = some Ls') (hpc : pc + 1 = pc') (k : KEnds p e below s Cn Sn Q T (mkF m pc' Ls' (St))) : KEnds p e below s Cn Sn Q T (mkF m pc Ls (.int v :: St)) := by
  subst hpc; exact k_via (fun t h => XS.istoreN X.here hx rfl hd rfl hl h) k
theorem k_istore (X : Stand p l e R s m args below meth c T locs cells slots) (hx : p.tables.exec = Jvm.exec) {pc pc' : Nat} {Ls : Array Slot} {St : List Value} {i : Nat} {v : Int32} {Ls' : Array Slot} (hd : decode c.code pc = .ok (.istore i, 2)) (hl : storeLocals Ls i (.int v) = some Ls') (hpc : pc + 2 = pc') (k : KEnds p e below s Cn Sn Q T (mkF m pc' Ls' (St))) : KEnds p e below s Cn Sn Q T (mkF m pc Ls (.int v :: St)) := by
  subst hpc; exact k_via (fun t h => XS.istore X.here hx rfl hd rfl hl h) k
theorem k_lloadN (X : Stand p l e R s m args below meth c T locs cells slots) (hx : p.tables.exec = Jvm.exec) {pc pc' : Nat} {Ls : Array Slot} {St : List Value} {i : Fin 4} {v : Int64} (hd : decode c.code pc = .ok (.lload_n i, 1)) (hl : Ls[i.val]? = some (.val (.long v))) (hpc : pc + 1 = pc') (k : KEnds p e below s Cn Sn Q T (mkF m pc' Ls (.long v :: St))) : KEnds p e below s Cn Sn Q T (mkF m pc Ls (St)) := by
  subst hpc; exact k_via (fun t h => XS.lloadN X.here hx rfl hd hl h) k
theorem k_aloadN (X : Stand p l e R s m args below meth c T locs cells slots) (hx : p.tables.exec = Jvm.exec) {pc pc' : Nat} {Ls : Array Slot} {St : List Value} {i : Fin 4} {v : Value} (hd : decode c.code pc = .ok (.aload_n i, 1)) (hl : Ls[i.val]? = some (.val v)) (hv : v.isRef = true) (hpc : pc + 1 = pc') (k : KEnds p e below s Cn Sn Q T (mkF m pc' Ls (v :: St))) : KEnds p e below s Cn Sn Q T (mkF m pc Ls (St)) := by
  subst hpc; exact k_via (fun t h => XS.aloadN X.here hx rfl hd hl hv h) k
theorem k_aload (X : Stand p l e R s m args below meth c T locs cells slots) (hx : p.tables.exec = Jvm.exec) {pc pc' : Nat} {Ls : Array Slot} {St : List Value} {i : Nat} {v : Value} (hd : decode c.code pc = .ok (.aload i, 2)) (hl : Ls[i]? = some (.val v)) (hv : v.isRef = true) (hpc : pc + 2 = pc') (k : KEnds p e below s Cn Sn Q T (mkF m pc' Ls (v :: St))) : KEnds p e below s Cn Sn Q T (mkF m pc Ls (St)) := by
  subst hpc; exact k_via (fun t h => XS.aload X.here hx rfl hd hl hv h) k
theorem k_astore (X : Stand p l e R s m args below meth c T locs cells slots) (hx : p.tables.exec = Jvm.exec) {pc pc' : Nat} {Ls : Array Slot} {St : List Value} {i : Nat} {v : Value} {Ls' : Array Slot} (hd : decode c.code pc = .ok (.astore i, 2)) (hv : v.isRef = true) (hl : storeLocals Ls i v = some Ls') (hpc : pc + 2 = pc') (k : KEnds p e below s Cn Sn Q T (mkF m pc' Ls' (St))) : KEnds p e below s Cn Sn Q T (mkF m pc Ls (v :: St)) := by
  subst hpc; exact k_via (fun t h => XS.astore X.here hx rfl hd rfl hv hl h) k
theorem k_iconst (X : Stand p l e R s m args below meth c T locs cells slots) (hx : p.tables.exec = Jvm.exec) {pc pc' : Nat} {Ls : Array Slot} {St : List Value} {i : Int} {z : Int32} (hd : decode c.code pc = .ok (.iconst i, 1)) (hpc : pc + 1 = pc') (hz : Int32.ofInt i = z) (k : KEnds p e below s Cn Sn Q T (mkF m pc' Ls (.int z :: St))) : KEnds p e below s Cn Sn Q T (mkF m pc Ls St) := by
  subst hpc hz; exact k_via (fun t h => XS.iconst X.here hx rfl hd h) k
theorem k_bipush (X : Stand p l e R s m args below meth c T locs cells slots) (hx : p.tables.exec = Jvm.exec) {pc pc' : Nat} {Ls : Array Slot} {St : List Value} {i : Int} {z : Int32} (hd : decode c.code pc = .ok (.bipush i, 2)) (hpc : pc + 2 = pc') (hz : (Int8.ofInt i).toInt32 = z) (k : KEnds p e below s Cn Sn Q T (mkF m pc' Ls (.int z :: St))) : KEnds p e below s Cn Sn Q T (mkF m pc Ls St) := by
  subst hpc hz; exact k_via (fun t h => XS.bipush X.here hx rfl hd h) k
theorem k_sipush (X : Stand p l e R s m args below meth c T locs cells slots) (hx : p.tables.exec = Jvm.exec) {pc pc' : Nat} {Ls : Array Slot} {St : List Value} {i : Int} {z : Int32} (hd : decode c.code pc = .ok (.sipush i, 3)) (hpc : pc + 3 = pc') (hz : (Int16.ofInt i).toInt32 = z) (k : KEnds p e below s Cn Sn Q T (mkF m pc' Ls (.int z :: St))) : KEnds p e below s Cn Sn Q T (mkF m pc Ls St) := by
  subst hpc hz; exact k_via (fun t h => XS.sipush X.here hx rfl hd h) k
theorem k_iaddL (X : Stand p l e R s m args below meth c T locs cells slots) (hx : p.tables.exec = Jvm.exec) {pc pc' : Nat} {Ls : Array Slot} {St : List Value} {x y : Int32} {z : Int32} (hd : decode c.code pc = .ok (.iadd, 1))  (hpc : pc + 1 = pc') (hz : x + y = z) (k : KEnds p e below s Cn Sn Q T (mkF m pc' Ls (.int z :: St))) : KEnds p e below s Cn Sn Q T (mkF m pc Ls (.int y :: .int x :: St)) := by
  subst hpc hz; exact k_via (fun t h => XS.iadd X.here hx rfl hd rfl h) k
theorem k_iadd (X : Stand p l e R s m args below meth c T locs cells slots) (hx : p.tables.exec = Jvm.exec) {pc pc' : Nat} {Ls : Array Slot} {St : List Value} {x y : Int32} (hd : decode c.code pc = .ok (.iadd, 1))  (hpc : pc + 1 = pc') (k : ∀ z : Int32, z = x + y → KEnds p e below s Cn Sn Q T (mkF m pc' Ls (.int z :: St))) : KEnds p e below s Cn Sn Q T (mkF m pc Ls (.int y :: .int x :: St)) := by
  subst hpc; exact k_via (fun t h => XS.iadd X.here hx rfl hd rfl h) (k _ rfl)
theorem k_imulL (X : Stand p l e R s m args below meth c T locs cells slots) (hx : p.tables.exec = Jvm.exec) {pc pc' : Nat} {Ls : Array Slot} {St : List Value} {x y : Int32} {z : Int32} (hd : decode c.code pc = .ok (.imul, 1))  (hpc : pc + 1 = pc') (hz : x * y = z) (k : KEnds p e below s Cn Sn Q T (mkF m pc' Ls (.int z :: St))) : KEnds p e below s Cn Sn Q T (mkF m pc Ls (.int y :: .int x :: St)) := by
  subst hpc hz; exact k_via (fun t h => XS.imul X.here hx rfl hd rfl h) k
theorem k_iand (X : Stand p l e R s m args below meth c T locs cells slots) (hx : p.tables.exec = Jvm.exec) {pc pc' : Nat} {Ls : Array Slot} {St : List Value} {x y : Int32} (hd : decode c.code pc = .ok (.iand, 1))  (hpc : pc + 1 = pc') (k : ∀ z : Int32, z = x &&& y → KEnds p e below s Cn Sn Q T (mkF m pc' Ls (.int z :: St))) : KEnds p e below s Cn Sn Q T (mkF m pc Ls (.int y :: .int x :: St)) := by
  subst hpc; exact k_via (fun t h => XS.iand X.here hx rfl hd rfl h) (k _ rfl)
theorem k_ior (X : Stand p l e R s m args below meth c T locs cells slots) (hx : p.tables.exec = Jvm.exec) {pc pc' : Nat} {Ls : Array Slot} {St : List Value} {x y : Int32} (hd : decode c.code pc = .ok (.ior, 1))  (hpc : pc + 1 = pc') (k : ∀ z : Int32, z = x ||| y → KEnds p e below s Cn Sn Q T (mkF m pc' Ls (.int z :: St))) : KEnds p e below s Cn Sn Q T (mkF m pc Ls (.int y :: .int x :: St)) := by
  subst hpc; exact k_via (fun t h => XS.ior X.here hx rfl hd rfl h) (k _ rfl)
theorem k_landL (X : Stand p l e R s m args below meth c T locs cells slots) (hx : p.tables.exec = Jvm.exec) {pc pc' : Nat} {Ls : Array Slot} {St : List Value} {x y : Int64} {z : Int64} (hd : decode c.code pc = .ok (.land, 1))  (hpc : pc + 1 = pc') (hz : x &&& y = z) (k : KEnds p e below s Cn Sn Q T (mkF m pc' Ls (.long z :: St))) : KEnds p e below s Cn Sn Q T (mkF m pc Ls (.long y :: .long x :: St)) := by
  subst hpc hz; exact k_via (fun t h => XS.land X.here hx rfl hd rfl h) k
theorem k_ishl (X : Stand p l e R s m args below meth c T locs cells slots) (hx : p.tables.exec = Jvm.exec) {pc pc' : Nat} {Ls : Array Slot} {St : List Value} {x y : Int32} (hd : decode c.code pc = .ok (.ishl, 1))  (hpc : pc + 1 = pc') (k : ∀ z : Int32, z = x <<< (y &&& 31) → KEnds p e below s Cn Sn Q T (mkF m pc' Ls (.int z :: St))) : KEnds p e below s Cn Sn Q T (mkF m pc Ls (.int y :: .int x :: St)) := by
  subst hpc; exact k_via (fun t h => XS.ishl X.here hx rfl hd rfl h) (k _ rfl)
theorem k_ishrL (X : Stand p l e R s m args below meth c T locs cells slots) (hx : p.tables.exec = Jvm.exec) {pc pc' : Nat} {Ls : Array Slot} {St : List Value} {x y : Int32} {z : Int32} (hd : decode c.code pc = .ok (.ishr, 1))  (hpc : pc + 1 = pc') (hz : x >>> (y &&& 31) = z) (k : KEnds p e below s Cn Sn Q T (mkF m pc' Ls (.int z :: St))) : KEnds p e below s Cn Sn Q T (mkF m pc Ls (.int y :: .int x :: St)) := by
  subst hpc hz; exact k_via (fun t h => XS.ishr X.here hx rfl hd rfl h) k
theorem k_ishr (X : Stand p l e R s m args below meth c T locs cells slots) (hx : p.tables.exec = Jvm.exec) {pc pc' : Nat} {Ls : Array Slot} {St : List Value} {x y : Int32} (hd : decode c.code pc = .ok (.ishr, 1))  (hpc : pc + 1 = pc') (k : ∀ z : Int32, z = x >>> (y &&& 31) → KEnds p e below s Cn Sn Q T (mkF m pc' Ls (.int z :: St))) : KEnds p e below s Cn Sn Q T (mkF m pc Ls (.int y :: .int x :: St)) := by
  subst hpc; exact k_via (fun t h => XS.ishr X.here hx rfl hd rfl h) (k _ rfl)
theorem k_lushrL (X : Stand p l e R s m args below meth c T locs cells slots) (hx : p.tables.exec = Jvm.exec) {pc pc' : Nat} {Ls : Array Slot} {St : List Value} {x : Int64} {y : Int32} {z : Int64} (hd : decode c.code pc = .ok (.lushr, 1))  (hpc : pc + 1 = pc') (hz : ((x.toUInt64 >>> (y &&& 0x3f).toInt64.toUInt64).toInt64) = z) (k : KEnds p e below s Cn Sn Q T (mkF m pc' Ls (.long z :: St))) : KEnds p e below s Cn Sn Q T (mkF m pc Ls (.int y :: .long x :: St)) := by
  subst hpc hz; exact k_via (fun t h => XS.lushr X.here hx rfl hd rfl h) k
theorem k_irem (X : Stand p l e R s m args below meth c T locs cells slots) (hx : p.tables.exec = Jvm.exec) {pc pc' : Nat} {Ls : Array Slot} {St : List Value} {x y : Int32} (hd : decode c.code pc = .ok (.irem, 1)) (hy : y ≠ 0) (hpc : pc + 1 = pc') (k : ∀ z : Int32, z = x % y → KEnds p e below s Cn Sn Q T (mkF m pc' Ls (.int z :: St))) : KEnds p e below s Cn Sn Q T (mkF m pc Ls (.int y :: .int x :: St)) := by
  subst hpc; exact k_via (fun t h => iremM X hx rfl hd rfl hy h) (k _ rfl)
theorem k_l2iL (X : Stand p l e R s m args below meth c T locs cells slots) (hx : p.tables.exec = Jvm.exec) {pc pc' : Nat} {Ls : Array Slot} {St : List Value} {x : Int64} {z : Int32} (hd : decode c.code pc = .ok (.l2i, 1))  (hpc : pc + 1 = pc') (hz : x.toInt32 = z) (k : KEnds p e below s Cn Sn Q T (mkF m pc' Ls (.int z :: St))) : KEnds p e below s Cn Sn Q T (mkF m pc Ls (.long x :: St)) := by
  subst hpc hz; exact k_via (fun t h => XS.l2i X.here hx rfl hd rfl h) k
theorem k_i2bL (X : Stand p l e R s m args below meth c T locs cells slots) (hx : p.tables.exec = Jvm.exec) {pc pc' : Nat} {Ls : Array Slot} {St : List Value} {x : Int32} {z : Int32} (hd : decode c.code pc = .ok (.i2b, 1))  (hpc : pc + 1 = pc') (hz : x.toInt8.toInt32 = z) (k : KEnds p e below s Cn Sn Q T (mkF m pc' Ls (.int z :: St))) : KEnds p e below s Cn Sn Q T (mkF m pc Ls (.int x :: St)) := by
  subst hpc hz; exact k_via (fun t h => XS.i2b X.here hx rfl hd rfl h) k
theorem k_i2b (X : Stand p l e R s m args below meth c T locs cells slots) (hx : p.tables.exec = Jvm.exec) {pc pc' : Nat} {Ls : Array Slot} {St : List Value} {x : Int32} (hd : decode c.code pc = .ok (.i2b, 1))  (hpc : pc + 1 = pc') (k : ∀ z : Int32, z = x.toInt8.toInt32 → KEnds p e below s Cn Sn Q T (mkF m pc' Ls (.int z :: St))) : KEnds p e below s Cn Sn Q T (mkF m pc Ls (.int x :: St)) := by
  subst hpc; exact k_via (fun t h => XS.i2b X.here hx rfl hd rfl h) (k _ rfl)
theorem k_iinc (X : Stand p l e R s m args below meth c T locs cells slots) (hx : p.tables.exec = Jvm.exec) {pc pc' : Nat} {Ls : Array Slot} {St : List Value} {i : Nat} {cst : Int} {x z : Int32} {Ls' : Array Slot} (hd : decode c.code pc = .ok (.iinc i cst, 3)) (hl : Ls[i]? = some (.val (.int x))) (hpc : pc + 3 = pc') (hz : x + Int32.ofInt cst = z) (hl' : storeLocals Ls i (.int z) = some Ls') (k : KEnds p e below s Cn Sn Q T (mkF m pc' Ls' St)) : KEnds p e below s Cn Sn Q T (mkF m pc Ls St) := by
  subst hpc hz; exact k_via (fun t h => XS.iinc X.here hx rfl hd hl hl' h) k
theorem k_goto (X : Stand p l e R s m args below meth c T locs cells slots) (hx : p.tables.exec = Jvm.exec) {pc pc' : Nat} {Ls : Array Slot} {St : List Value} {o : Int} (hd : decode c.code pc = .ok (.goto o, 3)) (hp : (pc : Int) + o = (pc' : Int)) (k : KEnds p e below s Cn Sn Q T (mkF m pc' Ls St)) : KEnds p e below s Cn Sn Q T (mkF m pc Ls St) :=
  k_via (fun t h => XS.goto X.here hx rfl (pc0 := pc) rfl hd (by omega) (by omega) h) k
theorem k_icmp_lt (X : Stand p l e R s m args below meth c T locs cells slots) (hx : p.tables.exec = Jvm.exec) {pc pn py : Nat} {Ls : Array Slot} {St : List Value} {x y : Int32} {o : Int} (hd : decode c.code pc = .ok (.if_icmp .lt o, 3)) (hn : pc + 3 = pn) (hp : (pc : Int) + o = (py : Int)) (ky : x < y → KEnds p e below s Cn Sn Q T (mkF m py Ls St)) (kn : ¬ x < y → KEnds p e below s Cn Sn Q T (mkF m pn Ls St)) : KEnds p e below s Cn Sn Q T (mkF m pc Ls (.int y :: .int x :: St)) := by
  subst hn
  by_cases hc : x < y
  · exact k_via (fun t h => XS.icmpYes X.here hx rfl (pc0 := pc) rfl hd rfl (tlt hc).1 (by omega) (by omega) h) (ky hc)
  · exact k_via (fun t h => XS.icmpNo X.here hx rfl hd rfl (flt hc).1 h) (kn hc)
theorem k_icmp_ge (X : Stand p l e R s m args below meth c T locs cells slots) (hx : p.tables.exec = Jvm.exec) {pc pn py : Nat} {Ls : Array Slot} {St : List Value} {x y : Int32} {o : Int} (hd : decode c.code pc = .ok (.if_icmp .ge o, 3)) (hn : pc + 3 = pn) (hp : (pc : Int) + o = (py : Int)) (ky : ¬ x < y → KEnds p e below s Cn Sn Q T (mkF m py Ls St)) (kn : x < y → KEnds p e below s Cn Sn Q T (mkF m pn Ls St)) : KEnds p e below s Cn Sn Q T (mkF m pc Ls (.int y :: .int x :: St)) := by
  subst hn
  by_cases hc : x < y
  · exact k_via (fun t h => XS.icmpNo X.here hx rfl hd rfl (tlt hc).2.1 h) (kn hc)
  · exact k_via (fun t h => XS.icmpYes X.here hx rfl (pc0 := pc) rfl hd rfl (flt hc).2.1 (by omega) (by omega) h) (ky hc)
theorem k_icmp_ne (X : Stand p l e R s m args below meth c T locs cells slots) (hx : p.tables.exec = Jvm.exec) {pc pn py : Nat} {Ls : Array Slot} {St : List Value} {x y : Int32} {o : Int} (hd : decode c.code pc = .ok (.if_icmp .ne o, 3)) (hn : pc + 3 = pn) (hp : (pc : Int) + o = (py : Int)) (ky : ¬ x = y → KEnds p e below s Cn Sn Q T (mkF m py Ls St)) (kn : x = y → KEnds p e below s Cn Sn Q T (mkF m pn Ls St)) : KEnds p e below s Cn Sn Q T (mkF m pc Ls (.int y :: .int x :: St)) := by
  subst hn
  by_cases hc : x = y
  · exact k_via (fun t h => XS.icmpNo X.here hx rfl hd rfl (teq hc).2 h) (kn hc)
  · exact k_via (fun t h => XS.icmpYes X.here hx rfl (pc0 := pc) rfl hd rfl (feq hc).2 (by omega) (by omega) h) (ky hc)
theorem k_if_ne (X : Stand p l e R s m args below meth c T locs cells slots) (hx : p.tables.exec = Jvm.exec) {pc pn py : Nat} {Ls : Array Slot} {St : List Value} {x : Int32} {o : Int} (hd : decode c.code pc = .ok (.ifCond .ne o, 3)) (hn : pc + 3 = pn) (hp : (pc : Int) + o = (py : Int)) (ky : ¬ x = (0 : Int32) → KEnds p e below s Cn Sn Q T (mkF m py Ls St)) (kn : x = (0 : Int32) → KEnds p e below s Cn Sn Q T (mkF m pn Ls St)) : KEnds p e below s Cn Sn Q T (mkF m pc Ls (.int x :: St)) := by
  subst hn
  by_cases hc : x = (0 : Int32)
  · exact k_via (fun t h => XS.ifNo X.here hx rfl hd rfl ((if0 _ _).trans (teq hc).2) h) (kn hc)
  · exact k_via (fun t h => XS.ifYes X.here hx rfl (pc0 := pc) rfl hd rfl ((if0 _ _).trans (feq hc).2) (by omega) (by omega) h) (ky hc)
theorem k_lt {x a : Int32} {n : Int} (h : x < a) (e : a.toInt = n + 1) : x.toInt ≤ n := by rw [Int32.lt_iff_toInt_lt] at h; omega
theorem k_ge {x a : Int32} {n : Int} (h : ¬ x < a) (e : a.toInt = n) : n ≤ x.toInt := by rw [Int32.lt_iff_toInt_lt] at h; omega
theorem k_gt {x a : Int32} {n : Int} (h : a < x) (e : a.toInt + 1 = n) : n ≤ x.toInt := by rw [Int32.lt_iff_toInt_lt] at h; omega
theorem k_le {x a : Int32} {n : Int} (h : ¬ a < x) (e : a.toInt = n) : x.toInt ≤ n := by rw [Int32.lt_iff_toInt_lt] at h; omega
theorem k_addB {x a b la ua lb ub lo hi : Int} (q : x = a + b) (pa : la ≤ a ∧ a ≤ ua) (pb : lb ≤ b ∧ b ≤ ub) (h1 : lo ≤ la + lb := by decide) (h2 : ua + ub ≤ hi := by decide) : lo ≤ x ∧ x ≤ hi := by omega
theorem k_subB {x a c la ua lo hi : Int} (q : x = a - c) (pa : la ≤ a ∧ a ≤ ua) (h1 : lo ≤ la - c := by decide) (h2 : ua - c ≤ hi := by decide) : lo ≤ x ∧ x ≤ hi := by omega
theorem k_caddB {x a c la ua lo hi : Int} (q : x = c + a) (pa : la ≤ a ∧ a ≤ ua) (h1 : lo ≤ c + la := by decide) (h2 : c + ua ≤ hi := by decide) : lo ≤ x ∧ x ≤ hi := by omega
theorem k_mulB {a c la ua lo hi : Int} (pa : la ≤ a ∧ a ≤ ua) (hc : 0 ≤ c) (h1 : lo ≤ c * la := by decide) (h2 : c * ua ≤ hi := by decide) : lo ≤ c * a ∧ c * a ≤ hi := ⟨Int.le_trans h1 (Int.mul_le_mul_of_nonneg_left pa.1 hc), Int.le_trans (Int.mul_le_mul_of_nonneg_left pa.2 hc) h2⟩
theorem k_modB {a P hi : Int} (h : 0 < P) (e : P = hi + 1 := by decide) : 0 ≤ a % P ∧ a % P ≤ hi := ⟨Int.emod_nonneg _ (by omega), by have := Int.emod_lt_of_pos a h; omega⟩
theorem k_modx {a P la ua c : Int} (pa : la ≤ a ∧ a ≤ ua) (h1 : c ≤ la ∧ ua < c + P) (h2 : c % P = 0) : a % P = a - c := by
  have e : a % P = (a - c) % P := by rw [Int.sub_emod, h2, Int.sub_zero, Int.emod_emod_of_dvd _ (Int.dvd_refl P)]
  rw [e]; exact Int.emod_eq_of_lt (by omega) (by omega)
theorem k_divB {a P la ua lo hi : Int} (pa : la ≤ a ∧ a ≤ ua) (h : 0 < P) (h1 : lo = la / P) (h2 : ua / P = hi) : lo ≤ a / P ∧ a / P ≤ hi := ⟨by rw [h1]; exact Int.ediv_le_ediv h pa.1, by rw [← h2]; exact Int.ediv_le_ediv h pa.2⟩
theorem k_iaddx {v a b : Int32} {la ua lb ub : Int} (h : v = a + b) (pa : la ≤ a.toInt ∧ a.toInt ≤ ua) (pb : lb ≤ b.toInt ∧ b.toInt ≤ ub) (h1 : -2147483648 ≤ la + lb) (h2 : ua + ub ≤ 2147483647) : v.toInt = a.toInt + b.toInt := by
  have q := c_iadd a b; rw [← h] at q; have r := rng32 v; omega
theorem k_andx {v a m : Int32} {k : Nat} {la ua : Int} (h : v = a &&& m) (pa : la ≤ a.toInt ∧ a.toInt ≤ ua) (h0 : 0 ≤ la) (h1 : ua < ((2 ^ k : Nat) : Int)) (hk : k ≤ 31) (hm : m.toBitVec.toNat = 2 ^ k - 1) : v.toInt = a.toInt := by
  rw [h, c_mask a m k hk hm]; exact Int.emod_eq_of_lt (by omega) (by omega)
theorem k_ishlx {v a q : Int32} {k : Nat} {la ua P : Int} (h : v = a <<< (q &&& 31)) (pa : la ≤ a.toInt ∧ a.toInt ≤ ua) (h0 : 0 ≤ la ∧ P = ((2 ^ k : Nat) : Int)) (h1 : 0 < P ∧ P * ua ≤ 2147483647) (hk : q.toBitVec.toNat % 32 = k) : v.toInt = P * a.toInt := by
  have e := c_ishl a q k hk
  rw [← h, ← h0.2] at e
  have r := rng32 v
  have m1 : P * a.toInt ≤ P * ua := Int.mul_le_mul_of_nonneg_left pa.2 (by omega)
  have m2 : 0 ≤ P * a.toInt := Int.mul_nonneg (by omega) (by omega)
  rw [Int.mul_comm a.toInt P] at e
  omega
theorem k_orx {v c b : Int32} {k : Nat} {lb ub cc : Int} (h : v = c ||| b) (pb : lb ≤ b.toInt ∧ b.toInt ≤ ub) (h0 : 0 ≤ lb) (h1 : ub < ((2 ^ k : Nat) : Int)) (hk : k ≤ 31) (hc : c.toInt = cc) (hm : cc % ((2 ^ k : Nat) : Int) = 0) (hr : 0 ≤ cc ∧ cc + ub ≤ 2147483647) : v.toInt = cc + b.toInt := by
  have e := c_or c b k hk _ rfl (by rw [hc]; exact hm) (by omega) (by omega)
  rw [← h, hc] at e
  have r := rng32 v
  omega
theorem k_orx2 {v a b : Int32} {k : Nat} {la ua lb ub : Int} (h : v = a ||| b) (pa : la ≤ a.toInt ∧ a.toInt ≤ ua) (pb : lb ≤ b.toInt ∧ b.toInt ≤ ub) (h0 : 0 ≤ la ∧ 0 ≤ lb) (h1 : ub < ((2 ^ k : Nat) : Int)) (hk : k ≤ 31) (hr : ua + ub ≤ 2147483647) (hm : a.toInt % ((2 ^ k : Nat) : Int) = 0) : v.toInt = a.toInt + b.toInt := by
  have e := c_or a b k hk _ rfl hm (by omega) (by omega)
  rw [← h] at e
  have r := rng32 v
  omega
theorem k_i2bx {v a : Int32} {la ua : Int} (h : v = a.toInt8.toInt32) (pa : la ≤ a.toInt ∧ a.toInt ≤ ua) (h1 : -128 ≤ la) (h2 : ua ≤ 127) : v.toInt = a.toInt := by
  have q := c_i2b a; rw [← h] at q; omega
theorem k_i2by {v a : Int32} {la ua : Int} (h : v = a.toInt8.toInt32) (pa : la ≤ a.toInt ∧ a.toInt ≤ ua) (h1 : 128 ≤ la) (h2 : ua ≤ 255) : v.toInt = a.toInt - 256 := by
  have q := c_i2b a; rw [← h] at q; omega
theorem k_retN (X : Stand p l e R s m args below meth c T locs cells slots) (hx : p.tables.exec = Jvm.exec) {pc : Nat} {Ls : Array Slot} {St : List Value} {t : FieldType} {z z' : Int32} (hret : meth.sig.returnType = some t) (ht : t = .boolean ∨ t = .byte ∨ t = .char ∨ t = .short) (hd : decode c.code pc = .ok (.ireturn, 1)) (hlk : meth.locks = false) (hC : cells ≤ Cn) (hS : slots ≤ Sn) (hz : nar t z = z') (q : Q (some (.int z')) T.heap locs) : KEnds p e below s Cn Sn Q T (mkF m pc Ls (.int z :: St)) := by
  subst hz
  obtain ⟨fs, hr, hrun, hended, hW, hsame⟩ := X.leave (v := some (.int (nar t z))) (fun h => by rw [hret] at h; cases h) hlk
  exact ⟨_, _, retN X hx hret ht hd hr, hrun, hended, _, _, rfl, q, ⟨_, rfl⟩, hW, hsame.mono hC hS⟩
theorem k_retI (X : Stand p l e R s m args below meth c T locs cells slots) (hx : p.tables.exec = Jvm.exec) {pc : Nat} {Ls : Array Slot} {St : List Value} {z : Int32} (hret : meth.sig.returnType = some .int) (hd : decode c.code pc = .ok (.ireturn, 1)) (hlk : meth.locks = false) (hC : cells ≤ Cn) (hS : slots ≤ Sn) (q : Q (some (.int z)) T.heap locs) : KEnds p e below s Cn Sn Q T (mkF m pc Ls (.int z :: St)) := by
  obtain ⟨fs, hr, hrun, hended, hW, hsame⟩ := X.leave (v := some (.int z)) (fun h => by rw [hret] at h; cases h) hlk
  exact ⟨_, _, retOut X hx hret rfl (Or.inl ⟨rfl, Or.inl rfl, _, rfl⟩) hd hr, hrun, hended, _, _, rfl, q, ⟨_, rfl⟩, hW, hsame.mono hC hS⟩
variable {Z : State} {a0 : Array Value} {h : Heap} {own : String}
theorem k_ldc (X : Stand p l e R s m args below meth c T locs cells slots) (hx : p.tables.exec = Jvm.exec) (hZ : Z.Warmed39 s.vm) (hown : s.vm.findClass own = some m.cls) {pc pc' : Nat} {Ls : Array Slot} {St : List Value} {index : Nat} {v : Int32} (w : (Cond.constant own index v).before a0 Z = true) (hd : decode c.code pc = .ok (.ldc index, 2)) (hpc : pc + 2 = pc') (k : KEnds p e below s Cn Sn Q T (mkF m pc' Ls (.int v :: St))) : KEnds p e below s Cn Sn Q T (mkF m pc Ls St) := by
  subst hpc; exact k_via (X.ldcInt hx hown (mvT hZ w) (g := mkF m pc Ls St) rfl hd) k
theorem k_ldcL (X : Stand p l e R s m args below meth c T locs cells slots) (hx : p.tables.exec = Jvm.exec) (hZ : Z.Warmed39 s.vm) (hown : s.vm.findClass own = some m.cls) {pc pc' : Nat} {Ls : Array Slot} {St : List Value} {index : Nat} {v : Int64} (w : (Cond.constantLong own index v).before a0 Z = true) (hd : decode c.code pc = .ok (.ldc2_w index, 3)) (hpc : pc + 3 = pc') (k : KEnds p e below s Cn Sn Q T (mkF m pc' Ls (.long v :: St))) : KEnds p e below s Cn Sn Q T (mkF m pc Ls St) := by
  subst hpc; exact k_via (X.ldc2Long hx hown (mvT hZ w) (g := mkF m pc Ls St) rfl hd) k
theorem k_newA (X : Stand p l e R s m args below meth c T locs cells slots) (hx : p.tables.exec = Jvm.exec) (hZ : Z.Warmed39 s.vm) {pc pc' : Nat} {Ls : Array Slot} {St : List Value} {aty : ArrayType} (w : (Cond.arrayClass (newarray.typeOf aty)).before a0 Z = true) (eT : T.heap = h) (hd : decode c.code pc = .ok (.newarray aty, 2)) {n : Int32} (hn : ¬ n < 0) {cap : Nat} (hcap : n.toNatClampNeg ≤ cap) (hb : cap * 8 ≤ 536870912) (hc : cells + 1 ≤ R.cells) (hl : slots + cap ≤ R.slots) (hpc : pc + 2 = pc') (k : ∀ T' h' a cA, a = h.size → Stand p l e R s m args below meth c T' locs (cells + 1) (slots + cap) → T'.heap = h' → Ext h h' → Arv Z h' a cA (newarray.typeOf aty) n (List.replicate cap (defaultValue (newarray.typeOf aty))) (defaultValue (newarray.typeOf aty)) → KEnds p e below s Cn Sn Q T' (mkF m pc' Ls (.ref a :: St))) : KEnds p e below s Cn Sn Q T (mkF m pc Ls (.int n :: St)) := by
  subst hpc
  obtain ⟨T', h', cA, X', e', E', A', st⟩ := newP X hx hZ w eT (g := mkF m pc Ls (.int n :: St)) rfl hd rfl hn hcap hb hc hl
  exact k_via st (k T' h' _ cA rfl X' e' E' ((Arv.new A' hn).pad (pad_rep [] _ cap)))
theorem k_bastore (X : Stand p l e R s m args below meth c T locs cells slots) (hx : p.tables.exec = Jvm.exec) (hZ : Z.Warmed39 s.vm) {pc pc' : Nat} {Ls : Array Slot} {St : List Value} (eT : T.heap = h) {a : Addr} {kA : ClassId} {z j : Int32} {x : Int32} {vs : List Value} {dv : Value} (F : Arv Z h a kA .byte z vs dv) (hj : ¬ j < 0 ∧ j < z) {i : Nat} (hi : j.toNatClampNeg = i) (hil : i < vs.length) (hd : decode c.code pc = .ok (.bastore, 1)) (hpc : pc + 1 = pc') (k : ∀ T' h', Stand p l e R s m args below meth c T' (locs ++ [⟨a, j.toNatClampNeg⟩]) cells slots → T'.heap = h' → Wr h h' a j.toNatClampNeg (.int (x.toInt8.toInt32)) → Arv Z h' a kA .byte z (vs.set i (.int (x.toInt8.toInt32))) dv → KEnds p e below s Cn Sn Q T' (mkF m pc' Ls St)) : KEnds p e below s Cn Sn Q T (mkF m pc Ls (.int x :: .int j :: .ref a :: St)) := by
  subst hpc
  obtain ⟨cl, A, q1, S, N, H, G⟩ := F
  obtain ⟨T', h', X', e', W', st⟩ := stB X hx hZ eT A (inb_of S hj) (g := mkF m pc Ls (.int x :: .int j :: .ref a :: St)) rfl rfl hd
  exact k_via st (k T' h' X' e' W' (Arv.set A q1 S N H G (fits_nar_byte _) W' i hi hil))
theorem k_baload (X : Stand p l e R s m args below meth c T locs cells slots) (hx : p.tables.exec = Jvm.exec) (hZ : Z.Warmed39 s.vm) {pc pc' : Nat} {Ls : Array Slot} {St : List Value} (eT : T.heap = h) {a : Addr} {kA : ClassId} {z j : Int32} {v : Value} {vs : List Value} {dv : Value} (F : Arv Z h a kA .byte z vs dv) (hj : ¬ j < 0 ∧ j < z) (hv : vs.getD j.toNatClampNeg dv = v) (hd : decode c.code pc = .ok (.baload, 1)) (hpc : pc + 1 = pc') (k : KEnds p e below s Cn Sn Q T (mkF m pc' Ls (v :: St))) : KEnds p e below s Cn Sn Q T (mkF m pc Ls (.int j :: .ref a :: St)) := by
  subst hpc
  obtain ⟨cl, A, q1, S, N, H, G⟩ := F
  exact k_via (fun t hs => X.baloadBytes hx (by rw [eT]; exact A.1) (State.isArrayOf_alike hZ.alike A.2.1) A.2.2 (inb_of S hj) (H.at (inb_of S hj) hv) (g := mkF m pc Ls (.int j :: .ref a :: St)) rfl rfl hd t hs) k
theorem k_callS (X : Stand p l e R s m args below meth c T locs cells slots) (hx : p.tables.exec = Jvm.exec) (hZ : Z.Warmed39 s.vm) (hown : s.vm.findClass own = some m.cls) {pc pc' : Nat} {Ls : Array Slot} {St : List Value} {y : MethodName} {bytes : ByteArray} {maxL : Nat} {ret : Option FieldType} {rm : Room} {index W : Nat} {as' : Array Value} {Q' : Option Value → Heap → List Loc → Prop} (w1 : (Cond.methodLink own index y).before a0 Z = true) (w2 : (Cond.static y).before a0 Z = true) (w3 : (Cond.initialized y.cls).before a0 Z = true) (w4 : (Cond.code y bytes maxL ret).before a0 Z = true) (hy : y.cls ≠ "java/lang/invoke/MethodHandle" ∧ y.cls ≠ "java/lang/invoke/VarHandle") (hM : MetFree l y (head1 [Cond.code y bytes maxL ret] rm) (fun a U => a = as' ∧ Z.Warmed39 U.vm ∧ U.heap = h) (fun _ _ _ _ _ => True) (fun _ U o U' => ∃ v L, o = .returned v ∧ Q' v U'.heap L ∧ FrameEnd U o U' L rm.cells rm.slots)) (hf : rm.frames + 1 ≤ R.frames) (hl : W + (maxL + 11) + rm.locals ≤ R.locals) (eT : T.heap = h) (hsize : Ls.size = c.maxLocals) {argsL rest : List Value} (hlen : ∀ sig, parseMethodDescriptor y.desc = some sig → argsL.length = sig.parameters.length) (hst : St = argsL.reverse ++ rest) (hW : (rest.map fun v => v.category).sum ≤ W) (has : argsL.toArray = as') (hd : decode c.code pc = .ok (.invokestatic index, 3)) (hce : cells + rm.cells ≤ R.cells) (hsl : slots + rm.slots ≤ R.slots) (hpc : pc + 3 = pc') (k : ∀ T' L v, Stand p l e R s m args below meth c T' (locs ++ L) (cells + rm.cells) (slots + rm.slots) → Q' v T'.heap L → KEnds p e below s Cn Sn Q T' (mkF m pc' Ls (v.toList ++ rest))) : KEnds p e below s Cn Sn Q T (mkF m pc Ls St) := by
  subst hpc
  obtain ⟨v, _, ⟨T', L', k', n'⟩, -, X', ⟨Lc, hQ, l', y', z'⟩, st⟩ := Jvm.LawKit.callS X hx (y := y) hown (mvT hZ w1) (mvT hZ w2) (mvT hZ w3) (mvT hZ w4) hy (backOf (W := W) hM hZ w4 w3 hf hl) (g := mkF m pc Ls St) rfl hsize hlen hst (by show 2 * 0 + _ ≤ _; omega) hd (fun _ _ => ⟨has, eT, hce, hsl⟩)
  dsimp only [Pt.U, Pt.locs, Pt.cells, Pt.slots] at X' l' y' z' st hQ
  subst l' y' z'
  exact k_via st (k T' Lc v X' hQ)
end
end Jvm.OwnK
namespace Jvm.Pilot.@@N@@
open Jvm Jvm.ClassFile Sem Op Lib Jvm.Free Jvm.Stand Jvm.LawKit Jvm.RoadKit Jvm.OwnK Bundle Jvm.Pilot.@@N@@.Jvm.D
theorem d1_0 : decode method_3_code 0 = .ok (.lload_n 0, 1) := by decide +kernel
theorem d1_1 : decode method_3_code 1 = .ok (.bipush 8, 2) := by decide +kernel
theorem d1_3 : decode method_3_code 3 = .ok (.iload_n 2, 1) := by decide +kernel
theorem d1_4 : decode method_3_code 4 = .ok (.imul, 1) := by decide +kernel
theorem d1_5 : decode method_3_code 5 = .ok (.lushr, 1) := by decide +kernel
theorem d1_6 : decode method_3_code 6 = .ok (.ldc2_w 25, 3) := by decide +kernel
theorem d1_9 : decode method_3_code 9 = .ok (.land, 1) := by decide +kernel
theorem d1_10 : decode method_3_code 10 = .ok (.l2i, 1) := by decide +kernel
theorem d1_11 : decode method_3_code 11 = .ok (.i2b, 1) := by decide +kernel
theorem d1_12 : decode method_3_code 12 = .ok (.ireturn, 1) := by decide +kernel
abbrev R1_55 : Room := { frames := 0, cells := 0, slots := 0, locals := 0 }
def f1_55 (p1 : Int64) : Int32 := (((p1 &&& (127 : Int64)).toInt32).toInt8.toInt32)
theorem f1_55_byte (p1 : Int64) : (f1_55 p1).toInt8.toInt32 = f1_55 p1 := by
  unfold f1_55; (repeat' split) <;> first | exact k_i2b2 _ | decide
def Q1_55 (Z : State) (p1 : Int64) (h0 : Heap) (n0 : Nat) (v : Option Value) (h : Heap) (L : List Loc) : Prop := Fr n0 L ∧ h = h0 ∧ v = some (.int (f1_55 p1))
theorem ef1_55 (m : MethodId) (x0 : Int64) : entryFrame m #[(.long x0), (.int (0 : Int32))] 3 = mkF m 0 #[.val (.long x0), .second, .val (.int (0 : Int32))] [] := by first | (simp [entryFrame, mkF, argsToLocals, Value.category]; done) | rfl
theorem pn_0 : plainName "com/example/parlance/parlance/MessageBytesCodePointAtPinLaw" = true := by first | (simp [plainName, overriddenIn]; done) | decide +kernel
set_option maxRecDepth 65536 in
set_option maxHeartbeats 40000000 in
theorem rm1_55 (l : Launch) (Z : State) (a0 : Array Value) (hw : ∀ d ∈ tables_1, d.before a0 Z = true) (ws : List Jvm.Cond) (p1 : Int64) (h0 : Heap) (n0 : Nat) (Z0 : n0 ≤ h0.size)  :
    MetFree l (⟨"com/example/parlance/parlance/MessageBytesCodePointAtPinLaw", "fill", "(JI)B"⟩ : MethodName) (head1 (Jvm.Cond.code (⟨"com/example/parlance/parlance/MessageBytesCodePointAtPinLaw", "fill", "(JI)B"⟩ : MethodName) method_3_code 3 (some .byte) :: ws) R1_55) (fun a U => a = #[(.long p1), (.int (0 : Int32))] ∧ Z.Warmed39 U.vm ∧ U.heap = h0) (fun _ _ _ _ _ => True) (fun _ U o U' => ∃ v L, o = .returned v ∧ Q1_55 Z p1 h0 n0 v U'.heap L ∧ FrameEnd U o U' L R1_55.cells R1_55.slots) := by
 refine MetFree.of_bodySF (plainFor_of_name pn_0) hisR ?_
 intro p e s m args below meth c s₁ Bd hml0 hP hK
 obtain ⟨rfl, hZ, hh⟩ := hP
 have hx := Bd.exec
 have hby := Bd.bytes
 have hml : c.maxLocals = 3 := hml0
 have hlk : meth.locks = false := Bd.notSynchronized
 have hown : s.vm.findClass "com/example/parlance/parlance/MessageBytesCodePointAtPinLaw" = some m.cls := findClass_of_methodNamed Bd.named
 have hnm := (name_of_methodNamed Bd.named Bd.method).1
 have X0 : Stand p l e R1_55 s m #[(.long p1), (.int (0 : Int32))] below meth c s₁ [] 0 0 := Stand.of_body Bd
 have e0 : s₁.heap = h0 := by rw [← hh, Bd.state]; rfl
 have N0 := Fr.nil n0
 rw [ef1_55 m p1]
 show KEnds p e below s R1_55.cells R1_55.slots (Q1_55 Z p1 h0 n0) s₁ (mkF m 0 #[.val (.long p1), .second, .val (.int (0 : Int32))] [])
 refine k_lloadN X0 hx (hb hby d1_0) rfl (pc' := 1) rfl ?_
 refine k_bipush X0 hx (hb hby d1_1) (pc' := 3) rfl (z := (8 : Int32)) rfl ?_
 refine k_iloadN X0 hx (hb hby d1_3) rfl (pc' := 4) rfl ?_
 refine k_imulL X0 hx (hb hby d1_4) (pc' := 5) rfl (z := (0 : Int32)) (by decide) ?_
 refine k_lushrL X0 hx (hb hby d1_5) (pc' := 6) rfl (z := p1) (k_ushr0 _) ?_
 refine k_ldcL X0 hx hZ hown (hw _ (List.mem_of_getElem? (i := 6) rfl)) (hb hby d1_6) (pc' := 9) rfl ?_
 refine k_landL X0 hx (hb hby d1_9) (pc' := 10) rfl rfl ?_
 refine k_l2iL X0 hx (hb hby d1_10) (pc' := 11) rfl rfl ?_
 refine k_i2bL X0 hx (hb hby d1_11) (pc' := 12) rfl rfl ?_
 have hf : f1_55 p1 = (((p1 &&& (127 : Int64)).toInt32).toInt8.toInt32) := by rfl
 exact k_retN X0 hx (t := .byte) Bd.returns (by simp) (hb hby d1_12) hlk (by decide) (by decide) (z' := (((p1 &&& (127 : Int64)).toInt32).toInt8.toInt32)) (k_i2b2 _) ⟨N0, e0, by rw [hf]⟩
theorem pd_0 : parseMethodDescriptor "(JI)B" = some ⟨[.long, .int], some .byte⟩ := by decide +kernel
abbrev R1_60 : Room := { frames := 0, cells := 0, slots := 0, locals := 0 }
def f1_60 (p1 : Int64) : Int32 := ((((((p1.toUInt64 >>> ((8 : Int32) &&& 0x3f).toInt64.toUInt64).toInt64)) &&& (127 : Int64)).toInt32).toInt8.toInt32)
theorem f1_60_byte (p1 : Int64) : (f1_60 p1).toInt8.toInt32 = f1_60 p1 := by
  unfold f1_60; (repeat' split) <;> first | exact k_i2b2 _ | decide
def Q1_60 (Z : State) (p1 : Int64) (h0 : Heap) (n0 : Nat) (v : Option Value) (h : Heap) (L : List Loc) : Prop := Fr n0 L ∧ h = h0 ∧ v = some (.int (f1_60 p1))
theorem ef1_60 (m : MethodId) (x0 : Int64) : entryFrame m #[(.long x0), (.int (1 : Int32))] 3 = mkF m 0 #[.val (.long x0), .second, .val (.int (1 : Int32))] [] := by first | (simp [entryFrame, mkF, argsToLocals, Value.category]; done) | rfl
set_option maxRecDepth 65536 in
set_option maxHeartbeats 40000000 in
theorem rm1_60 (l : Launch) (Z : State) (a0 : Array Value) (hw : ∀ d ∈ tables_1, d.before a0 Z = true) (ws : List Jvm.Cond) (p1 : Int64) (h0 : Heap) (n0 : Nat) (Z0 : n0 ≤ h0.size)  :
    MetFree l (⟨"com/example/parlance/parlance/MessageBytesCodePointAtPinLaw", "fill", "(JI)B"⟩ : MethodName) (head1 (Jvm.Cond.code (⟨"com/example/parlance/parlance/MessageBytesCodePointAtPinLaw", "fill", "(JI)B"⟩ : MethodName) method_3_code 3 (some .byte) :: ws) R1_60) (fun a U => a = #[(.long p1), (.int (1 : Int32))] ∧ Z.Warmed39 U.vm ∧ U.heap = h0) (fun _ _ _ _ _ => True) (fun _ U o U' => ∃ v L, o = .returned v ∧ Q1_60 Z p1 h0 n0 v U'.heap L ∧ FrameEnd U o U' L R1_60.cells R1_60.slots) := by
 refine MetFree.of_bodySF (plainFor_of_name pn_0) hisR ?_
 intro p e s m args below meth c s₁ Bd hml0 hP hK
 obtain ⟨rfl, hZ, hh⟩ := hP
 have hx := Bd.exec
 have hby := Bd.bytes
 have hml : c.maxLocals = 3 := hml0
 have hlk : meth.locks = false := Bd.notSynchronized
 have hown : s.vm.findClass "com/example/parlance/parlance/MessageBytesCodePointAtPinLaw" = some m.cls := findClass_of_methodNamed Bd.named
 have hnm := (name_of_methodNamed Bd.named Bd.method).1
 have X0 : Stand p l e R1_60 s m #[(.long p1), (.int (1 : Int32))] below meth c s₁ [] 0 0 := Stand.of_body Bd
 have e0 : s₁.heap = h0 := by rw [← hh, Bd.state]; rfl
 have N0 := Fr.nil n0
 rw [ef1_60 m p1]
 show KEnds p e below s R1_60.cells R1_60.slots (Q1_60 Z p1 h0 n0) s₁ (mkF m 0 #[.val (.long p1), .second, .val (.int (1 : Int32))] [])
 refine k_lloadN X0 hx (hb hby d1_0) rfl (pc' := 1) rfl ?_
 refine k_bipush X0 hx (hb hby d1_1) (pc' := 3) rfl (z := (8 : Int32)) rfl ?_
 refine k_iloadN X0 hx (hb hby d1_3) rfl (pc' := 4) rfl ?_
 refine k_imulL X0 hx (hb hby d1_4) (pc' := 5) rfl (z := (8 : Int32)) (by decide) ?_
 refine k_lushrL X0 hx (hb hby d1_5) (pc' := 6) rfl rfl ?_
 refine k_ldcL X0 hx hZ hown (hw _ (List.mem_of_getElem? (i := 6) rfl)) (hb hby d1_6) (pc' := 9) rfl ?_
 refine k_landL X0 hx (hb hby d1_9) (pc' := 10) rfl rfl ?_
 refine k_l2iL X0 hx (hb hby d1_10) (pc' := 11) rfl rfl ?_
 refine k_i2bL X0 hx (hb hby d1_11) (pc' := 12) rfl rfl ?_
 have hf : f1_60 p1 = ((((((p1.toUInt64 >>> ((8 : Int32) &&& 0x3f).toInt64.toUInt64).toInt64)) &&& (127 : Int64)).toInt32).toInt8.toInt32) := by rfl
 exact k_retN X0 hx (t := .byte) Bd.returns (by simp) (hb hby d1_12) hlk (by decide) (by decide) (z' := ((((((p1.toUInt64 >>> ((8 : Int32) &&& 0x3f).toInt64.toUInt64).toInt64)) &&& (127 : Int64)).toInt32).toInt8.toInt32)) (k_i2b2 _) ⟨N0, e0, by rw [hf]⟩
abbrev R1_65 : Room := { frames := 0, cells := 0, slots := 0, locals := 0 }
def f1_65 (p1 : Int64) : Int32 := ((((((p1.toUInt64 >>> ((16 : Int32) &&& 0x3f).toInt64.toUInt64).toInt64)) &&& (127 : Int64)).toInt32).toInt8.toInt32)
theorem f1_65_byte (p1 : Int64) : (f1_65 p1).toInt8.toInt32 = f1_65 p1 := by
  unfold f1_65; (repeat' split) <;> first | exact k_i2b2 _ | decide
def Q1_65 (Z : State) (p1 : Int64) (h0 : Heap) (n0 : Nat) (v : Option Value) (h : Heap) (L : List Loc) : Prop := Fr n0 L ∧ h = h0 ∧ v = some (.int (f1_65 p1))
theorem ef1_65 (m : MethodId) (x0 : Int64) : entryFrame m #[(.long x0), (.int (2 : Int32))] 3 = mkF m 0 #[.val (.long x0), .second, .val (.int (2 : Int32))] [] := by first | (simp [entryFrame, mkF, argsToLocals, Value.category]; done) | rfl
set_option maxRecDepth 65536 in
set_option maxHeartbeats 40000000 in
theorem rm1_65 (l : Launch) (Z : State) (a0 : Array Value) (hw : ∀ d ∈ tables_1, d.before a0 Z = true) (ws : List Jvm.Cond) (p1 : Int64) (h0 : Heap) (n0 : Nat) (Z0 : n0 ≤ h0.size)  :
    MetFree l (⟨"com/example/parlance/parlance/MessageBytesCodePointAtPinLaw", "fill", "(JI)B"⟩ : MethodName) (head1 (Jvm.Cond.code (⟨"com/example/parlance/parlance/MessageBytesCodePointAtPinLaw", "fill", "(JI)B"⟩ : MethodName) method_3_code 3 (some .byte) :: ws) R1_65) (fun a U => a = #[(.long p1), (.int (2 : Int32))] ∧ Z.Warmed39 U.vm ∧ U.heap = h0) (fun _ _ _ _ _ => True) (fun _ U o U' => ∃ v L, o = .returned v ∧ Q1_65 Z p1 h0 n0 v U'.heap L ∧ FrameEnd U o U' L R1_65.cells R1_65.slots) := by
 refine MetFree.of_bodySF (plainFor_of_name pn_0) hisR ?_
 intro p e s m args below meth c s₁ Bd hml0 hP hK
 obtain ⟨rfl, hZ, hh⟩ := hP
 have hx := Bd.exec
 have hby := Bd.bytes
 have hml : c.maxLocals = 3 := hml0
 have hlk : meth.locks = false := Bd.notSynchronized
 have hown : s.vm.findClass "com/example/parlance/parlance/MessageBytesCodePointAtPinLaw" = some m.cls := findClass_of_methodNamed Bd.named
 have hnm := (name_of_methodNamed Bd.named Bd.method).1
 have X0 : Stand p l e R1_65 s m #[(.long p1), (.int (2 : Int32))] below meth c s₁ [] 0 0 := Stand.of_body Bd
 have e0 : s₁.heap = h0 := by rw [← hh, Bd.state]; rfl
 have N0 := Fr.nil n0
 rw [ef1_65 m p1]
 show KEnds p e below s R1_65.cells R1_65.slots (Q1_65 Z p1 h0 n0) s₁ (mkF m 0 #[.val (.long p1), .second, .val (.int (2 : Int32))] [])
 refine k_lloadN X0 hx (hb hby d1_0) rfl (pc' := 1) rfl ?_
 refine k_bipush X0 hx (hb hby d1_1) (pc' := 3) rfl (z := (8 : Int32)) rfl ?_
 refine k_iloadN X0 hx (hb hby d1_3) rfl (pc' := 4) rfl ?_
 refine k_imulL X0 hx (hb hby d1_4) (pc' := 5) rfl (z := (16 : Int32)) (by decide) ?_
 refine k_lushrL X0 hx (hb hby d1_5) (pc' := 6) rfl rfl ?_
 refine k_ldcL X0 hx hZ hown (hw _ (List.mem_of_getElem? (i := 6) rfl)) (hb hby d1_6) (pc' := 9) rfl ?_
 refine k_landL X0 hx (hb hby d1_9) (pc' := 10) rfl rfl ?_
 refine k_l2iL X0 hx (hb hby d1_10) (pc' := 11) rfl rfl ?_
 refine k_i2bL X0 hx (hb hby d1_11) (pc' := 12) rfl rfl ?_
 have hf : f1_65 p1 = ((((((p1.toUInt64 >>> ((16 : Int32) &&& 0x3f).toInt64.toUInt64).toInt64)) &&& (127 : Int64)).toInt32).toInt8.toInt32) := by rfl
 exact k_retN X0 hx (t := .byte) Bd.returns (by simp) (hb hby d1_12) hlk (by decide) (by decide) (z' := ((((((p1.toUInt64 >>> ((16 : Int32) &&& 0x3f).toInt64.toUInt64).toInt64)) &&& (127 : Int64)).toInt32).toInt8.toInt32)) (k_i2b2 _) ⟨N0, e0, by rw [hf]⟩
abbrev R1_70 : Room := { frames := 0, cells := 0, slots := 0, locals := 0 }
def f1_70 (p1 : Int64) : Int32 := ((((((p1.toUInt64 >>> ((24 : Int32) &&& 0x3f).toInt64.toUInt64).toInt64)) &&& (127 : Int64)).toInt32).toInt8.toInt32)
theorem f1_70_byte (p1 : Int64) : (f1_70 p1).toInt8.toInt32 = f1_70 p1 := by
  unfold f1_70; (repeat' split) <;> first | exact k_i2b2 _ | decide
def Q1_70 (Z : State) (p1 : Int64) (h0 : Heap) (n0 : Nat) (v : Option Value) (h : Heap) (L : List Loc) : Prop := Fr n0 L ∧ h = h0 ∧ v = some (.int (f1_70 p1))
theorem ef1_70 (m : MethodId) (x0 : Int64) : entryFrame m #[(.long x0), (.int (3 : Int32))] 3 = mkF m 0 #[.val (.long x0), .second, .val (.int (3 : Int32))] [] := by first | (simp [entryFrame, mkF, argsToLocals, Value.category]; done) | rfl
set_option maxRecDepth 65536 in
set_option maxHeartbeats 40000000 in
theorem rm1_70 (l : Launch) (Z : State) (a0 : Array Value) (hw : ∀ d ∈ tables_1, d.before a0 Z = true) (ws : List Jvm.Cond) (p1 : Int64) (h0 : Heap) (n0 : Nat) (Z0 : n0 ≤ h0.size)  :
    MetFree l (⟨"com/example/parlance/parlance/MessageBytesCodePointAtPinLaw", "fill", "(JI)B"⟩ : MethodName) (head1 (Jvm.Cond.code (⟨"com/example/parlance/parlance/MessageBytesCodePointAtPinLaw", "fill", "(JI)B"⟩ : MethodName) method_3_code 3 (some .byte) :: ws) R1_70) (fun a U => a = #[(.long p1), (.int (3 : Int32))] ∧ Z.Warmed39 U.vm ∧ U.heap = h0) (fun _ _ _ _ _ => True) (fun _ U o U' => ∃ v L, o = .returned v ∧ Q1_70 Z p1 h0 n0 v U'.heap L ∧ FrameEnd U o U' L R1_70.cells R1_70.slots) := by
 refine MetFree.of_bodySF (plainFor_of_name pn_0) hisR ?_
 intro p e s m args below meth c s₁ Bd hml0 hP hK
 obtain ⟨rfl, hZ, hh⟩ := hP
 have hx := Bd.exec
 have hby := Bd.bytes
 have hml : c.maxLocals = 3 := hml0
 have hlk : meth.locks = false := Bd.notSynchronized
 have hown : s.vm.findClass "com/example/parlance/parlance/MessageBytesCodePointAtPinLaw" = some m.cls := findClass_of_methodNamed Bd.named
 have hnm := (name_of_methodNamed Bd.named Bd.method).1
 have X0 : Stand p l e R1_70 s m #[(.long p1), (.int (3 : Int32))] below meth c s₁ [] 0 0 := Stand.of_body Bd
 have e0 : s₁.heap = h0 := by rw [← hh, Bd.state]; rfl
 have N0 := Fr.nil n0
 rw [ef1_70 m p1]
 show KEnds p e below s R1_70.cells R1_70.slots (Q1_70 Z p1 h0 n0) s₁ (mkF m 0 #[.val (.long p1), .second, .val (.int (3 : Int32))] [])
 refine k_lloadN X0 hx (hb hby d1_0) rfl (pc' := 1) rfl ?_
 refine k_bipush X0 hx (hb hby d1_1) (pc' := 3) rfl (z := (8 : Int32)) rfl ?_
 refine k_iloadN X0 hx (hb hby d1_3) rfl (pc' := 4) rfl ?_
 refine k_imulL X0 hx (hb hby d1_4) (pc' := 5) rfl (z := (24 : Int32)) (by decide) ?_
 refine k_lushrL X0 hx (hb hby d1_5) (pc' := 6) rfl rfl ?_
 refine k_ldcL X0 hx hZ hown (hw _ (List.mem_of_getElem? (i := 6) rfl)) (hb hby d1_6) (pc' := 9) rfl ?_
 refine k_landL X0 hx (hb hby d1_9) (pc' := 10) rfl rfl ?_
 refine k_l2iL X0 hx (hb hby d1_10) (pc' := 11) rfl rfl ?_
 refine k_i2bL X0 hx (hb hby d1_11) (pc' := 12) rfl rfl ?_
 have hf : f1_70 p1 = ((((((p1.toUInt64 >>> ((24 : Int32) &&& 0x3f).toInt64.toUInt64).toInt64)) &&& (127 : Int64)).toInt32).toInt8.toInt32) := by rfl
 exact k_retN X0 hx (t := .byte) Bd.returns (by simp) (hb hby d1_12) hlk (by decide) (by decide) (z' := ((((((p1.toUInt64 >>> ((24 : Int32) &&& 0x3f).toInt64.toUInt64).toInt64)) &&& (127 : Int64)).toInt32).toInt8.toInt32)) (k_i2b2 _) ⟨N0, e0, by rw [hf]⟩
abbrev R1_75 : Room := { frames := 0, cells := 0, slots := 0, locals := 0 }
def f1_75 (p1 : Int64) : Int32 := ((((((p1.toUInt64 >>> ((32 : Int32) &&& 0x3f).toInt64.toUInt64).toInt64)) &&& (127 : Int64)).toInt32).toInt8.toInt32)
theorem f1_75_byte (p1 : Int64) : (f1_75 p1).toInt8.toInt32 = f1_75 p1 := by
  unfold f1_75; (repeat' split) <;> first | exact k_i2b2 _ | decide
def Q1_75 (Z : State) (p1 : Int64) (h0 : Heap) (n0 : Nat) (v : Option Value) (h : Heap) (L : List Loc) : Prop := Fr n0 L ∧ h = h0 ∧ v = some (.int (f1_75 p1))
theorem ef1_75 (m : MethodId) (x0 : Int64) : entryFrame m #[(.long x0), (.int (4 : Int32))] 3 = mkF m 0 #[.val (.long x0), .second, .val (.int (4 : Int32))] [] := by first | (simp [entryFrame, mkF, argsToLocals, Value.category]; done) | rfl
set_option maxRecDepth 65536 in
set_option maxHeartbeats 40000000 in
theorem rm1_75 (l : Launch) (Z : State) (a0 : Array Value) (hw : ∀ d ∈ tables_1, d.before a0 Z = true) (ws : List Jvm.Cond) (p1 : Int64) (h0 : Heap) (n0 : Nat) (Z0 : n0 ≤ h0.size)  :
    MetFree l (⟨"com/example/parlance/parlance/MessageBytesCodePointAtPinLaw", "fill", "(JI)B"⟩ : MethodName) (head1 (Jvm.Cond.code (⟨"com/example/parlance/parlance/MessageBytesCodePointAtPinLaw", "fill", "(JI)B"⟩ : MethodName) method_3_code 3 (some .byte) :: ws) R1_75) (fun a U => a = #[(.long p1), (.int (4 : Int32))] ∧ Z.Warmed39 U.vm ∧ U.heap = h0) (fun _ _ _ _ _ => True) (fun _ U o U' => ∃ v L, o = .returned v ∧ Q1_75 Z p1 h0 n0 v U'.heap L ∧ FrameEnd U o U' L R1_75.cells R1_75.slots) := by
 refine MetFree.of_bodySF (plainFor_of_name pn_0) hisR ?_
 intro p e s m args below meth c s₁ Bd hml0 hP hK
 obtain ⟨rfl, hZ, hh⟩ := hP
 have hx := Bd.exec
 have hby := Bd.bytes
 have hml : c.maxLocals = 3 := hml0
 have hlk : meth.locks = false := Bd.notSynchronized
 have hown : s.vm.findClass "com/example/parlance/parlance/MessageBytesCodePointAtPinLaw" = some m.cls := findClass_of_methodNamed Bd.named
 have hnm := (name_of_methodNamed Bd.named Bd.method).1
 have X0 : Stand p l e R1_75 s m #[(.long p1), (.int (4 : Int32))] below meth c s₁ [] 0 0 := Stand.of_body Bd
 have e0 : s₁.heap = h0 := by rw [← hh, Bd.state]; rfl
 have N0 := Fr.nil n0
 rw [ef1_75 m p1]
 show KEnds p e below s R1_75.cells R1_75.slots (Q1_75 Z p1 h0 n0) s₁ (mkF m 0 #[.val (.long p1), .second, .val (.int (4 : Int32))] [])
 refine k_lloadN X0 hx (hb hby d1_0) rfl (pc' := 1) rfl ?_
 refine k_bipush X0 hx (hb hby d1_1) (pc' := 3) rfl (z := (8 : Int32)) rfl ?_
 refine k_iloadN X0 hx (hb hby d1_3) rfl (pc' := 4) rfl ?_
 refine k_imulL X0 hx (hb hby d1_4) (pc' := 5) rfl (z := (32 : Int32)) (by decide) ?_
 refine k_lushrL X0 hx (hb hby d1_5) (pc' := 6) rfl rfl ?_
 refine k_ldcL X0 hx hZ hown (hw _ (List.mem_of_getElem? (i := 6) rfl)) (hb hby d1_6) (pc' := 9) rfl ?_
 refine k_landL X0 hx (hb hby d1_9) (pc' := 10) rfl rfl ?_
 refine k_l2iL X0 hx (hb hby d1_10) (pc' := 11) rfl rfl ?_
 refine k_i2bL X0 hx (hb hby d1_11) (pc' := 12) rfl rfl ?_
 have hf : f1_75 p1 = ((((((p1.toUInt64 >>> ((32 : Int32) &&& 0x3f).toInt64.toUInt64).toInt64)) &&& (127 : Int64)).toInt32).toInt8.toInt32) := by rfl
 exact k_retN X0 hx (t := .byte) Bd.returns (by simp) (hb hby d1_12) hlk (by decide) (by decide) (z' := ((((((p1.toUInt64 >>> ((32 : Int32) &&& 0x3f).toInt64.toUInt64).toInt64)) &&& (127 : Int64)).toInt32).toInt8.toInt32)) (k_i2b2 _) ⟨N0, e0, by rw [hf]⟩
abbrev R1_80 : Room := { frames := 0, cells := 0, slots := 0, locals := 0 }
def f1_80 (p1 : Int64) : Int32 := ((((((p1.toUInt64 >>> ((40 : Int32) &&& 0x3f).toInt64.toUInt64).toInt64)) &&& (127 : Int64)).toInt32).toInt8.toInt32)
theorem f1_80_byte (p1 : Int64) : (f1_80 p1).toInt8.toInt32 = f1_80 p1 := by
  unfold f1_80; (repeat' split) <;> first | exact k_i2b2 _ | decide
def Q1_80 (Z : State) (p1 : Int64) (h0 : Heap) (n0 : Nat) (v : Option Value) (h : Heap) (L : List Loc) : Prop := Fr n0 L ∧ h = h0 ∧ v = some (.int (f1_80 p1))
theorem ef1_80 (m : MethodId) (x0 : Int64) : entryFrame m #[(.long x0), (.int (5 : Int32))] 3 = mkF m 0 #[.val (.long x0), .second, .val (.int (5 : Int32))] [] := by first | (simp [entryFrame, mkF, argsToLocals, Value.category]; done) | rfl
set_option maxRecDepth 65536 in
set_option maxHeartbeats 40000000 in
theorem rm1_80 (l : Launch) (Z : State) (a0 : Array Value) (hw : ∀ d ∈ tables_1, d.before a0 Z = true) (ws : List Jvm.Cond) (p1 : Int64) (h0 : Heap) (n0 : Nat) (Z0 : n0 ≤ h0.size)  :
    MetFree l (⟨"com/example/parlance/parlance/MessageBytesCodePointAtPinLaw", "fill", "(JI)B"⟩ : MethodName) (head1 (Jvm.Cond.code (⟨"com/example/parlance/parlance/MessageBytesCodePointAtPinLaw", "fill", "(JI)B"⟩ : MethodName) method_3_code 3 (some .byte) :: ws) R1_80) (fun a U => a = #[(.long p1), (.int (5 : Int32))] ∧ Z.Warmed39 U.vm ∧ U.heap = h0) (fun _ _ _ _ _ => True) (fun _ U o U' => ∃ v L, o = .returned v ∧ Q1_80 Z p1 h0 n0 v U'.heap L ∧ FrameEnd U o U' L R1_80.cells R1_80.slots) := by
 refine MetFree.of_bodySF (plainFor_of_name pn_0) hisR ?_
 intro p e s m args below meth c s₁ Bd hml0 hP hK
 obtain ⟨rfl, hZ, hh⟩ := hP
 have hx := Bd.exec
 have hby := Bd.bytes
 have hml : c.maxLocals = 3 := hml0
 have hlk : meth.locks = false := Bd.notSynchronized
 have hown : s.vm.findClass "com/example/parlance/parlance/MessageBytesCodePointAtPinLaw" = some m.cls := findClass_of_methodNamed Bd.named
 have hnm := (name_of_methodNamed Bd.named Bd.method).1
 have X0 : Stand p l e R1_80 s m #[(.long p1), (.int (5 : Int32))] below meth c s₁ [] 0 0 := Stand.of_body Bd
 have e0 : s₁.heap = h0 := by rw [← hh, Bd.state]; rfl
 have N0 := Fr.nil n0
 rw [ef1_80 m p1]
 show KEnds p e below s R1_80.cells R1_80.slots (Q1_80 Z p1 h0 n0) s₁ (mkF m 0 #[.val (.long p1), .second, .val (.int (5 : Int32))] [])
 refine k_lloadN X0 hx (hb hby d1_0) rfl (pc' := 1) rfl ?_
 refine k_bipush X0 hx (hb hby d1_1) (pc' := 3) rfl (z := (8 : Int32)) rfl ?_
 refine k_iloadN X0 hx (hb hby d1_3) rfl (pc' := 4) rfl ?_
 refine k_imulL X0 hx (hb hby d1_4) (pc' := 5) rfl (z := (40 : Int32)) (by decide) ?_
 refine k_lushrL X0 hx (hb hby d1_5) (pc' := 6) rfl rfl ?_
 refine k_ldcL X0 hx hZ hown (hw _ (List.mem_of_getElem? (i := 6) rfl)) (hb hby d1_6) (pc' := 9) rfl ?_
 refine k_landL X0 hx (hb hby d1_9) (pc' := 10) rfl rfl ?_
 refine k_l2iL X0 hx (hb hby d1_10) (pc' := 11) rfl rfl ?_
 refine k_i2bL X0 hx (hb hby d1_11) (pc' := 12) rfl rfl ?_
 have hf : f1_80 p1 = ((((((p1.toUInt64 >>> ((40 : Int32) &&& 0x3f).toInt64.toUInt64).toInt64)) &&& (127 : Int64)).toInt32).toInt8.toInt32) := by rfl
 exact k_retN X0 hx (t := .byte) Bd.returns (by simp) (hb hby d1_12) hlk (by decide) (by decide) (z' := ((((((p1.toUInt64 >>> ((40 : Int32) &&& 0x3f).toInt64.toUInt64).toInt64)) &&& (127 : Int64)).toInt32).toInt8.toInt32)) (k_i2b2 _) ⟨N0, e0, by rw [hf]⟩
abbrev R1_85 : Room := { frames := 0, cells := 0, slots := 0, locals := 0 }
def f1_85 (p1 : Int64) : Int32 := ((((((p1.toUInt64 >>> ((48 : Int32) &&& 0x3f).toInt64.toUInt64).toInt64)) &&& (127 : Int64)).toInt32).toInt8.toInt32)
theorem f1_85_byte (p1 : Int64) : (f1_85 p1).toInt8.toInt32 = f1_85 p1 := by
  unfold f1_85; (repeat' split) <;> first | exact k_i2b2 _ | decide
def Q1_85 (Z : State) (p1 : Int64) (h0 : Heap) (n0 : Nat) (v : Option Value) (h : Heap) (L : List Loc) : Prop := Fr n0 L ∧ h = h0 ∧ v = some (.int (f1_85 p1))
theorem ef1_85 (m : MethodId) (x0 : Int64) : entryFrame m #[(.long x0), (.int (6 : Int32))] 3 = mkF m 0 #[.val (.long x0), .second, .val (.int (6 : Int32))] [] := by first | (simp [entryFrame, mkF, argsToLocals, Value.category]; done) | rfl
set_option maxRecDepth 65536 in
set_option maxHeartbeats 40000000 in
theorem rm1_85 (l : Launch) (Z : State) (a0 : Array Value) (hw : ∀ d ∈ tables_1, d.before a0 Z = true) (ws : List Jvm.Cond) (p1 : Int64) (h0 : Heap) (n0 : Nat) (Z0 : n0 ≤ h0.size)  :
    MetFree l (⟨"com/example/parlance/parlance/MessageBytesCodePointAtPinLaw", "fill", "(JI)B"⟩ : MethodName) (head1 (Jvm.Cond.code (⟨"com/example/parlance/parlance/MessageBytesCodePointAtPinLaw", "fill", "(JI)B"⟩ : MethodName) method_3_code 3 (some .byte) :: ws) R1_85) (fun a U => a = #[(.long p1), (.int (6 : Int32))] ∧ Z.Warmed39 U.vm ∧ U.heap = h0) (fun _ _ _ _ _ => True) (fun _ U o U' => ∃ v L, o = .returned v ∧ Q1_85 Z p1 h0 n0 v U'.heap L ∧ FrameEnd U o U' L R1_85.cells R1_85.slots) := by
 refine MetFree.of_bodySF (plainFor_of_name pn_0) hisR ?_
 intro p e s m args below meth c s₁ Bd hml0 hP hK
 obtain ⟨rfl, hZ, hh⟩ := hP
 have hx := Bd.exec
 have hby := Bd.bytes
 have hml : c.maxLocals = 3 := hml0
 have hlk : meth.locks = false := Bd.notSynchronized
 have hown : s.vm.findClass "com/example/parlance/parlance/MessageBytesCodePointAtPinLaw" = some m.cls := findClass_of_methodNamed Bd.named
 have hnm := (name_of_methodNamed Bd.named Bd.method).1
 have X0 : Stand p l e R1_85 s m #[(.long p1), (.int (6 : Int32))] below meth c s₁ [] 0 0 := Stand.of_body Bd
 have e0 : s₁.heap = h0 := by rw [← hh, Bd.state]; rfl
 have N0 := Fr.nil n0
 rw [ef1_85 m p1]
 show KEnds p e below s R1_85.cells R1_85.slots (Q1_85 Z p1 h0 n0) s₁ (mkF m 0 #[.val (.long p1), .second, .val (.int (6 : Int32))] [])
 refine k_lloadN X0 hx (hb hby d1_0) rfl (pc' := 1) rfl ?_
 refine k_bipush X0 hx (hb hby d1_1) (pc' := 3) rfl (z := (8 : Int32)) rfl ?_
 refine k_iloadN X0 hx (hb hby d1_3) rfl (pc' := 4) rfl ?_
 refine k_imulL X0 hx (hb hby d1_4) (pc' := 5) rfl (z := (48 : Int32)) (by decide) ?_
 refine k_lushrL X0 hx (hb hby d1_5) (pc' := 6) rfl rfl ?_
 refine k_ldcL X0 hx hZ hown (hw _ (List.mem_of_getElem? (i := 6) rfl)) (hb hby d1_6) (pc' := 9) rfl ?_
 refine k_landL X0 hx (hb hby d1_9) (pc' := 10) rfl rfl ?_
 refine k_l2iL X0 hx (hb hby d1_10) (pc' := 11) rfl rfl ?_
 refine k_i2bL X0 hx (hb hby d1_11) (pc' := 12) rfl rfl ?_
 have hf : f1_85 p1 = ((((((p1.toUInt64 >>> ((48 : Int32) &&& 0x3f).toInt64.toUInt64).toInt64)) &&& (127 : Int64)).toInt32).toInt8.toInt32) := by rfl
 exact k_retN X0 hx (t := .byte) Bd.returns (by simp) (hb hby d1_12) hlk (by decide) (by decide) (z' := ((((((p1.toUInt64 >>> ((48 : Int32) &&& 0x3f).toInt64.toUInt64).toInt64)) &&& (127 : Int64)).toInt32).toInt8.toInt32)) (k_i2b2 _) ⟨N0, e0, by rw [hf]⟩
abbrev R1_90 : Room := { frames := 0, cells := 0, slots := 0, locals := 0 }
def f1_90 (p1 : Int64) : Int32 := ((((((p1.toUInt64 >>> ((56 : Int32) &&& 0x3f).toInt64.toUInt64).toInt64)) &&& (127 : Int64)).toInt32).toInt8.toInt32)
theorem f1_90_byte (p1 : Int64) : (f1_90 p1).toInt8.toInt32 = f1_90 p1 := by
  unfold f1_90; (repeat' split) <;> first | exact k_i2b2 _ | decide
def Q1_90 (Z : State) (p1 : Int64) (h0 : Heap) (n0 : Nat) (v : Option Value) (h : Heap) (L : List Loc) : Prop := Fr n0 L ∧ h = h0 ∧ v = some (.int (f1_90 p1))
theorem ef1_90 (m : MethodId) (x0 : Int64) : entryFrame m #[(.long x0), (.int (7 : Int32))] 3 = mkF m 0 #[.val (.long x0), .second, .val (.int (7 : Int32))] [] := by first | (simp [entryFrame, mkF, argsToLocals, Value.category]; done) | rfl
set_option maxRecDepth 65536 in
set_option maxHeartbeats 40000000 in
theorem rm1_90 (l : Launch) (Z : State) (a0 : Array Value) (hw : ∀ d ∈ tables_1, d.before a0 Z = true) (ws : List Jvm.Cond) (p1 : Int64) (h0 : Heap) (n0 : Nat) (Z0 : n0 ≤ h0.size)  :
    MetFree l (⟨"com/example/parlance/parlance/MessageBytesCodePointAtPinLaw", "fill", "(JI)B"⟩ : MethodName) (head1 (Jvm.Cond.code (⟨"com/example/parlance/parlance/MessageBytesCodePointAtPinLaw", "fill", "(JI)B"⟩ : MethodName) method_3_code 3 (some .byte) :: ws) R1_90) (fun a U => a = #[(.long p1), (.int (7 : Int32))] ∧ Z.Warmed39 U.vm ∧ U.heap = h0) (fun _ _ _ _ _ => True) (fun _ U o U' => ∃ v L, o = .returned v ∧ Q1_90 Z p1 h0 n0 v U'.heap L ∧ FrameEnd U o U' L R1_90.cells R1_90.slots) := by
 refine MetFree.of_bodySF (plainFor_of_name pn_0) hisR ?_
 intro p e s m args below meth c s₁ Bd hml0 hP hK
 obtain ⟨rfl, hZ, hh⟩ := hP
 have hx := Bd.exec
 have hby := Bd.bytes
 have hml : c.maxLocals = 3 := hml0
 have hlk : meth.locks = false := Bd.notSynchronized
 have hown : s.vm.findClass "com/example/parlance/parlance/MessageBytesCodePointAtPinLaw" = some m.cls := findClass_of_methodNamed Bd.named
 have hnm := (name_of_methodNamed Bd.named Bd.method).1
 have X0 : Stand p l e R1_90 s m #[(.long p1), (.int (7 : Int32))] below meth c s₁ [] 0 0 := Stand.of_body Bd
 have e0 : s₁.heap = h0 := by rw [← hh, Bd.state]; rfl
 have N0 := Fr.nil n0
 rw [ef1_90 m p1]
 show KEnds p e below s R1_90.cells R1_90.slots (Q1_90 Z p1 h0 n0) s₁ (mkF m 0 #[.val (.long p1), .second, .val (.int (7 : Int32))] [])
 refine k_lloadN X0 hx (hb hby d1_0) rfl (pc' := 1) rfl ?_
 refine k_bipush X0 hx (hb hby d1_1) (pc' := 3) rfl (z := (8 : Int32)) rfl ?_
 refine k_iloadN X0 hx (hb hby d1_3) rfl (pc' := 4) rfl ?_
 refine k_imulL X0 hx (hb hby d1_4) (pc' := 5) rfl (z := (56 : Int32)) (by decide) ?_
 refine k_lushrL X0 hx (hb hby d1_5) (pc' := 6) rfl rfl ?_
 refine k_ldcL X0 hx hZ hown (hw _ (List.mem_of_getElem? (i := 6) rfl)) (hb hby d1_6) (pc' := 9) rfl ?_
 refine k_landL X0 hx (hb hby d1_9) (pc' := 10) rfl rfl ?_
 refine k_l2iL X0 hx (hb hby d1_10) (pc' := 11) rfl rfl ?_
 refine k_i2bL X0 hx (hb hby d1_11) (pc' := 12) rfl rfl ?_
 have hf : f1_90 p1 = ((((((p1.toUInt64 >>> ((56 : Int32) &&& 0x3f).toInt64.toUInt64).toInt64)) &&& (127 : Int64)).toInt32).toInt8.toInt32) := by rfl
 exact k_retN X0 hx (t := .byte) Bd.returns (by simp) (hb hby d1_12) hlk (by decide) (by decide) (z' := ((((((p1.toUInt64 >>> ((56 : Int32) &&& 0x3f).toInt64.toUInt64).toInt64)) &&& (127 : Int64)).toInt32).toInt8.toInt32)) (k_i2b2 _) ⟨N0, e0, by rw [hf]⟩
theorem d2_0 : decode prog_4_method_8_code 0 = .ok (.aload_n 0, 1) := by decide +kernel
theorem d2_1 : decode prog_4_method_8_code 1 = .ok (.iload_n 1, 1) := by decide +kernel
theorem d2_2 : decode prog_4_method_8_code 2 = .ok (.baload, 1) := by decide +kernel
theorem d2_3 : decode prog_4_method_8_code 3 = .ok (.sipush 255, 3) := by decide +kernel
theorem d2_6 : decode prog_4_method_8_code 6 = .ok (.iand, 1) := by decide +kernel
theorem d2_7 : decode prog_4_method_8_code 7 = .ok (.istore_n 2, 1) := by decide +kernel
theorem d2_8 : decode prog_4_method_8_code 8 = .ok (.aload_n 0, 1) := by decide +kernel
theorem d2_9 : decode prog_4_method_8_code 9 = .ok (.iload_n 1, 1) := by decide +kernel
theorem d2_10 : decode prog_4_method_8_code 10 = .ok (.baload, 1) := by decide +kernel
theorem d2_11 : decode prog_4_method_8_code 11 = .ok (.invokestatic 78, 3) := by decide +kernel
theorem d3_0 : decode prog_4_method_7_code 0 = .ok (.iload_n 0, 1) := by decide +kernel
theorem d3_1 : decode prog_4_method_7_code 1 = .ok (.sipush 255, 3) := by decide +kernel
theorem d3_4 : decode prog_4_method_7_code 4 = .ok (.iand, 1) := by decide +kernel
theorem d3_5 : decode prog_4_method_7_code 5 = .ok (.istore_n 1, 1) := by decide +kernel
theorem d3_6 : decode prog_4_method_7_code 6 = .ok (.iload_n 1, 1) := by decide +kernel
theorem d3_7 : decode prog_4_method_7_code 7 = .ok (.sipush 128, 3) := by decide +kernel
theorem d3_10 : decode prog_4_method_7_code 10 = .ok (.if_icmp .ge 8, 3) := by decide +kernel
theorem d3_18 : decode prog_4_method_7_code 18 = .ok (.iload_n 1, 1) := by decide +kernel
theorem d3_19 : decode prog_4_method_7_code 19 = .ok (.sipush 224, 3) := by decide +kernel
theorem d3_22 : decode prog_4_method_7_code 22 = .ok (.if_icmp .ge 8, 3) := by decide +kernel
theorem d3_30 : decode prog_4_method_7_code 30 = .ok (.iload_n 1, 1) := by decide +kernel
theorem d3_31 : decode prog_4_method_7_code 31 = .ok (.sipush 240, 3) := by decide +kernel
theorem d3_34 : decode prog_4_method_7_code 34 = .ok (.if_icmp .ge 8, 3) := by decide +kernel
theorem d3_42 : decode prog_4_method_7_code 42 = .ok (.iconst 4, 1) := by decide +kernel
theorem d3_43 : decode prog_4_method_7_code 43 = .ok (.istore_n 2, 1) := by decide +kernel
theorem d3_44 : decode prog_4_method_7_code 44 = .ok (.iload_n 2, 1) := by decide +kernel
theorem d3_45 : decode prog_4_method_7_code 45 = .ok (.ireturn, 1) := by decide +kernel
theorem d3_37 : decode prog_4_method_7_code 37 = .ok (.iconst 3, 1) := by decide +kernel
theorem d3_38 : decode prog_4_method_7_code 38 = .ok (.istore_n 2, 1) := by decide +kernel
theorem d3_39 : decode prog_4_method_7_code 39 = .ok (.goto 5, 3) := by decide +kernel
theorem d3_25 : decode prog_4_method_7_code 25 = .ok (.iconst 2, 1) := by decide +kernel
theorem d3_26 : decode prog_4_method_7_code 26 = .ok (.istore_n 2, 1) := by decide +kernel
theorem d3_27 : decode prog_4_method_7_code 27 = .ok (.goto 17, 3) := by decide +kernel
theorem d3_13 : decode prog_4_method_7_code 13 = .ok (.iconst 1, 1) := by decide +kernel
theorem d3_14 : decode prog_4_method_7_code 14 = .ok (.istore_n 2, 1) := by decide +kernel
theorem d3_15 : decode prog_4_method_7_code 15 = .ok (.goto 29, 3) := by decide +kernel
abbrev R3_100 : Room := { frames := 0, cells := 0, slots := 0, locals := 0 }
def Q3_100 (Z : State) (p1 : Int32) (h0 : Heap) (n0 : Nat) (v : Option Value) (h : Heap) (L : List Loc) : Prop := Fr n0 L ∧ h = h0 ∧ ((∃ (v101 : Int32), v101 = p1 &&& (255 : Int32) ∧ ¬ v101 < (128 : Int32) ∧ ¬ v101 < (224 : Int32) ∧ ¬ v101 < (240 : Int32) ∧ v = some (.int (4 : Int32))) ∨ (∃ (v101 : Int32), v101 = p1 &&& (255 : Int32) ∧ ¬ v101 < (128 : Int32) ∧ ¬ v101 < (224 : Int32) ∧ v101 < (240 : Int32) ∧ v = some (.int (3 : Int32))) ∨ (∃ (v101 : Int32), v101 = p1 &&& (255 : Int32) ∧ ¬ v101 < (128 : Int32) ∧ v101 < (224 : Int32) ∧ v = some (.int (2 : Int32))) ∨ (∃ (v101 : Int32), v101 = p1 &&& (255 : Int32) ∧ v101 < (128 : Int32) ∧ v = some (.int (1 : Int32))))
theorem ef3_100 (m : MethodId) (x0 : Int32) : entryFrame m #[(.int x0)] 3 = mkF m 0 #[.val (.int x0), .unset, .unset] [] := by first | (simp [entryFrame, mkF, argsToLocals, Value.category]; done) | rfl
theorem pn_1 : plainName "com/example/parlance/parlance/MessageBytes" = true := by first | (simp [plainName, overriddenIn]; done) | decide +kernel
set_option maxRecDepth 65536 in
set_option maxHeartbeats 40000000 in
theorem rm3_100 (l : Launch) (Z : State) (a0 : Array Value) (hw : ∀ d ∈ tables_1, d.before a0 Z = true) (ws : List Jvm.Cond) (p1 : Int32) (h0 : Heap) (n0 : Nat) (Z0 : n0 ≤ h0.size)  :
    MetFree l (⟨"com/example/parlance/parlance/MessageBytes", "sequenceLength", "(B)I"⟩ : MethodName) (head1 (Jvm.Cond.code (⟨"com/example/parlance/parlance/MessageBytes", "sequenceLength", "(B)I"⟩ : MethodName) prog_4_method_7_code 3 (some .int) :: ws) R3_100) (fun a U => a = #[(.int p1)] ∧ Z.Warmed39 U.vm ∧ U.heap = h0) (fun _ _ _ _ _ => True) (fun _ U o U' => ∃ v L, o = .returned v ∧ Q3_100 Z p1 h0 n0 v U'.heap L ∧ FrameEnd U o U' L R3_100.cells R3_100.slots) := by
 refine MetFree.of_bodySF (plainFor_of_name pn_1) hisR ?_
 intro p e s m args below meth c s₁ Bd hml0 hP hK
 obtain ⟨rfl, hZ, hh⟩ := hP
 have hx := Bd.exec
 have hby := Bd.bytes
 have hml : c.maxLocals = 3 := hml0
 have hlk : meth.locks = false := Bd.notSynchronized
 have hown : s.vm.findClass "com/example/parlance/parlance/MessageBytes" = some m.cls := findClass_of_methodNamed Bd.named
 have hnm := (name_of_methodNamed Bd.named Bd.method).1
 have X0 : Stand p l e R3_100 s m #[(.int p1)] below meth c s₁ [] 0 0 := Stand.of_body Bd
 have e0 : s₁.heap = h0 := by rw [← hh, Bd.state]; rfl
 have N0 := Fr.nil n0
 rw [ef3_100 m p1]
 show KEnds p e below s R3_100.cells R3_100.slots (Q3_100 Z p1 h0 n0) s₁ (mkF m 0 #[.val (.int p1), .unset, .unset] [])
 refine k_iloadN X0 hx (hb hby d3_0) rfl (pc' := 1) rfl ?_
 refine k_sipush X0 hx (hb hby d3_1) (pc' := 4) rfl (z := (255 : Int32)) rfl ?_
 refine k_iand X0 hx (hb hby d3_4) (pc' := 5) rfl (fun v101 hv101 => ?_)
 refine k_istoreN X0 hx (hb hby d3_5) (Ls' := #[.val (.int p1), .val (.int v101), .unset]) rfl (pc' := 6) rfl ?_
 refine k_iloadN X0 hx (hb hby d3_6) rfl (pc' := 7) rfl ?_
 refine k_sipush X0 hx (hb hby d3_7) (pc' := 10) rfl (z := (128 : Int32)) rfl ?_
 refine k_icmp_ge X0 hx (hb hby d3_10) (pn := 13) rfl (py := 18) (by decide) (fun hc102 => ?_) (fun hc102 => ?_)
 ·
  refine k_iloadN X0 hx (hb hby d3_18) rfl (pc' := 19) rfl ?_
  refine k_sipush X0 hx (hb hby d3_19) (pc' := 22) rfl (z := (224 : Int32)) rfl ?_
  refine k_icmp_ge X0 hx (hb hby d3_22) (pn := 25) rfl (py := 30) (by decide) (fun hc103 => ?_) (fun hc103 => ?_)
  ·
   refine k_iloadN X0 hx (hb hby d3_30) rfl (pc' := 31) rfl ?_
   refine k_sipush X0 hx (hb hby d3_31) (pc' := 34) rfl (z := (240 : Int32)) rfl ?_
   refine k_icmp_ge X0 hx (hb hby d3_34) (pn := 37) rfl (py := 42) (by decide) (fun hc104 => ?_) (fun hc104 => ?_)
   ·
    refine k_iconst X0 hx (hb hby d3_42) (pc' := 43) rfl (z := (4 : Int32)) rfl ?_
    refine k_istoreN X0 hx (hb hby d3_43) (Ls' := #[.val (.int p1), .val (.int v101), .val (.int (4 : Int32))]) rfl (pc' := 44) rfl ?_
    refine k_iloadN X0 hx (hb hby d3_44) rfl (pc' := 45) rfl ?_
    exact k_retI X0 hx Bd.returns (hb hby d3_45) hlk (by decide) (by decide) ⟨N0, e0, (Or.inl ⟨v101, hv101, hc102, hc103, hc104, rfl⟩)⟩
   ·
    refine k_iconst X0 hx (hb hby d3_37) (pc' := 38) rfl (z := (3 : Int32)) rfl ?_
    refine k_istoreN X0 hx (hb hby d3_38) (Ls' := #[.val (.int p1), .val (.int v101), .val (.int (3 : Int32))]) rfl (pc' := 39) rfl ?_
    refine k_goto X0 hx (hb hby d3_39) (pc' := 44) (by decide) ?_
    refine k_iloadN X0 hx (hb hby d3_44) rfl (pc' := 45) rfl ?_
    exact k_retI X0 hx Bd.returns (hb hby d3_45) hlk (by decide) (by decide) ⟨N0, e0, (Or.inr (Or.inl ⟨v101, hv101, hc102, hc103, hc104, rfl⟩))⟩
  ·
   refine k_iconst X0 hx (hb hby d3_25) (pc' := 26) rfl (z := (2 : Int32)) rfl ?_
   refine k_istoreN X0 hx (hb hby d3_26) (Ls' := #[.val (.int p1), .val (.int v101), .val (.int (2 : Int32))]) rfl (pc' := 27) rfl ?_
   refine k_goto X0 hx (hb hby d3_27) (pc' := 44) (by decide) ?_
   refine k_iloadN X0 hx (hb hby d3_44) rfl (pc' := 45) rfl ?_
   exact k_retI X0 hx Bd.returns (hb hby d3_45) hlk (by decide) (by decide) ⟨N0, e0, (Or.inr (Or.inr (Or.inl ⟨v101, hv101, hc102, hc103, rfl⟩)))⟩
 ·
  refine k_iconst X0 hx (hb hby d3_13) (pc' := 14) rfl (z := (1 : Int32)) rfl ?_
  refine k_istoreN X0 hx (hb hby d3_14) (Ls' := #[.val (.int p1), .val (.int v101), .val (.int (1 : Int32))]) rfl (pc' := 15) rfl ?_
  refine k_goto X0 hx (hb hby d3_15) (pc' := 44) (by decide) ?_
  refine k_iloadN X0 hx (hb hby d3_44) rfl (pc' := 45) rfl ?_
  exact k_retI X0 hx Bd.returns (hb hby d3_45) hlk (by decide) (by decide) ⟨N0, e0, (Or.inr (Or.inr (Or.inr ⟨v101, hv101, hc102, rfl⟩)))⟩
theorem pd_1 : parseMethodDescriptor "(B)I" = some ⟨[.byte], some .int⟩ := by decide +kernel
theorem d2_14 : decode prog_4_method_8_code 14 = .ok (.istore_n 3, 1) := by decide +kernel
theorem d2_15 : decode prog_4_method_8_code 15 = .ok (.iload_n 3, 1) := by decide +kernel
theorem d2_16 : decode prog_4_method_8_code 16 = .ok (.iconst 1, 1) := by decide +kernel
theorem d2_17 : decode prog_4_method_8_code 17 = .ok (.if_icmp .ne 5, 3) := by decide +kernel
theorem d2_22 : decode prog_4_method_8_code 22 = .ok (.iload_n 2, 1) := by decide +kernel
theorem d2_23 : decode prog_4_method_8_code 23 = .ok (.bipush 127, 2) := by decide +kernel
theorem d2_25 : decode prog_4_method_8_code 25 = .ok (.iload_n 3, 1) := by decide +kernel
theorem d2_26 : decode prog_4_method_8_code 26 = .ok (.ishr, 1) := by decide +kernel
theorem d2_27 : decode prog_4_method_8_code 27 = .ok (.iand, 1) := by decide +kernel
theorem d2_28 : decode prog_4_method_8_code 28 = .ok (.istore 4, 2) := by decide +kernel
theorem d2_30 : decode prog_4_method_8_code 30 = .ok (.iload_n 1, 1) := by decide +kernel
theorem d2_31 : decode prog_4_method_8_code 31 = .ok (.iconst 1, 1) := by decide +kernel
theorem d2_32 : decode prog_4_method_8_code 32 = .ok (.iadd, 1) := by decide +kernel
theorem d2_33 : decode prog_4_method_8_code 33 = .ok (.istore 5, 2) := by decide +kernel
theorem d2_35 : decode prog_4_method_8_code 35 = .ok (.iload 5, 2) := by decide +kernel
theorem d2_37 : decode prog_4_method_8_code 37 = .ok (.iload_n 1, 1) := by decide +kernel
theorem d2_38 : decode prog_4_method_8_code 38 = .ok (.iload_n 3, 1) := by decide +kernel
theorem d2_39 : decode prog_4_method_8_code 39 = .ok (.iadd, 1) := by decide +kernel
theorem d2_40 : decode prog_4_method_8_code 40 = .ok (.if_icmp .ge 24, 3) := by decide +kernel
theorem d2_43 : decode prog_4_method_8_code 43 = .ok (.iload 4, 2) := by decide +kernel
theorem d2_45 : decode prog_4_method_8_code 45 = .ok (.bipush 6, 2) := by decide +kernel
theorem d2_47 : decode prog_4_method_8_code 47 = .ok (.ishl, 1) := by decide +kernel
theorem d2_48 : decode prog_4_method_8_code 48 = .ok (.aload_n 0, 1) := by decide +kernel
theorem d2_49 : decode prog_4_method_8_code 49 = .ok (.iload 5, 2) := by decide +kernel
theorem d2_51 : decode prog_4_method_8_code 51 = .ok (.baload, 1) := by decide +kernel
theorem d2_52 : decode prog_4_method_8_code 52 = .ok (.bipush 63, 2) := by decide +kernel
theorem d2_54 : decode prog_4_method_8_code 54 = .ok (.iand, 1) := by decide +kernel
theorem d2_55 : decode prog_4_method_8_code 55 = .ok (.ior, 1) := by decide +kernel
theorem d2_56 : decode prog_4_method_8_code 56 = .ok (.istore 4, 2) := by decide +kernel
theorem d2_58 : decode prog_4_method_8_code 58 = .ok (.iinc 5 1, 3) := by decide +kernel
theorem d2_61 : decode prog_4_method_8_code 61 = .ok (.goto (-26), 3) := by decide +kernel
theorem d2_64 : decode prog_4_method_8_code 64 = .ok (.iload 4, 2) := by decide +kernel
theorem d2_66 : decode prog_4_method_8_code 66 = .ok (.ireturn, 1) := by decide +kernel
theorem d2_20 : decode prog_4_method_8_code 20 = .ok (.iload_n 2, 1) := by decide +kernel
theorem d2_21 : decode prog_4_method_8_code 21 = .ok (.ireturn, 1) := by decide +kernel
abbrev R2_98 : Room := { frames := 1, cells := 0, slots := 0, locals := 14 }
def Q2_98 (Z : State) (a1 : Addr) (k2 : ClassId) (p3 : Int32) (p4 : Int32) (p5 : Int32) (p6 : Int32) (p7 : Int32) (p8 : Int32) (p9 : Int32) (p10 : Int32) (h0 : Heap) (n0 : Nat) (v : Option Value) (h : Heap) (L : List Loc) : Prop := Fr n0 L ∧ h = h0 ∧ ((∃ (v99 : Int32) (v124 : Int32) (v125 : Int32) (v126 : Int32) (v127 : Int32) (v128 : Int32) (v129 : Int32) (v130 : Int32) (v131 : Int32) (v132 : Int32) (v133 : Int32), v99 = p3 &&& (255 : Int32) ∧ v124 = v99 &&& (7 : Int32) ∧ v125 = v124 <<< ((6 : Int32) &&& 31) ∧ v126 = p4 &&& (63 : Int32) ∧ v127 = v125 ||| v126 ∧ v128 = v127 <<< ((6 : Int32) &&& 31) ∧ v129 = p5 &&& (63 : Int32) ∧ v130 = v128 ||| v129 ∧ v131 = v130 <<< ((6 : Int32) &&& 31) ∧ v132 = p6 &&& (63 : Int32) ∧ v133 = v131 ||| v132 ∧ ¬ v99 < (128 : Int32) ∧ ¬ v99 < (224 : Int32) ∧ ¬ v99 < (240 : Int32) ∧ v = some (.int v133)) ∨ (∃ (v99 : Int32) (v135 : Int32) (v136 : Int32) (v137 : Int32) (v138 : Int32) (v139 : Int32) (v140 : Int32) (v141 : Int32), v99 = p3 &&& (255 : Int32) ∧ v135 = v99 &&& (15 : Int32) ∧ v136 = v135 <<< ((6 : Int32) &&& 31) ∧ v137 = p4 &&& (63 : Int32) ∧ v138 = v136 ||| v137 ∧ v139 = v138 <<< ((6 : Int32) &&& 31) ∧ v140 = p5 &&& (63 : Int32) ∧ v141 = v139 ||| v140 ∧ ¬ v99 < (128 : Int32) ∧ ¬ v99 < (224 : Int32) ∧ v99 < (240 : Int32) ∧ v = some (.int v141)) ∨ (∃ (v99 : Int32) (v143 : Int32) (v144 : Int32) (v145 : Int32) (v146 : Int32), v99 = p3 &&& (255 : Int32) ∧ v143 = v99 &&& (31 : Int32) ∧ v144 = v143 <<< ((6 : Int32) &&& 31) ∧ v145 = p4 &&& (63 : Int32) ∧ v146 = v144 ||| v145 ∧ ¬ v99 < (128 : Int32) ∧ v99 < (224 : Int32) ∧ v = some (.int v146)) ∨ (∃ (v99 : Int32), v99 = p3 &&& (255 : Int32) ∧ v99 < (128 : Int32) ∧ v = some (.int v99)))
theorem ef2_98 (m : MethodId) (x0 : Addr) : entryFrame m #[(.ref x0), (.int (0 : Int32))] 6 = mkF m 0 #[.val (.ref x0), .val (.int (0 : Int32)), .unset, .unset, .unset, .unset] [] := by first | (simp [entryFrame, mkF, argsToLocals, Value.category]; done) | rfl
set_option maxRecDepth 65536 in
set_option maxHeartbeats 40000000 in
theorem rm2_98 (l : Launch) (Z : State) (a0 : Array Value) (hw : ∀ d ∈ tables_1, d.before a0 Z = true) (ws : List Jvm.Cond) (a1 : Addr) (k2 : ClassId) (p3 : Int32) (p4 : Int32) (p5 : Int32) (p6 : Int32) (p7 : Int32) (p8 : Int32) (p9 : Int32) (p10 : Int32) (h0 : Heap) (n0 : Nat) (Z0 : n0 ≤ h0.size) (F0_0 : Arv Z h0 a1 k2 .byte (8 : Int32) [(.int p3), (.int p4), (.int p5), (.int p6), (.int p7), (.int p8), (.int p9), (.int p10)] (.int (0 : Int32))) :
    MetFree l (⟨"com/example/parlance/parlance/MessageBytes", "codePointAt", "([BI)I"⟩ : MethodName) (head1 (Jvm.Cond.code (⟨"com/example/parlance/parlance/MessageBytes", "codePointAt", "([BI)I"⟩ : MethodName) prog_4_method_8_code 6 (some .int) :: ws) R2_98) (fun a U => a = #[(.ref a1), (.int (0 : Int32))] ∧ Z.Warmed39 U.vm ∧ U.heap = h0) (fun _ _ _ _ _ => True) (fun _ U o U' => ∃ v L, o = .returned v ∧ Q2_98 Z a1 k2 p3 p4 p5 p6 p7 p8 p9 p10 h0 n0 v U'.heap L ∧ FrameEnd U o U' L R2_98.cells R2_98.slots) := by
 refine MetFree.of_bodySF (plainFor_of_name pn_1) hisR ?_
 intro p e s m args below meth c s₁ Bd hml0 hP hK
 obtain ⟨rfl, hZ, hh⟩ := hP
 have hx := Bd.exec
 have hby := Bd.bytes
 have hml : c.maxLocals = 6 := hml0
 have hlk : meth.locks = false := Bd.notSynchronized
 have hown : s.vm.findClass "com/example/parlance/parlance/MessageBytes" = some m.cls := findClass_of_methodNamed Bd.named
 have hnm := (name_of_methodNamed Bd.named Bd.method).1
 have X0 : Stand p l e R2_98 s m #[(.ref a1), (.int (0 : Int32))] below meth c s₁ [] 0 0 := Stand.of_body Bd
 have e0 : s₁.heap = h0 := by rw [← hh, Bd.state]; rfl
 have N0 := Fr.nil n0
 rw [ef2_98 m a1]
 show KEnds p e below s R2_98.cells R2_98.slots (Q2_98 Z a1 k2 p3 p4 p5 p6 p7 p8 p9 p10 h0 n0) s₁ (mkF m 0 #[.val (.ref a1), .val (.int (0 : Int32)), .unset, .unset, .unset, .unset] [])
 refine k_aloadN X0 hx (hb hby d2_0) rfl rfl (pc' := 1) rfl ?_
 refine k_iloadN X0 hx (hb hby d2_1) rfl (pc' := 2) rfl ?_
 refine k_baload X0 hx hZ e0 F0_0 ⟨by decide, by decide⟩ (v := (.int p3)) rfl (hb hby d2_2) (pc' := 3) rfl ?_
 refine k_sipush X0 hx (hb hby d2_3) (pc' := 6) rfl (z := (255 : Int32)) rfl ?_
 refine k_iand X0 hx (hb hby d2_6) (pc' := 7) rfl (fun v99 hv99 => ?_)
 refine k_istoreN X0 hx (hb hby d2_7) (Ls' := #[.val (.ref a1), .val (.int (0 : Int32)), .val (.int v99), .unset, .unset, .unset]) rfl (pc' := 8) rfl ?_
 refine k_aloadN X0 hx (hb hby d2_8) rfl rfl (pc' := 9) rfl ?_
 refine k_iloadN X0 hx (hb hby d2_9) rfl (pc' := 10) rfl ?_
 refine k_baload X0 hx hZ e0 F0_0 ⟨by decide, by decide⟩ (v := (.int p3)) rfl (hb hby d2_10) (pc' := 11) rfl ?_
 refine k_callS X0 hx hZ hown (hw _ (List.mem_of_getElem? (i := 11) rfl)) (hw _ (List.mem_of_getElem? (i := 12) rfl)) (hw _ (List.mem_of_getElem? (i := 9) rfl)) (hw _ (List.mem_of_getElem? (i := 13) rfl)) (by decide) (rm3_100 l Z a0 hw [] p3 h0 n0 Z0 ) (by decide) (by decide) e0 (by rw [hml]; rfl) (argsL := [(.int p3)]) (rest := []) (lenOf pd_1 rfl) rfl (W := 0) (Nat.le_refl _) rfl (hb hby d2_11) (by decide) (by decide) (pc' := 14) rfl (fun T105 L105 r105 X105 q105 => ?_)
 obtain ⟨N105, e105, q105⟩ := q105
 have N105' := Fr.app N0 N105
 rcases q105 with ⟨v106, h107, hc108, hc109, hc110, rfl⟩ | ⟨v111, h112, hc113, hc114, hc115, rfl⟩ | ⟨v116, h117, hc118, hc119, rfl⟩ | ⟨v120, h121, hc122, rfl⟩
 ·
  have hh123 : v99 = v106 := hv99.trans h107.symm
  subst hh123
  show KEnds p e below s _ _ _ T105 (mkF m 14 #[.val (.ref a1), .val (.int (0 : Int32)), .val (.int v99), .unset, .unset, .unset] [(.int (4 : Int32))])
  refine k_istoreN X105 hx (hb hby d2_14) (Ls' := #[.val (.ref a1), .val (.int (0 : Int32)), .val (.int v99), .val (.int (4 : Int32)), .unset, .unset]) rfl (pc' := 15) rfl ?_
  refine k_iloadN X105 hx (hb hby d2_15) rfl (pc' := 16) rfl ?_
  refine k_iconst X105 hx (hb hby d2_16) (pc' := 17) rfl (z := (1 : Int32)) rfl ?_
  refine k_icmp_ne X105 hx (hb hby d2_17) (pn := 20) rfl (py := 22) (by decide) (fun _ => ?_) (fun hc => absurd hc (by decide))
  refine k_iloadN X105 hx (hb hby d2_22) rfl (pc' := 23) rfl ?_
  refine k_bipush X105 hx (hb hby d2_23) (pc' := 25) rfl (z := (127 : Int32)) rfl ?_
  refine k_iloadN X105 hx (hb hby d2_25) rfl (pc' := 26) rfl ?_
  refine k_ishrL X105 hx (hb hby d2_26) (pc' := 27) rfl (z := (7 : Int32)) (by decide) ?_
  refine k_iand X105 hx (hb hby d2_27) (pc' := 28) rfl (fun v124 hv124 => ?_)
  refine k_istore X105 hx (hb hby d2_28) (Ls' := #[.val (.ref a1), .val (.int (0 : Int32)), .val (.int v99), .val (.int (4 : Int32)), .val (.int v124), .unset]) rfl (pc' := 30) rfl ?_
  refine k_iloadN X105 hx (hb hby d2_30) rfl (pc' := 31) rfl ?_
  refine k_iconst X105 hx (hb hby d2_31) (pc' := 32) rfl (z := (1 : Int32)) rfl ?_
  refine k_iaddL X105 hx (hb hby d2_32) (pc' := 33) rfl (z := (1 : Int32)) (by decide) ?_
  refine k_istore X105 hx (hb hby d2_33) (Ls' := #[.val (.ref a1), .val (.int (0 : Int32)), .val (.int v99), .val (.int (4 : Int32)), .val (.int v124), .val (.int (1 : Int32))]) rfl (pc' := 35) rfl ?_
  refine k_iload X105 hx (hb hby d2_35) rfl (pc' := 37) rfl ?_
  refine k_iloadN X105 hx (hb hby d2_37) rfl (pc' := 38) rfl ?_
  refine k_iloadN X105 hx (hb hby d2_38) rfl (pc' := 39) rfl ?_
  refine k_iaddL X105 hx (hb hby d2_39) (pc' := 40) rfl (z := (4 : Int32)) (by decide) ?_
  refine k_icmp_ge X105 hx (hb hby d2_40) (pn := 43) rfl (py := 64) (by decide) (fun hc => absurd (by decide) hc) (fun _ => ?_)
  refine k_iload X105 hx (hb hby d2_43) rfl (pc' := 45) rfl ?_
  refine k_bipush X105 hx (hb hby d2_45) (pc' := 47) rfl (z := (6 : Int32)) rfl ?_
  refine k_ishl X105 hx (hb hby d2_47) (pc' := 48) rfl (fun v125 hv125 => ?_)
  refine k_aloadN X105 hx (hb hby d2_48) rfl rfl (pc' := 49) rfl ?_
  refine k_iload X105 hx (hb hby d2_49) rfl (pc' := 51) rfl ?_
  refine k_baload X105 hx hZ e105 F0_0 ⟨by decide, by decide⟩ (v := (.int p4)) rfl (hb hby d2_51) (pc' := 52) rfl ?_
  refine k_bipush X105 hx (hb hby d2_52) (pc' := 54) rfl (z := (63 : Int32)) rfl ?_
  refine k_iand X105 hx (hb hby d2_54) (pc' := 55) rfl (fun v126 hv126 => ?_)
  refine k_ior X105 hx (hb hby d2_55) (pc' := 56) rfl (fun v127 hv127 => ?_)
  refine k_istore X105 hx (hb hby d2_56) (Ls' := #[.val (.ref a1), .val (.int (0 : Int32)), .val (.int v99), .val (.int (4 : Int32)), .val (.int v127), .val (.int (1 : Int32))]) rfl (pc' := 58) rfl ?_
  refine k_iinc X105 hx (hb hby d2_58) rfl (pc' := 61) rfl (z := (2 : Int32)) (by decide) (Ls' := #[.val (.ref a1), .val (.int (0 : Int32)), .val (.int v99), .val (.int (4 : Int32)), .val (.int v127), .val (.int (2 : Int32))]) rfl ?_
  refine k_goto X105 hx (hb hby d2_61) (pc' := 35) (by decide) ?_
  refine k_iload X105 hx (hb hby d2_35) rfl (pc' := 37) rfl ?_
  refine k_iloadN X105 hx (hb hby d2_37) rfl (pc' := 38) rfl ?_
  refine k_iloadN X105 hx (hb hby d2_38) rfl (pc' := 39) rfl ?_
  refine k_iaddL X105 hx (hb hby d2_39) (pc' := 40) rfl (z := (4 : Int32)) (by decide) ?_
  refine k_icmp_ge X105 hx (hb hby d2_40) (pn := 43) rfl (py := 64) (by decide) (fun hc => absurd (by decide) hc) (fun _ => ?_)
  refine k_iload X105 hx (hb hby d2_43) rfl (pc' := 45) rfl ?_
  refine k_bipush X105 hx (hb hby d2_45) (pc' := 47) rfl (z := (6 : Int32)) rfl ?_
  refine k_ishl X105 hx (hb hby d2_47) (pc' := 48) rfl (fun v128 hv128 => ?_)
  refine k_aloadN X105 hx (hb hby d2_48) rfl rfl (pc' := 49) rfl ?_
  refine k_iload X105 hx (hb hby d2_49) rfl (pc' := 51) rfl ?_
  refine k_baload X105 hx hZ e105 F0_0 ⟨by decide, by decide⟩ (v := (.int p5)) rfl (hb hby d2_51) (pc' := 52) rfl ?_
  refine k_bipush X105 hx (hb hby d2_52) (pc' := 54) rfl (z := (63 : Int32)) rfl ?_
  refine k_iand X105 hx (hb hby d2_54) (pc' := 55) rfl (fun v129 hv129 => ?_)
  refine k_ior X105 hx (hb hby d2_55) (pc' := 56) rfl (fun v130 hv130 => ?_)
  refine k_istore X105 hx (hb hby d2_56) (Ls' := #[.val (.ref a1), .val (.int (0 : Int32)), .val (.int v99), .val (.int (4 : Int32)), .val (.int v130), .val (.int (2 : Int32))]) rfl (pc' := 58) rfl ?_
  refine k_iinc X105 hx (hb hby d2_58) rfl (pc' := 61) rfl (z := (3 : Int32)) (by decide) (Ls' := #[.val (.ref a1), .val (.int (0 : Int32)), .val (.int v99), .val (.int (4 : Int32)), .val (.int v130), .val (.int (3 : Int32))]) rfl ?_
  refine k_goto X105 hx (hb hby d2_61) (pc' := 35) (by decide) ?_
  refine k_iload X105 hx (hb hby d2_35) rfl (pc' := 37) rfl ?_
  refine k_iloadN X105 hx (hb hby d2_37) rfl (pc' := 38) rfl ?_
  refine k_iloadN X105 hx (hb hby d2_38) rfl (pc' := 39) rfl ?_
  refine k_iaddL X105 hx (hb hby d2_39) (pc' := 40) rfl (z := (4 : Int32)) (by decide) ?_
  refine k_icmp_ge X105 hx (hb hby d2_40) (pn := 43) rfl (py := 64) (by decide) (fun hc => absurd (by decide) hc) (fun _ => ?_)
  refine k_iload X105 hx (hb hby d2_43) rfl (pc' := 45) rfl ?_
  refine k_bipush X105 hx (hb hby d2_45) (pc' := 47) rfl (z := (6 : Int32)) rfl ?_
  refine k_ishl X105 hx (hb hby d2_47) (pc' := 48) rfl (fun v131 hv131 => ?_)
  refine k_aloadN X105 hx (hb hby d2_48) rfl rfl (pc' := 49) rfl ?_
  refine k_iload X105 hx (hb hby d2_49) rfl (pc' := 51) rfl ?_
  refine k_baload X105 hx hZ e105 F0_0 ⟨by decide, by decide⟩ (v := (.int p6)) rfl (hb hby d2_51) (pc' := 52) rfl ?_
  refine k_bipush X105 hx (hb hby d2_52) (pc' := 54) rfl (z := (63 : Int32)) rfl ?_
  refine k_iand X105 hx (hb hby d2_54) (pc' := 55) rfl (fun v132 hv132 => ?_)
  refine k_ior X105 hx (hb hby d2_55) (pc' := 56) rfl (fun v133 hv133 => ?_)
  refine k_istore X105 hx (hb hby d2_56) (Ls' := #[.val (.ref a1), .val (.int (0 : Int32)), .val (.int v99), .val (.int (4 : Int32)), .val (.int v133), .val (.int (3 : Int32))]) rfl (pc' := 58) rfl ?_
  refine k_iinc X105 hx (hb hby d2_58) rfl (pc' := 61) rfl (z := (4 : Int32)) (by decide) (Ls' := #[.val (.ref a1), .val (.int (0 : Int32)), .val (.int v99), .val (.int (4 : Int32)), .val (.int v133), .val (.int (4 : Int32))]) rfl ?_
  refine k_goto X105 hx (hb hby d2_61) (pc' := 35) (by decide) ?_
  refine k_iload X105 hx (hb hby d2_35) rfl (pc' := 37) rfl ?_
  refine k_iloadN X105 hx (hb hby d2_37) rfl (pc' := 38) rfl ?_
  refine k_iloadN X105 hx (hb hby d2_38) rfl (pc' := 39) rfl ?_
  refine k_iaddL X105 hx (hb hby d2_39) (pc' := 40) rfl (z := (4 : Int32)) (by decide) ?_
  refine k_icmp_ge X105 hx (hb hby d2_40) (pn := 43) rfl (py := 64) (by decide) (fun _ => ?_) (fun hc => absurd hc (by decide))
  refine k_iload X105 hx (hb hby d2_64) rfl (pc' := 66) rfl ?_
  exact k_retI X105 hx Bd.returns (hb hby d2_66) hlk (by decide) (by decide) ⟨N105', e105, (Or.inl ⟨v99, v124, v125, v126, v127, v128, v129, v130, v131, v132, v133, hv99, hv124, hv125, hv126, hv127, hv128, hv129, hv130, hv131, hv132, hv133, hc108, hc109, hc110, rfl⟩)⟩
 ·
  have hh134 : v99 = v111 := hv99.trans h112.symm
  subst hh134
  show KEnds p e below s _ _ _ T105 (mkF m 14 #[.val (.ref a1), .val (.int (0 : Int32)), .val (.int v99), .unset, .unset, .unset] [(.int (3 : Int32))])
  refine k_istoreN X105 hx (hb hby d2_14) (Ls' := #[.val (.ref a1), .val (.int (0 : Int32)), .val (.int v99), .val (.int (3 : Int32)), .unset, .unset]) rfl (pc' := 15) rfl ?_
  refine k_iloadN X105 hx (hb hby d2_15) rfl (pc' := 16) rfl ?_
  refine k_iconst X105 hx (hb hby d2_16) (pc' := 17) rfl (z := (1 : Int32)) rfl ?_
  refine k_icmp_ne X105 hx (hb hby d2_17) (pn := 20) rfl (py := 22) (by decide) (fun _ => ?_) (fun hc => absurd hc (by decide))
  refine k_iloadN X105 hx (hb hby d2_22) rfl (pc' := 23) rfl ?_
  refine k_bipush X105 hx (hb hby d2_23) (pc' := 25) rfl (z := (127 : Int32)) rfl ?_
  refine k_iloadN X105 hx (hb hby d2_25) rfl (pc' := 26) rfl ?_
  refine k_ishrL X105 hx (hb hby d2_26) (pc' := 27) rfl (z := (15 : Int32)) (by decide) ?_
  refine k_iand X105 hx (hb hby d2_27) (pc' := 28) rfl (fun v135 hv135 => ?_)
  refine k_istore X105 hx (hb hby d2_28) (Ls' := #[.val (.ref a1), .val (.int (0 : Int32)), .val (.int v99), .val (.int (3 : Int32)), .val (.int v135), .unset]) rfl (pc' := 30) rfl ?_
  refine k_iloadN X105 hx (hb hby d2_30) rfl (pc' := 31) rfl ?_
  refine k_iconst X105 hx (hb hby d2_31) (pc' := 32) rfl (z := (1 : Int32)) rfl ?_
  refine k_iaddL X105 hx (hb hby d2_32) (pc' := 33) rfl (z := (1 : Int32)) (by decide) ?_
  refine k_istore X105 hx (hb hby d2_33) (Ls' := #[.val (.ref a1), .val (.int (0 : Int32)), .val (.int v99), .val (.int (3 : Int32)), .val (.int v135), .val (.int (1 : Int32))]) rfl (pc' := 35) rfl ?_
  refine k_iload X105 hx (hb hby d2_35) rfl (pc' := 37) rfl ?_
  refine k_iloadN X105 hx (hb hby d2_37) rfl (pc' := 38) rfl ?_
  refine k_iloadN X105 hx (hb hby d2_38) rfl (pc' := 39) rfl ?_
  refine k_iaddL X105 hx (hb hby d2_39) (pc' := 40) rfl (z := (3 : Int32)) (by decide) ?_
  refine k_icmp_ge X105 hx (hb hby d2_40) (pn := 43) rfl (py := 64) (by decide) (fun hc => absurd (by decide) hc) (fun _ => ?_)
  refine k_iload X105 hx (hb hby d2_43) rfl (pc' := 45) rfl ?_
  refine k_bipush X105 hx (hb hby d2_45) (pc' := 47) rfl (z := (6 : Int32)) rfl ?_
  refine k_ishl X105 hx (hb hby d2_47) (pc' := 48) rfl (fun v136 hv136 => ?_)
  refine k_aloadN X105 hx (hb hby d2_48) rfl rfl (pc' := 49) rfl ?_
  refine k_iload X105 hx (hb hby d2_49) rfl (pc' := 51) rfl ?_
  refine k_baload X105 hx hZ e105 F0_0 ⟨by decide, by decide⟩ (v := (.int p4)) rfl (hb hby d2_51) (pc' := 52) rfl ?_
  refine k_bipush X105 hx (hb hby d2_52) (pc' := 54) rfl (z := (63 : Int32)) rfl ?_
  refine k_iand X105 hx (hb hby d2_54) (pc' := 55) rfl (fun v137 hv137 => ?_)
  refine k_ior X105 hx (hb hby d2_55) (pc' := 56) rfl (fun v138 hv138 => ?_)
  refine k_istore X105 hx (hb hby d2_56) (Ls' := #[.val (.ref a1), .val (.int (0 : Int32)), .val (.int v99), .val (.int (3 : Int32)), .val (.int v138), .val (.int (1 : Int32))]) rfl (pc' := 58) rfl ?_
  refine k_iinc X105 hx (hb hby d2_58) rfl (pc' := 61) rfl (z := (2 : Int32)) (by decide) (Ls' := #[.val (.ref a1), .val (.int (0 : Int32)), .val (.int v99), .val (.int (3 : Int32)), .val (.int v138), .val (.int (2 : Int32))]) rfl ?_
  refine k_goto X105 hx (hb hby d2_61) (pc' := 35) (by decide) ?_
  refine k_iload X105 hx (hb hby d2_35) rfl (pc' := 37) rfl ?_
  refine k_iloadN X105 hx (hb hby d2_37) rfl (pc' := 38) rfl ?_
  refine k_iloadN X105 hx (hb hby d2_38) rfl (pc' := 39) rfl ?_
  refine k_iaddL X105 hx (hb hby d2_39) (pc' := 40) rfl (z := (3 : Int32)) (by decide) ?_
  refine k_icmp_ge X105 hx (hb hby d2_40) (pn := 43) rfl (py := 64) (by decide) (fun hc => absurd (by decide) hc) (fun _ => ?_)
  refine k_iload X105 hx (hb hby d2_43) rfl (pc' := 45) rfl ?_
  refine k_bipush X105 hx (hb hby d2_45) (pc' := 47) rfl (z := (6 : Int32)) rfl ?_
  refine k_ishl X105 hx (hb hby d2_47) (pc' := 48) rfl (fun v139 hv139 => ?_)
  refine k_aloadN X105 hx (hb hby d2_48) rfl rfl (pc' := 49) rfl ?_
  refine k_iload X105 hx (hb hby d2_49) rfl (pc' := 51) rfl ?_
  refine k_baload X105 hx hZ e105 F0_0 ⟨by decide, by decide⟩ (v := (.int p5)) rfl (hb hby d2_51) (pc' := 52) rfl ?_
  refine k_bipush X105 hx (hb hby d2_52) (pc' := 54) rfl (z := (63 : Int32)) rfl ?_
  refine k_iand X105 hx (hb hby d2_54) (pc' := 55) rfl (fun v140 hv140 => ?_)
  refine k_ior X105 hx (hb hby d2_55) (pc' := 56) rfl (fun v141 hv141 => ?_)
  refine k_istore X105 hx (hb hby d2_56) (Ls' := #[.val (.ref a1), .val (.int (0 : Int32)), .val (.int v99), .val (.int (3 : Int32)), .val (.int v141), .val (.int (2 : Int32))]) rfl (pc' := 58) rfl ?_
  refine k_iinc X105 hx (hb hby d2_58) rfl (pc' := 61) rfl (z := (3 : Int32)) (by decide) (Ls' := #[.val (.ref a1), .val (.int (0 : Int32)), .val (.int v99), .val (.int (3 : Int32)), .val (.int v141), .val (.int (3 : Int32))]) rfl ?_
  refine k_goto X105 hx (hb hby d2_61) (pc' := 35) (by decide) ?_
  refine k_iload X105 hx (hb hby d2_35) rfl (pc' := 37) rfl ?_
  refine k_iloadN X105 hx (hb hby d2_37) rfl (pc' := 38) rfl ?_
  refine k_iloadN X105 hx (hb hby d2_38) rfl (pc' := 39) rfl ?_
  refine k_iaddL X105 hx (hb hby d2_39) (pc' := 40) rfl (z := (3 : Int32)) (by decide) ?_
  refine k_icmp_ge X105 hx (hb hby d2_40) (pn := 43) rfl (py := 64) (by decide) (fun _ => ?_) (fun hc => absurd hc (by decide))
  refine k_iload X105 hx (hb hby d2_64) rfl (pc' := 66) rfl ?_
  exact k_retI X105 hx Bd.returns (hb hby d2_66) hlk (by decide) (by decide) ⟨N105', e105, (Or.inr (Or.inl ⟨v99, v135, v136, v137, v138, v139, v140, v141, hv99, hv135, hv136, hv137, hv138, hv139, hv140, hv141, hc113, hc114, hc115, rfl⟩))⟩
 ·
  have hh142 : v99 = v116 := hv99.trans h117.symm
  subst hh142
  show KEnds p e below s _ _ _ T105 (mkF m 14 #[.val (.ref a1), .val (.int (0 : Int32)), .val (.int v99), .unset, .unset, .unset] [(.int (2 : Int32))])
  refine k_istoreN X105 hx (hb hby d2_14) (Ls' := #[.val (.ref a1), .val (.int (0 : Int32)), .val (.int v99), .val (.int (2 : Int32)), .unset, .unset]) rfl (pc' := 15) rfl ?_
  refine k_iloadN X105 hx (hb hby d2_15) rfl (pc' := 16) rfl ?_
  refine k_iconst X105 hx (hb hby d2_16) (pc' := 17) rfl (z := (1 : Int32)) rfl ?_
  refine k_icmp_ne X105 hx (hb hby d2_17) (pn := 20) rfl (py := 22) (by decide) (fun _ => ?_) (fun hc => absurd hc (by decide))
  refine k_iloadN X105 hx (hb hby d2_22) rfl (pc' := 23) rfl ?_
  refine k_bipush X105 hx (hb hby d2_23) (pc' := 25) rfl (z := (127 : Int32)) rfl ?_
  refine k_iloadN X105 hx (hb hby d2_25) rfl (pc' := 26) rfl ?_
  refine k_ishrL X105 hx (hb hby d2_26) (pc' := 27) rfl (z := (31 : Int32)) (by decide) ?_
  refine k_iand X105 hx (hb hby d2_27) (pc' := 28) rfl (fun v143 hv143 => ?_)
  refine k_istore X105 hx (hb hby d2_28) (Ls' := #[.val (.ref a1), .val (.int (0 : Int32)), .val (.int v99), .val (.int (2 : Int32)), .val (.int v143), .unset]) rfl (pc' := 30) rfl ?_
  refine k_iloadN X105 hx (hb hby d2_30) rfl (pc' := 31) rfl ?_
  refine k_iconst X105 hx (hb hby d2_31) (pc' := 32) rfl (z := (1 : Int32)) rfl ?_
  refine k_iaddL X105 hx (hb hby d2_32) (pc' := 33) rfl (z := (1 : Int32)) (by decide) ?_
  refine k_istore X105 hx (hb hby d2_33) (Ls' := #[.val (.ref a1), .val (.int (0 : Int32)), .val (.int v99), .val (.int (2 : Int32)), .val (.int v143), .val (.int (1 : Int32))]) rfl (pc' := 35) rfl ?_
  refine k_iload X105 hx (hb hby d2_35) rfl (pc' := 37) rfl ?_
  refine k_iloadN X105 hx (hb hby d2_37) rfl (pc' := 38) rfl ?_
  refine k_iloadN X105 hx (hb hby d2_38) rfl (pc' := 39) rfl ?_
  refine k_iaddL X105 hx (hb hby d2_39) (pc' := 40) rfl (z := (2 : Int32)) (by decide) ?_
  refine k_icmp_ge X105 hx (hb hby d2_40) (pn := 43) rfl (py := 64) (by decide) (fun hc => absurd (by decide) hc) (fun _ => ?_)
  refine k_iload X105 hx (hb hby d2_43) rfl (pc' := 45) rfl ?_
  refine k_bipush X105 hx (hb hby d2_45) (pc' := 47) rfl (z := (6 : Int32)) rfl ?_
  refine k_ishl X105 hx (hb hby d2_47) (pc' := 48) rfl (fun v144 hv144 => ?_)
  refine k_aloadN X105 hx (hb hby d2_48) rfl rfl (pc' := 49) rfl ?_
  refine k_iload X105 hx (hb hby d2_49) rfl (pc' := 51) rfl ?_
  refine k_baload X105 hx hZ e105 F0_0 ⟨by decide, by decide⟩ (v := (.int p4)) rfl (hb hby d2_51) (pc' := 52) rfl ?_
  refine k_bipush X105 hx (hb hby d2_52) (pc' := 54) rfl (z := (63 : Int32)) rfl ?_
  refine k_iand X105 hx (hb hby d2_54) (pc' := 55) rfl (fun v145 hv145 => ?_)
  refine k_ior X105 hx (hb hby d2_55) (pc' := 56) rfl (fun v146 hv146 => ?_)
  refine k_istore X105 hx (hb hby d2_56) (Ls' := #[.val (.ref a1), .val (.int (0 : Int32)), .val (.int v99), .val (.int (2 : Int32)), .val (.int v146), .val (.int (1 : Int32))]) rfl (pc' := 58) rfl ?_
  refine k_iinc X105 hx (hb hby d2_58) rfl (pc' := 61) rfl (z := (2 : Int32)) (by decide) (Ls' := #[.val (.ref a1), .val (.int (0 : Int32)), .val (.int v99), .val (.int (2 : Int32)), .val (.int v146), .val (.int (2 : Int32))]) rfl ?_
  refine k_goto X105 hx (hb hby d2_61) (pc' := 35) (by decide) ?_
  refine k_iload X105 hx (hb hby d2_35) rfl (pc' := 37) rfl ?_
  refine k_iloadN X105 hx (hb hby d2_37) rfl (pc' := 38) rfl ?_
  refine k_iloadN X105 hx (hb hby d2_38) rfl (pc' := 39) rfl ?_
  refine k_iaddL X105 hx (hb hby d2_39) (pc' := 40) rfl (z := (2 : Int32)) (by decide) ?_
  refine k_icmp_ge X105 hx (hb hby d2_40) (pn := 43) rfl (py := 64) (by decide) (fun _ => ?_) (fun hc => absurd hc (by decide))
  refine k_iload X105 hx (hb hby d2_64) rfl (pc' := 66) rfl ?_
  exact k_retI X105 hx Bd.returns (hb hby d2_66) hlk (by decide) (by decide) ⟨N105', e105, (Or.inr (Or.inr (Or.inl ⟨v99, v143, v144, v145, v146, hv99, hv143, hv144, hv145, hv146, hc118, hc119, rfl⟩)))⟩
 ·
  have hh147 : v99 = v120 := hv99.trans h121.symm
  subst hh147
  show KEnds p e below s _ _ _ T105 (mkF m 14 #[.val (.ref a1), .val (.int (0 : Int32)), .val (.int v99), .unset, .unset, .unset] [(.int (1 : Int32))])
  refine k_istoreN X105 hx (hb hby d2_14) (Ls' := #[.val (.ref a1), .val (.int (0 : Int32)), .val (.int v99), .val (.int (1 : Int32)), .unset, .unset]) rfl (pc' := 15) rfl ?_
  refine k_iloadN X105 hx (hb hby d2_15) rfl (pc' := 16) rfl ?_
  refine k_iconst X105 hx (hb hby d2_16) (pc' := 17) rfl (z := (1 : Int32)) rfl ?_
  refine k_icmp_ne X105 hx (hb hby d2_17) (pn := 20) rfl (py := 22) (by decide) (fun hc => absurd (by decide) hc) (fun _ => ?_)
  refine k_iloadN X105 hx (hb hby d2_20) rfl (pc' := 21) rfl ?_
  exact k_retI X105 hx Bd.returns (hb hby d2_21) hlk (by decide) (by decide) ⟨N105', e105, (Or.inr (Or.inr (Or.inr ⟨v99, hv99, hc122, rfl⟩)))⟩
theorem pd_2 : parseMethodDescriptor "([BI)I" = some ⟨[(.array .byte), .int], some .int⟩ := by decide +kernel
abbrev R2_323 : Room := { frames := 1, cells := 0, slots := 0, locals := 14 }
def Q2_323 (Z : State) (a1 : Addr) (k2 : ClassId) (p3 : Int32) (p4 : Int32) (p5 : Int32) (p6 : Int32) (p7 : Int32) (p8 : Int32) (p9 : Int32) (p10 : Int32) (h0 : Heap) (n0 : Nat) (v : Option Value) (h : Heap) (L : List Loc) : Prop := Fr n0 L ∧ h = h0 ∧ ((∃ (v324 : Int32) (v344 : Int32) (v345 : Int32) (v346 : Int32) (v347 : Int32) (v348 : Int32) (v349 : Int32) (v350 : Int32) (v351 : Int32) (v352 : Int32) (v353 : Int32), v324 = p4 &&& (255 : Int32) ∧ v344 = v324 &&& (7 : Int32) ∧ v345 = v344 <<< ((6 : Int32) &&& 31) ∧ v346 = p5 &&& (63 : Int32) ∧ v347 = v345 ||| v346 ∧ v348 = v347 <<< ((6 : Int32) &&& 31) ∧ v349 = p6 &&& (63 : Int32) ∧ v350 = v348 ||| v349 ∧ v351 = v350 <<< ((6 : Int32) &&& 31) ∧ v352 = p7 &&& (63 : Int32) ∧ v353 = v351 ||| v352 ∧ ¬ v324 < (128 : Int32) ∧ ¬ v324 < (224 : Int32) ∧ ¬ v324 < (240 : Int32) ∧ v = some (.int v353)) ∨ (∃ (v324 : Int32) (v355 : Int32) (v356 : Int32) (v357 : Int32) (v358 : Int32) (v359 : Int32) (v360 : Int32) (v361 : Int32), v324 = p4 &&& (255 : Int32) ∧ v355 = v324 &&& (15 : Int32) ∧ v356 = v355 <<< ((6 : Int32) &&& 31) ∧ v357 = p5 &&& (63 : Int32) ∧ v358 = v356 ||| v357 ∧ v359 = v358 <<< ((6 : Int32) &&& 31) ∧ v360 = p6 &&& (63 : Int32) ∧ v361 = v359 ||| v360 ∧ ¬ v324 < (128 : Int32) ∧ ¬ v324 < (224 : Int32) ∧ v324 < (240 : Int32) ∧ v = some (.int v361)) ∨ (∃ (v324 : Int32) (v363 : Int32) (v364 : Int32) (v365 : Int32) (v366 : Int32), v324 = p4 &&& (255 : Int32) ∧ v363 = v324 &&& (31 : Int32) ∧ v364 = v363 <<< ((6 : Int32) &&& 31) ∧ v365 = p5 &&& (63 : Int32) ∧ v366 = v364 ||| v365 ∧ ¬ v324 < (128 : Int32) ∧ v324 < (224 : Int32) ∧ v = some (.int v366)) ∨ (∃ (v324 : Int32), v324 = p4 &&& (255 : Int32) ∧ v324 < (128 : Int32) ∧ v = some (.int v324)))
theorem ef2_323 (m : MethodId) (x0 : Addr) : entryFrame m #[(.ref x0), (.int (1 : Int32))] 6 = mkF m 0 #[.val (.ref x0), .val (.int (1 : Int32)), .unset, .unset, .unset, .unset] [] := by first | (simp [entryFrame, mkF, argsToLocals, Value.category]; done) | rfl
set_option maxRecDepth 65536 in
set_option maxHeartbeats 40000000 in
theorem rm2_323 (l : Launch) (Z : State) (a0 : Array Value) (hw : ∀ d ∈ tables_1, d.before a0 Z = true) (ws : List Jvm.Cond) (a1 : Addr) (k2 : ClassId) (p3 : Int32) (p4 : Int32) (p5 : Int32) (p6 : Int32) (p7 : Int32) (p8 : Int32) (p9 : Int32) (p10 : Int32) (h0 : Heap) (n0 : Nat) (Z0 : n0 ≤ h0.size) (F0_0 : Arv Z h0 a1 k2 .byte (8 : Int32) [(.int p3), (.int p4), (.int p5), (.int p6), (.int p7), (.int p8), (.int p9), (.int p10)] (.int (0 : Int32))) :
    MetFree l (⟨"com/example/parlance/parlance/MessageBytes", "codePointAt", "([BI)I"⟩ : MethodName) (head1 (Jvm.Cond.code (⟨"com/example/parlance/parlance/MessageBytes", "codePointAt", "([BI)I"⟩ : MethodName) prog_4_method_8_code 6 (some .int) :: ws) R2_323) (fun a U => a = #[(.ref a1), (.int (1 : Int32))] ∧ Z.Warmed39 U.vm ∧ U.heap = h0) (fun _ _ _ _ _ => True) (fun _ U o U' => ∃ v L, o = .returned v ∧ Q2_323 Z a1 k2 p3 p4 p5 p6 p7 p8 p9 p10 h0 n0 v U'.heap L ∧ FrameEnd U o U' L R2_323.cells R2_323.slots) := by
 refine MetFree.of_bodySF (plainFor_of_name pn_1) hisR ?_
 intro p e s m args below meth c s₁ Bd hml0 hP hK
 obtain ⟨rfl, hZ, hh⟩ := hP
 have hx := Bd.exec
 have hby := Bd.bytes
 have hml : c.maxLocals = 6 := hml0
 have hlk : meth.locks = false := Bd.notSynchronized
 have hown : s.vm.findClass "com/example/parlance/parlance/MessageBytes" = some m.cls := findClass_of_methodNamed Bd.named
 have hnm := (name_of_methodNamed Bd.named Bd.method).1
 have X0 : Stand p l e R2_323 s m #[(.ref a1), (.int (1 : Int32))] below meth c s₁ [] 0 0 := Stand.of_body Bd
 have e0 : s₁.heap = h0 := by rw [← hh, Bd.state]; rfl
 have N0 := Fr.nil n0
 rw [ef2_323 m a1]
 show KEnds p e below s R2_323.cells R2_323.slots (Q2_323 Z a1 k2 p3 p4 p5 p6 p7 p8 p9 p10 h0 n0) s₁ (mkF m 0 #[.val (.ref a1), .val (.int (1 : Int32)), .unset, .unset, .unset, .unset] [])
 refine k_aloadN X0 hx (hb hby d2_0) rfl rfl (pc' := 1) rfl ?_
 refine k_iloadN X0 hx (hb hby d2_1) rfl (pc' := 2) rfl ?_
 refine k_baload X0 hx hZ e0 F0_0 ⟨by decide, by decide⟩ (v := (.int p4)) rfl (hb hby d2_2) (pc' := 3) rfl ?_
 refine k_sipush X0 hx (hb hby d2_3) (pc' := 6) rfl (z := (255 : Int32)) rfl ?_
 refine k_iand X0 hx (hb hby d2_6) (pc' := 7) rfl (fun v324 hv324 => ?_)
 refine k_istoreN X0 hx (hb hby d2_7) (Ls' := #[.val (.ref a1), .val (.int (1 : Int32)), .val (.int v324), .unset, .unset, .unset]) rfl (pc' := 8) rfl ?_
 refine k_aloadN X0 hx (hb hby d2_8) rfl rfl (pc' := 9) rfl ?_
 refine k_iloadN X0 hx (hb hby d2_9) rfl (pc' := 10) rfl ?_
 refine k_baload X0 hx hZ e0 F0_0 ⟨by decide, by decide⟩ (v := (.int p4)) rfl (hb hby d2_10) (pc' := 11) rfl ?_
 refine k_callS X0 hx hZ hown (hw _ (List.mem_of_getElem? (i := 11) rfl)) (hw _ (List.mem_of_getElem? (i := 12) rfl)) (hw _ (List.mem_of_getElem? (i := 9) rfl)) (hw _ (List.mem_of_getElem? (i := 13) rfl)) (by decide) (rm3_100 l Z a0 hw [] p4 h0 n0 Z0 ) (by decide) (by decide) e0 (by rw [hml]; rfl) (argsL := [(.int p4)]) (rest := []) (lenOf pd_1 rfl) rfl (W := 0) (Nat.le_refl _) rfl (hb hby d2_11) (by decide) (by decide) (pc' := 14) rfl (fun T325 L325 r325 X325 q325 => ?_)
 obtain ⟨N325, e325, q325⟩ := q325
 have N325' := Fr.app N0 N325
 rcases q325 with ⟨v326, h327, hc328, hc329, hc330, rfl⟩ | ⟨v331, h332, hc333, hc334, hc335, rfl⟩ | ⟨v336, h337, hc338, hc339, rfl⟩ | ⟨v340, h341, hc342, rfl⟩
 ·
  have hh343 : v324 = v326 := hv324.trans h327.symm
  subst hh343
  show KEnds p e below s _ _ _ T325 (mkF m 14 #[.val (.ref a1), .val (.int (1 : Int32)), .val (.int v324), .unset, .unset, .unset] [(.int (4 : Int32))])
  refine k_istoreN X325 hx (hb hby d2_14) (Ls' := #[.val (.ref a1), .val (.int (1 : Int32)), .val (.int v324), .val (.int (4 : Int32)), .unset, .unset]) rfl (pc' := 15) rfl ?_
  refine k_iloadN X325 hx (hb hby d2_15) rfl (pc' := 16) rfl ?_
  refine k_iconst X325 hx (hb hby d2_16) (pc' := 17) rfl (z := (1 : Int32)) rfl ?_
  refine k_icmp_ne X325 hx (hb hby d2_17) (pn := 20) rfl (py := 22) (by decide) (fun _ => ?_) (fun hc => absurd hc (by decide))
  refine k_iloadN X325 hx (hb hby d2_22) rfl (pc' := 23) rfl ?_
  refine k_bipush X325 hx (hb hby d2_23) (pc' := 25) rfl (z := (127 : Int32)) rfl ?_
  refine k_iloadN X325 hx (hb hby d2_25) rfl (pc' := 26) rfl ?_
  refine k_ishrL X325 hx (hb hby d2_26) (pc' := 27) rfl (z := (7 : Int32)) (by decide) ?_
  refine k_iand X325 hx (hb hby d2_27) (pc' := 28) rfl (fun v344 hv344 => ?_)
  refine k_istore X325 hx (hb hby d2_28) (Ls' := #[.val (.ref a1), .val (.int (1 : Int32)), .val (.int v324), .val (.int (4 : Int32)), .val (.int v344), .unset]) rfl (pc' := 30) rfl ?_
  refine k_iloadN X325 hx (hb hby d2_30) rfl (pc' := 31) rfl ?_
  refine k_iconst X325 hx (hb hby d2_31) (pc' := 32) rfl (z := (1 : Int32)) rfl ?_
  refine k_iaddL X325 hx (hb hby d2_32) (pc' := 33) rfl (z := (2 : Int32)) (by decide) ?_
  refine k_istore X325 hx (hb hby d2_33) (Ls' := #[.val (.ref a1), .val (.int (1 : Int32)), .val (.int v324), .val (.int (4 : Int32)), .val (.int v344), .val (.int (2 : Int32))]) rfl (pc' := 35) rfl ?_
  refine k_iload X325 hx (hb hby d2_35) rfl (pc' := 37) rfl ?_
  refine k_iloadN X325 hx (hb hby d2_37) rfl (pc' := 38) rfl ?_
  refine k_iloadN X325 hx (hb hby d2_38) rfl (pc' := 39) rfl ?_
  refine k_iaddL X325 hx (hb hby d2_39) (pc' := 40) rfl (z := (5 : Int32)) (by decide) ?_
  refine k_icmp_ge X325 hx (hb hby d2_40) (pn := 43) rfl (py := 64) (by decide) (fun hc => absurd (by decide) hc) (fun _ => ?_)
  refine k_iload X325 hx (hb hby d2_43) rfl (pc' := 45) rfl ?_
  refine k_bipush X325 hx (hb hby d2_45) (pc' := 47) rfl (z := (6 : Int32)) rfl ?_
  refine k_ishl X325 hx (hb hby d2_47) (pc' := 48) rfl (fun v345 hv345 => ?_)
  refine k_aloadN X325 hx (hb hby d2_48) rfl rfl (pc' := 49) rfl ?_
  refine k_iload X325 hx (hb hby d2_49) rfl (pc' := 51) rfl ?_
  refine k_baload X325 hx hZ e325 F0_0 ⟨by decide, by decide⟩ (v := (.int p5)) rfl (hb hby d2_51) (pc' := 52) rfl ?_
  refine k_bipush X325 hx (hb hby d2_52) (pc' := 54) rfl (z := (63 : Int32)) rfl ?_
  refine k_iand X325 hx (hb hby d2_54) (pc' := 55) rfl (fun v346 hv346 => ?_)
  refine k_ior X325 hx (hb hby d2_55) (pc' := 56) rfl (fun v347 hv347 => ?_)
  refine k_istore X325 hx (hb hby d2_56) (Ls' := #[.val (.ref a1), .val (.int (1 : Int32)), .val (.int v324), .val (.int (4 : Int32)), .val (.int v347), .val (.int (2 : Int32))]) rfl (pc' := 58) rfl ?_
  refine k_iinc X325 hx (hb hby d2_58) rfl (pc' := 61) rfl (z := (3 : Int32)) (by decide) (Ls' := #[.val (.ref a1), .val (.int (1 : Int32)), .val (.int v324), .val (.int (4 : Int32)), .val (.int v347), .val (.int (3 : Int32))]) rfl ?_
  refine k_goto X325 hx (hb hby d2_61) (pc' := 35) (by decide) ?_
  refine k_iload X325 hx (hb hby d2_35) rfl (pc' := 37) rfl ?_
  refine k_iloadN X325 hx (hb hby d2_37) rfl (pc' := 38) rfl ?_
  refine k_iloadN X325 hx (hb hby d2_38) rfl (pc' := 39) rfl ?_
  refine k_iaddL X325 hx (hb hby d2_39) (pc' := 40) rfl (z := (5 : Int32)) (by decide) ?_
  refine k_icmp_ge X325 hx (hb hby d2_40) (pn := 43) rfl (py := 64) (by decide) (fun hc => absurd (by decide) hc) (fun _ => ?_)
  refine k_iload X325 hx (hb hby d2_43) rfl (pc' := 45) rfl ?_
  refine k_bipush X325 hx (hb hby d2_45) (pc' := 47) rfl (z := (6 : Int32)) rfl ?_
  refine k_ishl X325 hx (hb hby d2_47) (pc' := 48) rfl (fun v348 hv348 => ?_)
  refine k_aloadN X325 hx (hb hby d2_48) rfl rfl (pc' := 49) rfl ?_
  refine k_iload X325 hx (hb hby d2_49) rfl (pc' := 51) rfl ?_
  refine k_baload X325 hx hZ e325 F0_0 ⟨by decide, by decide⟩ (v := (.int p6)) rfl (hb hby d2_51) (pc' := 52) rfl ?_
  refine k_bipush X325 hx (hb hby d2_52) (pc' := 54) rfl (z := (63 : Int32)) rfl ?_
  refine k_iand X325 hx (hb hby d2_54) (pc' := 55) rfl (fun v349 hv349 => ?_)
  refine k_ior X325 hx (hb hby d2_55) (pc' := 56) rfl (fun v350 hv350 => ?_)
  refine k_istore X325 hx (hb hby d2_56) (Ls' := #[.val (.ref a1), .val (.int (1 : Int32)), .val (.int v324), .val (.int (4 : Int32)), .val (.int v350), .val (.int (3 : Int32))]) rfl (pc' := 58) rfl ?_
  refine k_iinc X325 hx (hb hby d2_58) rfl (pc' := 61) rfl (z := (4 : Int32)) (by decide) (Ls' := #[.val (.ref a1), .val (.int (1 : Int32)), .val (.int v324), .val (.int (4 : Int32)), .val (.int v350), .val (.int (4 : Int32))]) rfl ?_
  refine k_goto X325 hx (hb hby d2_61) (pc' := 35) (by decide) ?_
  refine k_iload X325 hx (hb hby d2_35) rfl (pc' := 37) rfl ?_
  refine k_iloadN X325 hx (hb hby d2_37) rfl (pc' := 38) rfl ?_
  refine k_iloadN X325 hx (hb hby d2_38) rfl (pc' := 39) rfl ?_
  refine k_iaddL X325 hx (hb hby d2_39) (pc' := 40) rfl (z := (5 : Int32)) (by decide) ?_
  refine k_icmp_ge X325 hx (hb hby d2_40) (pn := 43) rfl (py := 64) (by decide) (fun hc => absurd (by decide) hc) (fun _ => ?_)
  refine k_iload X325 hx (hb hby d2_43) rfl (pc' := 45) rfl ?_
  refine k_bipush X325 hx (hb hby d2_45) (pc' := 47) rfl (z := (6 : Int32)) rfl ?_
  refine k_ishl X325 hx (hb hby d2_47) (pc' := 48) rfl (fun v351 hv351 => ?_)
  refine k_aloadN X325 hx (hb hby d2_48) rfl rfl (pc' := 49) rfl ?_
  refine k_iload X325 hx (hb hby d2_49) rfl (pc' := 51) rfl ?_
  refine k_baload X325 hx hZ e325 F0_0 ⟨by decide, by decide⟩ (v := (.int p7)) rfl (hb hby d2_51) (pc' := 52) rfl ?_
  refine k_bipush X325 hx (hb hby d2_52) (pc' := 54) rfl (z := (63 : Int32)) rfl ?_
  refine k_iand X325 hx (hb hby d2_54) (pc' := 55) rfl (fun v352 hv352 => ?_)
  refine k_ior X325 hx (hb hby d2_55) (pc' := 56) rfl (fun v353 hv353 => ?_)
  refine k_istore X325 hx (hb hby d2_56) (Ls' := #[.val (.ref a1), .val (.int (1 : Int32)), .val (.int v324), .val (.int (4 : Int32)), .val (.int v353), .val (.int (4 : Int32))]) rfl (pc' := 58) rfl ?_
  refine k_iinc X325 hx (hb hby d2_58) rfl (pc' := 61) rfl (z := (5 : Int32)) (by decide) (Ls' := #[.val (.ref a1), .val (.int (1 : Int32)), .val (.int v324), .val (.int (4 : Int32)), .val (.int v353), .val (.int (5 : Int32))]) rfl ?_
  refine k_goto X325 hx (hb hby d2_61) (pc' := 35) (by decide) ?_
  refine k_iload X325 hx (hb hby d2_35) rfl (pc' := 37) rfl ?_
  refine k_iloadN X325 hx (hb hby d2_37) rfl (pc' := 38) rfl ?_
  refine k_iloadN X325 hx (hb hby d2_38) rfl (pc' := 39) rfl ?_
  refine k_iaddL X325 hx (hb hby d2_39) (pc' := 40) rfl (z := (5 : Int32)) (by decide) ?_
  refine k_icmp_ge X325 hx (hb hby d2_40) (pn := 43) rfl (py := 64) (by decide) (fun _ => ?_) (fun hc => absurd hc (by decide))
  refine k_iload X325 hx (hb hby d2_64) rfl (pc' := 66) rfl ?_
  exact k_retI X325 hx Bd.returns (hb hby d2_66) hlk (by decide) (by decide) ⟨N325', e325, (Or.inl ⟨v324, v344, v345, v346, v347, v348, v349, v350, v351, v352, v353, hv324, hv344, hv345, hv346, hv347, hv348, hv349, hv350, hv351, hv352, hv353, hc328, hc329, hc330, rfl⟩)⟩
 ·
  have hh354 : v324 = v331 := hv324.trans h332.symm
  subst hh354
  show KEnds p e below s _ _ _ T325 (mkF m 14 #[.val (.ref a1), .val (.int (1 : Int32)), .val (.int v324), .unset, .unset, .unset] [(.int (3 : Int32))])
  refine k_istoreN X325 hx (hb hby d2_14) (Ls' := #[.val (.ref a1), .val (.int (1 : Int32)), .val (.int v324), .val (.int (3 : Int32)), .unset, .unset]) rfl (pc' := 15) rfl ?_
  refine k_iloadN X325 hx (hb hby d2_15) rfl (pc' := 16) rfl ?_
  refine k_iconst X325 hx (hb hby d2_16) (pc' := 17) rfl (z := (1 : Int32)) rfl ?_
  refine k_icmp_ne X325 hx (hb hby d2_17) (pn := 20) rfl (py := 22) (by decide) (fun _ => ?_) (fun hc => absurd hc (by decide))
  refine k_iloadN X325 hx (hb hby d2_22) rfl (pc' := 23) rfl ?_
  refine k_bipush X325 hx (hb hby d2_23) (pc' := 25) rfl (z := (127 : Int32)) rfl ?_
  refine k_iloadN X325 hx (hb hby d2_25) rfl (pc' := 26) rfl ?_
  refine k_ishrL X325 hx (hb hby d2_26) (pc' := 27) rfl (z := (15 : Int32)) (by decide) ?_
  refine k_iand X325 hx (hb hby d2_27) (pc' := 28) rfl (fun v355 hv355 => ?_)
  refine k_istore X325 hx (hb hby d2_28) (Ls' := #[.val (.ref a1), .val (.int (1 : Int32)), .val (.int v324), .val (.int (3 : Int32)), .val (.int v355), .unset]) rfl (pc' := 30) rfl ?_
  refine k_iloadN X325 hx (hb hby d2_30) rfl (pc' := 31) rfl ?_
  refine k_iconst X325 hx (hb hby d2_31) (pc' := 32) rfl (z := (1 : Int32)) rfl ?_
  refine k_iaddL X325 hx (hb hby d2_32) (pc' := 33) rfl (z := (2 : Int32)) (by decide) ?_
  refine k_istore X325 hx (hb hby d2_33) (Ls' := #[.val (.ref a1), .val (.int (1 : Int32)), .val (.int v324), .val (.int (3 : Int32)), .val (.int v355), .val (.int (2 : Int32))]) rfl (pc' := 35) rfl ?_
  refine k_iload X325 hx (hb hby d2_35) rfl (pc' := 37) rfl ?_
  refine k_iloadN X325 hx (hb hby d2_37) rfl (pc' := 38) rfl ?_
  refine k_iloadN X325 hx (hb hby d2_38) rfl (pc' := 39) rfl ?_
  refine k_iaddL X325 hx (hb hby d2_39) (pc' := 40) rfl (z := (4 : Int32)) (by decide) ?_
  refine k_icmp_ge X325 hx (hb hby d2_40) (pn := 43) rfl (py := 64) (by decide) (fun hc => absurd (by decide) hc) (fun _ => ?_)
  refine k_iload X325 hx (hb hby d2_43) rfl (pc' := 45) rfl ?_
  refine k_bipush X325 hx (hb hby d2_45) (pc' := 47) rfl (z := (6 : Int32)) rfl ?_
  refine k_ishl X325 hx (hb hby d2_47) (pc' := 48) rfl (fun v356 hv356 => ?_)
  refine k_aloadN X325 hx (hb hby d2_48) rfl rfl (pc' := 49) rfl ?_
  refine k_iload X325 hx (hb hby d2_49) rfl (pc' := 51) rfl ?_
  refine k_baload X325 hx hZ e325 F0_0 ⟨by decide, by decide⟩ (v := (.int p5)) rfl (hb hby d2_51) (pc' := 52) rfl ?_
  refine k_bipush X325 hx (hb hby d2_52) (pc' := 54) rfl (z := (63 : Int32)) rfl ?_
  refine k_iand X325 hx (hb hby d2_54) (pc' := 55) rfl (fun v357 hv357 => ?_)
  refine k_ior X325 hx (hb hby d2_55) (pc' := 56) rfl (fun v358 hv358 => ?_)
  refine k_istore X325 hx (hb hby d2_56) (Ls' := #[.val (.ref a1), .val (.int (1 : Int32)), .val (.int v324), .val (.int (3 : Int32)), .val (.int v358), .val (.int (2 : Int32))]) rfl (pc' := 58) rfl ?_
  refine k_iinc X325 hx (hb hby d2_58) rfl (pc' := 61) rfl (z := (3 : Int32)) (by decide) (Ls' := #[.val (.ref a1), .val (.int (1 : Int32)), .val (.int v324), .val (.int (3 : Int32)), .val (.int v358), .val (.int (3 : Int32))]) rfl ?_
  refine k_goto X325 hx (hb hby d2_61) (pc' := 35) (by decide) ?_
  refine k_iload X325 hx (hb hby d2_35) rfl (pc' := 37) rfl ?_
  refine k_iloadN X325 hx (hb hby d2_37) rfl (pc' := 38) rfl ?_
  refine k_iloadN X325 hx (hb hby d2_38) rfl (pc' := 39) rfl ?_
  refine k_iaddL X325 hx (hb hby d2_39) (pc' := 40) rfl (z := (4 : Int32)) (by decide) ?_
  refine k_icmp_ge X325 hx (hb hby d2_40) (pn := 43) rfl (py := 64) (by decide) (fun hc => absurd (by decide) hc) (fun _ => ?_)
  refine k_iload X325 hx (hb hby d2_43) rfl (pc' := 45) rfl ?_
  refine k_bipush X325 hx (hb hby d2_45) (pc' := 47) rfl (z := (6 : Int32)) rfl ?_
  refine k_ishl X325 hx (hb hby d2_47) (pc' := 48) rfl (fun v359 hv359 => ?_)
  refine k_aloadN X325 hx (hb hby d2_48) rfl rfl (pc' := 49) rfl ?_
  refine k_iload X325 hx (hb hby d2_49) rfl (pc' := 51) rfl ?_
  refine k_baload X325 hx hZ e325 F0_0 ⟨by decide, by decide⟩ (v := (.int p6)) rfl (hb hby d2_51) (pc' := 52) rfl ?_
  refine k_bipush X325 hx (hb hby d2_52) (pc' := 54) rfl (z := (63 : Int32)) rfl ?_
  refine k_iand X325 hx (hb hby d2_54) (pc' := 55) rfl (fun v360 hv360 => ?_)
  refine k_ior X325 hx (hb hby d2_55) (pc' := 56) rfl (fun v361 hv361 => ?_)
  refine k_istore X325 hx (hb hby d2_56) (Ls' := #[.val (.ref a1), .val (.int (1 : Int32)), .val (.int v324), .val (.int (3 : Int32)), .val (.int v361), .val (.int (3 : Int32))]) rfl (pc' := 58) rfl ?_
  refine k_iinc X325 hx (hb hby d2_58) rfl (pc' := 61) rfl (z := (4 : Int32)) (by decide) (Ls' := #[.val (.ref a1), .val (.int (1 : Int32)), .val (.int v324), .val (.int (3 : Int32)), .val (.int v361), .val (.int (4 : Int32))]) rfl ?_
  refine k_goto X325 hx (hb hby d2_61) (pc' := 35) (by decide) ?_
  refine k_iload X325 hx (hb hby d2_35) rfl (pc' := 37) rfl ?_
  refine k_iloadN X325 hx (hb hby d2_37) rfl (pc' := 38) rfl ?_
  refine k_iloadN X325 hx (hb hby d2_38) rfl (pc' := 39) rfl ?_
  refine k_iaddL X325 hx (hb hby d2_39) (pc' := 40) rfl (z := (4 : Int32)) (by decide) ?_
  refine k_icmp_ge X325 hx (hb hby d2_40) (pn := 43) rfl (py := 64) (by decide) (fun _ => ?_) (fun hc => absurd hc (by decide))
  refine k_iload X325 hx (hb hby d2_64) rfl (pc' := 66) rfl ?_
  exact k_retI X325 hx Bd.returns (hb hby d2_66) hlk (by decide) (by decide) ⟨N325', e325, (Or.inr (Or.inl ⟨v324, v355, v356, v357, v358, v359, v360, v361, hv324, hv355, hv356, hv357, hv358, hv359, hv360, hv361, hc333, hc334, hc335, rfl⟩))⟩
 ·
  have hh362 : v324 = v336 := hv324.trans h337.symm
  subst hh362
  show KEnds p e below s _ _ _ T325 (mkF m 14 #[.val (.ref a1), .val (.int (1 : Int32)), .val (.int v324), .unset, .unset, .unset] [(.int (2 : Int32))])
  refine k_istoreN X325 hx (hb hby d2_14) (Ls' := #[.val (.ref a1), .val (.int (1 : Int32)), .val (.int v324), .val (.int (2 : Int32)), .unset, .unset]) rfl (pc' := 15) rfl ?_
  refine k_iloadN X325 hx (hb hby d2_15) rfl (pc' := 16) rfl ?_
  refine k_iconst X325 hx (hb hby d2_16) (pc' := 17) rfl (z := (1 : Int32)) rfl ?_
  refine k_icmp_ne X325 hx (hb hby d2_17) (pn := 20) rfl (py := 22) (by decide) (fun _ => ?_) (fun hc => absurd hc (by decide))
  refine k_iloadN X325 hx (hb hby d2_22) rfl (pc' := 23) rfl ?_
  refine k_bipush X325 hx (hb hby d2_23) (pc' := 25) rfl (z := (127 : Int32)) rfl ?_
  refine k_iloadN X325 hx (hb hby d2_25) rfl (pc' := 26) rfl ?_
  refine k_ishrL X325 hx (hb hby d2_26) (pc' := 27) rfl (z := (31 : Int32)) (by decide) ?_
  refine k_iand X325 hx (hb hby d2_27) (pc' := 28) rfl (fun v363 hv363 => ?_)
  refine k_istore X325 hx (hb hby d2_28) (Ls' := #[.val (.ref a1), .val (.int (1 : Int32)), .val (.int v324), .val (.int (2 : Int32)), .val (.int v363), .unset]) rfl (pc' := 30) rfl ?_
  refine k_iloadN X325 hx (hb hby d2_30) rfl (pc' := 31) rfl ?_
  refine k_iconst X325 hx (hb hby d2_31) (pc' := 32) rfl (z := (1 : Int32)) rfl ?_
  refine k_iaddL X325 hx (hb hby d2_32) (pc' := 33) rfl (z := (2 : Int32)) (by decide) ?_
  refine k_istore X325 hx (hb hby d2_33) (Ls' := #[.val (.ref a1), .val (.int (1 : Int32)), .val (.int v324), .val (.int (2 : Int32)), .val (.int v363), .val (.int (2 : Int32))]) rfl (pc' := 35) rfl ?_
  refine k_iload X325 hx (hb hby d2_35) rfl (pc' := 37) rfl ?_
  refine k_iloadN X325 hx (hb hby d2_37) rfl (pc' := 38) rfl ?_
  refine k_iloadN X325 hx (hb hby d2_38) rfl (pc' := 39) rfl ?_
  refine k_iaddL X325 hx (hb hby d2_39) (pc' := 40) rfl (z := (3 : Int32)) (by decide) ?_
  refine k_icmp_ge X325 hx (hb hby d2_40) (pn := 43) rfl (py := 64) (by decide) (fun hc => absurd (by decide) hc) (fun _ => ?_)
  refine k_iload X325 hx (hb hby d2_43) rfl (pc' := 45) rfl ?_
  refine k_bipush X325 hx (hb hby d2_45) (pc' := 47) rfl (z := (6 : Int32)) rfl ?_
  refine k_ishl X325 hx (hb hby d2_47) (pc' := 48) rfl (fun v364 hv364 => ?_)
  refine k_aloadN X325 hx (hb hby d2_48) rfl rfl (pc' := 49) rfl ?_
  refine k_iload X325 hx (hb hby d2_49) rfl (pc' := 51) rfl ?_
  refine k_baload X325 hx hZ e325 F0_0 ⟨by decide, by decide⟩ (v := (.int p5)) rfl (hb hby d2_51) (pc' := 52) rfl ?_
  refine k_bipush X325 hx (hb hby d2_52) (pc' := 54) rfl (z := (63 : Int32)) rfl ?_
  refine k_iand X325 hx (hb hby d2_54) (pc' := 55) rfl (fun v365 hv365 => ?_)
  refine k_ior X325 hx (hb hby d2_55) (pc' := 56) rfl (fun v366 hv366 => ?_)
  refine k_istore X325 hx (hb hby d2_56) (Ls' := #[.val (.ref a1), .val (.int (1 : Int32)), .val (.int v324), .val (.int (2 : Int32)), .val (.int v366), .val (.int (2 : Int32))]) rfl (pc' := 58) rfl ?_
  refine k_iinc X325 hx (hb hby d2_58) rfl (pc' := 61) rfl (z := (3 : Int32)) (by decide) (Ls' := #[.val (.ref a1), .val (.int (1 : Int32)), .val (.int v324), .val (.int (2 : Int32)), .val (.int v366), .val (.int (3 : Int32))]) rfl ?_
  refine k_goto X325 hx (hb hby d2_61) (pc' := 35) (by decide) ?_
  refine k_iload X325 hx (hb hby d2_35) rfl (pc' := 37) rfl ?_
  refine k_iloadN X325 hx (hb hby d2_37) rfl (pc' := 38) rfl ?_
  refine k_iloadN X325 hx (hb hby d2_38) rfl (pc' := 39) rfl ?_
  refine k_iaddL X325 hx (hb hby d2_39) (pc' := 40) rfl (z := (3 : Int32)) (by decide) ?_
  refine k_icmp_ge X325 hx (hb hby d2_40) (pn := 43) rfl (py := 64) (by decide) (fun _ => ?_) (fun hc => absurd hc (by decide))
  refine k_iload X325 hx (hb hby d2_64) rfl (pc' := 66) rfl ?_
  exact k_retI X325 hx Bd.returns (hb hby d2_66) hlk (by decide) (by decide) ⟨N325', e325, (Or.inr (Or.inr (Or.inl ⟨v324, v363, v364, v365, v366, hv324, hv363, hv364, hv365, hv366, hc338, hc339, rfl⟩)))⟩
 ·
  have hh367 : v324 = v340 := hv324.trans h341.symm
  subst hh367
  show KEnds p e below s _ _ _ T325 (mkF m 14 #[.val (.ref a1), .val (.int (1 : Int32)), .val (.int v324), .unset, .unset, .unset] [(.int (1 : Int32))])
  refine k_istoreN X325 hx (hb hby d2_14) (Ls' := #[.val (.ref a1), .val (.int (1 : Int32)), .val (.int v324), .val (.int (1 : Int32)), .unset, .unset]) rfl (pc' := 15) rfl ?_
  refine k_iloadN X325 hx (hb hby d2_15) rfl (pc' := 16) rfl ?_
  refine k_iconst X325 hx (hb hby d2_16) (pc' := 17) rfl (z := (1 : Int32)) rfl ?_
  refine k_icmp_ne X325 hx (hb hby d2_17) (pn := 20) rfl (py := 22) (by decide) (fun hc => absurd (by decide) hc) (fun _ => ?_)
  refine k_iloadN X325 hx (hb hby d2_20) rfl (pc' := 21) rfl ?_
  exact k_retI X325 hx Bd.returns (hb hby d2_21) hlk (by decide) (by decide) ⟨N325', e325, (Or.inr (Or.inr (Or.inr ⟨v324, hv324, hc342, rfl⟩)))⟩
abbrev R2_543 : Room := { frames := 1, cells := 0, slots := 0, locals := 14 }
def Q2_543 (Z : State) (a1 : Addr) (k2 : ClassId) (p3 : Int32) (p4 : Int32) (p5 : Int32) (p6 : Int32) (p7 : Int32) (p8 : Int32) (p9 : Int32) (p10 : Int32) (h0 : Heap) (n0 : Nat) (v : Option Value) (h : Heap) (L : List Loc) : Prop := Fr n0 L ∧ h = h0 ∧ ((∃ (v544 : Int32) (v564 : Int32) (v565 : Int32) (v566 : Int32) (v567 : Int32) (v568 : Int32) (v569 : Int32) (v570 : Int32) (v571 : Int32) (v572 : Int32) (v573 : Int32), v544 = p5 &&& (255 : Int32) ∧ v564 = v544 &&& (7 : Int32) ∧ v565 = v564 <<< ((6 : Int32) &&& 31) ∧ v566 = p6 &&& (63 : Int32) ∧ v567 = v565 ||| v566 ∧ v568 = v567 <<< ((6 : Int32) &&& 31) ∧ v569 = p7 &&& (63 : Int32) ∧ v570 = v568 ||| v569 ∧ v571 = v570 <<< ((6 : Int32) &&& 31) ∧ v572 = p8 &&& (63 : Int32) ∧ v573 = v571 ||| v572 ∧ ¬ v544 < (128 : Int32) ∧ ¬ v544 < (224 : Int32) ∧ ¬ v544 < (240 : Int32) ∧ v = some (.int v573)) ∨ (∃ (v544 : Int32) (v575 : Int32) (v576 : Int32) (v577 : Int32) (v578 : Int32) (v579 : Int32) (v580 : Int32) (v581 : Int32), v544 = p5 &&& (255 : Int32) ∧ v575 = v544 &&& (15 : Int32) ∧ v576 = v575 <<< ((6 : Int32) &&& 31) ∧ v577 = p6 &&& (63 : Int32) ∧ v578 = v576 ||| v577 ∧ v579 = v578 <<< ((6 : Int32) &&& 31) ∧ v580 = p7 &&& (63 : Int32) ∧ v581 = v579 ||| v580 ∧ ¬ v544 < (128 : Int32) ∧ ¬ v544 < (224 : Int32) ∧ v544 < (240 : Int32) ∧ v = some (.int v581)) ∨ (∃ (v544 : Int32) (v583 : Int32) (v584 : Int32) (v585 : Int32) (v586 : Int32), v544 = p5 &&& (255 : Int32) ∧ v583 = v544 &&& (31 : Int32) ∧ v584 = v583 <<< ((6 : Int32) &&& 31) ∧ v585 = p6 &&& (63 : Int32) ∧ v586 = v584 ||| v585 ∧ ¬ v544 < (128 : Int32) ∧ v544 < (224 : Int32) ∧ v = some (.int v586)) ∨ (∃ (v544 : Int32), v544 = p5 &&& (255 : Int32) ∧ v544 < (128 : Int32) ∧ v = some (.int v544)))
theorem ef2_543 (m : MethodId) (x0 : Addr) : entryFrame m #[(.ref x0), (.int (2 : Int32))] 6 = mkF m 0 #[.val (.ref x0), .val (.int (2 : Int32)), .unset, .unset, .unset, .unset] [] := by first | (simp [entryFrame, mkF, argsToLocals, Value.category]; done) | rfl
set_option maxRecDepth 65536 in
set_option maxHeartbeats 40000000 in
theorem rm2_543 (l : Launch) (Z : State) (a0 : Array Value) (hw : ∀ d ∈ tables_1, d.before a0 Z = true) (ws : List Jvm.Cond) (a1 : Addr) (k2 : ClassId) (p3 : Int32) (p4 : Int32) (p5 : Int32) (p6 : Int32) (p7 : Int32) (p8 : Int32) (p9 : Int32) (p10 : Int32) (h0 : Heap) (n0 : Nat) (Z0 : n0 ≤ h0.size) (F0_0 : Arv Z h0 a1 k2 .byte (8 : Int32) [(.int p3), (.int p4), (.int p5), (.int p6), (.int p7), (.int p8), (.int p9), (.int p10)] (.int (0 : Int32))) :
    MetFree l (⟨"com/example/parlance/parlance/MessageBytes", "codePointAt", "([BI)I"⟩ : MethodName) (head1 (Jvm.Cond.code (⟨"com/example/parlance/parlance/MessageBytes", "codePointAt", "([BI)I"⟩ : MethodName) prog_4_method_8_code 6 (some .int) :: ws) R2_543) (fun a U => a = #[(.ref a1), (.int (2 : Int32))] ∧ Z.Warmed39 U.vm ∧ U.heap = h0) (fun _ _ _ _ _ => True) (fun _ U o U' => ∃ v L, o = .returned v ∧ Q2_543 Z a1 k2 p3 p4 p5 p6 p7 p8 p9 p10 h0 n0 v U'.heap L ∧ FrameEnd U o U' L R2_543.cells R2_543.slots) := by
 refine MetFree.of_bodySF (plainFor_of_name pn_1) hisR ?_
 intro p e s m args below meth c s₁ Bd hml0 hP hK
 obtain ⟨rfl, hZ, hh⟩ := hP
 have hx := Bd.exec
 have hby := Bd.bytes
 have hml : c.maxLocals = 6 := hml0
 have hlk : meth.locks = false := Bd.notSynchronized
 have hown : s.vm.findClass "com/example/parlance/parlance/MessageBytes" = some m.cls := findClass_of_methodNamed Bd.named
 have hnm := (name_of_methodNamed Bd.named Bd.method).1
 have X0 : Stand p l e R2_543 s m #[(.ref a1), (.int (2 : Int32))] below meth c s₁ [] 0 0 := Stand.of_body Bd
 have e0 : s₁.heap = h0 := by rw [← hh, Bd.state]; rfl
 have N0 := Fr.nil n0
 rw [ef2_543 m a1]
 show KEnds p e below s R2_543.cells R2_543.slots (Q2_543 Z a1 k2 p3 p4 p5 p6 p7 p8 p9 p10 h0 n0) s₁ (mkF m 0 #[.val (.ref a1), .val (.int (2 : Int32)), .unset, .unset, .unset, .unset] [])
 refine k_aloadN X0 hx (hb hby d2_0) rfl rfl (pc' := 1) rfl ?_
 refine k_iloadN X0 hx (hb hby d2_1) rfl (pc' := 2) rfl ?_
 refine k_baload X0 hx hZ e0 F0_0 ⟨by decide, by decide⟩ (v := (.int p5)) rfl (hb hby d2_2) (pc' := 3) rfl ?_
 refine k_sipush X0 hx (hb hby d2_3) (pc' := 6) rfl (z := (255 : Int32)) rfl ?_
 refine k_iand X0 hx (hb hby d2_6) (pc' := 7) rfl (fun v544 hv544 => ?_)
 refine k_istoreN X0 hx (hb hby d2_7) (Ls' := #[.val (.ref a1), .val (.int (2 : Int32)), .val (.int v544), .unset, .unset, .unset]) rfl (pc' := 8) rfl ?_
 refine k_aloadN X0 hx (hb hby d2_8) rfl rfl (pc' := 9) rfl ?_
 refine k_iloadN X0 hx (hb hby d2_9) rfl (pc' := 10) rfl ?_
 refine k_baload X0 hx hZ e0 F0_0 ⟨by decide, by decide⟩ (v := (.int p5)) rfl (hb hby d2_10) (pc' := 11) rfl ?_
 refine k_callS X0 hx hZ hown (hw _ (List.mem_of_getElem? (i := 11) rfl)) (hw _ (List.mem_of_getElem? (i := 12) rfl)) (hw _ (List.mem_of_getElem? (i := 9) rfl)) (hw _ (List.mem_of_getElem? (i := 13) rfl)) (by decide) (rm3_100 l Z a0 hw [] p5 h0 n0 Z0 ) (by decide) (by decide) e0 (by rw [hml]; rfl) (argsL := [(.int p5)]) (rest := []) (lenOf pd_1 rfl) rfl (W := 0) (Nat.le_refl _) rfl (hb hby d2_11) (by decide) (by decide) (pc' := 14) rfl (fun T545 L545 r545 X545 q545 => ?_)
 obtain ⟨N545, e545, q545⟩ := q545
 have N545' := Fr.app N0 N545
 rcases q545 with ⟨v546, h547, hc548, hc549, hc550, rfl⟩ | ⟨v551, h552, hc553, hc554, hc555, rfl⟩ | ⟨v556, h557, hc558, hc559, rfl⟩ | ⟨v560, h561, hc562, rfl⟩
 ·
  have hh563 : v544 = v546 := hv544.trans h547.symm
  subst hh563
  show KEnds p e below s _ _ _ T545 (mkF m 14 #[.val (.ref a1), .val (.int (2 : Int32)), .val (.int v544), .unset, .unset, .unset] [(.int (4 : Int32))])
  refine k_istoreN X545 hx (hb hby d2_14) (Ls' := #[.val (.ref a1), .val (.int (2 : Int32)), .val (.int v544), .val (.int (4 : Int32)), .unset, .unset]) rfl (pc' := 15) rfl ?_
  refine k_iloadN X545 hx (hb hby d2_15) rfl (pc' := 16) rfl ?_
  refine k_iconst X545 hx (hb hby d2_16) (pc' := 17) rfl (z := (1 : Int32)) rfl ?_
  refine k_icmp_ne X545 hx (hb hby d2_17) (pn := 20) rfl (py := 22) (by decide) (fun _ => ?_) (fun hc => absurd hc (by decide))
  refine k_iloadN X545 hx (hb hby d2_22) rfl (pc' := 23) rfl ?_
  refine k_bipush X545 hx (hb hby d2_23) (pc' := 25) rfl (z := (127 : Int32)) rfl ?_
  refine k_iloadN X545 hx (hb hby d2_25) rfl (pc' := 26) rfl ?_
  refine k_ishrL X545 hx (hb hby d2_26) (pc' := 27) rfl (z := (7 : Int32)) (by decide) ?_
  refine k_iand X545 hx (hb hby d2_27) (pc' := 28) rfl (fun v564 hv564 => ?_)
  refine k_istore X545 hx (hb hby d2_28) (Ls' := #[.val (.ref a1), .val (.int (2 : Int32)), .val (.int v544), .val (.int (4 : Int32)), .val (.int v564), .unset]) rfl (pc' := 30) rfl ?_
  refine k_iloadN X545 hx (hb hby d2_30) rfl (pc' := 31) rfl ?_
  refine k_iconst X545 hx (hb hby d2_31) (pc' := 32) rfl (z := (1 : Int32)) rfl ?_
  refine k_iaddL X545 hx (hb hby d2_32) (pc' := 33) rfl (z := (3 : Int32)) (by decide) ?_
  refine k_istore X545 hx (hb hby d2_33) (Ls' := #[.val (.ref a1), .val (.int (2 : Int32)), .val (.int v544), .val (.int (4 : Int32)), .val (.int v564), .val (.int (3 : Int32))]) rfl (pc' := 35) rfl ?_
  refine k_iload X545 hx (hb hby d2_35) rfl (pc' := 37) rfl ?_
  refine k_iloadN X545 hx (hb hby d2_37) rfl (pc' := 38) rfl ?_
  refine k_iloadN X545 hx (hb hby d2_38) rfl (pc' := 39) rfl ?_
  refine k_iaddL X545 hx (hb hby d2_39) (pc' := 40) rfl (z := (6 : Int32)) (by decide) ?_
  refine k_icmp_ge X545 hx (hb hby d2_40) (pn := 43) rfl (py := 64) (by decide) (fun hc => absurd (by decide) hc) (fun _ => ?_)
  refine k_iload X545 hx (hb hby d2_43) rfl (pc' := 45) rfl ?_
  refine k_bipush X545 hx (hb hby d2_45) (pc' := 47) rfl (z := (6 : Int32)) rfl ?_
  refine k_ishl X545 hx (hb hby d2_47) (pc' := 48) rfl (fun v565 hv565 => ?_)
  refine k_aloadN X545 hx (hb hby d2_48) rfl rfl (pc' := 49) rfl ?_
  refine k_iload X545 hx (hb hby d2_49) rfl (pc' := 51) rfl ?_
  refine k_baload X545 hx hZ e545 F0_0 ⟨by decide, by decide⟩ (v := (.int p6)) rfl (hb hby d2_51) (pc' := 52) rfl ?_
  refine k_bipush X545 hx (hb hby d2_52) (pc' := 54) rfl (z := (63 : Int32)) rfl ?_
  refine k_iand X545 hx (hb hby d2_54) (pc' := 55) rfl (fun v566 hv566 => ?_)
  refine k_ior X545 hx (hb hby d2_55) (pc' := 56) rfl (fun v567 hv567 => ?_)
  refine k_istore X545 hx (hb hby d2_56) (Ls' := #[.val (.ref a1), .val (.int (2 : Int32)), .val (.int v544), .val (.int (4 : Int32)), .val (.int v567), .val (.int (3 : Int32))]) rfl (pc' := 58) rfl ?_
  refine k_iinc X545 hx (hb hby d2_58) rfl (pc' := 61) rfl (z := (4 : Int32)) (by decide) (Ls' := #[.val (.ref a1), .val (.int (2 : Int32)), .val (.int v544), .val (.int (4 : Int32)), .val (.int v567), .val (.int (4 : Int32))]) rfl ?_
  refine k_goto X545 hx (hb hby d2_61) (pc' := 35) (by decide) ?_
  refine k_iload X545 hx (hb hby d2_35) rfl (pc' := 37) rfl ?_
  refine k_iloadN X545 hx (hb hby d2_37) rfl (pc' := 38) rfl ?_
  refine k_iloadN X545 hx (hb hby d2_38) rfl (pc' := 39) rfl ?_
  refine k_iaddL X545 hx (hb hby d2_39) (pc' := 40) rfl (z := (6 : Int32)) (by decide) ?_
  refine k_icmp_ge X545 hx (hb hby d2_40) (pn := 43) rfl (py := 64) (by decide) (fun hc => absurd (by decide) hc) (fun _ => ?_)
  refine k_iload X545 hx (hb hby d2_43) rfl (pc' := 45) rfl ?_
  refine k_bipush X545 hx (hb hby d2_45) (pc' := 47) rfl (z := (6 : Int32)) rfl ?_
  refine k_ishl X545 hx (hb hby d2_47) (pc' := 48) rfl (fun v568 hv568 => ?_)
  refine k_aloadN X545 hx (hb hby d2_48) rfl rfl (pc' := 49) rfl ?_
  refine k_iload X545 hx (hb hby d2_49) rfl (pc' := 51) rfl ?_
  refine k_baload X545 hx hZ e545 F0_0 ⟨by decide, by decide⟩ (v := (.int p7)) rfl (hb hby d2_51) (pc' := 52) rfl ?_
  refine k_bipush X545 hx (hb hby d2_52) (pc' := 54) rfl (z := (63 : Int32)) rfl ?_
  refine k_iand X545 hx (hb hby d2_54) (pc' := 55) rfl (fun v569 hv569 => ?_)
  refine k_ior X545 hx (hb hby d2_55) (pc' := 56) rfl (fun v570 hv570 => ?_)
  refine k_istore X545 hx (hb hby d2_56) (Ls' := #[.val (.ref a1), .val (.int (2 : Int32)), .val (.int v544), .val (.int (4 : Int32)), .val (.int v570), .val (.int (4 : Int32))]) rfl (pc' := 58) rfl ?_
  refine k_iinc X545 hx (hb hby d2_58) rfl (pc' := 61) rfl (z := (5 : Int32)) (by decide) (Ls' := #[.val (.ref a1), .val (.int (2 : Int32)), .val (.int v544), .val (.int (4 : Int32)), .val (.int v570), .val (.int (5 : Int32))]) rfl ?_
  refine k_goto X545 hx (hb hby d2_61) (pc' := 35) (by decide) ?_
  refine k_iload X545 hx (hb hby d2_35) rfl (pc' := 37) rfl ?_
  refine k_iloadN X545 hx (hb hby d2_37) rfl (pc' := 38) rfl ?_
  refine k_iloadN X545 hx (hb hby d2_38) rfl (pc' := 39) rfl ?_
  refine k_iaddL X545 hx (hb hby d2_39) (pc' := 40) rfl (z := (6 : Int32)) (by decide) ?_
  refine k_icmp_ge X545 hx (hb hby d2_40) (pn := 43) rfl (py := 64) (by decide) (fun hc => absurd (by decide) hc) (fun _ => ?_)
  refine k_iload X545 hx (hb hby d2_43) rfl (pc' := 45) rfl ?_
  refine k_bipush X545 hx (hb hby d2_45) (pc' := 47) rfl (z := (6 : Int32)) rfl ?_
  refine k_ishl X545 hx (hb hby d2_47) (pc' := 48) rfl (fun v571 hv571 => ?_)
  refine k_aloadN X545 hx (hb hby d2_48) rfl rfl (pc' := 49) rfl ?_
  refine k_iload X545 hx (hb hby d2_49) rfl (pc' := 51) rfl ?_
  refine k_baload X545 hx hZ e545 F0_0 ⟨by decide, by decide⟩ (v := (.int p8)) rfl (hb hby d2_51) (pc' := 52) rfl ?_
  refine k_bipush X545 hx (hb hby d2_52) (pc' := 54) rfl (z := (63 : Int32)) rfl ?_
  refine k_iand X545 hx (hb hby d2_54) (pc' := 55) rfl (fun v572 hv572 => ?_)
  refine k_ior X545 hx (hb hby d2_55) (pc' := 56) rfl (fun v573 hv573 => ?_)
  refine k_istore X545 hx (hb hby d2_56) (Ls' := #[.val (.ref a1), .val (.int (2 : Int32)), .val (.int v544), .val (.int (4 : Int32)), .val (.int v573), .val (.int (5 : Int32))]) rfl (pc' := 58) rfl ?_
  refine k_iinc X545 hx (hb hby d2_58) rfl (pc' := 61) rfl (z := (6 : Int32)) (by decide) (Ls' := #[.val (.ref a1), .val (.int (2 : Int32)), .val (.int v544), .val (.int (4 : Int32)), .val (.int v573), .val (.int (6 : Int32))]) rfl ?_
  refine k_goto X545 hx (hb hby d2_61) (pc' := 35) (by decide) ?_
  refine k_iload X545 hx (hb hby d2_35) rfl (pc' := 37) rfl ?_
  refine k_iloadN X545 hx (hb hby d2_37) rfl (pc' := 38) rfl ?_
  refine k_iloadN X545 hx (hb hby d2_38) rfl (pc' := 39) rfl ?_
  refine k_iaddL X545 hx (hb hby d2_39) (pc' := 40) rfl (z := (6 : Int32)) (by decide) ?_
  refine k_icmp_ge X545 hx (hb hby d2_40) (pn := 43) rfl (py := 64) (by decide) (fun _ => ?_) (fun hc => absurd hc (by decide))
  refine k_iload X545 hx (hb hby d2_64) rfl (pc' := 66) rfl ?_
  exact k_retI X545 hx Bd.returns (hb hby d2_66) hlk (by decide) (by decide) ⟨N545', e545, (Or.inl ⟨v544, v564, v565, v566, v567, v568, v569, v570, v571, v572, v573, hv544, hv564, hv565, hv566, hv567, hv568, hv569, hv570, hv571, hv572, hv573, hc548, hc549, hc550, rfl⟩)⟩
 ·
  have hh574 : v544 = v551 := hv544.trans h552.symm
  subst hh574
  show KEnds p e below s _ _ _ T545 (mkF m 14 #[.val (.ref a1), .val (.int (2 : Int32)), .val (.int v544), .unset, .unset, .unset] [(.int (3 : Int32))])
  refine k_istoreN X545 hx (hb hby d2_14) (Ls' := #[.val (.ref a1), .val (.int (2 : Int32)), .val (.int v544), .val (.int (3 : Int32)), .unset, .unset]) rfl (pc' := 15) rfl ?_
  refine k_iloadN X545 hx (hb hby d2_15) rfl (pc' := 16) rfl ?_
  refine k_iconst X545 hx (hb hby d2_16) (pc' := 17) rfl (z := (1 : Int32)) rfl ?_
  refine k_icmp_ne X545 hx (hb hby d2_17) (pn := 20) rfl (py := 22) (by decide) (fun _ => ?_) (fun hc => absurd hc (by decide))
  refine k_iloadN X545 hx (hb hby d2_22) rfl (pc' := 23) rfl ?_
  refine k_bipush X545 hx (hb hby d2_23) (pc' := 25) rfl (z := (127 : Int32)) rfl ?_
  refine k_iloadN X545 hx (hb hby d2_25) rfl (pc' := 26) rfl ?_
  refine k_ishrL X545 hx (hb hby d2_26) (pc' := 27) rfl (z := (15 : Int32)) (by decide) ?_
  refine k_iand X545 hx (hb hby d2_27) (pc' := 28) rfl (fun v575 hv575 => ?_)
  refine k_istore X545 hx (hb hby d2_28) (Ls' := #[.val (.ref a1), .val (.int (2 : Int32)), .val (.int v544), .val (.int (3 : Int32)), .val (.int v575), .unset]) rfl (pc' := 30) rfl ?_
  refine k_iloadN X545 hx (hb hby d2_30) rfl (pc' := 31) rfl ?_
  refine k_iconst X545 hx (hb hby d2_31) (pc' := 32) rfl (z := (1 : Int32)) rfl ?_
  refine k_iaddL X545 hx (hb hby d2_32) (pc' := 33) rfl (z := (3 : Int32)) (by decide) ?_
  refine k_istore X545 hx (hb hby d2_33) (Ls' := #[.val (.ref a1), .val (.int (2 : Int32)), .val (.int v544), .val (.int (3 : Int32)), .val (.int v575), .val (.int (3 : Int32))]) rfl (pc' := 35) rfl ?_
  refine k_iload X545 hx (hb hby d2_35) rfl (pc' := 37) rfl ?_
  refine k_iloadN X545 hx (hb hby d2_37) rfl (pc' := 38) rfl ?_
  refine k_iloadN X545 hx (hb hby d2_38) rfl (pc' := 39) rfl ?_
  refine k_iaddL X545 hx (hb hby d2_39) (pc' := 40) rfl (z := (5 : Int32)) (by decide) ?_
  refine k_icmp_ge X545 hx (hb hby d2_40) (pn := 43) rfl (py := 64) (by decide) (fun hc => absurd (by decide) hc) (fun _ => ?_)
  refine k_iload X545 hx (hb hby d2_43) rfl (pc' := 45) rfl ?_
  refine k_bipush X545 hx (hb hby d2_45) (pc' := 47) rfl (z := (6 : Int32)) rfl ?_
  refine k_ishl X545 hx (hb hby d2_47) (pc' := 48) rfl (fun v576 hv576 => ?_)
  refine k_aloadN X545 hx (hb hby d2_48) rfl rfl (pc' := 49) rfl ?_
  refine k_iload X545 hx (hb hby d2_49) rfl (pc' := 51) rfl ?_
  refine k_baload X545 hx hZ e545 F0_0 ⟨by decide, by decide⟩ (v := (.int p6)) rfl (hb hby d2_51) (pc' := 52) rfl ?_
  refine k_bipush X545 hx (hb hby d2_52) (pc' := 54) rfl (z := (63 : Int32)) rfl ?_
  refine k_iand X545 hx (hb hby d2_54) (pc' := 55) rfl (fun v577 hv577 => ?_)
  refine k_ior X545 hx (hb hby d2_55) (pc' := 56) rfl (fun v578 hv578 => ?_)
  refine k_istore X545 hx (hb hby d2_56) (Ls' := #[.val (.ref a1), .val (.int (2 : Int32)), .val (.int v544), .val (.int (3 : Int32)), .val (.int v578), .val (.int (3 : Int32))]) rfl (pc' := 58) rfl ?_
  refine k_iinc X545 hx (hb hby d2_58) rfl (pc' := 61) rfl (z := (4 : Int32)) (by decide) (Ls' := #[.val (.ref a1), .val (.int (2 : Int32)), .val (.int v544), .val (.int (3 : Int32)), .val (.int v578), .val (.int (4 : Int32))]) rfl ?_
  refine k_goto X545 hx (hb hby d2_61) (pc' := 35) (by decide) ?_
  refine k_iload X545 hx (hb hby d2_35) rfl (pc' := 37) rfl ?_
  refine k_iloadN X545 hx (hb hby d2_37) rfl (pc' := 38) rfl ?_
  refine k_iloadN X545 hx (hb hby d2_38) rfl (pc' := 39) rfl ?_
  refine k_iaddL X545 hx (hb hby d2_39) (pc' := 40) rfl (z := (5 : Int32)) (by decide) ?_
  refine k_icmp_ge X545 hx (hb hby d2_40) (pn := 43) rfl (py := 64) (by decide) (fun hc => absurd (by decide) hc) (fun _ => ?_)
  refine k_iload X545 hx (hb hby d2_43) rfl (pc' := 45) rfl ?_
  refine k_bipush X545 hx (hb hby d2_45) (pc' := 47) rfl (z := (6 : Int32)) rfl ?_
  refine k_ishl X545 hx (hb hby d2_47) (pc' := 48) rfl (fun v579 hv579 => ?_)
  refine k_aloadN X545 hx (hb hby d2_48) rfl rfl (pc' := 49) rfl ?_
  refine k_iload X545 hx (hb hby d2_49) rfl (pc' := 51) rfl ?_
  refine k_baload X545 hx hZ e545 F0_0 ⟨by decide, by decide⟩ (v := (.int p7)) rfl (hb hby d2_51) (pc' := 52) rfl ?_
  refine k_bipush X545 hx (hb hby d2_52) (pc' := 54) rfl (z := (63 : Int32)) rfl ?_
  refine k_iand X545 hx (hb hby d2_54) (pc' := 55) rfl (fun v580 hv580 => ?_)
  refine k_ior X545 hx (hb hby d2_55) (pc' := 56) rfl (fun v581 hv581 => ?_)
  refine k_istore X545 hx (hb hby d2_56) (Ls' := #[.val (.ref a1), .val (.int (2 : Int32)), .val (.int v544), .val (.int (3 : Int32)), .val (.int v581), .val (.int (4 : Int32))]) rfl (pc' := 58) rfl ?_
  refine k_iinc X545 hx (hb hby d2_58) rfl (pc' := 61) rfl (z := (5 : Int32)) (by decide) (Ls' := #[.val (.ref a1), .val (.int (2 : Int32)), .val (.int v544), .val (.int (3 : Int32)), .val (.int v581), .val (.int (5 : Int32))]) rfl ?_
  refine k_goto X545 hx (hb hby d2_61) (pc' := 35) (by decide) ?_
  refine k_iload X545 hx (hb hby d2_35) rfl (pc' := 37) rfl ?_
  refine k_iloadN X545 hx (hb hby d2_37) rfl (pc' := 38) rfl ?_
  refine k_iloadN X545 hx (hb hby d2_38) rfl (pc' := 39) rfl ?_
  refine k_iaddL X545 hx (hb hby d2_39) (pc' := 40) rfl (z := (5 : Int32)) (by decide) ?_
  refine k_icmp_ge X545 hx (hb hby d2_40) (pn := 43) rfl (py := 64) (by decide) (fun _ => ?_) (fun hc => absurd hc (by decide))
  refine k_iload X545 hx (hb hby d2_64) rfl (pc' := 66) rfl ?_
  exact k_retI X545 hx Bd.returns (hb hby d2_66) hlk (by decide) (by decide) ⟨N545', e545, (Or.inr (Or.inl ⟨v544, v575, v576, v577, v578, v579, v580, v581, hv544, hv575, hv576, hv577, hv578, hv579, hv580, hv581, hc553, hc554, hc555, rfl⟩))⟩
 ·
  have hh582 : v544 = v556 := hv544.trans h557.symm
  subst hh582
  show KEnds p e below s _ _ _ T545 (mkF m 14 #[.val (.ref a1), .val (.int (2 : Int32)), .val (.int v544), .unset, .unset, .unset] [(.int (2 : Int32))])
  refine k_istoreN X545 hx (hb hby d2_14) (Ls' := #[.val (.ref a1), .val (.int (2 : Int32)), .val (.int v544), .val (.int (2 : Int32)), .unset, .unset]) rfl (pc' := 15) rfl ?_
  refine k_iloadN X545 hx (hb hby d2_15) rfl (pc' := 16) rfl ?_
  refine k_iconst X545 hx (hb hby d2_16) (pc' := 17) rfl (z := (1 : Int32)) rfl ?_
  refine k_icmp_ne X545 hx (hb hby d2_17) (pn := 20) rfl (py := 22) (by decide) (fun _ => ?_) (fun hc => absurd hc (by decide))
  refine k_iloadN X545 hx (hb hby d2_22) rfl (pc' := 23) rfl ?_
  refine k_bipush X545 hx (hb hby d2_23) (pc' := 25) rfl (z := (127 : Int32)) rfl ?_
  refine k_iloadN X545 hx (hb hby d2_25) rfl (pc' := 26) rfl ?_
  refine k_ishrL X545 hx (hb hby d2_26) (pc' := 27) rfl (z := (31 : Int32)) (by decide) ?_
  refine k_iand X545 hx (hb hby d2_27) (pc' := 28) rfl (fun v583 hv583 => ?_)
  refine k_istore X545 hx (hb hby d2_28) (Ls' := #[.val (.ref a1), .val (.int (2 : Int32)), .val (.int v544), .val (.int (2 : Int32)), .val (.int v583), .unset]) rfl (pc' := 30) rfl ?_
  refine k_iloadN X545 hx (hb hby d2_30) rfl (pc' := 31) rfl ?_
  refine k_iconst X545 hx (hb hby d2_31) (pc' := 32) rfl (z := (1 : Int32)) rfl ?_
  refine k_iaddL X545 hx (hb hby d2_32) (pc' := 33) rfl (z := (3 : Int32)) (by decide) ?_
  refine k_istore X545 hx (hb hby d2_33) (Ls' := #[.val (.ref a1), .val (.int (2 : Int32)), .val (.int v544), .val (.int (2 : Int32)), .val (.int v583), .val (.int (3 : Int32))]) rfl (pc' := 35) rfl ?_
  refine k_iload X545 hx (hb hby d2_35) rfl (pc' := 37) rfl ?_
  refine k_iloadN X545 hx (hb hby d2_37) rfl (pc' := 38) rfl ?_
  refine k_iloadN X545 hx (hb hby d2_38) rfl (pc' := 39) rfl ?_
  refine k_iaddL X545 hx (hb hby d2_39) (pc' := 40) rfl (z := (4 : Int32)) (by decide) ?_
  refine k_icmp_ge X545 hx (hb hby d2_40) (pn := 43) rfl (py := 64) (by decide) (fun hc => absurd (by decide) hc) (fun _ => ?_)
  refine k_iload X545 hx (hb hby d2_43) rfl (pc' := 45) rfl ?_
  refine k_bipush X545 hx (hb hby d2_45) (pc' := 47) rfl (z := (6 : Int32)) rfl ?_
  refine k_ishl X545 hx (hb hby d2_47) (pc' := 48) rfl (fun v584 hv584 => ?_)
  refine k_aloadN X545 hx (hb hby d2_48) rfl rfl (pc' := 49) rfl ?_
  refine k_iload X545 hx (hb hby d2_49) rfl (pc' := 51) rfl ?_
  refine k_baload X545 hx hZ e545 F0_0 ⟨by decide, by decide⟩ (v := (.int p6)) rfl (hb hby d2_51) (pc' := 52) rfl ?_
  refine k_bipush X545 hx (hb hby d2_52) (pc' := 54) rfl (z := (63 : Int32)) rfl ?_
  refine k_iand X545 hx (hb hby d2_54) (pc' := 55) rfl (fun v585 hv585 => ?_)
  refine k_ior X545 hx (hb hby d2_55) (pc' := 56) rfl (fun v586 hv586 => ?_)
  refine k_istore X545 hx (hb hby d2_56) (Ls' := #[.val (.ref a1), .val (.int (2 : Int32)), .val (.int v544), .val (.int (2 : Int32)), .val (.int v586), .val (.int (3 : Int32))]) rfl (pc' := 58) rfl ?_
  refine k_iinc X545 hx (hb hby d2_58) rfl (pc' := 61) rfl (z := (4 : Int32)) (by decide) (Ls' := #[.val (.ref a1), .val (.int (2 : Int32)), .val (.int v544), .val (.int (2 : Int32)), .val (.int v586), .val (.int (4 : Int32))]) rfl ?_
  refine k_goto X545 hx (hb hby d2_61) (pc' := 35) (by decide) ?_
  refine k_iload X545 hx (hb hby d2_35) rfl (pc' := 37) rfl ?_
  refine k_iloadN X545 hx (hb hby d2_37) rfl (pc' := 38) rfl ?_
  refine k_iloadN X545 hx (hb hby d2_38) rfl (pc' := 39) rfl ?_
  refine k_iaddL X545 hx (hb hby d2_39) (pc' := 40) rfl (z := (4 : Int32)) (by decide) ?_
  refine k_icmp_ge X545 hx (hb hby d2_40) (pn := 43) rfl (py := 64) (by decide) (fun _ => ?_) (fun hc => absurd hc (by decide))
  refine k_iload X545 hx (hb hby d2_64) rfl (pc' := 66) rfl ?_
  exact k_retI X545 hx Bd.returns (hb hby d2_66) hlk (by decide) (by decide) ⟨N545', e545, (Or.inr (Or.inr (Or.inl ⟨v544, v583, v584, v585, v586, hv544, hv583, hv584, hv585, hv586, hc558, hc559, rfl⟩)))⟩
 ·
  have hh587 : v544 = v560 := hv544.trans h561.symm
  subst hh587
  show KEnds p e below s _ _ _ T545 (mkF m 14 #[.val (.ref a1), .val (.int (2 : Int32)), .val (.int v544), .unset, .unset, .unset] [(.int (1 : Int32))])
  refine k_istoreN X545 hx (hb hby d2_14) (Ls' := #[.val (.ref a1), .val (.int (2 : Int32)), .val (.int v544), .val (.int (1 : Int32)), .unset, .unset]) rfl (pc' := 15) rfl ?_
  refine k_iloadN X545 hx (hb hby d2_15) rfl (pc' := 16) rfl ?_
  refine k_iconst X545 hx (hb hby d2_16) (pc' := 17) rfl (z := (1 : Int32)) rfl ?_
  refine k_icmp_ne X545 hx (hb hby d2_17) (pn := 20) rfl (py := 22) (by decide) (fun hc => absurd (by decide) hc) (fun _ => ?_)
  refine k_iloadN X545 hx (hb hby d2_20) rfl (pc' := 21) rfl ?_
  exact k_retI X545 hx Bd.returns (hb hby d2_21) hlk (by decide) (by decide) ⟨N545', e545, (Or.inr (Or.inr (Or.inr ⟨v544, hv544, hc562, rfl⟩)))⟩
abbrev R2_763 : Room := { frames := 1, cells := 0, slots := 0, locals := 14 }
def Q2_763 (Z : State) (a1 : Addr) (k2 : ClassId) (p3 : Int32) (p4 : Int32) (p5 : Int32) (p6 : Int32) (p7 : Int32) (p8 : Int32) (p9 : Int32) (p10 : Int32) (h0 : Heap) (n0 : Nat) (v : Option Value) (h : Heap) (L : List Loc) : Prop := Fr n0 L ∧ h = h0 ∧ ((∃ (v764 : Int32) (v784 : Int32) (v785 : Int32) (v786 : Int32) (v787 : Int32) (v788 : Int32) (v789 : Int32) (v790 : Int32) (v791 : Int32) (v792 : Int32) (v793 : Int32), v764 = p6 &&& (255 : Int32) ∧ v784 = v764 &&& (7 : Int32) ∧ v785 = v784 <<< ((6 : Int32) &&& 31) ∧ v786 = p7 &&& (63 : Int32) ∧ v787 = v785 ||| v786 ∧ v788 = v787 <<< ((6 : Int32) &&& 31) ∧ v789 = p8 &&& (63 : Int32) ∧ v790 = v788 ||| v789 ∧ v791 = v790 <<< ((6 : Int32) &&& 31) ∧ v792 = p9 &&& (63 : Int32) ∧ v793 = v791 ||| v792 ∧ ¬ v764 < (128 : Int32) ∧ ¬ v764 < (224 : Int32) ∧ ¬ v764 < (240 : Int32) ∧ v = some (.int v793)) ∨ (∃ (v764 : Int32) (v795 : Int32) (v796 : Int32) (v797 : Int32) (v798 : Int32) (v799 : Int32) (v800 : Int32) (v801 : Int32), v764 = p6 &&& (255 : Int32) ∧ v795 = v764 &&& (15 : Int32) ∧ v796 = v795 <<< ((6 : Int32) &&& 31) ∧ v797 = p7 &&& (63 : Int32) ∧ v798 = v796 ||| v797 ∧ v799 = v798 <<< ((6 : Int32) &&& 31) ∧ v800 = p8 &&& (63 : Int32) ∧ v801 = v799 ||| v800 ∧ ¬ v764 < (128 : Int32) ∧ ¬ v764 < (224 : Int32) ∧ v764 < (240 : Int32) ∧ v = some (.int v801)) ∨ (∃ (v764 : Int32) (v803 : Int32) (v804 : Int32) (v805 : Int32) (v806 : Int32), v764 = p6 &&& (255 : Int32) ∧ v803 = v764 &&& (31 : Int32) ∧ v804 = v803 <<< ((6 : Int32) &&& 31) ∧ v805 = p7 &&& (63 : Int32) ∧ v806 = v804 ||| v805 ∧ ¬ v764 < (128 : Int32) ∧ v764 < (224 : Int32) ∧ v = some (.int v806)) ∨ (∃ (v764 : Int32), v764 = p6 &&& (255 : Int32) ∧ v764 < (128 : Int32) ∧ v = some (.int v764)))
theorem ef2_763 (m : MethodId) (x0 : Addr) : entryFrame m #[(.ref x0), (.int (3 : Int32))] 6 = mkF m 0 #[.val (.ref x0), .val (.int (3 : Int32)), .unset, .unset, .unset, .unset] [] := by first | (simp [entryFrame, mkF, argsToLocals, Value.category]; done) | rfl
set_option maxRecDepth 65536 in
set_option maxHeartbeats 40000000 in
theorem rm2_763 (l : Launch) (Z : State) (a0 : Array Value) (hw : ∀ d ∈ tables_1, d.before a0 Z = true) (ws : List Jvm.Cond) (a1 : Addr) (k2 : ClassId) (p3 : Int32) (p4 : Int32) (p5 : Int32) (p6 : Int32) (p7 : Int32) (p8 : Int32) (p9 : Int32) (p10 : Int32) (h0 : Heap) (n0 : Nat) (Z0 : n0 ≤ h0.size) (F0_0 : Arv Z h0 a1 k2 .byte (8 : Int32) [(.int p3), (.int p4), (.int p5), (.int p6), (.int p7), (.int p8), (.int p9), (.int p10)] (.int (0 : Int32))) :
    MetFree l (⟨"com/example/parlance/parlance/MessageBytes", "codePointAt", "([BI)I"⟩ : MethodName) (head1 (Jvm.Cond.code (⟨"com/example/parlance/parlance/MessageBytes", "codePointAt", "([BI)I"⟩ : MethodName) prog_4_method_8_code 6 (some .int) :: ws) R2_763) (fun a U => a = #[(.ref a1), (.int (3 : Int32))] ∧ Z.Warmed39 U.vm ∧ U.heap = h0) (fun _ _ _ _ _ => True) (fun _ U o U' => ∃ v L, o = .returned v ∧ Q2_763 Z a1 k2 p3 p4 p5 p6 p7 p8 p9 p10 h0 n0 v U'.heap L ∧ FrameEnd U o U' L R2_763.cells R2_763.slots) := by
 refine MetFree.of_bodySF (plainFor_of_name pn_1) hisR ?_
 intro p e s m args below meth c s₁ Bd hml0 hP hK
 obtain ⟨rfl, hZ, hh⟩ := hP
 have hx := Bd.exec
 have hby := Bd.bytes
 have hml : c.maxLocals = 6 := hml0
 have hlk : meth.locks = false := Bd.notSynchronized
 have hown : s.vm.findClass "com/example/parlance/parlance/MessageBytes" = some m.cls := findClass_of_methodNamed Bd.named
 have hnm := (name_of_methodNamed Bd.named Bd.method).1
 have X0 : Stand p l e R2_763 s m #[(.ref a1), (.int (3 : Int32))] below meth c s₁ [] 0 0 := Stand.of_body Bd
 have e0 : s₁.heap = h0 := by rw [← hh, Bd.state]; rfl
 have N0 := Fr.nil n0
 rw [ef2_763 m a1]
 show KEnds p e below s R2_763.cells R2_763.slots (Q2_763 Z a1 k2 p3 p4 p5 p6 p7 p8 p9 p10 h0 n0) s₁ (mkF m 0 #[.val (.ref a1), .val (.int (3 : Int32)), .unset, .unset, .unset, .unset] [])
 refine k_aloadN X0 hx (hb hby d2_0) rfl rfl (pc' := 1) rfl ?_
 refine k_iloadN X0 hx (hb hby d2_1) rfl (pc' := 2) rfl ?_
 refine k_baload X0 hx hZ e0 F0_0 ⟨by decide, by decide⟩ (v := (.int p6)) rfl (hb hby d2_2) (pc' := 3) rfl ?_
 refine k_sipush X0 hx (hb hby d2_3) (pc' := 6) rfl (z := (255 : Int32)) rfl ?_
 refine k_iand X0 hx (hb hby d2_6) (pc' := 7) rfl (fun v764 hv764 => ?_)
 refine k_istoreN X0 hx (hb hby d2_7) (Ls' := #[.val (.ref a1), .val (.int (3 : Int32)), .val (.int v764), .unset, .unset, .unset]) rfl (pc' := 8) rfl ?_
 refine k_aloadN X0 hx (hb hby d2_8) rfl rfl (pc' := 9) rfl ?_
 refine k_iloadN X0 hx (hb hby d2_9) rfl (pc' := 10) rfl ?_
 refine k_baload X0 hx hZ e0 F0_0 ⟨by decide, by decide⟩ (v := (.int p6)) rfl (hb hby d2_10) (pc' := 11) rfl ?_
 refine k_callS X0 hx hZ hown (hw _ (List.mem_of_getElem? (i := 11) rfl)) (hw _ (List.mem_of_getElem? (i := 12) rfl)) (hw _ (List.mem_of_getElem? (i := 9) rfl)) (hw _ (List.mem_of_getElem? (i := 13) rfl)) (by decide) (rm3_100 l Z a0 hw [] p6 h0 n0 Z0 ) (by decide) (by decide) e0 (by rw [hml]; rfl) (argsL := [(.int p6)]) (rest := []) (lenOf pd_1 rfl) rfl (W := 0) (Nat.le_refl _) rfl (hb hby d2_11) (by decide) (by decide) (pc' := 14) rfl (fun T765 L765 r765 X765 q765 => ?_)
 obtain ⟨N765, e765, q765⟩ := q765
 have N765' := Fr.app N0 N765
 rcases q765 with ⟨v766, h767, hc768, hc769, hc770, rfl⟩ | ⟨v771, h772, hc773, hc774, hc775, rfl⟩ | ⟨v776, h777, hc778, hc779, rfl⟩ | ⟨v780, h781, hc782, rfl⟩
 ·
  have hh783 : v764 = v766 := hv764.trans h767.symm
  subst hh783
  show KEnds p e below s _ _ _ T765 (mkF m 14 #[.val (.ref a1), .val (.int (3 : Int32)), .val (.int v764), .unset, .unset, .unset] [(.int (4 : Int32))])
  refine k_istoreN X765 hx (hb hby d2_14) (Ls' := #[.val (.ref a1), .val (.int (3 : Int32)), .val (.int v764), .val (.int (4 : Int32)), .unset, .unset]) rfl (pc' := 15) rfl ?_
  refine k_iloadN X765 hx (hb hby d2_15) rfl (pc' := 16) rfl ?_
  refine k_iconst X765 hx (hb hby d2_16) (pc' := 17) rfl (z := (1 : Int32)) rfl ?_
  refine k_icmp_ne X765 hx (hb hby d2_17) (pn := 20) rfl (py := 22) (by decide) (fun _ => ?_) (fun hc => absurd hc (by decide))
  refine k_iloadN X765 hx (hb hby d2_22) rfl (pc' := 23) rfl ?_
  refine k_bipush X765 hx (hb hby d2_23) (pc' := 25) rfl (z := (127 : Int32)) rfl ?_
  refine k_iloadN X765 hx (hb hby d2_25) rfl (pc' := 26) rfl ?_
  refine k_ishrL X765 hx (hb hby d2_26) (pc' := 27) rfl (z := (7 : Int32)) (by decide) ?_
  refine k_iand X765 hx (hb hby d2_27) (pc' := 28) rfl (fun v784 hv784 => ?_)
  refine k_istore X765 hx (hb hby d2_28) (Ls' := #[.val (.ref a1), .val (.int (3 : Int32)), .val (.int v764), .val (.int (4 : Int32)), .val (.int v784), .unset]) rfl (pc' := 30) rfl ?_
  refine k_iloadN X765 hx (hb hby d2_30) rfl (pc' := 31) rfl ?_
  refine k_iconst X765 hx (hb hby d2_31) (pc' := 32) rfl (z := (1 : Int32)) rfl ?_
  refine k_iaddL X765 hx (hb hby d2_32) (pc' := 33) rfl (z := (4 : Int32)) (by decide) ?_
  refine k_istore X765 hx (hb hby d2_33) (Ls' := #[.val (.ref a1), .val (.int (3 : Int32)), .val (.int v764), .val (.int (4 : Int32)), .val (.int v784), .val (.int (4 : Int32))]) rfl (pc' := 35) rfl ?_
  refine k_iload X765 hx (hb hby d2_35) rfl (pc' := 37) rfl ?_
  refine k_iloadN X765 hx (hb hby d2_37) rfl (pc' := 38) rfl ?_
  refine k_iloadN X765 hx (hb hby d2_38) rfl (pc' := 39) rfl ?_
  refine k_iaddL X765 hx (hb hby d2_39) (pc' := 40) rfl (z := (7 : Int32)) (by decide) ?_
  refine k_icmp_ge X765 hx (hb hby d2_40) (pn := 43) rfl (py := 64) (by decide) (fun hc => absurd (by decide) hc) (fun _ => ?_)
  refine k_iload X765 hx (hb hby d2_43) rfl (pc' := 45) rfl ?_
  refine k_bipush X765 hx (hb hby d2_45) (pc' := 47) rfl (z := (6 : Int32)) rfl ?_
  refine k_ishl X765 hx (hb hby d2_47) (pc' := 48) rfl (fun v785 hv785 => ?_)
  refine k_aloadN X765 hx (hb hby d2_48) rfl rfl (pc' := 49) rfl ?_
  refine k_iload X765 hx (hb hby d2_49) rfl (pc' := 51) rfl ?_
  refine k_baload X765 hx hZ e765 F0_0 ⟨by decide, by decide⟩ (v := (.int p7)) rfl (hb hby d2_51) (pc' := 52) rfl ?_
  refine k_bipush X765 hx (hb hby d2_52) (pc' := 54) rfl (z := (63 : Int32)) rfl ?_
  refine k_iand X765 hx (hb hby d2_54) (pc' := 55) rfl (fun v786 hv786 => ?_)
  refine k_ior X765 hx (hb hby d2_55) (pc' := 56) rfl (fun v787 hv787 => ?_)
  refine k_istore X765 hx (hb hby d2_56) (Ls' := #[.val (.ref a1), .val (.int (3 : Int32)), .val (.int v764), .val (.int (4 : Int32)), .val (.int v787), .val (.int (4 : Int32))]) rfl (pc' := 58) rfl ?_
  refine k_iinc X765 hx (hb hby d2_58) rfl (pc' := 61) rfl (z := (5 : Int32)) (by decide) (Ls' := #[.val (.ref a1), .val (.int (3 : Int32)), .val (.int v764), .val (.int (4 : Int32)), .val (.int v787), .val (.int (5 : Int32))]) rfl ?_
  refine k_goto X765 hx (hb hby d2_61) (pc' := 35) (by decide) ?_
  refine k_iload X765 hx (hb hby d2_35) rfl (pc' := 37) rfl ?_
  refine k_iloadN X765 hx (hb hby d2_37) rfl (pc' := 38) rfl ?_
  refine k_iloadN X765 hx (hb hby d2_38) rfl (pc' := 39) rfl ?_
  refine k_iaddL X765 hx (hb hby d2_39) (pc' := 40) rfl (z := (7 : Int32)) (by decide) ?_
  refine k_icmp_ge X765 hx (hb hby d2_40) (pn := 43) rfl (py := 64) (by decide) (fun hc => absurd (by decide) hc) (fun _ => ?_)
  refine k_iload X765 hx (hb hby d2_43) rfl (pc' := 45) rfl ?_
  refine k_bipush X765 hx (hb hby d2_45) (pc' := 47) rfl (z := (6 : Int32)) rfl ?_
  refine k_ishl X765 hx (hb hby d2_47) (pc' := 48) rfl (fun v788 hv788 => ?_)
  refine k_aloadN X765 hx (hb hby d2_48) rfl rfl (pc' := 49) rfl ?_
  refine k_iload X765 hx (hb hby d2_49) rfl (pc' := 51) rfl ?_
  refine k_baload X765 hx hZ e765 F0_0 ⟨by decide, by decide⟩ (v := (.int p8)) rfl (hb hby d2_51) (pc' := 52) rfl ?_
  refine k_bipush X765 hx (hb hby d2_52) (pc' := 54) rfl (z := (63 : Int32)) rfl ?_
  refine k_iand X765 hx (hb hby d2_54) (pc' := 55) rfl (fun v789 hv789 => ?_)
  refine k_ior X765 hx (hb hby d2_55) (pc' := 56) rfl (fun v790 hv790 => ?_)
  refine k_istore X765 hx (hb hby d2_56) (Ls' := #[.val (.ref a1), .val (.int (3 : Int32)), .val (.int v764), .val (.int (4 : Int32)), .val (.int v790), .val (.int (5 : Int32))]) rfl (pc' := 58) rfl ?_
  refine k_iinc X765 hx (hb hby d2_58) rfl (pc' := 61) rfl (z := (6 : Int32)) (by decide) (Ls' := #[.val (.ref a1), .val (.int (3 : Int32)), .val (.int v764), .val (.int (4 : Int32)), .val (.int v790), .val (.int (6 : Int32))]) rfl ?_
  refine k_goto X765 hx (hb hby d2_61) (pc' := 35) (by decide) ?_
  refine k_iload X765 hx (hb hby d2_35) rfl (pc' := 37) rfl ?_
  refine k_iloadN X765 hx (hb hby d2_37) rfl (pc' := 38) rfl ?_
  refine k_iloadN X765 hx (hb hby d2_38) rfl (pc' := 39) rfl ?_
  refine k_iaddL X765 hx (hb hby d2_39) (pc' := 40) rfl (z := (7 : Int32)) (by decide) ?_
  refine k_icmp_ge X765 hx (hb hby d2_40) (pn := 43) rfl (py := 64) (by decide) (fun hc => absurd (by decide) hc) (fun _ => ?_)
  refine k_iload X765 hx (hb hby d2_43) rfl (pc' := 45) rfl ?_
  refine k_bipush X765 hx (hb hby d2_45) (pc' := 47) rfl (z := (6 : Int32)) rfl ?_
  refine k_ishl X765 hx (hb hby d2_47) (pc' := 48) rfl (fun v791 hv791 => ?_)
  refine k_aloadN X765 hx (hb hby d2_48) rfl rfl (pc' := 49) rfl ?_
  refine k_iload X765 hx (hb hby d2_49) rfl (pc' := 51) rfl ?_
  refine k_baload X765 hx hZ e765 F0_0 ⟨by decide, by decide⟩ (v := (.int p9)) rfl (hb hby d2_51) (pc' := 52) rfl ?_
  refine k_bipush X765 hx (hb hby d2_52) (pc' := 54) rfl (z := (63 : Int32)) rfl ?_
  refine k_iand X765 hx (hb hby d2_54) (pc' := 55) rfl (fun v792 hv792 => ?_)
  refine k_ior X765 hx (hb hby d2_55) (pc' := 56) rfl (fun v793 hv793 => ?_)
  refine k_istore X765 hx (hb hby d2_56) (Ls' := #[.val (.ref a1), .val (.int (3 : Int32)), .val (.int v764), .val (.int (4 : Int32)), .val (.int v793), .val (.int (6 : Int32))]) rfl (pc' := 58) rfl ?_
  refine k_iinc X765 hx (hb hby d2_58) rfl (pc' := 61) rfl (z := (7 : Int32)) (by decide) (Ls' := #[.val (.ref a1), .val (.int (3 : Int32)), .val (.int v764), .val (.int (4 : Int32)), .val (.int v793), .val (.int (7 : Int32))]) rfl ?_
  refine k_goto X765 hx (hb hby d2_61) (pc' := 35) (by decide) ?_
  refine k_iload X765 hx (hb hby d2_35) rfl (pc' := 37) rfl ?_
  refine k_iloadN X765 hx (hb hby d2_37) rfl (pc' := 38) rfl ?_
  refine k_iloadN X765 hx (hb hby d2_38) rfl (pc' := 39) rfl ?_
  refine k_iaddL X765 hx (hb hby d2_39) (pc' := 40) rfl (z := (7 : Int32)) (by decide) ?_
  refine k_icmp_ge X765 hx (hb hby d2_40) (pn := 43) rfl (py := 64) (by decide) (fun _ => ?_) (fun hc => absurd hc (by decide))
  refine k_iload X765 hx (hb hby d2_64) rfl (pc' := 66) rfl ?_
  exact k_retI X765 hx Bd.returns (hb hby d2_66) hlk (by decide) (by decide) ⟨N765', e765, (Or.inl ⟨v764, v784, v785, v786, v787, v788, v789, v790, v791, v792, v793, hv764, hv784, hv785, hv786, hv787, hv788, hv789, hv790, hv791, hv792, hv793, hc768, hc769, hc770, rfl⟩)⟩
 ·
  have hh794 : v764 = v771 := hv764.trans h772.symm
  subst hh794
  show KEnds p e below s _ _ _ T765 (mkF m 14 #[.val (.ref a1), .val (.int (3 : Int32)), .val (.int v764), .unset, .unset, .unset] [(.int (3 : Int32))])
  refine k_istoreN X765 hx (hb hby d2_14) (Ls' := #[.val (.ref a1), .val (.int (3 : Int32)), .val (.int v764), .val (.int (3 : Int32)), .unset, .unset]) rfl (pc' := 15) rfl ?_
  refine k_iloadN X765 hx (hb hby d2_15) rfl (pc' := 16) rfl ?_
  refine k_iconst X765 hx (hb hby d2_16) (pc' := 17) rfl (z := (1 : Int32)) rfl ?_
  refine k_icmp_ne X765 hx (hb hby d2_17) (pn := 20) rfl (py := 22) (by decide) (fun _ => ?_) (fun hc => absurd hc (by decide))
  refine k_iloadN X765 hx (hb hby d2_22) rfl (pc' := 23) rfl ?_
  refine k_bipush X765 hx (hb hby d2_23) (pc' := 25) rfl (z := (127 : Int32)) rfl ?_
  refine k_iloadN X765 hx (hb hby d2_25) rfl (pc' := 26) rfl ?_
  refine k_ishrL X765 hx (hb hby d2_26) (pc' := 27) rfl (z := (15 : Int32)) (by decide) ?_
  refine k_iand X765 hx (hb hby d2_27) (pc' := 28) rfl (fun v795 hv795 => ?_)
  refine k_istore X765 hx (hb hby d2_28) (Ls' := #[.val (.ref a1), .val (.int (3 : Int32)), .val (.int v764), .val (.int (3 : Int32)), .val (.int v795), .unset]) rfl (pc' := 30) rfl ?_
  refine k_iloadN X765 hx (hb hby d2_30) rfl (pc' := 31) rfl ?_
  refine k_iconst X765 hx (hb hby d2_31) (pc' := 32) rfl (z := (1 : Int32)) rfl ?_
  refine k_iaddL X765 hx (hb hby d2_32) (pc' := 33) rfl (z := (4 : Int32)) (by decide) ?_
  refine k_istore X765 hx (hb hby d2_33) (Ls' := #[.val (.ref a1), .val (.int (3 : Int32)), .val (.int v764), .val (.int (3 : Int32)), .val (.int v795), .val (.int (4 : Int32))]) rfl (pc' := 35) rfl ?_
  refine k_iload X765 hx (hb hby d2_35) rfl (pc' := 37) rfl ?_
  refine k_iloadN X765 hx (hb hby d2_37) rfl (pc' := 38) rfl ?_
  refine k_iloadN X765 hx (hb hby d2_38) rfl (pc' := 39) rfl ?_
  refine k_iaddL X765 hx (hb hby d2_39) (pc' := 40) rfl (z := (6 : Int32)) (by decide) ?_
  refine k_icmp_ge X765 hx (hb hby d2_40) (pn := 43) rfl (py := 64) (by decide) (fun hc => absurd (by decide) hc) (fun _ => ?_)
  refine k_iload X765 hx (hb hby d2_43) rfl (pc' := 45) rfl ?_
  refine k_bipush X765 hx (hb hby d2_45) (pc' := 47) rfl (z := (6 : Int32)) rfl ?_
  refine k_ishl X765 hx (hb hby d2_47) (pc' := 48) rfl (fun v796 hv796 => ?_)
  refine k_aloadN X765 hx (hb hby d2_48) rfl rfl (pc' := 49) rfl ?_
  refine k_iload X765 hx (hb hby d2_49) rfl (pc' := 51) rfl ?_
  refine k_baload X765 hx hZ e765 F0_0 ⟨by decide, by decide⟩ (v := (.int p7)) rfl (hb hby d2_51) (pc' := 52) rfl ?_
  refine k_bipush X765 hx (hb hby d2_52) (pc' := 54) rfl (z := (63 : Int32)) rfl ?_
  refine k_iand X765 hx (hb hby d2_54) (pc' := 55) rfl (fun v797 hv797 => ?_)
  refine k_ior X765 hx (hb hby d2_55) (pc' := 56) rfl (fun v798 hv798 => ?_)
  refine k_istore X765 hx (hb hby d2_56) (Ls' := #[.val (.ref a1), .val (.int (3 : Int32)), .val (.int v764), .val (.int (3 : Int32)), .val (.int v798), .val (.int (4 : Int32))]) rfl (pc' := 58) rfl ?_
  refine k_iinc X765 hx (hb hby d2_58) rfl (pc' := 61) rfl (z := (5 : Int32)) (by decide) (Ls' := #[.val (.ref a1), .val (.int (3 : Int32)), .val (.int v764), .val (.int (3 : Int32)), .val (.int v798), .val (.int (5 : Int32))]) rfl ?_
  refine k_goto X765 hx (hb hby d2_61) (pc' := 35) (by decide) ?_
  refine k_iload X765 hx (hb hby d2_35) rfl (pc' := 37) rfl ?_
  refine k_iloadN X765 hx (hb hby d2_37) rfl (pc' := 38) rfl ?_
  refine k_iloadN X765 hx (hb hby d2_38) rfl (pc' := 39) rfl ?_
  refine k_iaddL X765 hx (hb hby d2_39) (pc' := 40) rfl (z := (6 : Int32)) (by decide) ?_
  refine k_icmp_ge X765 hx (hb hby d2_40) (pn := 43) rfl (py := 64) (by decide) (fun hc => absurd (by decide) hc) (fun _ => ?_)
  refine k_iload X765 hx (hb hby d2_43) rfl (pc' := 45) rfl ?_
  refine k_bipush X765 hx (hb hby d2_45) (pc' := 47) rfl (z := (6 : Int32)) rfl ?_
  refine k_ishl X765 hx (hb hby d2_47) (pc' := 48) rfl (fun v799 hv799 => ?_)
  refine k_aloadN X765 hx (hb hby d2_48) rfl rfl (pc' := 49) rfl ?_
  refine k_iload X765 hx (hb hby d2_49) rfl (pc' := 51) rfl ?_
  refine k_baload X765 hx hZ e765 F0_0 ⟨by decide, by decide⟩ (v := (.int p8)) rfl (hb hby d2_51) (pc' := 52) rfl ?_
  refine k_bipush X765 hx (hb hby d2_52) (pc' := 54) rfl (z := (63 : Int32)) rfl ?_
  refine k_iand X765 hx (hb hby d2_54) (pc' := 55) rfl (fun v800 hv800 => ?_)
  refine k_ior X765 hx (hb hby d2_55) (pc' := 56) rfl (fun v801 hv801 => ?_)
  refine k_istore X765 hx (hb hby d2_56) (Ls' := #[.val (.ref a1), .val (.int (3 : Int32)), .val (.int v764), .val (.int (3 : Int32)), .val (.int v801), .val (.int (5 : Int32))]) rfl (pc' := 58) rfl ?_
  refine k_iinc X765 hx (hb hby d2_58) rfl (pc' := 61) rfl (z := (6 : Int32)) (by decide) (Ls' := #[.val (.ref a1), .val (.int (3 : Int32)), .val (.int v764), .val (.int (3 : Int32)), .val (.int v801), .val (.int (6 : Int32))]) rfl ?_
  refine k_goto X765 hx (hb hby d2_61) (pc' := 35) (by decide) ?_
  refine k_iload X765 hx (hb hby d2_35) rfl (pc' := 37) rfl ?_
  refine k_iloadN X765 hx (hb hby d2_37) rfl (pc' := 38) rfl ?_
  refine k_iloadN X765 hx (hb hby d2_38) rfl (pc' := 39) rfl ?_
  refine k_iaddL X765 hx (hb hby d2_39) (pc' := 40) rfl (z := (6 : Int32)) (by decide) ?_
  refine k_icmp_ge X765 hx (hb hby d2_40) (pn := 43) rfl (py := 64) (by decide) (fun _ => ?_) (fun hc => absurd hc (by decide))
  refine k_iload X765 hx (hb hby d2_64) rfl (pc' := 66) rfl ?_
  exact k_retI X765 hx Bd.returns (hb hby d2_66) hlk (by decide) (by decide) ⟨N765', e765, (Or.inr (Or.inl ⟨v764, v795, v796, v797, v798, v799, v800, v801, hv764, hv795, hv796, hv797, hv798, hv799, hv800, hv801, hc773, hc774, hc775, rfl⟩))⟩
 ·
  have hh802 : v764 = v776 := hv764.trans h777.symm
  subst hh802
  show KEnds p e below s _ _ _ T765 (mkF m 14 #[.val (.ref a1), .val (.int (3 : Int32)), .val (.int v764), .unset, .unset, .unset] [(.int (2 : Int32))])
  refine k_istoreN X765 hx (hb hby d2_14) (Ls' := #[.val (.ref a1), .val (.int (3 : Int32)), .val (.int v764), .val (.int (2 : Int32)), .unset, .unset]) rfl (pc' := 15) rfl ?_
  refine k_iloadN X765 hx (hb hby d2_15) rfl (pc' := 16) rfl ?_
  refine k_iconst X765 hx (hb hby d2_16) (pc' := 17) rfl (z := (1 : Int32)) rfl ?_
  refine k_icmp_ne X765 hx (hb hby d2_17) (pn := 20) rfl (py := 22) (by decide) (fun _ => ?_) (fun hc => absurd hc (by decide))
  refine k_iloadN X765 hx (hb hby d2_22) rfl (pc' := 23) rfl ?_
  refine k_bipush X765 hx (hb hby d2_23) (pc' := 25) rfl (z := (127 : Int32)) rfl ?_
  refine k_iloadN X765 hx (hb hby d2_25) rfl (pc' := 26) rfl ?_
  refine k_ishrL X765 hx (hb hby d2_26) (pc' := 27) rfl (z := (31 : Int32)) (by decide) ?_
  refine k_iand X765 hx (hb hby d2_27) (pc' := 28) rfl (fun v803 hv803 => ?_)
  refine k_istore X765 hx (hb hby d2_28) (Ls' := #[.val (.ref a1), .val (.int (3 : Int32)), .val (.int v764), .val (.int (2 : Int32)), .val (.int v803), .unset]) rfl (pc' := 30) rfl ?_
  refine k_iloadN X765 hx (hb hby d2_30) rfl (pc' := 31) rfl ?_
  refine k_iconst X765 hx (hb hby d2_31) (pc' := 32) rfl (z := (1 : Int32)) rfl ?_
  refine k_iaddL X765 hx (hb hby d2_32) (pc' := 33) rfl (z := (4 : Int32)) (by decide) ?_
  refine k_istore X765 hx (hb hby d2_33) (Ls' := #[.val (.ref a1), .val (.int (3 : Int32)), .val (.int v764), .val (.int (2 : Int32)), .val (.int v803), .val (.int (4 : Int32))]) rfl (pc' := 35) rfl ?_
  refine k_iload X765 hx (hb hby d2_35) rfl (pc' := 37) rfl ?_
  refine k_iloadN X765 hx (hb hby d2_37) rfl (pc' := 38) rfl ?_
  refine k_iloadN X765 hx (hb hby d2_38) rfl (pc' := 39) rfl ?_
  refine k_iaddL X765 hx (hb hby d2_39) (pc' := 40) rfl (z := (5 : Int32)) (by decide) ?_
  refine k_icmp_ge X765 hx (hb hby d2_40) (pn := 43) rfl (py := 64) (by decide) (fun hc => absurd (by decide) hc) (fun _ => ?_)
  refine k_iload X765 hx (hb hby d2_43) rfl (pc' := 45) rfl ?_
  refine k_bipush X765 hx (hb hby d2_45) (pc' := 47) rfl (z := (6 : Int32)) rfl ?_
  refine k_ishl X765 hx (hb hby d2_47) (pc' := 48) rfl (fun v804 hv804 => ?_)
  refine k_aloadN X765 hx (hb hby d2_48) rfl rfl (pc' := 49) rfl ?_
  refine k_iload X765 hx (hb hby d2_49) rfl (pc' := 51) rfl ?_
  refine k_baload X765 hx hZ e765 F0_0 ⟨by decide, by decide⟩ (v := (.int p7)) rfl (hb hby d2_51) (pc' := 52) rfl ?_
  refine k_bipush X765 hx (hb hby d2_52) (pc' := 54) rfl (z := (63 : Int32)) rfl ?_
  refine k_iand X765 hx (hb hby d2_54) (pc' := 55) rfl (fun v805 hv805 => ?_)
  refine k_ior X765 hx (hb hby d2_55) (pc' := 56) rfl (fun v806 hv806 => ?_)
  refine k_istore X765 hx (hb hby d2_56) (Ls' := #[.val (.ref a1), .val (.int (3 : Int32)), .val (.int v764), .val (.int (2 : Int32)), .val (.int v806), .val (.int (4 : Int32))]) rfl (pc' := 58) rfl ?_
  refine k_iinc X765 hx (hb hby d2_58) rfl (pc' := 61) rfl (z := (5 : Int32)) (by decide) (Ls' := #[.val (.ref a1), .val (.int (3 : Int32)), .val (.int v764), .val (.int (2 : Int32)), .val (.int v806), .val (.int (5 : Int32))]) rfl ?_
  refine k_goto X765 hx (hb hby d2_61) (pc' := 35) (by decide) ?_
  refine k_iload X765 hx (hb hby d2_35) rfl (pc' := 37) rfl ?_
  refine k_iloadN X765 hx (hb hby d2_37) rfl (pc' := 38) rfl ?_
  refine k_iloadN X765 hx (hb hby d2_38) rfl (pc' := 39) rfl ?_
  refine k_iaddL X765 hx (hb hby d2_39) (pc' := 40) rfl (z := (5 : Int32)) (by decide) ?_
  refine k_icmp_ge X765 hx (hb hby d2_40) (pn := 43) rfl (py := 64) (by decide) (fun _ => ?_) (fun hc => absurd hc (by decide))
  refine k_iload X765 hx (hb hby d2_64) rfl (pc' := 66) rfl ?_
  exact k_retI X765 hx Bd.returns (hb hby d2_66) hlk (by decide) (by decide) ⟨N765', e765, (Or.inr (Or.inr (Or.inl ⟨v764, v803, v804, v805, v806, hv764, hv803, hv804, hv805, hv806, hc778, hc779, rfl⟩)))⟩
 ·
  have hh807 : v764 = v780 := hv764.trans h781.symm
  subst hh807
  show KEnds p e below s _ _ _ T765 (mkF m 14 #[.val (.ref a1), .val (.int (3 : Int32)), .val (.int v764), .unset, .unset, .unset] [(.int (1 : Int32))])
  refine k_istoreN X765 hx (hb hby d2_14) (Ls' := #[.val (.ref a1), .val (.int (3 : Int32)), .val (.int v764), .val (.int (1 : Int32)), .unset, .unset]) rfl (pc' := 15) rfl ?_
  refine k_iloadN X765 hx (hb hby d2_15) rfl (pc' := 16) rfl ?_
  refine k_iconst X765 hx (hb hby d2_16) (pc' := 17) rfl (z := (1 : Int32)) rfl ?_
  refine k_icmp_ne X765 hx (hb hby d2_17) (pn := 20) rfl (py := 22) (by decide) (fun hc => absurd (by decide) hc) (fun _ => ?_)
  refine k_iloadN X765 hx (hb hby d2_20) rfl (pc' := 21) rfl ?_
  exact k_retI X765 hx Bd.returns (hb hby d2_21) hlk (by decide) (by decide) ⟨N765', e765, (Or.inr (Or.inr (Or.inr ⟨v764, hv764, hc782, rfl⟩)))⟩
theorem ef0 (m : MethodId) (x0 : Int32) (x1 : Int32) (x2 : Int32) (x3 : Int64) : entryFrame m #[(.int x0), (.int x1), (.int x2), (.long x3)] maxLocals = mkF m 0 #[.val (.int x0), .val (.int x1), .val (.int x2), .val (.long x3), .second, .unset, .unset, .unset, .unset, .unset] [] := by first | (simp [entryFrame, mkF, argsToLocals, Value.category, maxLocals]; done) | rfl
def Q0 (n0 : Nat) (v : Option Value) (h : Heap) (L : List Loc) : Prop := v = some (.int 1) ∧ Fr n0 L
set_option maxRecDepth 65536 in
set_option maxHeartbeats 40000000 in
theorem rm0 (l : Launch) (Z : State) (a0 : Array Value) (hw : ∀ d ∈ tables_1, d.before a0 Z = true) (ws : List Jvm.Cond) (i0 : Int32) (i1 : Int32) (i2 : Int32) (i3 : Int64) (h0 : Heap) (n0 : Nat) (Z0 : n0 ≤ h0.size) :
    MetFree l x (head1 (Jvm.Cond.code x code maxLocals ret :: ws) room_1) (fun a U => a = #[(.int i0), (.int i1), (.int i2), (.long i3)] ∧ Z.Warmed39 U.vm ∧ U.heap = h0) (fun _ _ _ _ _ => True) (fun _ U o U' => ∃ v L, o = .returned v ∧ Q0 n0 v U'.heap L ∧ FrameEnd U o U' L 16 128) := by
 refine MetFree.of_bodySF (plainFor_of_name pn_0) hisR ?_
 intro p e s m args below meth c s₁ Bd hml0 hP hK
 obtain ⟨rfl, hZ, hh⟩ := hP
 have hx := Bd.exec
 have hby := Bd.bytes
 have hml : c.maxLocals = 10 := hml0
 have hlk : meth.locks = false := Bd.notSynchronized
 have hown : s.vm.findClass "com/example/parlance/parlance/MessageBytesCodePointAtPinLaw" = some m.cls := findClass_of_methodNamed Bd.named
 have hnm := (name_of_methodNamed Bd.named Bd.method).1
 have X0 : Stand p l e room_1 s m #[(.int i0), (.int i1), (.int i2), (.long i3)] below meth c s₁ [] 0 0 := Stand.of_body Bd
 have e0 : s₁.heap = h0 := by rw [← hh, Bd.state]; rfl
 have N0 := Fr.nil n0
 rw [show entryFrame m #[(.int i0), (.int i1), (.int i2), (.long i3)] maxLocals = _ from ef0 m i0 i1 i2 i3]
 show KEnds p e below s 16 128 (Q0 n0) s₁ (mkF m 0 #[.val (.int i0), .val (.int i1), .val (.int i2), .val (.long i3), .second, .unset, .unset, .unset, .unset, .unset] [])
 refine k_iloadN X0 hx (hb hby at_0) rfl (pc' := 1) rfl ?_
 refine k_ldc X0 hx hZ hown (hw _ (List.mem_of_getElem? (i := 0) rfl)) (hb hby at_1) (pc' := 3) rfl ?_
 refine k_iand X0 hx (hb hby at_3) (pc' := 4) rfl (fun v1 hv1 => ?_)
 refine k_istore X0 hx (hb hby at_4) (Ls' := #[.val (.int i0), .val (.int i1), .val (.int i2), .val (.long i3), .second, .val (.int v1), .unset, .unset, .unset, .unset]) rfl (pc' := 6) rfl ?_
 refine k_iloadN X0 hx (hb hby at_6) rfl (pc' := 7) rfl ?_
 refine k_iconst X0 hx (hb hby at_7) (pc' := 8) rfl (z := (3 : Int32)) rfl ?_
 refine k_iand X0 hx (hb hby at_8) (pc' := 9) rfl (fun v2 hv2 => ?_)
 have hs3 : v2 = (0 : Int32) ∨ v2 = (1 : Int32) ∨ v2 = (2 : Int32) ∨ v2 = (3 : Int32) := by
  have B6 : (-2147483648 : Int) ≤ i0.toInt ∧ i0.toInt ≤ 2147483647 := ⟨(rng32 i0).1, Int.le_of_lt_add_one (rng32 i0).2⟩
  have q5 : v2.toInt = i0.toInt % 4 := (by rw [hv2]; exact c_mask _ _ 2 (by decide) (by decide))
  have B4 : (0 : Int) ≤ v2.toInt ∧ v2.toInt ≤ 3 := (by rw [q5]; exact k_modB (by decide))
  rcases (by omega : v2.toInt = 0 ∨ v2.toInt = 1 ∨ v2.toInt = 2 ∨ v2.toInt = 3) with hq | hq | hq | hq
  · exact Or.inl (Int32.toInt_inj.mp hq)
  · exact Or.inr (Or.inl (Int32.toInt_inj.mp hq))
  · exact Or.inr (Or.inr (Or.inl (Int32.toInt_inj.mp hq)))
  · exact Or.inr (Or.inr (Or.inr ((Int32.toInt_inj.mp hq))))
 rcases hs3 with rfl | rfl | rfl | rfl
 ·
  show KEnds p e below s _ _ _ s₁ (mkF m 9 #[.val (.int i0), .val (.int i1), .val (.int i2), .val (.long i3), .second, .val (.int v1), .unset, .unset, .unset, .unset] [(.int (0 : Int32))])
  refine k_istore X0 hx (hb hby at_9) (Ls' := #[.val (.int i0), .val (.int i1), .val (.int i2), .val (.long i3), .second, .val (.int v1), .val (.int (0 : Int32)), .unset, .unset, .unset]) rfl (pc' := 11) rfl ?_
  suffices key8 : ∀ (v46 : Int32), (¬ v46 < (0 : Int32) ∧ ¬ (127 : Int32) < v46) → KEnds p e below s 16 128 (Q0 n0) s₁ (mkF m 99 #[.val (.int i0), .val (.int i1), .val (.int i2), .val (.long i3), .second, .val (.int v1), .val (.int (0 : Int32)), .val (.int v46), .unset, .unset] []) by
   refine k_iload X0 hx (hb hby at_11) rfl (pc' := 13) rfl ?_
   refine k_if_ne X0 hx (hb hby at_13) (pn := 16) rfl (py := 26) (by decide) (fun hc => absurd (by decide) hc) (fun _ => ?_)
   refine k_iload X0 hx (hb hby at_16) rfl (pc' := 18) rfl ?_
   refine k_bipush X0 hx (hb hby at_18) (pc' := 20) rfl (z := (127 : Int32)) rfl ?_
   refine k_iand X0 hx (hb hby at_20) (pc' := 21) rfl (fun v9 hv9 => ?_)
   refine k_istore X0 hx (hb hby at_21) (Ls' := #[.val (.int i0), .val (.int i1), .val (.int i2), .val (.long i3), .second, .val (.int v1), .val (.int (0 : Int32)), .val (.int v9), .unset, .unset]) rfl (pc' := 23) rfl ?_
   refine k_goto X0 hx (hb hby at_23) (pc' := 99) (by decide) ?_
   refine key8 v9 ?_
   refine ⟨?_, ?_⟩
   · intro hq28
     have B33 : (-2147483648 : Int) ≤ i1.toInt ∧ i1.toInt ≤ 2147483647 := ⟨(rng32 i1).1, Int.le_of_lt_add_one (rng32 i1).2⟩
     have q32 : v1.toInt = i1.toInt % 2147483648 := (by rw [hv1]; exact c_mask _ _ 31 (by decide) (by decide))
     have B31 : (0 : Int) ≤ v1.toInt ∧ v1.toInt ≤ 2147483647 := (by rw [q32]; exact k_modB (by decide))
     have q30 : v9.toInt = v1.toInt % 128 := (by rw [hv9]; exact c_mask _ _ 7 (by decide) (by decide))
     have B29 : (0 : Int) ≤ v9.toInt ∧ v9.toInt ≤ 127 := (by rw [q30]; exact k_modB (by decide))
     have B34 : (0 : Int) ≤ v9.toInt ∧ v9.toInt ≤ -1 := ⟨B29.1, k_lt hq28 (by decide)⟩
     have B35 : (0 : Int) ≤ (0 : Int32).toInt ∧ (0 : Int32).toInt ≤ 0 := (by decide)
     have q36 := hq28; rw [Int32.lt_iff_toInt_lt] at q36
     omega
   · intro hq37
     have B38 : (127 : Int) ≤ (127 : Int32).toInt ∧ (127 : Int32).toInt ≤ 127 := (by decide)
     have B43 : (-2147483648 : Int) ≤ i1.toInt ∧ i1.toInt ≤ 2147483647 := ⟨(rng32 i1).1, Int.le_of_lt_add_one (rng32 i1).2⟩
     have q42 : v1.toInt = i1.toInt % 2147483648 := (by rw [hv1]; exact c_mask _ _ 31 (by decide) (by decide))
     have B41 : (0 : Int) ≤ v1.toInt ∧ v1.toInt ≤ 2147483647 := (by rw [q42]; exact k_modB (by decide))
     have q40 : v9.toInt = v1.toInt % 128 := (by rw [hv9]; exact c_mask _ _ 7 (by decide) (by decide))
     have B39 : (0 : Int) ≤ v9.toInt ∧ v9.toInt ≤ 127 := (by rw [q40]; exact k_modB (by decide))
     have B44 : (128 : Int) ≤ v9.toInt ∧ v9.toInt ≤ 127 := ⟨k_gt hq37 (by decide), B39.2⟩
     have q45 := hq37; rw [Int32.lt_iff_toInt_lt] at q45
     omega
  intro v46 hP47
  refine k_iloadN X0 hx (hb hby at_99) rfl (pc' := 100) rfl ?_
  refine k_iconst X0 hx (hb hby at_100) (pc' := 101) rfl (z := (3 : Int32)) rfl ?_
  refine k_iand X0 hx (hb hby at_101) (pc' := 102) rfl (fun v48 hv48 => ?_)
  have hs49 : v48 = (0 : Int32) ∨ v48 = (1 : Int32) ∨ v48 = (2 : Int32) ∨ v48 = (3 : Int32) := by
   have B52 : (-2147483648 : Int) ≤ i2.toInt ∧ i2.toInt ≤ 2147483647 := ⟨(rng32 i2).1, Int.le_of_lt_add_one (rng32 i2).2⟩
   have q51 : v48.toInt = i2.toInt % 4 := (by rw [hv48]; exact c_mask _ _ 2 (by decide) (by decide))
   have B50 : (0 : Int) ≤ v48.toInt ∧ v48.toInt ≤ 3 := (by rw [q51]; exact k_modB (by decide))
   rcases (by omega : v48.toInt = 0 ∨ v48.toInt = 1 ∨ v48.toInt = 2 ∨ v48.toInt = 3) with hq | hq | hq | hq
   · exact Or.inl (Int32.toInt_inj.mp hq)
   · exact Or.inr (Or.inl (Int32.toInt_inj.mp hq))
   · exact Or.inr (Or.inr (Or.inl (Int32.toInt_inj.mp hq)))
   · exact Or.inr (Or.inr (Or.inr ((Int32.toInt_inj.mp hq))))
  rcases hs49 with rfl | rfl | rfl | rfl
  ·
   show KEnds p e below s _ _ _ s₁ (mkF m 102 #[.val (.int i0), .val (.int i1), .val (.int i2), .val (.long i3), .second, .val (.int v1), .val (.int (0 : Int32)), .val (.int v46), .unset, .unset] [(.int (0 : Int32))])
   refine k_istore X0 hx (hb hby at_102) (Ls' := #[.val (.int i0), .val (.int i1), .val (.int i2), .val (.long i3), .second, .val (.int v1), .val (.int (0 : Int32)), .val (.int v46), .val (.int (0 : Int32)), .unset]) rfl (pc' := 104) rfl ?_
   refine k_bipush X0 hx (hb hby at_104) (pc' := 106) rfl (z := (8 : Int32)) rfl ?_
   refine k_newA X0 hx hZ (hw _ (List.mem_of_getElem? (i := 1) rfl)) e0 (hb hby at_106) (by decide) (cap := 8) (by decide) (by decide) (by decide) (by decide) (pc' := 108) rfl (fun T54 h54 b54 k54 g54 X54 e54 E54 V54 => ?_)
   have g_b54 : n0 ≤ b54 := Nat.le_trans Z0 (Nat.le_of_eq g54.symm)
   have Z54 : n0 ≤ h54.size := Nat.le_trans Z0 E54.1
   have Vw54 : Arv Z h54 b54 k54 .byte (8 : Int32) [(.int (0 : Int32)), (.int (0 : Int32)), (.int (0 : Int32)), (.int (0 : Int32)), (.int (0 : Int32)), (.int (0 : Int32)), (.int (0 : Int32)), (.int (0 : Int32))] (.int (0 : Int32)) := V54
   refine k_astore X54 hx (hb hby at_108) rfl (Ls' := #[.val (.int i0), .val (.int i1), .val (.int i2), .val (.long i3), .second, .val (.int v1), .val (.int (0 : Int32)), .val (.int v46), .val (.int (0 : Int32)), .val (.ref b54)]) rfl (pc' := 110) rfl ?_
   refine k_aload X54 hx (hb hby at_110) rfl rfl (pc' := 112) rfl ?_
   refine k_iconst X54 hx (hb hby at_112) (pc' := 113) rfl (z := (0 : Int32)) rfl ?_
   refine k_lloadN X54 hx (hb hby at_113) rfl (pc' := 114) rfl ?_
   refine k_iconst X54 hx (hb hby at_114) (pc' := 115) rfl (z := (0 : Int32)) rfl ?_
   refine k_callS X54 hx hZ hown (hw _ (List.mem_of_getElem? (i := 2) rfl)) (hw _ (List.mem_of_getElem? (i := 3) rfl)) (hw _ (List.mem_of_getElem? (i := 4) rfl)) (hw _ (List.mem_of_getElem? (i := 5) rfl)) (by decide) (rm1_55 l Z a0 hw [] i3 h54 n0 Z54 ) (by decide) (by decide) e54 (by rw [hml]; rfl) (argsL := [(.long i3), (.int (0 : Int32))]) (rest := [(.int (0 : Int32)), (.ref b54)]) (lenOf pd_0 rfl) rfl (W := 2) (Nat.le_refl _) rfl (hb hby at_115) (by decide) (by decide) (pc' := 118) rfl (fun T56 L56 r56 X56 q56 => ?_)
   obtain ⟨N56, e56, rfl⟩ := q56
   have N56' := Fr.app N0 N56
   show KEnds p e below s _ _ _ T56 (mkF m 118 #[.val (.int i0), .val (.int i1), .val (.int i2), .val (.long i3), .second, .val (.int v1), .val (.int (0 : Int32)), .val (.int v46), .val (.int (0 : Int32)), .val (.ref b54)] ((.int (f1_55 i3)) :: (.int (0 : Int32)) :: (.ref b54) :: []))
   obtain ⟨v57, hv57⟩ : ∃ z, z = f1_55 i3 := ⟨_, rfl⟩
   rw [← hv57]
   have hb58 : v57.toInt8.toInt32 = v57 := by rw [hv57]; exact f1_55_byte i3
   refine k_bastore X56 hx hZ e56 Vw54 ⟨by decide, by decide⟩ (i := 0) rfl (Nat.le_of_ble_eq_true rfl) (hb hby at_118) (pc' := 119) rfl (fun T59 h59 X59 e59 W59 V59 => ?_)
   rw [hb58] at V59
   have Vw59 : Arv Z h59 b54 k54 .byte (8 : Int32) [(.int v57), (.int (0 : Int32)), (.int (0 : Int32)), (.int (0 : Int32)), (.int (0 : Int32)), (.int (0 : Int32)), (.int (0 : Int32)), (.int (0 : Int32))] (.int (0 : Int32)) := V59
   have N59 := Fr.snoc X59 N56' g_b54
   have Z59 : n0 ≤ h59.size := Nat.le_trans Z54 (Nat.le_of_eq W59.size.symm)
   refine k_aload X59 hx (hb hby at_119) rfl rfl (pc' := 121) rfl ?_
   refine k_iconst X59 hx (hb hby at_121) (pc' := 122) rfl (z := (1 : Int32)) rfl ?_
   refine k_lloadN X59 hx (hb hby at_122) rfl (pc' := 123) rfl ?_
   refine k_iconst X59 hx (hb hby at_123) (pc' := 124) rfl (z := (1 : Int32)) rfl ?_
   refine k_callS X59 hx hZ hown (hw _ (List.mem_of_getElem? (i := 2) rfl)) (hw _ (List.mem_of_getElem? (i := 3) rfl)) (hw _ (List.mem_of_getElem? (i := 4) rfl)) (hw _ (List.mem_of_getElem? (i := 5) rfl)) (by decide) (rm1_60 l Z a0 hw [] i3 h59 n0 Z59 ) (by decide) (by decide) e59 (by rw [hml]; rfl) (argsL := [(.long i3), (.int (1 : Int32))]) (rest := [(.int (1 : Int32)), (.ref b54)]) (lenOf pd_0 rfl) rfl (W := 2) (Nat.le_refl _) rfl (hb hby at_124) (by decide) (by decide) (pc' := 127) rfl (fun T61 L61 r61 X61 q61 => ?_)
   obtain ⟨N61, e61, rfl⟩ := q61
   have N61' := Fr.app N59 N61
   show KEnds p e below s _ _ _ T61 (mkF m 127 #[.val (.int i0), .val (.int i1), .val (.int i2), .val (.long i3), .second, .val (.int v1), .val (.int (0 : Int32)), .val (.int v46), .val (.int (0 : Int32)), .val (.ref b54)] ((.int (f1_60 i3)) :: (.int (1 : Int32)) :: (.ref b54) :: []))
   obtain ⟨v62, hv62⟩ : ∃ z, z = f1_60 i3 := ⟨_, rfl⟩
   rw [← hv62]
   have hb63 : v62.toInt8.toInt32 = v62 := by rw [hv62]; exact f1_60_byte i3
   refine k_bastore X61 hx hZ e61 Vw59 ⟨by decide, by decide⟩ (i := 1) rfl (Nat.le_of_ble_eq_true rfl) (hb hby at_127) (pc' := 128) rfl (fun T64 h64 X64 e64 W64 V64 => ?_)
   rw [hb63] at V64
   have Vw64 : Arv Z h64 b54 k54 .byte (8 : Int32) [(.int v57), (.int v62), (.int (0 : Int32)), (.int (0 : Int32)), (.int (0 : Int32)), (.int (0 : Int32)), (.int (0 : Int32)), (.int (0 : Int32))] (.int (0 : Int32)) := V64
   have N64 := Fr.snoc X64 N61' g_b54
   have Z64 : n0 ≤ h64.size := Nat.le_trans Z59 (Nat.le_of_eq W64.size.symm)
   refine k_aload X64 hx (hb hby at_128) rfl rfl (pc' := 130) rfl ?_
   refine k_iconst X64 hx (hb hby at_130) (pc' := 131) rfl (z := (2 : Int32)) rfl ?_
   refine k_lloadN X64 hx (hb hby at_131) rfl (pc' := 132) rfl ?_
   refine k_iconst X64 hx (hb hby at_132) (pc' := 133) rfl (z := (2 : Int32)) rfl ?_
   refine k_callS X64 hx hZ hown (hw _ (List.mem_of_getElem? (i := 2) rfl)) (hw _ (List.mem_of_getElem? (i := 3) rfl)) (hw _ (List.mem_of_getElem? (i := 4) rfl)) (hw _ (List.mem_of_getElem? (i := 5) rfl)) (by decide) (rm1_65 l Z a0 hw [] i3 h64 n0 Z64 ) (by decide) (by decide) e64 (by rw [hml]; rfl) (argsL := [(.long i3), (.int (2 : Int32))]) (rest := [(.int (2 : Int32)), (.ref b54)]) (lenOf pd_0 rfl) rfl (W := 2) (Nat.le_refl _) rfl (hb hby at_133) (by decide) (by decide) (pc' := 136) rfl (fun T66 L66 r66 X66 q66 => ?_)
   obtain ⟨N66, e66, rfl⟩ := q66
   have N66' := Fr.app N64 N66
   show KEnds p e below s _ _ _ T66 (mkF m 136 #[.val (.int i0), .val (.int i1), .val (.int i2), .val (.long i3), .second, .val (.int v1), .val (.int (0 : Int32)), .val (.int v46), .val (.int (0 : Int32)), .val (.ref b54)] ((.int (f1_65 i3)) :: (.int (2 : Int32)) :: (.ref b54) :: []))
   obtain ⟨v67, hv67⟩ : ∃ z, z = f1_65 i3 := ⟨_, rfl⟩
   rw [← hv67]
   have hb68 : v67.toInt8.toInt32 = v67 := by rw [hv67]; exact f1_65_byte i3
   refine k_bastore X66 hx hZ e66 Vw64 ⟨by decide, by decide⟩ (i := 2) rfl (Nat.le_of_ble_eq_true rfl) (hb hby at_136) (pc' := 137) rfl (fun T69 h69 X69 e69 W69 V69 => ?_)
   rw [hb68] at V69
   have Vw69 : Arv Z h69 b54 k54 .byte (8 : Int32) [(.int v57), (.int v62), (.int v67), (.int (0 : Int32)), (.int (0 : Int32)), (.int (0 : Int32)), (.int (0 : Int32)), (.int (0 : Int32))] (.int (0 : Int32)) := V69
   have N69 := Fr.snoc X69 N66' g_b54
   have Z69 : n0 ≤ h69.size := Nat.le_trans Z64 (Nat.le_of_eq W69.size.symm)
   refine k_aload X69 hx (hb hby at_137) rfl rfl (pc' := 139) rfl ?_
   refine k_iconst X69 hx (hb hby at_139) (pc' := 140) rfl (z := (3 : Int32)) rfl ?_
   refine k_lloadN X69 hx (hb hby at_140) rfl (pc' := 141) rfl ?_
   refine k_iconst X69 hx (hb hby at_141) (pc' := 142) rfl (z := (3 : Int32)) rfl ?_
   refine k_callS X69 hx hZ hown (hw _ (List.mem_of_getElem? (i := 2) rfl)) (hw _ (List.mem_of_getElem? (i := 3) rfl)) (hw _ (List.mem_of_getElem? (i := 4) rfl)) (hw _ (List.mem_of_getElem? (i := 5) rfl)) (by decide) (rm1_70 l Z a0 hw [] i3 h69 n0 Z69 ) (by decide) (by decide) e69 (by rw [hml]; rfl) (argsL := [(.long i3), (.int (3 : Int32))]) (rest := [(.int (3 : Int32)), (.ref b54)]) (lenOf pd_0 rfl) rfl (W := 2) (Nat.le_refl _) rfl (hb hby at_142) (by decide) (by decide) (pc' := 145) rfl (fun T71 L71 r71 X71 q71 => ?_)
   obtain ⟨N71, e71, rfl⟩ := q71
   have N71' := Fr.app N69 N71
   show KEnds p e below s _ _ _ T71 (mkF m 145 #[.val (.int i0), .val (.int i1), .val (.int i2), .val (.long i3), .second, .val (.int v1), .val (.int (0 : Int32)), .val (.int v46), .val (.int (0 : Int32)), .val (.ref b54)] ((.int (f1_70 i3)) :: (.int (3 : Int32)) :: (.ref b54) :: []))
   obtain ⟨v72, hv72⟩ : ∃ z, z = f1_70 i3 := ⟨_, rfl⟩
   rw [← hv72]
   have hb73 : v72.toInt8.toInt32 = v72 := by rw [hv72]; exact f1_70_byte i3
   refine k_bastore X71 hx hZ e71 Vw69 ⟨by decide, by decide⟩ (i := 3) rfl (Nat.le_of_ble_eq_true rfl) (hb hby at_145) (pc' := 146) rfl (fun T74 h74 X74 e74 W74 V74 => ?_)
   rw [hb73] at V74
   have Vw74 : Arv Z h74 b54 k54 .byte (8 : Int32) [(.int v57), (.int v62), (.int v67), (.int v72), (.int (0 : Int32)), (.int (0 : Int32)), (.int (0 : Int32)), (.int (0 : Int32))] (.int (0 : Int32)) := V74
   have N74 := Fr.snoc X74 N71' g_b54
   have Z74 : n0 ≤ h74.size := Nat.le_trans Z69 (Nat.le_of_eq W74.size.symm)
   refine k_aload X74 hx (hb hby at_146) rfl rfl (pc' := 148) rfl ?_
   refine k_iconst X74 hx (hb hby at_148) (pc' := 149) rfl (z := (4 : Int32)) rfl ?_
   refine k_lloadN X74 hx (hb hby at_149) rfl (pc' := 150) rfl ?_
   refine k_iconst X74 hx (hb hby at_150) (pc' := 151) rfl (z := (4 : Int32)) rfl ?_
   refine k_callS X74 hx hZ hown (hw _ (List.mem_of_getElem? (i := 2) rfl)) (hw _ (List.mem_of_getElem? (i := 3) rfl)) (hw _ (List.mem_of_getElem? (i := 4) rfl)) (hw _ (List.mem_of_getElem? (i := 5) rfl)) (by decide) (rm1_75 l Z a0 hw [] i3 h74 n0 Z74 ) (by decide) (by decide) e74 (by rw [hml]; rfl) (argsL := [(.long i3), (.int (4 : Int32))]) (rest := [(.int (4 : Int32)), (.ref b54)]) (lenOf pd_0 rfl) rfl (W := 2) (Nat.le_refl _) rfl (hb hby at_151) (by decide) (by decide) (pc' := 154) rfl (fun T76 L76 r76 X76 q76 => ?_)
   obtain ⟨N76, e76, rfl⟩ := q76
   have N76' := Fr.app N74 N76
   show KEnds p e below s _ _ _ T76 (mkF m 154 #[.val (.int i0), .val (.int i1), .val (.int i2), .val (.long i3), .second, .val (.int v1), .val (.int (0 : Int32)), .val (.int v46), .val (.int (0 : Int32)), .val (.ref b54)] ((.int (f1_75 i3)) :: (.int (4 : Int32)) :: (.ref b54) :: []))
   obtain ⟨v77, hv77⟩ : ∃ z, z = f1_75 i3 := ⟨_, rfl⟩
   rw [← hv77]
   have hb78 : v77.toInt8.toInt32 = v77 := by rw [hv77]; exact f1_75_byte i3
   refine k_bastore X76 hx hZ e76 Vw74 ⟨by decide, by decide⟩ (i := 4) rfl (Nat.le_of_ble_eq_true rfl) (hb hby at_154) (pc' := 155) rfl (fun T79 h79 X79 e79 W79 V79 => ?_)
   rw [hb78] at V79
   have Vw79 : Arv Z h79 b54 k54 .byte (8 : Int32) [(.int v57), (.int v62), (.int v67), (.int v72), (.int v77), (.int (0 : Int32)), (.int (0 : Int32)), (.int (0 : Int32))] (.int (0 : Int32)) := V79
   have N79 := Fr.snoc X79 N76' g_b54
   have Z79 : n0 ≤ h79.size := Nat.le_trans Z74 (Nat.le_of_eq W79.size.symm)
   refine k_aload X79 hx (hb hby at_155) rfl rfl (pc' := 157) rfl ?_
   refine k_iconst X79 hx (hb hby at_157) (pc' := 158) rfl (z := (5 : Int32)) rfl ?_
   refine k_lloadN X79 hx (hb hby at_158) rfl (pc' := 159) rfl ?_
   refine k_iconst X79 hx (hb hby at_159) (pc' := 160) rfl (z := (5 : Int32)) rfl ?_
   refine k_callS X79 hx hZ hown (hw _ (List.mem_of_getElem? (i := 2) rfl)) (hw _ (List.mem_of_getElem? (i := 3) rfl)) (hw _ (List.mem_of_getElem? (i := 4) rfl)) (hw _ (List.mem_of_getElem? (i := 5) rfl)) (by decide) (rm1_80 l Z a0 hw [] i3 h79 n0 Z79 ) (by decide) (by decide) e79 (by rw [hml]; rfl) (argsL := [(.long i3), (.int (5 : Int32))]) (rest := [(.int (5 : Int32)), (.ref b54)]) (lenOf pd_0 rfl) rfl (W := 2) (Nat.le_refl _) rfl (hb hby at_160) (by decide) (by decide) (pc' := 163) rfl (fun T81 L81 r81 X81 q81 => ?_)
   obtain ⟨N81, e81, rfl⟩ := q81
   have N81' := Fr.app N79 N81
   show KEnds p e below s _ _ _ T81 (mkF m 163 #[.val (.int i0), .val (.int i1), .val (.int i2), .val (.long i3), .second, .val (.int v1), .val (.int (0 : Int32)), .val (.int v46), .val (.int (0 : Int32)), .val (.ref b54)] ((.int (f1_80 i3)) :: (.int (5 : Int32)) :: (.ref b54) :: []))
   obtain ⟨v82, hv82⟩ : ∃ z, z = f1_80 i3 := ⟨_, rfl⟩
   rw [← hv82]
   have hb83 : v82.toInt8.toInt32 = v82 := by rw [hv82]; exact f1_80_byte i3
   refine k_bastore X81 hx hZ e81 Vw79 ⟨by decide, by decide⟩ (i := 5) rfl (Nat.le_of_ble_eq_true rfl) (hb hby at_163) (pc' := 164) rfl (fun T84 h84 X84 e84 W84 V84 => ?_)
   rw [hb83] at V84
   have Vw84 : Arv Z h84 b54 k54 .byte (8 : Int32) [(.int v57), (.int v62), (.int v67), (.int v72), (.int v77), (.int v82), (.int (0 : Int32)), (.int (0 : Int32))] (.int (0 : Int32)) := V84
   have N84 := Fr.snoc X84 N81' g_b54
   have Z84 : n0 ≤ h84.size := Nat.le_trans Z79 (Nat.le_of_eq W84.size.symm)
   refine k_aload X84 hx (hb hby at_164) rfl rfl (pc' := 166) rfl ?_
   refine k_bipush X84 hx (hb hby at_166) (pc' := 168) rfl (z := (6 : Int32)) rfl ?_
   refine k_lloadN X84 hx (hb hby at_168) rfl (pc' := 169) rfl ?_
   refine k_bipush X84 hx (hb hby at_169) (pc' := 171) rfl (z := (6 : Int32)) rfl ?_
   refine k_callS X84 hx hZ hown (hw _ (List.mem_of_getElem? (i := 2) rfl)) (hw _ (List.mem_of_getElem? (i := 3) rfl)) (hw _ (List.mem_of_getElem? (i := 4) rfl)) (hw _ (List.mem_of_getElem? (i := 5) rfl)) (by decide) (rm1_85 l Z a0 hw [] i3 h84 n0 Z84 ) (by decide) (by decide) e84 (by rw [hml]; rfl) (argsL := [(.long i3), (.int (6 : Int32))]) (rest := [(.int (6 : Int32)), (.ref b54)]) (lenOf pd_0 rfl) rfl (W := 2) (Nat.le_refl _) rfl (hb hby at_171) (by decide) (by decide) (pc' := 174) rfl (fun T86 L86 r86 X86 q86 => ?_)
   obtain ⟨N86, e86, rfl⟩ := q86
   have N86' := Fr.app N84 N86
   show KEnds p e below s _ _ _ T86 (mkF m 174 #[.val (.int i0), .val (.int i1), .val (.int i2), .val (.long i3), .second, .val (.int v1), .val (.int (0 : Int32)), .val (.int v46), .val (.int (0 : Int32)), .val (.ref b54)] ((.int (f1_85 i3)) :: (.int (6 : Int32)) :: (.ref b54) :: []))
   obtain ⟨v87, hv87⟩ : ∃ z, z = f1_85 i3 := ⟨_, rfl⟩
   rw [← hv87]
   have hb88 : v87.toInt8.toInt32 = v87 := by rw [hv87]; exact f1_85_byte i3
   refine k_bastore X86 hx hZ e86 Vw84 ⟨by decide, by decide⟩ (i := 6) rfl (Nat.le_of_ble_eq_true rfl) (hb hby at_174) (pc' := 175) rfl (fun T89 h89 X89 e89 W89 V89 => ?_)
   rw [hb88] at V89
   have Vw89 : Arv Z h89 b54 k54 .byte (8 : Int32) [(.int v57), (.int v62), (.int v67), (.int v72), (.int v77), (.int v82), (.int v87), (.int (0 : Int32))] (.int (0 : Int32)) := V89
   have N89 := Fr.snoc X89 N86' g_b54
   have Z89 : n0 ≤ h89.size := Nat.le_trans Z84 (Nat.le_of_eq W89.size.symm)
   refine k_aload X89 hx (hb hby at_175) rfl rfl (pc' := 177) rfl ?_
   refine k_bipush X89 hx (hb hby at_177) (pc' := 179) rfl (z := (7 : Int32)) rfl ?_
   refine k_lloadN X89 hx (hb hby at_179) rfl (pc' := 180) rfl ?_
   refine k_bipush X89 hx (hb hby at_180) (pc' := 182) rfl (z := (7 : Int32)) rfl ?_
   refine k_callS X89 hx hZ hown (hw _ (List.mem_of_getElem? (i := 2) rfl)) (hw _ (List.mem_of_getElem? (i := 3) rfl)) (hw _ (List.mem_of_getElem? (i := 4) rfl)) (hw _ (List.mem_of_getElem? (i := 5) rfl)) (by decide) (rm1_90 l Z a0 hw [] i3 h89 n0 Z89 ) (by decide) (by decide) e89 (by rw [hml]; rfl) (argsL := [(.long i3), (.int (7 : Int32))]) (rest := [(.int (7 : Int32)), (.ref b54)]) (lenOf pd_0 rfl) rfl (W := 2) (Nat.le_refl _) rfl (hb hby at_182) (by decide) (by decide) (pc' := 185) rfl (fun T91 L91 r91 X91 q91 => ?_)
   obtain ⟨N91, e91, rfl⟩ := q91
   have N91' := Fr.app N89 N91
   show KEnds p e below s _ _ _ T91 (mkF m 185 #[.val (.int i0), .val (.int i1), .val (.int i2), .val (.long i3), .second, .val (.int v1), .val (.int (0 : Int32)), .val (.int v46), .val (.int (0 : Int32)), .val (.ref b54)] ((.int (f1_90 i3)) :: (.int (7 : Int32)) :: (.ref b54) :: []))
   obtain ⟨v92, hv92⟩ : ∃ z, z = f1_90 i3 := ⟨_, rfl⟩
   rw [← hv92]
   have hb93 : v92.toInt8.toInt32 = v92 := by rw [hv92]; exact f1_90_byte i3
   refine k_bastore X91 hx hZ e91 Vw89 ⟨by decide, by decide⟩ (i := 7) rfl (Nat.le_of_ble_eq_true rfl) (hb hby at_185) (pc' := 186) rfl (fun T94 h94 X94 e94 W94 V94 => ?_)
   rw [hb93] at V94
   have Vw94 : Arv Z h94 b54 k54 .byte (8 : Int32) [(.int v57), (.int v62), (.int v67), (.int v72), (.int v77), (.int v82), (.int v87), (.int v92)] (.int (0 : Int32)) := V94
   have N94 := Fr.snoc X94 N91' g_b54
   have Z94 : n0 ≤ h94.size := Nat.le_trans Z89 (Nat.le_of_eq W94.size.symm)
   refine k_iload X94 hx (hb hby at_186) rfl (pc' := 188) rfl ?_
   refine k_if_ne X94 hx (hb hby at_188) (pn := 191) rfl (py := 202) (by decide) (fun hc => absurd (by decide) hc) (fun _ => ?_)
   refine k_aload X94 hx (hb hby at_191) rfl rfl (pc' := 193) rfl ?_
   refine k_iload X94 hx (hb hby at_193) rfl (pc' := 195) rfl ?_
   refine k_iload X94 hx (hb hby at_195) rfl (pc' := 197) rfl ?_
   refine k_i2b X94 hx (hb hby at_197) (pc' := 198) rfl (fun v95 hv95 => ?_)
   refine k_bastore X94 hx hZ e94 Vw94 ⟨by decide, by decide⟩ (i := 0) rfl (Nat.le_of_ble_eq_true rfl) (hb hby at_198) (pc' := 199) rfl (fun T96 h96 X96 e96 W96 V96 => ?_)
   have hb97 : v95.toInt8.toInt32 = v95 := by rw [hv95]; exact k_i2b2 _
   rw [hb97] at V96
   have Vw96 : Arv Z h96 b54 k54 .byte (8 : Int32) [(.int v95), (.int v62), (.int v67), (.int v72), (.int v77), (.int v82), (.int v87), (.int v92)] (.int (0 : Int32)) := V96
   have N96 := Fr.snoc X96 N94 g_b54
   have Z96 : n0 ≤ h96.size := Nat.le_trans Z94 (Nat.le_of_eq W96.size.symm)
   refine k_goto X96 hx (hb hby at_199) (pc' := 376) (by decide) ?_
   refine k_aload X96 hx (hb hby at_376) rfl rfl (pc' := 378) rfl ?_
   refine k_iload X96 hx (hb hby at_378) rfl (pc' := 380) rfl ?_
   refine k_callS X96 hx hZ hown (hw _ (List.mem_of_getElem? (i := 7) rfl)) (hw _ (List.mem_of_getElem? (i := 8) rfl)) (hw _ (List.mem_of_getElem? (i := 9) rfl)) (hw _ (List.mem_of_getElem? (i := 10) rfl)) (by decide) (rm2_98 l Z a0 hw [] b54 k54 v95 v62 v67 v72 v77 v82 v87 v92 h96 n0 Z96 Vw96) (by decide) (by decide) e96 (by rw [hml]; rfl) (argsL := [(.ref b54), (.int (0 : Int32))]) (rest := []) (lenOf pd_2 rfl) rfl (W := 0) (Nat.le_refl _) rfl (hb hby at_380) (by decide) (by decide) (pc' := 383) rfl (fun T148 L148 r148 X148 q148 => ?_)
   obtain ⟨N148, e148, q148⟩ := q148
   have N148' := Fr.app N96 N148
   rcases q148 with ⟨v149, v150, v151, v152, v153, v154, v155, v156, v157, v158, v159, h160, h161, h162, h163, h164, h165, h166, h167, h168, h169, h170, hc171, hc172, hc173, rfl⟩ | ⟨v174, v175, v176, v177, v178, v179, v180, v181, h182, h183, h184, h185, h186, h187, h188, h189, hc190, hc191, hc192, rfl⟩ | ⟨v193, v194, v195, v196, v197, h198, h199, h200, h201, h202, hc203, hc204, rfl⟩ | ⟨v205, h206, hc207, rfl⟩
   ·
    show KEnds p e below s _ _ _ T148 (mkF m 383 #[.val (.int i0), .val (.int i1), .val (.int i2), .val (.long i3), .second, .val (.int v1), .val (.int (0 : Int32)), .val (.int v46), .val (.int (0 : Int32)), .val (.ref b54)] [(.int v159)])
    exfalso
    have B208 : (-2147483648 : Int) ≤ v46.toInt ∧ v46.toInt ≤ 2147483647 := ⟨(rng32 v46).1, Int.le_of_lt_add_one (rng32 v46).2⟩
    have B211 : (0 : Int) ≤ v46.toInt ∧ v46.toInt ≤ 2147483647 := ⟨k_ge hP47.1 (by decide), B208.2⟩
    have B212 : (0 : Int) ≤ v46.toInt ∧ v46.toInt ≤ 127 := ⟨B211.1, k_le hP47.2 (by decide)⟩
    have B213 : (0 : Int) ≤ (0 : Int32).toInt ∧ (0 : Int32).toInt ≤ 0 := (by decide)
    have q214 := hP47.1; rw [Int32.lt_iff_toInt_lt] at q214
    have B215 : (127 : Int) ≤ (127 : Int32).toInt ∧ (127 : Int32).toInt ≤ 127 := (by decide)
    have q216 := hP47.2; rw [Int32.lt_iff_toInt_lt] at q216
    have q220 : v95.toInt = v46.toInt := k_i2bx hv95 B212 (by decide) (by decide)
    have B219 : (0 : Int) ≤ v95.toInt ∧ v95.toInt ≤ 127 := (by rw [q220]; exact B212)
    have q218 : v149.toInt = v95.toInt := k_andx (k := 8) h160 B219 (by decide) (by decide) (by decide) (by decide)
    have B217 : (0 : Int) ≤ v149.toInt ∧ v149.toInt ≤ 127 := (by rw [q218]; exact B219)
    have B221 : (128 : Int) ≤ v149.toInt ∧ v149.toInt ≤ 127 := ⟨k_ge hc171 (by decide), B217.2⟩
    have B222 : (224 : Int) ≤ v149.toInt ∧ v149.toInt ≤ 127 := ⟨k_ge hc172 (by decide), B221.2⟩
    have B223 : (240 : Int) ≤ v149.toInt ∧ v149.toInt ≤ 127 := ⟨k_ge hc173 (by decide), B222.2⟩
    have B224 : (128 : Int) ≤ (128 : Int32).toInt ∧ (128 : Int32).toInt ≤ 128 := (by decide)
    have q225 := hc171; rw [Int32.lt_iff_toInt_lt] at q225
    have B226 : (224 : Int) ≤ (224 : Int32).toInt ∧ (224 : Int32).toInt ≤ 224 := (by decide)
    have q227 := hc172; rw [Int32.lt_iff_toInt_lt] at q227
    have B228 : (240 : Int) ≤ (240 : Int32).toInt ∧ (240 : Int32).toInt ≤ 240 := (by decide)
    have q229 := hc173; rw [Int32.lt_iff_toInt_lt] at q229
    omega
   ·
    show KEnds p e below s _ _ _ T148 (mkF m 383 #[.val (.int i0), .val (.int i1), .val (.int i2), .val (.long i3), .second, .val (.int v1), .val (.int (0 : Int32)), .val (.int v46), .val (.int (0 : Int32)), .val (.ref b54)] [(.int v181)])
    exfalso
    have B230 : (-2147483648 : Int) ≤ v46.toInt ∧ v46.toInt ≤ 2147483647 := ⟨(rng32 v46).1, Int.le_of_lt_add_one (rng32 v46).2⟩
    have B233 : (0 : Int) ≤ v46.toInt ∧ v46.toInt ≤ 2147483647 := ⟨k_ge hP47.1 (by decide), B230.2⟩
    have B234 : (0 : Int) ≤ v46.toInt ∧ v46.toInt ≤ 127 := ⟨B233.1, k_le hP47.2 (by decide)⟩
    have B235 : (0 : Int) ≤ (0 : Int32).toInt ∧ (0 : Int32).toInt ≤ 0 := (by decide)
    have q236 := hP47.1; rw [Int32.lt_iff_toInt_lt] at q236
    have B237 : (127 : Int) ≤ (127 : Int32).toInt ∧ (127 : Int32).toInt ≤ 127 := (by decide)
    have q238 := hP47.2; rw [Int32.lt_iff_toInt_lt] at q238
    have q242 : v95.toInt = v46.toInt := k_i2bx hv95 B234 (by decide) (by decide)
    have B241 : (0 : Int) ≤ v95.toInt ∧ v95.toInt ≤ 127 := (by rw [q242]; exact B234)
    have q240 : v174.toInt = v95.toInt := k_andx (k := 8) h182 B241 (by decide) (by decide) (by decide) (by decide)
    have B239 : (0 : Int) ≤ v174.toInt ∧ v174.toInt ≤ 127 := (by rw [q240]; exact B241)
    have B243 : (128 : Int) ≤ v174.toInt ∧ v174.toInt ≤ 127 := ⟨k_ge hc190 (by decide), B239.2⟩
    have B244 : (224 : Int) ≤ v174.toInt ∧ v174.toInt ≤ 127 := ⟨k_ge hc191 (by decide), B243.2⟩
    have B245 : (128 : Int) ≤ (128 : Int32).toInt ∧ (128 : Int32).toInt ≤ 128 := (by decide)
    have q246 := hc190; rw [Int32.lt_iff_toInt_lt] at q246
    have B247 : (224 : Int) ≤ (224 : Int32).toInt ∧ (224 : Int32).toInt ≤ 224 := (by decide)
    have q248 := hc191; rw [Int32.lt_iff_toInt_lt] at q248
    have B249 : (240 : Int) ≤ (240 : Int32).toInt ∧ (240 : Int32).toInt ≤ 240 := (by decide)
    have q250 := hc192; rw [Int32.lt_iff_toInt_lt] at q250
    omega
   ·
    show KEnds p e below s _ _ _ T148 (mkF m 383 #[.val (.int i0), .val (.int i1), .val (.int i2), .val (.long i3), .second, .val (.int v1), .val (.int (0 : Int32)), .val (.int v46), .val (.int (0 : Int32)), .val (.ref b54)] [(.int v197)])
    exfalso
    have B251 : (-2147483648 : Int) ≤ v46.toInt ∧ v46.toInt ≤ 2147483647 := ⟨(rng32 v46).1, Int.le_of_lt_add_one (rng32 v46).2⟩
    have B254 : (0 : Int) ≤ v46.toInt ∧ v46.toInt ≤ 2147483647 := ⟨k_ge hP47.1 (by decide), B251.2⟩
    have B255 : (0 : Int) ≤ v46.toInt ∧ v46.toInt ≤ 127 := ⟨B254.1, k_le hP47.2 (by decide)⟩
    have B256 : (0 : Int) ≤ (0 : Int32).toInt ∧ (0 : Int32).toInt ≤ 0 := (by decide)
    have q257 := hP47.1; rw [Int32.lt_iff_toInt_lt] at q257
    have B258 : (127 : Int) ≤ (127 : Int32).toInt ∧ (127 : Int32).toInt ≤ 127 := (by decide)
    have q259 := hP47.2; rw [Int32.lt_iff_toInt_lt] at q259
    have q263 : v95.toInt = v46.toInt := k_i2bx hv95 B255 (by decide) (by decide)
    have B262 : (0 : Int) ≤ v95.toInt ∧ v95.toInt ≤ 127 := (by rw [q263]; exact B255)
    have q261 : v193.toInt = v95.toInt := k_andx (k := 8) h198 B262 (by decide) (by decide) (by decide) (by decide)
    have B260 : (0 : Int) ≤ v193.toInt ∧ v193.toInt ≤ 127 := (by rw [q261]; exact B262)
    have B264 : (128 : Int) ≤ v193.toInt ∧ v193.toInt ≤ 127 := ⟨k_ge hc203 (by decide), B260.2⟩
    have B265 : (128 : Int) ≤ (128 : Int32).toInt ∧ (128 : Int32).toInt ≤ 128 := (by decide)
    have q266 := hc203; rw [Int32.lt_iff_toInt_lt] at q266
    have B267 : (224 : Int) ≤ (224 : Int32).toInt ∧ (224 : Int32).toInt ≤ 224 := (by decide)
    have q268 := hc204; rw [Int32.lt_iff_toInt_lt] at q268
    omega
   ·
    show KEnds p e below s _ _ _ T148 (mkF m 383 #[.val (.int i0), .val (.int i1), .val (.int i2), .val (.long i3), .second, .val (.int v1), .val (.int (0 : Int32)), .val (.int v46), .val (.int (0 : Int32)), .val (.ref b54)] [(.int v205)])
    refine k_iload X148 hx (hb hby at_383) rfl (pc' := 385) rfl ?_
    refine k_icmp_ne X148 hx (hb hby at_385) (pn := 388) rfl (py := 392) (by decide) (fun hc269 => ?_) (fun hc269 => ?_)
    ·
     refine k_iconst X148 hx (hb hby at_392) (pc' := 393) rfl (z := (0 : Int32)) rfl ?_
     exfalso
     have B270 : (-2147483648 : Int) ≤ v46.toInt ∧ v46.toInt ≤ 2147483647 := ⟨(rng32 v46).1, Int.le_of_lt_add_one (rng32 v46).2⟩
     have B273 : (0 : Int) ≤ v46.toInt ∧ v46.toInt ≤ 2147483647 := ⟨k_ge hP47.1 (by decide), B270.2⟩
     have B274 : (0 : Int) ≤ v46.toInt ∧ v46.toInt ≤ 127 := ⟨B273.1, k_le hP47.2 (by decide)⟩
     have B275 : (0 : Int) ≤ (0 : Int32).toInt ∧ (0 : Int32).toInt ≤ 0 := (by decide)
     have q276 := hP47.1; rw [Int32.lt_iff_toInt_lt] at q276
     have B277 : (127 : Int) ≤ (127 : Int32).toInt ∧ (127 : Int32).toInt ≤ 127 := (by decide)
     have q278 := hP47.2; rw [Int32.lt_iff_toInt_lt] at q278
     have q282 : v95.toInt = v46.toInt := k_i2bx hv95 B274 (by decide) (by decide)
     have B281 : (0 : Int) ≤ v95.toInt ∧ v95.toInt ≤ 127 := (by rw [q282]; exact B274)
     have q280 : v205.toInt = v95.toInt := k_andx (k := 8) h206 B281 (by decide) (by decide) (by decide) (by decide)
     have B279 : (0 : Int) ≤ v205.toInt ∧ v205.toInt ≤ 127 := (by rw [q280]; exact B281)
     have B283 : (128 : Int) ≤ (128 : Int32).toInt ∧ (128 : Int32).toInt ≤ 128 := (by decide)
     have q284 := hc207; rw [Int32.lt_iff_toInt_lt] at q284
     have q285 : ¬ v205.toInt = v46.toInt := fun q => hc269 (Int32.toInt_inj.mp q)
     omega
    ·
     refine k_iconst X148 hx (hb hby at_388) (pc' := 389) rfl (z := (1 : Int32)) rfl ?_
     refine k_goto X148 hx (hb hby at_389) (pc' := 393) (by decide) ?_
     exact k_retN X148 hx (t := .boolean) Bd.returns (by simp) (hb hby at_393) hlk (by decide) (by decide) (z' := (1 : Int32)) rfl ⟨rfl, N148'⟩
  ·
   show KEnds p e below s _ _ _ s₁ (mkF m 102 #[.val (.int i0), .val (.int i1), .val (.int i2), .val (.long i3), .second, .val (.int v1), .val (.int (0 : Int32)), .val (.int v46), .unset, .unset] [(.int (1 : Int32))])
   refine k_istore X0 hx (hb hby at_102) (Ls' := #[.val (.int i0), .val (.int i1), .val (.int i2), .val (.long i3), .second, .val (.int v1), .val (.int (0 : Int32)), .val (.int v46), .val (.int (1 : Int32)), .unset]) rfl (pc' := 104) rfl ?_
   refine k_bipush X0 hx (hb hby at_104) (pc' := 106) rfl (z := (8 : Int32)) rfl ?_
   refine k_newA X0 hx hZ (hw _ (List.mem_of_getElem? (i := 1) rfl)) e0 (hb hby at_106) (by decide) (cap := 8) (by decide) (by decide) (by decide) (by decide) (pc' := 108) rfl (fun T287 h287 b287 k287 g287 X287 e287 E287 V287 => ?_)
   have g_b287 : n0 ≤ b287 := Nat.le_trans Z0 (Nat.le_of_eq g287.symm)
   have Z287 : n0 ≤ h287.size := Nat.le_trans Z0 E287.1
   have Vw287 : Arv Z h287 b287 k287 .byte (8 : Int32) [(.int (0 : Int32)), (.int (0 : Int32)), (.int (0 : Int32)), (.int (0 : Int32)), (.int (0 : Int32)), (.int (0 : Int32)), (.int (0 : Int32)), (.int (0 : Int32))] (.int (0 : Int32)) := V287
   refine k_astore X287 hx (hb hby at_108) rfl (Ls' := #[.val (.int i0), .val (.int i1), .val (.int i2), .val (.long i3), .second, .val (.int v1), .val (.int (0 : Int32)), .val (.int v46), .val (.int (1 : Int32)), .val (.ref b287)]) rfl (pc' := 110) rfl ?_
   refine k_aload X287 hx (hb hby at_110) rfl rfl (pc' := 112) rfl ?_
   refine k_iconst X287 hx (hb hby at_112) (pc' := 113) rfl (z := (0 : Int32)) rfl ?_
   refine k_lloadN X287 hx (hb hby at_113) rfl (pc' := 114) rfl ?_
   refine k_iconst X287 hx (hb hby at_114) (pc' := 115) rfl (z := (0 : Int32)) rfl ?_
   refine k_callS X287 hx hZ hown (hw _ (List.mem_of_getElem? (i := 2) rfl)) (hw _ (List.mem_of_getElem? (i := 3) rfl)) (hw _ (List.mem_of_getElem? (i := 4) rfl)) (hw _ (List.mem_of_getElem? (i := 5) rfl)) (by decide) (rm1_55 l Z a0 hw [] i3 h287 n0 Z287 ) (by decide) (by decide) e287 (by rw [hml]; rfl) (argsL := [(.long i3), (.int (0 : Int32))]) (rest := [(.int (0 : Int32)), (.ref b287)]) (lenOf pd_0 rfl) rfl (W := 2) (Nat.le_refl _) rfl (hb hby at_115) (by decide) (by decide) (pc' := 118) rfl (fun T288 L288 r288 X288 q288 => ?_)
   obtain ⟨N288, e288, rfl⟩ := q288
   have N288' := Fr.app N0 N288
   show KEnds p e below s _ _ _ T288 (mkF m 118 #[.val (.int i0), .val (.int i1), .val (.int i2), .val (.long i3), .second, .val (.int v1), .val (.int (0 : Int32)), .val (.int v46), .val (.int (1 : Int32)), .val (.ref b287)] ((.int (f1_55 i3)) :: (.int (0 : Int32)) :: (.ref b287) :: []))
   obtain ⟨v289, hv289⟩ : ∃ z, z = f1_55 i3 := ⟨_, rfl⟩
   rw [← hv289]
   have hb290 : v289.toInt8.toInt32 = v289 := by rw [hv289]; exact f1_55_byte i3
   refine k_bastore X288 hx hZ e288 Vw287 ⟨by decide, by decide⟩ (i := 0) rfl (Nat.le_of_ble_eq_true rfl) (hb hby at_118) (pc' := 119) rfl (fun T291 h291 X291 e291 W291 V291 => ?_)
   rw [hb290] at V291
   have Vw291 : Arv Z h291 b287 k287 .byte (8 : Int32) [(.int v289), (.int (0 : Int32)), (.int (0 : Int32)), (.int (0 : Int32)), (.int (0 : Int32)), (.int (0 : Int32)), (.int (0 : Int32)), (.int (0 : Int32))] (.int (0 : Int32)) := V291
   have N291 := Fr.snoc X291 N288' g_b287
   have Z291 : n0 ≤ h291.size := Nat.le_trans Z287 (Nat.le_of_eq W291.size.symm)
   refine k_aload X291 hx (hb hby at_119) rfl rfl (pc' := 121) rfl ?_
   refine k_iconst X291 hx (hb hby at_121) (pc' := 122) rfl (z := (1 : Int32)) rfl ?_
   refine k_lloadN X291 hx (hb hby at_122) rfl (pc' := 123) rfl ?_
   refine k_iconst X291 hx (hb hby at_123) (pc' := 124) rfl (z := (1 : Int32)) rfl ?_
   refine k_callS X291 hx hZ hown (hw _ (List.mem_of_getElem? (i := 2) rfl)) (hw _ (List.mem_of_getElem? (i := 3) rfl)) (hw _ (List.mem_of_getElem? (i := 4) rfl)) (hw _ (List.mem_of_getElem? (i := 5) rfl)) (by decide) (rm1_60 l Z a0 hw [] i3 h291 n0 Z291 ) (by decide) (by decide) e291 (by rw [hml]; rfl) (argsL := [(.long i3), (.int (1 : Int32))]) (rest := [(.int (1 : Int32)), (.ref b287)]) (lenOf pd_0 rfl) rfl (W := 2) (Nat.le_refl _) rfl (hb hby at_124) (by decide) (by decide) (pc' := 127) rfl (fun T292 L292 r292 X292 q292 => ?_)
   obtain ⟨N292, e292, rfl⟩ := q292
   have N292' := Fr.app N291 N292
   show KEnds p e below s _ _ _ T292 (mkF m 127 #[.val (.int i0), .val (.int i1), .val (.int i2), .val (.long i3), .second, .val (.int v1), .val (.int (0 : Int32)), .val (.int v46), .val (.int (1 : Int32)), .val (.ref b287)] ((.int (f1_60 i3)) :: (.int (1 : Int32)) :: (.ref b287) :: []))
   obtain ⟨v293, hv293⟩ : ∃ z, z = f1_60 i3 := ⟨_, rfl⟩
   rw [← hv293]
   have hb294 : v293.toInt8.toInt32 = v293 := by rw [hv293]; exact f1_60_byte i3
   refine k_bastore X292 hx hZ e292 Vw291 ⟨by decide, by decide⟩ (i := 1) rfl (Nat.le_of_ble_eq_true rfl) (hb hby at_127) (pc' := 128) rfl (fun T295 h295 X295 e295 W295 V295 => ?_)
   rw [hb294] at V295
   have Vw295 : Arv Z h295 b287 k287 .byte (8 : Int32) [(.int v289), (.int v293), (.int (0 : Int32)), (.int (0 : Int32)), (.int (0 : Int32)), (.int (0 : Int32)), (.int (0 : Int32)), (.int (0 : Int32))] (.int (0 : Int32)) := V295
   have N295 := Fr.snoc X295 N292' g_b287
   have Z295 : n0 ≤ h295.size := Nat.le_trans Z291 (Nat.le_of_eq W295.size.symm)
   refine k_aload X295 hx (hb hby at_128) rfl rfl (pc' := 130) rfl ?_
   refine k_iconst X295 hx (hb hby at_130) (pc' := 131) rfl (z := (2 : Int32)) rfl ?_
   refine k_lloadN X295 hx (hb hby at_131) rfl (pc' := 132) rfl ?_
   refine k_iconst X295 hx (hb hby at_132) (pc' := 133) rfl (z := (2 : Int32)) rfl ?_
   refine k_callS X295 hx hZ hown (hw _ (List.mem_of_getElem? (i := 2) rfl)) (hw _ (List.mem_of_getElem? (i := 3) rfl)) (hw _ (List.mem_of_getElem? (i := 4) rfl)) (hw _ (List.mem_of_getElem? (i := 5) rfl)) (by decide) (rm1_65 l Z a0 hw [] i3 h295 n0 Z295 ) (by decide) (by decide) e295 (by rw [hml]; rfl) (argsL := [(.long i3), (.int (2 : Int32))]) (rest := [(.int (2 : Int32)), (.ref b287)]) (lenOf pd_0 rfl) rfl (W := 2) (Nat.le_refl _) rfl (hb hby at_133) (by decide) (by decide) (pc' := 136) rfl (fun T296 L296 r296 X296 q296 => ?_)
   obtain ⟨N296, e296, rfl⟩ := q296
   have N296' := Fr.app N295 N296
   show KEnds p e below s _ _ _ T296 (mkF m 136 #[.val (.int i0), .val (.int i1), .val (.int i2), .val (.long i3), .second, .val (.int v1), .val (.int (0 : Int32)), .val (.int v46), .val (.int (1 : Int32)), .val (.ref b287)] ((.int (f1_65 i3)) :: (.int (2 : Int32)) :: (.ref b287) :: []))
   obtain ⟨v297, hv297⟩ : ∃ z, z = f1_65 i3 := ⟨_, rfl⟩
   rw [← hv297]
   have hb298 : v297.toInt8.toInt32 = v297 := by rw [hv297]; exact f1_65_byte i3
   refine k_bastore X296 hx hZ e296 Vw295 ⟨by decide, by decide⟩ (i := 2) rfl (Nat.le_of_ble_eq_true rfl) (hb hby at_136) (pc' := 137) rfl (fun T299 h299 X299 e299 W299 V299 => ?_)
   rw [hb298] at V299
   have Vw299 : Arv Z h299 b287 k287 .byte (8 : Int32) [(.int v289), (.int v293), (.int v297), (.int (0 : Int32)), (.int (0 : Int32)), (.int (0 : Int32)), (.int (0 : Int32)), (.int (0 : Int32))] (.int (0 : Int32)) := V299
   have N299 := Fr.snoc X299 N296' g_b287
   have Z299 : n0 ≤ h299.size := Nat.le_trans Z295 (Nat.le_of_eq W299.size.symm)
   refine k_aload X299 hx (hb hby at_137) rfl rfl (pc' := 139) rfl ?_
   refine k_iconst X299 hx (hb hby at_139) (pc' := 140) rfl (z := (3 : Int32)) rfl ?_
   refine k_lloadN X299 hx (hb hby at_140) rfl (pc' := 141) rfl ?_
   refine k_iconst X299 hx (hb hby at_141) (pc' := 142) rfl (z := (3 : Int32)) rfl ?_
   refine k_callS X299 hx hZ hown (hw _ (List.mem_of_getElem? (i := 2) rfl)) (hw _ (List.mem_of_getElem? (i := 3) rfl)) (hw _ (List.mem_of_getElem? (i := 4) rfl)) (hw _ (List.mem_of_getElem? (i := 5) rfl)) (by decide) (rm1_70 l Z a0 hw [] i3 h299 n0 Z299 ) (by decide) (by decide) e299 (by rw [hml]; rfl) (argsL := [(.long i3), (.int (3 : Int32))]) (rest := [(.int (3 : Int32)), (.ref b287)]) (lenOf pd_0 rfl) rfl (W := 2) (Nat.le_refl _) rfl (hb hby at_142) (by decide) (by decide) (pc' := 145) rfl (fun T300 L300 r300 X300 q300 => ?_)
   obtain ⟨N300, e300, rfl⟩ := q300
   have N300' := Fr.app N299 N300
   show KEnds p e below s _ _ _ T300 (mkF m 145 #[.val (.int i0), .val (.int i1), .val (.int i2), .val (.long i3), .second, .val (.int v1), .val (.int (0 : Int32)), .val (.int v46), .val (.int (1 : Int32)), .val (.ref b287)] ((.int (f1_70 i3)) :: (.int (3 : Int32)) :: (.ref b287) :: []))
   obtain ⟨v301, hv301⟩ : ∃ z, z = f1_70 i3 := ⟨_, rfl⟩
   rw [← hv301]
   have hb302 : v301.toInt8.toInt32 = v301 := by rw [hv301]; exact f1_70_byte i3
   refine k_bastore X300 hx hZ e300 Vw299 ⟨by decide, by decide⟩ (i := 3) rfl (Nat.le_of_ble_eq_true rfl) (hb hby at_145) (pc' := 146) rfl (fun T303 h303 X303 e303 W303 V303 => ?_)
   rw [hb302] at V303
   have Vw303 : Arv Z h303 b287 k287 .byte (8 : Int32) [(.int v289), (.int v293), (.int v297), (.int v301), (.int (0 : Int32)), (.int (0 : Int32)), (.int (0 : Int32)), (.int (0 : Int32))] (.int (0 : Int32)) := V303
   have N303 := Fr.snoc X303 N300' g_b287
   have Z303 : n0 ≤ h303.size := Nat.le_trans Z299 (Nat.le_of_eq W303.size.symm)
   refine k_aload X303 hx (hb hby at_146) rfl rfl (pc' := 148) rfl ?_
   refine k_iconst X303 hx (hb hby at_148) (pc' := 149) rfl (z := (4 : Int32)) rfl ?_
   refine k_lloadN X303 hx (hb hby at_149) rfl (pc' := 150) rfl ?_
   refine k_iconst X303 hx (hb hby at_150) (pc' := 151) rfl (z := (4 : Int32)) rfl ?_
   refine k_callS X303 hx hZ hown (hw _ (List.mem_of_getElem? (i := 2) rfl)) (hw _ (List.mem_of_getElem? (i := 3) rfl)) (hw _ (List.mem_of_getElem? (i := 4) rfl)) (hw _ (List.mem_of_getElem? (i := 5) rfl)) (by decide) (rm1_75 l Z a0 hw [] i3 h303 n0 Z303 ) (by decide) (by decide) e303 (by rw [hml]; rfl) (argsL := [(.long i3), (.int (4 : Int32))]) (rest := [(.int (4 : Int32)), (.ref b287)]) (lenOf pd_0 rfl) rfl (W := 2) (Nat.le_refl _) rfl (hb hby at_151) (by decide) (by decide) (pc' := 154) rfl (fun T304 L304 r304 X304 q304 => ?_)
   obtain ⟨N304, e304, rfl⟩ := q304
   have N304' := Fr.app N303 N304
   show KEnds p e below s _ _ _ T304 (mkF m 154 #[.val (.int i0), .val (.int i1), .val (.int i2), .val (.long i3), .second, .val (.int v1), .val (.int (0 : Int32)), .val (.int v46), .val (.int (1 : Int32)), .val (.ref b287)] ((.int (f1_75 i3)) :: (.int (4 : Int32)) :: (.ref b287) :: []))
   obtain ⟨v305, hv305⟩ : ∃ z, z = f1_75 i3 := ⟨_, rfl⟩
   rw [← hv305]
   have hb306 : v305.toInt8.toInt32 = v305 := by rw [hv305]; exact f1_75_byte i3
   refine k_bastore X304 hx hZ e304 Vw303 ⟨by decide, by decide⟩ (i := 4) rfl (Nat.le_of_ble_eq_true rfl) (hb hby at_154) (pc' := 155) rfl (fun T307 h307 X307 e307 W307 V307 => ?_)
   rw [hb306] at V307
   have Vw307 : Arv Z h307 b287 k287 .byte (8 : Int32) [(.int v289), (.int v293), (.int v297), (.int v301), (.int v305), (.int (0 : Int32)), (.int (0 : Int32)), (.int (0 : Int32))] (.int (0 : Int32)) := V307
   have N307 := Fr.snoc X307 N304' g_b287
   have Z307 : n0 ≤ h307.size := Nat.le_trans Z303 (Nat.le_of_eq W307.size.symm)
   refine k_aload X307 hx (hb hby at_155) rfl rfl (pc' := 157) rfl ?_
   refine k_iconst X307 hx (hb hby at_157) (pc' := 158) rfl (z := (5 : Int32)) rfl ?_
   refine k_lloadN X307 hx (hb hby at_158) rfl (pc' := 159) rfl ?_
   refine k_iconst X307 hx (hb hby at_159) (pc' := 160) rfl (z := (5 : Int32)) rfl ?_
   refine k_callS X307 hx hZ hown (hw _ (List.mem_of_getElem? (i := 2) rfl)) (hw _ (List.mem_of_getElem? (i := 3) rfl)) (hw _ (List.mem_of_getElem? (i := 4) rfl)) (hw _ (List.mem_of_getElem? (i := 5) rfl)) (by decide) (rm1_80 l Z a0 hw [] i3 h307 n0 Z307 ) (by decide) (by decide) e307 (by rw [hml]; rfl) (argsL := [(.long i3), (.int (5 : Int32))]) (rest := [(.int (5 : Int32)), (.ref b287)]) (lenOf pd_0 rfl) rfl (W := 2) (Nat.le_refl _) rfl (hb hby at_160) (by decide) (by decide) (pc' := 163) rfl (fun T308 L308 r308 X308 q308 => ?_)
   obtain ⟨N308, e308, rfl⟩ := q308
   have N308' := Fr.app N307 N308
   show KEnds p e below s _ _ _ T308 (mkF m 163 #[.val (.int i0), .val (.int i1), .val (.int i2), .val (.long i3), .second, .val (.int v1), .val (.int (0 : Int32)), .val (.int v46), .val (.int (1 : Int32)), .val (.ref b287)] ((.int (f1_80 i3)) :: (.int (5 : Int32)) :: (.ref b287) :: []))
   obtain ⟨v309, hv309⟩ : ∃ z, z = f1_80 i3 := ⟨_, rfl⟩
   rw [← hv309]
   have hb310 : v309.toInt8.toInt32 = v309 := by rw [hv309]; exact f1_80_byte i3
   refine k_bastore X308 hx hZ e308 Vw307 ⟨by decide, by decide⟩ (i := 5) rfl (Nat.le_of_ble_eq_true rfl) (hb hby at_163) (pc' := 164) rfl (fun T311 h311 X311 e311 W311 V311 => ?_)
   rw [hb310] at V311
   have Vw311 : Arv Z h311 b287 k287 .byte (8 : Int32) [(.int v289), (.int v293), (.int v297), (.int v301), (.int v305), (.int v309), (.int (0 : Int32)), (.int (0 : Int32))] (.int (0 : Int32)) := V311
   have N311 := Fr.snoc X311 N308' g_b287
   have Z311 : n0 ≤ h311.size := Nat.le_trans Z307 (Nat.le_of_eq W311.size.symm)
   refine k_aload X311 hx (hb hby at_164) rfl rfl (pc' := 166) rfl ?_
   refine k_bipush X311 hx (hb hby at_166) (pc' := 168) rfl (z := (6 : Int32)) rfl ?_
   refine k_lloadN X311 hx (hb hby at_168) rfl (pc' := 169) rfl ?_
   refine k_bipush X311 hx (hb hby at_169) (pc' := 171) rfl (z := (6 : Int32)) rfl ?_
   refine k_callS X311 hx hZ hown (hw _ (List.mem_of_getElem? (i := 2) rfl)) (hw _ (List.mem_of_getElem? (i := 3) rfl)) (hw _ (List.mem_of_getElem? (i := 4) rfl)) (hw _ (List.mem_of_getElem? (i := 5) rfl)) (by decide) (rm1_85 l Z a0 hw [] i3 h311 n0 Z311 ) (by decide) (by decide) e311 (by rw [hml]; rfl) (argsL := [(.long i3), (.int (6 : Int32))]) (rest := [(.int (6 : Int32)), (.ref b287)]) (lenOf pd_0 rfl) rfl (W := 2) (Nat.le_refl _) rfl (hb hby at_171) (by decide) (by decide) (pc' := 174) rfl (fun T312 L312 r312 X312 q312 => ?_)
   obtain ⟨N312, e312, rfl⟩ := q312
   have N312' := Fr.app N311 N312
   show KEnds p e below s _ _ _ T312 (mkF m 174 #[.val (.int i0), .val (.int i1), .val (.int i2), .val (.long i3), .second, .val (.int v1), .val (.int (0 : Int32)), .val (.int v46), .val (.int (1 : Int32)), .val (.ref b287)] ((.int (f1_85 i3)) :: (.int (6 : Int32)) :: (.ref b287) :: []))
   obtain ⟨v313, hv313⟩ : ∃ z, z = f1_85 i3 := ⟨_, rfl⟩
   rw [← hv313]
   have hb314 : v313.toInt8.toInt32 = v313 := by rw [hv313]; exact f1_85_byte i3
   refine k_bastore X312 hx hZ e312 Vw311 ⟨by decide, by decide⟩ (i := 6) rfl (Nat.le_of_ble_eq_true rfl) (hb hby at_174) (pc' := 175) rfl (fun T315 h315 X315 e315 W315 V315 => ?_)
   rw [hb314] at V315
   have Vw315 : Arv Z h315 b287 k287 .byte (8 : Int32) [(.int v289), (.int v293), (.int v297), (.int v301), (.int v305), (.int v309), (.int v313), (.int (0 : Int32))] (.int (0 : Int32)) := V315
   have N315 := Fr.snoc X315 N312' g_b287
   have Z315 : n0 ≤ h315.size := Nat.le_trans Z311 (Nat.le_of_eq W315.size.symm)
   refine k_aload X315 hx (hb hby at_175) rfl rfl (pc' := 177) rfl ?_
   refine k_bipush X315 hx (hb hby at_177) (pc' := 179) rfl (z := (7 : Int32)) rfl ?_
   refine k_lloadN X315 hx (hb hby at_179) rfl (pc' := 180) rfl ?_
   refine k_bipush X315 hx (hb hby at_180) (pc' := 182) rfl (z := (7 : Int32)) rfl ?_
   refine k_callS X315 hx hZ hown (hw _ (List.mem_of_getElem? (i := 2) rfl)) (hw _ (List.mem_of_getElem? (i := 3) rfl)) (hw _ (List.mem_of_getElem? (i := 4) rfl)) (hw _ (List.mem_of_getElem? (i := 5) rfl)) (by decide) (rm1_90 l Z a0 hw [] i3 h315 n0 Z315 ) (by decide) (by decide) e315 (by rw [hml]; rfl) (argsL := [(.long i3), (.int (7 : Int32))]) (rest := [(.int (7 : Int32)), (.ref b287)]) (lenOf pd_0 rfl) rfl (W := 2) (Nat.le_refl _) rfl (hb hby at_182) (by decide) (by decide) (pc' := 185) rfl (fun T316 L316 r316 X316 q316 => ?_)
   obtain ⟨N316, e316, rfl⟩ := q316
   have N316' := Fr.app N315 N316
   show KEnds p e below s _ _ _ T316 (mkF m 185 #[.val (.int i0), .val (.int i1), .val (.int i2), .val (.long i3), .second, .val (.int v1), .val (.int (0 : Int32)), .val (.int v46), .val (.int (1 : Int32)), .val (.ref b287)] ((.int (f1_90 i3)) :: (.int (7 : Int32)) :: (.ref b287) :: []))
   obtain ⟨v317, hv317⟩ : ∃ z, z = f1_90 i3 := ⟨_, rfl⟩
   rw [← hv317]
   have hb318 : v317.toInt8.toInt32 = v317 := by rw [hv317]; exact f1_90_byte i3
   refine k_bastore X316 hx hZ e316 Vw315 ⟨by decide, by decide⟩ (i := 7) rfl (Nat.le_of_ble_eq_true rfl) (hb hby at_185) (pc' := 186) rfl (fun T319 h319 X319 e319 W319 V319 => ?_)
   rw [hb318] at V319
   have Vw319 : Arv Z h319 b287 k287 .byte (8 : Int32) [(.int v289), (.int v293), (.int v297), (.int v301), (.int v305), (.int v309), (.int v313), (.int v317)] (.int (0 : Int32)) := V319
   have N319 := Fr.snoc X319 N316' g_b287
   have Z319 : n0 ≤ h319.size := Nat.le_trans Z315 (Nat.le_of_eq W319.size.symm)
   refine k_iload X319 hx (hb hby at_186) rfl (pc' := 188) rfl ?_
   refine k_if_ne X319 hx (hb hby at_188) (pn := 191) rfl (py := 202) (by decide) (fun hc => absurd (by decide) hc) (fun _ => ?_)
   refine k_aload X319 hx (hb hby at_191) rfl rfl (pc' := 193) rfl ?_
   refine k_iload X319 hx (hb hby at_193) rfl (pc' := 195) rfl ?_
   refine k_iload X319 hx (hb hby at_195) rfl (pc' := 197) rfl ?_
   refine k_i2b X319 hx (hb hby at_197) (pc' := 198) rfl (fun v320 hv320 => ?_)
   refine k_bastore X319 hx hZ e319 Vw319 ⟨by decide, by decide⟩ (i := 1) rfl (Nat.le_of_ble_eq_true rfl) (hb hby at_198) (pc' := 199) rfl (fun T321 h321 X321 e321 W321 V321 => ?_)
   have hb322 : v320.toInt8.toInt32 = v320 := by rw [hv320]; exact k_i2b2 _
   rw [hb322] at V321
   have Vw321 : Arv Z h321 b287 k287 .byte (8 : Int32) [(.int v289), (.int v320), (.int v297), (.int v301), (.int v305), (.int v309), (.int v313), (.int v317)] (.int (0 : Int32)) := V321
   have N321 := Fr.snoc X321 N319 g_b287
   have Z321 : n0 ≤ h321.size := Nat.le_trans Z319 (Nat.le_of_eq W321.size.symm)
   refine k_goto X321 hx (hb hby at_199) (pc' := 376) (by decide) ?_
   refine k_aload X321 hx (hb hby at_376) rfl rfl (pc' := 378) rfl ?_
   refine k_iload X321 hx (hb hby at_378) rfl (pc' := 380) rfl ?_
   refine k_callS X321 hx hZ hown (hw _ (List.mem_of_getElem? (i := 7) rfl)) (hw _ (List.mem_of_getElem? (i := 8) rfl)) (hw _ (List.mem_of_getElem? (i := 9) rfl)) (hw _ (List.mem_of_getElem? (i := 10) rfl)) (by decide) (rm2_323 l Z a0 hw [] b287 k287 v289 v320 v297 v301 v305 v309 v313 v317 h321 n0 Z321 Vw321) (by decide) (by decide) e321 (by rw [hml]; rfl) (argsL := [(.ref b287), (.int (1 : Int32))]) (rest := []) (lenOf pd_2 rfl) rfl (W := 0) (Nat.le_refl _) rfl (hb hby at_380) (by decide) (by decide) (pc' := 383) rfl (fun T368 L368 r368 X368 q368 => ?_)
   obtain ⟨N368, e368, q368⟩ := q368
   have N368' := Fr.app N321 N368
   rcases q368 with ⟨v369, v370, v371, v372, v373, v374, v375, v376, v377, v378, v379, h380, h381, h382, h383, h384, h385, h386, h387, h388, h389, h390, hc391, hc392, hc393, rfl⟩ | ⟨v394, v395, v396, v397, v398, v399, v400, v401, h402, h403, h404, h405, h406, h407, h408, h409, hc410, hc411, hc412, rfl⟩ | ⟨v413, v414, v415, v416, v417, h418, h419, h420, h421, h422, hc423, hc424, rfl⟩ | ⟨v425, h426, hc427, rfl⟩
   ·
    show KEnds p e below s _ _ _ T368 (mkF m 383 #[.val (.int i0), .val (.int i1), .val (.int i2), .val (.long i3), .second, .val (.int v1), .val (.int (0 : Int32)), .val (.int v46), .val (.int (1 : Int32)), .val (.ref b287)] [(.int v379)])
    exfalso
    have B428 : (-2147483648 : Int) ≤ v46.toInt ∧ v46.toInt ≤ 2147483647 := ⟨(rng32 v46).1, Int.le_of_lt_add_one (rng32 v46).2⟩
    have B431 : (0 : Int) ≤ v46.toInt ∧ v46.toInt ≤ 2147483647 := ⟨k_ge hP47.1 (by decide), B428.2⟩
    have B432 : (0 : Int) ≤ v46.toInt ∧ v46.toInt ≤ 127 := ⟨B431.1, k_le hP47.2 (by decide)⟩
    have B433 : (0 : Int) ≤ (0 : Int32).toInt ∧ (0 : Int32).toInt ≤ 0 := (by decide)
    have q434 := hP47.1; rw [Int32.lt_iff_toInt_lt] at q434
    have B435 : (127 : Int) ≤ (127 : Int32).toInt ∧ (127 : Int32).toInt ≤ 127 := (by decide)
    have q436 := hP47.2; rw [Int32.lt_iff_toInt_lt] at q436
    have q440 : v320.toInt = v46.toInt := k_i2bx hv320 B432 (by decide) (by decide)
    have B439 : (0 : Int) ≤ v320.toInt ∧ v320.toInt ≤ 127 := (by rw [q440]; exact B432)
    have q438 : v369.toInt = v320.toInt := k_andx (k := 8) h380 B439 (by decide) (by decide) (by decide) (by decide)
    have B437 : (0 : Int) ≤ v369.toInt ∧ v369.toInt ≤ 127 := (by rw [q438]; exact B439)
    have B441 : (128 : Int) ≤ v369.toInt ∧ v369.toInt ≤ 127 := ⟨k_ge hc391 (by decide), B437.2⟩
    have B442 : (224 : Int) ≤ v369.toInt ∧ v369.toInt ≤ 127 := ⟨k_ge hc392 (by decide), B441.2⟩
    have B443 : (240 : Int) ≤ v369.toInt ∧ v369.toInt ≤ 127 := ⟨k_ge hc393 (by decide), B442.2⟩
    have B444 : (128 : Int) ≤ (128 : Int32).toInt ∧ (128 : Int32).toInt ≤ 128 := (by decide)
    have q445 := hc391; rw [Int32.lt_iff_toInt_lt] at q445
    have B446 : (224 : Int) ≤ (224 : Int32).toInt ∧ (224 : Int32).toInt ≤ 224 := (by decide)
    have q447 := hc392; rw [Int32.lt_iff_toInt_lt] at q447
    have B448 : (240 : Int) ≤ (240 : Int32).toInt ∧ (240 : Int32).toInt ≤ 240 := (by decide)
    have q449 := hc393; rw [Int32.lt_iff_toInt_lt] at q449
    omega
   ·
    show KEnds p e below s _ _ _ T368 (mkF m 383 #[.val (.int i0), .val (.int i1), .val (.int i2), .val (.long i3), .second, .val (.int v1), .val (.int (0 : Int32)), .val (.int v46), .val (.int (1 : Int32)), .val (.ref b287)] [(.int v401)])
    exfalso
    have B450 : (-2147483648 : Int) ≤ v46.toInt ∧ v46.toInt ≤ 2147483647 := ⟨(rng32 v46).1, Int.le_of_lt_add_one (rng32 v46).2⟩
    have B453 : (0 : Int) ≤ v46.toInt ∧ v46.toInt ≤ 2147483647 := ⟨k_ge hP47.1 (by decide), B450.2⟩
    have B454 : (0 : Int) ≤ v46.toInt ∧ v46.toInt ≤ 127 := ⟨B453.1, k_le hP47.2 (by decide)⟩
    have B455 : (0 : Int) ≤ (0 : Int32).toInt ∧ (0 : Int32).toInt ≤ 0 := (by decide)
    have q456 := hP47.1; rw [Int32.lt_iff_toInt_lt] at q456
    have B457 : (127 : Int) ≤ (127 : Int32).toInt ∧ (127 : Int32).toInt ≤ 127 := (by decide)
    have q458 := hP47.2; rw [Int32.lt_iff_toInt_lt] at q458
    have q462 : v320.toInt = v46.toInt := k_i2bx hv320 B454 (by decide) (by decide)
    have B461 : (0 : Int) ≤ v320.toInt ∧ v320.toInt ≤ 127 := (by rw [q462]; exact B454)
    have q460 : v394.toInt = v320.toInt := k_andx (k := 8) h402 B461 (by decide) (by decide) (by decide) (by decide)
    have B459 : (0 : Int) ≤ v394.toInt ∧ v394.toInt ≤ 127 := (by rw [q460]; exact B461)
    have B463 : (128 : Int) ≤ v394.toInt ∧ v394.toInt ≤ 127 := ⟨k_ge hc410 (by decide), B459.2⟩
    have B464 : (224 : Int) ≤ v394.toInt ∧ v394.toInt ≤ 127 := ⟨k_ge hc411 (by decide), B463.2⟩
    have B465 : (128 : Int) ≤ (128 : Int32).toInt ∧ (128 : Int32).toInt ≤ 128 := (by decide)
    have q466 := hc410; rw [Int32.lt_iff_toInt_lt] at q466
    have B467 : (224 : Int) ≤ (224 : Int32).toInt ∧ (224 : Int32).toInt ≤ 224 := (by decide)
    have q468 := hc411; rw [Int32.lt_iff_toInt_lt] at q468
    have B469 : (240 : Int) ≤ (240 : Int32).toInt ∧ (240 : Int32).toInt ≤ 240 := (by decide)
    have q470 := hc412; rw [Int32.lt_iff_toInt_lt] at q470
    omega
   ·
    show KEnds p e below s _ _ _ T368 (mkF m 383 #[.val (.int i0), .val (.int i1), .val (.int i2), .val (.long i3), .second, .val (.int v1), .val (.int (0 : Int32)), .val (.int v46), .val (.int (1 : Int32)), .val (.ref b287)] [(.int v417)])
    exfalso
    have B471 : (-2147483648 : Int) ≤ v46.toInt ∧ v46.toInt ≤ 2147483647 := ⟨(rng32 v46).1, Int.le_of_lt_add_one (rng32 v46).2⟩
    have B474 : (0 : Int) ≤ v46.toInt ∧ v46.toInt ≤ 2147483647 := ⟨k_ge hP47.1 (by decide), B471.2⟩
    have B475 : (0 : Int) ≤ v46.toInt ∧ v46.toInt ≤ 127 := ⟨B474.1, k_le hP47.2 (by decide)⟩
    have B476 : (0 : Int) ≤ (0 : Int32).toInt ∧ (0 : Int32).toInt ≤ 0 := (by decide)
    have q477 := hP47.1; rw [Int32.lt_iff_toInt_lt] at q477
    have B478 : (127 : Int) ≤ (127 : Int32).toInt ∧ (127 : Int32).toInt ≤ 127 := (by decide)
    have q479 := hP47.2; rw [Int32.lt_iff_toInt_lt] at q479
    have q483 : v320.toInt = v46.toInt := k_i2bx hv320 B475 (by decide) (by decide)
    have B482 : (0 : Int) ≤ v320.toInt ∧ v320.toInt ≤ 127 := (by rw [q483]; exact B475)
    have q481 : v413.toInt = v320.toInt := k_andx (k := 8) h418 B482 (by decide) (by decide) (by decide) (by decide)
    have B480 : (0 : Int) ≤ v413.toInt ∧ v413.toInt ≤ 127 := (by rw [q481]; exact B482)
    have B484 : (128 : Int) ≤ v413.toInt ∧ v413.toInt ≤ 127 := ⟨k_ge hc423 (by decide), B480.2⟩
    have B485 : (128 : Int) ≤ (128 : Int32).toInt ∧ (128 : Int32).toInt ≤ 128 := (by decide)
    have q486 := hc423; rw [Int32.lt_iff_toInt_lt] at q486
    have B487 : (224 : Int) ≤ (224 : Int32).toInt ∧ (224 : Int32).toInt ≤ 224 := (by decide)
    have q488 := hc424; rw [Int32.lt_iff_toInt_lt] at q488
    omega
   ·
    show KEnds p e below s _ _ _ T368 (mkF m 383 #[.val (.int i0), .val (.int i1), .val (.int i2), .val (.long i3), .second, .val (.int v1), .val (.int (0 : Int32)), .val (.int v46), .val (.int (1 : Int32)), .val (.ref b287)] [(.int v425)])
    refine k_iload X368 hx (hb hby at_383) rfl (pc' := 385) rfl ?_
    refine k_icmp_ne X368 hx (hb hby at_385) (pn := 388) rfl (py := 392) (by decide) (fun hc489 => ?_) (fun hc489 => ?_)
    ·
     refine k_iconst X368 hx (hb hby at_392) (pc' := 393) rfl (z := (0 : Int32)) rfl ?_
     exfalso
     have B490 : (-2147483648 : Int) ≤ v46.toInt ∧ v46.toInt ≤ 2147483647 := ⟨(rng32 v46).1, Int.le_of_lt_add_one (rng32 v46).2⟩
     have B493 : (0 : Int) ≤ v46.toInt ∧ v46.toInt ≤ 2147483647 := ⟨k_ge hP47.1 (by decide), B490.2⟩
     have B494 : (0 : Int) ≤ v46.toInt ∧ v46.toInt ≤ 127 := ⟨B493.1, k_le hP47.2 (by decide)⟩
     have B495 : (0 : Int) ≤ (0 : Int32).toInt ∧ (0 : Int32).toInt ≤ 0 := (by decide)
     have q496 := hP47.1; rw [Int32.lt_iff_toInt_lt] at q496
     have B497 : (127 : Int) ≤ (127 : Int32).toInt ∧ (127 : Int32).toInt ≤ 127 := (by decide)
     have q498 := hP47.2; rw [Int32.lt_iff_toInt_lt] at q498
     have q502 : v320.toInt = v46.toInt := k_i2bx hv320 B494 (by decide) (by decide)
     have B501 : (0 : Int) ≤ v320.toInt ∧ v320.toInt ≤ 127 := (by rw [q502]; exact B494)
     have q500 : v425.toInt = v320.toInt := k_andx (k := 8) h426 B501 (by decide) (by decide) (by decide) (by decide)
     have B499 : (0 : Int) ≤ v425.toInt ∧ v425.toInt ≤ 127 := (by rw [q500]; exact B501)
     have B503 : (128 : Int) ≤ (128 : Int32).toInt ∧ (128 : Int32).toInt ≤ 128 := (by decide)
     have q504 := hc427; rw [Int32.lt_iff_toInt_lt] at q504
     have q505 : ¬ v425.toInt = v46.toInt := fun q => hc489 (Int32.toInt_inj.mp q)
     omega
    ·
     refine k_iconst X368 hx (hb hby at_388) (pc' := 389) rfl (z := (1 : Int32)) rfl ?_
     refine k_goto X368 hx (hb hby at_389) (pc' := 393) (by decide) ?_
     exact k_retN X368 hx (t := .boolean) Bd.returns (by simp) (hb hby at_393) hlk (by decide) (by decide) (z' := (1 : Int32)) rfl ⟨rfl, N368'⟩
  ·
   show KEnds p e below s _ _ _ s₁ (mkF m 102 #[.val (.int i0), .val (.int i1), .val (.int i2), .val (.long i3), .second, .val (.int v1), .val (.int (0 : Int32)), .val (.int v46), .unset, .unset] [(.int (2 : Int32))])
   refine k_istore X0 hx (hb hby at_102) (Ls' := #[.val (.int i0), .val (.int i1), .val (.int i2), .val (.long i3), .second, .val (.int v1), .val (.int (0 : Int32)), .val (.int v46), .val (.int (2 : Int32)), .unset]) rfl (pc' := 104) rfl ?_
   refine k_bipush X0 hx (hb hby at_104) (pc' := 106) rfl (z := (8 : Int32)) rfl ?_
   refine k_newA X0 hx hZ (hw _ (List.mem_of_getElem? (i := 1) rfl)) e0 (hb hby at_106) (by decide) (cap := 8) (by decide) (by decide) (by decide) (by decide) (pc' := 108) rfl (fun T507 h507 b507 k507 g507 X507 e507 E507 V507 => ?_)
   have g_b507 : n0 ≤ b507 := Nat.le_trans Z0 (Nat.le_of_eq g507.symm)
   have Z507 : n0 ≤ h507.size := Nat.le_trans Z0 E507.1
   have Vw507 : Arv Z h507 b507 k507 .byte (8 : Int32) [(.int (0 : Int32)), (.int (0 : Int32)), (.int (0 : Int32)), (.int (0 : Int32)), (.int (0 : Int32)), (.int (0 : Int32)), (.int (0 : Int32)), (.int (0 : Int32))] (.int (0 : Int32)) := V507
   refine k_astore X507 hx (hb hby at_108) rfl (Ls' := #[.val (.int i0), .val (.int i1), .val (.int i2), .val (.long i3), .second, .val (.int v1), .val (.int (0 : Int32)), .val (.int v46), .val (.int (2 : Int32)), .val (.ref b507)]) rfl (pc' := 110) rfl ?_
   refine k_aload X507 hx (hb hby at_110) rfl rfl (pc' := 112) rfl ?_
   refine k_iconst X507 hx (hb hby at_112) (pc' := 113) rfl (z := (0 : Int32)) rfl ?_
   refine k_lloadN X507 hx (hb hby at_113) rfl (pc' := 114) rfl ?_
   refine k_iconst X507 hx (hb hby at_114) (pc' := 115) rfl (z := (0 : Int32)) rfl ?_
   refine k_callS X507 hx hZ hown (hw _ (List.mem_of_getElem? (i := 2) rfl)) (hw _ (List.mem_of_getElem? (i := 3) rfl)) (hw _ (List.mem_of_getElem? (i := 4) rfl)) (hw _ (List.mem_of_getElem? (i := 5) rfl)) (by decide) (rm1_55 l Z a0 hw [] i3 h507 n0 Z507 ) (by decide) (by decide) e507 (by rw [hml]; rfl) (argsL := [(.long i3), (.int (0 : Int32))]) (rest := [(.int (0 : Int32)), (.ref b507)]) (lenOf pd_0 rfl) rfl (W := 2) (Nat.le_refl _) rfl (hb hby at_115) (by decide) (by decide) (pc' := 118) rfl (fun T508 L508 r508 X508 q508 => ?_)
   obtain ⟨N508, e508, rfl⟩ := q508
   have N508' := Fr.app N0 N508
   show KEnds p e below s _ _ _ T508 (mkF m 118 #[.val (.int i0), .val (.int i1), .val (.int i2), .val (.long i3), .second, .val (.int v1), .val (.int (0 : Int32)), .val (.int v46), .val (.int (2 : Int32)), .val (.ref b507)] ((.int (f1_55 i3)) :: (.int (0 : Int32)) :: (.ref b507) :: []))
   obtain ⟨v509, hv509⟩ : ∃ z, z = f1_55 i3 := ⟨_, rfl⟩
   rw [← hv509]
   have hb510 : v509.toInt8.toInt32 = v509 := by rw [hv509]; exact f1_55_byte i3
   refine k_bastore X508 hx hZ e508 Vw507 ⟨by decide, by decide⟩ (i := 0) rfl (Nat.le_of_ble_eq_true rfl) (hb hby at_118) (pc' := 119) rfl (fun T511 h511 X511 e511 W511 V511 => ?_)
   rw [hb510] at V511
   have Vw511 : Arv Z h511 b507 k507 .byte (8 : Int32) [(.int v509), (.int (0 : Int32)), (.int (0 : Int32)), (.int (0 : Int32)), (.int (0 : Int32)), (.int (0 : Int32)), (.int (0 : Int32)), (.int (0 : Int32))] (.int (0 : Int32)) := V511
   have N511 := Fr.snoc X511 N508' g_b507
   have Z511 : n0 ≤ h511.size := Nat.le_trans Z507 (Nat.le_of_eq W511.size.symm)
   refine k_aload X511 hx (hb hby at_119) rfl rfl (pc' := 121) rfl ?_
   refine k_iconst X511 hx (hb hby at_121) (pc' := 122) rfl (z := (1 : Int32)) rfl ?_
   refine k_lloadN X511 hx (hb hby at_122) rfl (pc' := 123) rfl ?_
   refine k_iconst X511 hx (hb hby at_123) (pc' := 124) rfl (z := (1 : Int32)) rfl ?_
   refine k_callS X511 hx hZ hown (hw _ (List.mem_of_getElem? (i := 2) rfl)) (hw _ (List.mem_of_getElem? (i := 3) rfl)) (hw _ (List.mem_of_getElem? (i := 4) rfl)) (hw _ (List.mem_of_getElem? (i := 5) rfl)) (by decide) (rm1_60 l Z a0 hw [] i3 h511 n0 Z511 ) (by decide) (by decide) e511 (by rw [hml]; rfl) (argsL := [(.long i3), (.int (1 : Int32))]) (rest := [(.int (1 : Int32)), (.ref b507)]) (lenOf pd_0 rfl) rfl (W := 2) (Nat.le_refl _) rfl (hb hby at_124) (by decide) (by decide) (pc' := 127) rfl (fun T512 L512 r512 X512 q512 => ?_)
   obtain ⟨N512, e512, rfl⟩ := q512
   have N512' := Fr.app N511 N512
   show KEnds p e below s _ _ _ T512 (mkF m 127 #[.val (.int i0), .val (.int i1), .val (.int i2), .val (.long i3), .second, .val (.int v1), .val (.int (0 : Int32)), .val (.int v46), .val (.int (2 : Int32)), .val (.ref b507)] ((.int (f1_60 i3)) :: (.int (1 : Int32)) :: (.ref b507) :: []))
   obtain ⟨v513, hv513⟩ : ∃ z, z = f1_60 i3 := ⟨_, rfl⟩
   rw [← hv513]
   have hb514 : v513.toInt8.toInt32 = v513 := by rw [hv513]; exact f1_60_byte i3
   refine k_bastore X512 hx hZ e512 Vw511 ⟨by decide, by decide⟩ (i := 1) rfl (Nat.le_of_ble_eq_true rfl) (hb hby at_127) (pc' := 128) rfl (fun T515 h515 X515 e515 W515 V515 => ?_)
   rw [hb514] at V515
   have Vw515 : Arv Z h515 b507 k507 .byte (8 : Int32) [(.int v509), (.int v513), (.int (0 : Int32)), (.int (0 : Int32)), (.int (0 : Int32)), (.int (0 : Int32)), (.int (0 : Int32)), (.int (0 : Int32))] (.int (0 : Int32)) := V515
   have N515 := Fr.snoc X515 N512' g_b507
   have Z515 : n0 ≤ h515.size := Nat.le_trans Z511 (Nat.le_of_eq W515.size.symm)
   refine k_aload X515 hx (hb hby at_128) rfl rfl (pc' := 130) rfl ?_
   refine k_iconst X515 hx (hb hby at_130) (pc' := 131) rfl (z := (2 : Int32)) rfl ?_
   refine k_lloadN X515 hx (hb hby at_131) rfl (pc' := 132) rfl ?_
   refine k_iconst X515 hx (hb hby at_132) (pc' := 133) rfl (z := (2 : Int32)) rfl ?_
   refine k_callS X515 hx hZ hown (hw _ (List.mem_of_getElem? (i := 2) rfl)) (hw _ (List.mem_of_getElem? (i := 3) rfl)) (hw _ (List.mem_of_getElem? (i := 4) rfl)) (hw _ (List.mem_of_getElem? (i := 5) rfl)) (by decide) (rm1_65 l Z a0 hw [] i3 h515 n0 Z515 ) (by decide) (by decide) e515 (by rw [hml]; rfl) (argsL := [(.long i3), (.int (2 : Int32))]) (rest := [(.int (2 : Int32)), (.ref b507)]) (lenOf pd_0 rfl) rfl (W := 2) (Nat.le_refl _) rfl (hb hby at_133) (by decide) (by decide) (pc' := 136) rfl (fun T516 L516 r516 X516 q516 => ?_)
   obtain ⟨N516, e516, rfl⟩ := q516
   have N516' := Fr.app N515 N516
   show KEnds p e below s _ _ _ T516 (mkF m 136 #[.val (.int i0), .val (.int i1), .val (.int i2), .val (.long i3), .second, .val (.int v1), .val (.int (0 : Int32)), .val (.int v46), .val (.int (2 : Int32)), .val (.ref b507)] ((.int (f1_65 i3)) :: (.int (2 : Int32)) :: (.ref b507) :: []))
   obtain ⟨v517, hv517⟩ : ∃ z, z = f1_65 i3 := ⟨_, rfl⟩
   rw [← hv517]
   have hb518 : v517.toInt8.toInt32 = v517 := by rw [hv517]; exact f1_65_byte i3
   refine k_bastore X516 hx hZ e516 Vw515 ⟨by decide, by decide⟩ (i := 2) rfl (Nat.le_of_ble_eq_true rfl) (hb hby at_136) (pc' := 137) rfl (fun T519 h519 X519 e519 W519 V519 => ?_)
   rw [hb518] at V519
   have Vw519 : Arv Z h519 b507 k507 .byte (8 : Int32) [(.int v509), (.int v513), (.int v517), (.int (0 : Int32)), (.int (0 : Int32)), (.int (0 : Int32)), (.int (0 : Int32)), (.int (0 : Int32))] (.int (0 : Int32)) := V519
   have N519 := Fr.snoc X519 N516' g_b507
   have Z519 : n0 ≤ h519.size := Nat.le_trans Z515 (Nat.le_of_eq W519.size.symm)
   refine k_aload X519 hx (hb hby at_137) rfl rfl (pc' := 139) rfl ?_
   refine k_iconst X519 hx (hb hby at_139) (pc' := 140) rfl (z := (3 : Int32)) rfl ?_
   refine k_lloadN X519 hx (hb hby at_140) rfl (pc' := 141) rfl ?_
   refine k_iconst X519 hx (hb hby at_141) (pc' := 142) rfl (z := (3 : Int32)) rfl ?_
   refine k_callS X519 hx hZ hown (hw _ (List.mem_of_getElem? (i := 2) rfl)) (hw _ (List.mem_of_getElem? (i := 3) rfl)) (hw _ (List.mem_of_getElem? (i := 4) rfl)) (hw _ (List.mem_of_getElem? (i := 5) rfl)) (by decide) (rm1_70 l Z a0 hw [] i3 h519 n0 Z519 ) (by decide) (by decide) e519 (by rw [hml]; rfl) (argsL := [(.long i3), (.int (3 : Int32))]) (rest := [(.int (3 : Int32)), (.ref b507)]) (lenOf pd_0 rfl) rfl (W := 2) (Nat.le_refl _) rfl (hb hby at_142) (by decide) (by decide) (pc' := 145) rfl (fun T520 L520 r520 X520 q520 => ?_)
   obtain ⟨N520, e520, rfl⟩ := q520
   have N520' := Fr.app N519 N520
   show KEnds p e below s _ _ _ T520 (mkF m 145 #[.val (.int i0), .val (.int i1), .val (.int i2), .val (.long i3), .second, .val (.int v1), .val (.int (0 : Int32)), .val (.int v46), .val (.int (2 : Int32)), .val (.ref b507)] ((.int (f1_70 i3)) :: (.int (3 : Int32)) :: (.ref b507) :: []))
   obtain ⟨v521, hv521⟩ : ∃ z, z = f1_70 i3 := ⟨_, rfl⟩
   rw [← hv521]
   have hb522 : v521.toInt8.toInt32 = v521 := by rw [hv521]; exact f1_70_byte i3
   refine k_bastore X520 hx hZ e520 Vw519 ⟨by decide, by decide⟩ (i := 3) rfl (Nat.le_of_ble_eq_true rfl) (hb hby at_145) (pc' := 146) rfl (fun T523 h523 X523 e523 W523 V523 => ?_)
   rw [hb522] at V523
   have Vw523 : Arv Z h523 b507 k507 .byte (8 : Int32) [(.int v509), (.int v513), (.int v517), (.int v521), (.int (0 : Int32)), (.int (0 : Int32)), (.int (0 : Int32)), (.int (0 : Int32))] (.int (0 : Int32)) := V523
   have N523 := Fr.snoc X523 N520' g_b507
   have Z523 : n0 ≤ h523.size := Nat.le_trans Z519 (Nat.le_of_eq W523.size.symm)
   refine k_aload X523 hx (hb hby at_146) rfl rfl (pc' := 148) rfl ?_
   refine k_iconst X523 hx (hb hby at_148) (pc' := 149) rfl (z := (4 : Int32)) rfl ?_
   refine k_lloadN X523 hx (hb hby at_149) rfl (pc' := 150) rfl ?_
   refine k_iconst X523 hx (hb hby at_150) (pc' := 151) rfl (z := (4 : Int32)) rfl ?_
   refine k_callS X523 hx hZ hown (hw _ (List.mem_of_getElem? (i := 2) rfl)) (hw _ (List.mem_of_getElem? (i := 3) rfl)) (hw _ (List.mem_of_getElem? (i := 4) rfl)) (hw _ (List.mem_of_getElem? (i := 5) rfl)) (by decide) (rm1_75 l Z a0 hw [] i3 h523 n0 Z523 ) (by decide) (by decide) e523 (by rw [hml]; rfl) (argsL := [(.long i3), (.int (4 : Int32))]) (rest := [(.int (4 : Int32)), (.ref b507)]) (lenOf pd_0 rfl) rfl (W := 2) (Nat.le_refl _) rfl (hb hby at_151) (by decide) (by decide) (pc' := 154) rfl (fun T524 L524 r524 X524 q524 => ?_)
   obtain ⟨N524, e524, rfl⟩ := q524
   have N524' := Fr.app N523 N524
   show KEnds p e below s _ _ _ T524 (mkF m 154 #[.val (.int i0), .val (.int i1), .val (.int i2), .val (.long i3), .second, .val (.int v1), .val (.int (0 : Int32)), .val (.int v46), .val (.int (2 : Int32)), .val (.ref b507)] ((.int (f1_75 i3)) :: (.int (4 : Int32)) :: (.ref b507) :: []))
   obtain ⟨v525, hv525⟩ : ∃ z, z = f1_75 i3 := ⟨_, rfl⟩
   rw [← hv525]
   have hb526 : v525.toInt8.toInt32 = v525 := by rw [hv525]; exact f1_75_byte i3
   refine k_bastore X524 hx hZ e524 Vw523 ⟨by decide, by decide⟩ (i := 4) rfl (Nat.le_of_ble_eq_true rfl) (hb hby at_154) (pc' := 155) rfl (fun T527 h527 X527 e527 W527 V527 => ?_)
   rw [hb526] at V527
   have Vw527 : Arv Z h527 b507 k507 .byte (8 : Int32) [(.int v509), (.int v513), (.int v517), (.int v521), (.int v525), (.int (0 : Int32)), (.int (0 : Int32)), (.int (0 : Int32))] (.int (0 : Int32)) := V527
   have N527 := Fr.snoc X527 N524' g_b507
   have Z527 : n0 ≤ h527.size := Nat.le_trans Z523 (Nat.le_of_eq W527.size.symm)
   refine k_aload X527 hx (hb hby at_155) rfl rfl (pc' := 157) rfl ?_
   refine k_iconst X527 hx (hb hby at_157) (pc' := 158) rfl (z := (5 : Int32)) rfl ?_
   refine k_lloadN X527 hx (hb hby at_158) rfl (pc' := 159) rfl ?_
   refine k_iconst X527 hx (hb hby at_159) (pc' := 160) rfl (z := (5 : Int32)) rfl ?_
   refine k_callS X527 hx hZ hown (hw _ (List.mem_of_getElem? (i := 2) rfl)) (hw _ (List.mem_of_getElem? (i := 3) rfl)) (hw _ (List.mem_of_getElem? (i := 4) rfl)) (hw _ (List.mem_of_getElem? (i := 5) rfl)) (by decide) (rm1_80 l Z a0 hw [] i3 h527 n0 Z527 ) (by decide) (by decide) e527 (by rw [hml]; rfl) (argsL := [(.long i3), (.int (5 : Int32))]) (rest := [(.int (5 : Int32)), (.ref b507)]) (lenOf pd_0 rfl) rfl (W := 2) (Nat.le_refl _) rfl (hb hby at_160) (by decide) (by decide) (pc' := 163) rfl (fun T528 L528 r528 X528 q528 => ?_)
   obtain ⟨N528, e528, rfl⟩ := q528
   have N528' := Fr.app N527 N528
   show KEnds p e below s _ _ _ T528 (mkF m 163 #[.val (.int i0), .val (.int i1), .val (.int i2), .val (.long i3), .second, .val (.int v1), .val (.int (0 : Int32)), .val (.int v46), .val (.int (2 : Int32)), .val (.ref b507)] ((.int (f1_80 i3)) :: (.int (5 : Int32)) :: (.ref b507) :: []))
   obtain ⟨v529, hv529⟩ : ∃ z, z = f1_80 i3 := ⟨_, rfl⟩
   rw [← hv529]
   have hb530 : v529.toInt8.toInt32 = v529 := by rw [hv529]; exact f1_80_byte i3
   refine k_bastore X528 hx hZ e528 Vw527 ⟨by decide, by decide⟩ (i := 5) rfl (Nat.le_of_ble_eq_true rfl) (hb hby at_163) (pc' := 164) rfl (fun T531 h531 X531 e531 W531 V531 => ?_)
   rw [hb530] at V531
   have Vw531 : Arv Z h531 b507 k507 .byte (8 : Int32) [(.int v509), (.int v513), (.int v517), (.int v521), (.int v525), (.int v529), (.int (0 : Int32)), (.int (0 : Int32))] (.int (0 : Int32)) := V531
   have N531 := Fr.snoc X531 N528' g_b507
   have Z531 : n0 ≤ h531.size := Nat.le_trans Z527 (Nat.le_of_eq W531.size.symm)
   refine k_aload X531 hx (hb hby at_164) rfl rfl (pc' := 166) rfl ?_
   refine k_bipush X531 hx (hb hby at_166) (pc' := 168) rfl (z := (6 : Int32)) rfl ?_
   refine k_lloadN X531 hx (hb hby at_168) rfl (pc' := 169) rfl ?_
   refine k_bipush X531 hx (hb hby at_169) (pc' := 171) rfl (z := (6 : Int32)) rfl ?_
   refine k_callS X531 hx hZ hown (hw _ (List.mem_of_getElem? (i := 2) rfl)) (hw _ (List.mem_of_getElem? (i := 3) rfl)) (hw _ (List.mem_of_getElem? (i := 4) rfl)) (hw _ (List.mem_of_getElem? (i := 5) rfl)) (by decide) (rm1_85 l Z a0 hw [] i3 h531 n0 Z531 ) (by decide) (by decide) e531 (by rw [hml]; rfl) (argsL := [(.long i3), (.int (6 : Int32))]) (rest := [(.int (6 : Int32)), (.ref b507)]) (lenOf pd_0 rfl) rfl (W := 2) (Nat.le_refl _) rfl (hb hby at_171) (by decide) (by decide) (pc' := 174) rfl (fun T532 L532 r532 X532 q532 => ?_)
   obtain ⟨N532, e532, rfl⟩ := q532
   have N532' := Fr.app N531 N532
   show KEnds p e below s _ _ _ T532 (mkF m 174 #[.val (.int i0), .val (.int i1), .val (.int i2), .val (.long i3), .second, .val (.int v1), .val (.int (0 : Int32)), .val (.int v46), .val (.int (2 : Int32)), .val (.ref b507)] ((.int (f1_85 i3)) :: (.int (6 : Int32)) :: (.ref b507) :: []))
   obtain ⟨v533, hv533⟩ : ∃ z, z = f1_85 i3 := ⟨_, rfl⟩
   rw [← hv533]
   have hb534 : v533.toInt8.toInt32 = v533 := by rw [hv533]; exact f1_85_byte i3
   refine k_bastore X532 hx hZ e532 Vw531 ⟨by decide, by decide⟩ (i := 6) rfl (Nat.le_of_ble_eq_true rfl) (hb hby at_174) (pc' := 175) rfl (fun T535 h535 X535 e535 W535 V535 => ?_)
   rw [hb534] at V535
   have Vw535 : Arv Z h535 b507 k507 .byte (8 : Int32) [(.int v509), (.int v513), (.int v517), (.int v521), (.int v525), (.int v529), (.int v533), (.int (0 : Int32))] (.int (0 : Int32)) := V535
   have N535 := Fr.snoc X535 N532' g_b507
   have Z535 : n0 ≤ h535.size := Nat.le_trans Z531 (Nat.le_of_eq W535.size.symm)
   refine k_aload X535 hx (hb hby at_175) rfl rfl (pc' := 177) rfl ?_
   refine k_bipush X535 hx (hb hby at_177) (pc' := 179) rfl (z := (7 : Int32)) rfl ?_
   refine k_lloadN X535 hx (hb hby at_179) rfl (pc' := 180) rfl ?_
   refine k_bipush X535 hx (hb hby at_180) (pc' := 182) rfl (z := (7 : Int32)) rfl ?_
   refine k_callS X535 hx hZ hown (hw _ (List.mem_of_getElem? (i := 2) rfl)) (hw _ (List.mem_of_getElem? (i := 3) rfl)) (hw _ (List.mem_of_getElem? (i := 4) rfl)) (hw _ (List.mem_of_getElem? (i := 5) rfl)) (by decide) (rm1_90 l Z a0 hw [] i3 h535 n0 Z535 ) (by decide) (by decide) e535 (by rw [hml]; rfl) (argsL := [(.long i3), (.int (7 : Int32))]) (rest := [(.int (7 : Int32)), (.ref b507)]) (lenOf pd_0 rfl) rfl (W := 2) (Nat.le_refl _) rfl (hb hby at_182) (by decide) (by decide) (pc' := 185) rfl (fun T536 L536 r536 X536 q536 => ?_)
   obtain ⟨N536, e536, rfl⟩ := q536
   have N536' := Fr.app N535 N536
   show KEnds p e below s _ _ _ T536 (mkF m 185 #[.val (.int i0), .val (.int i1), .val (.int i2), .val (.long i3), .second, .val (.int v1), .val (.int (0 : Int32)), .val (.int v46), .val (.int (2 : Int32)), .val (.ref b507)] ((.int (f1_90 i3)) :: (.int (7 : Int32)) :: (.ref b507) :: []))
   obtain ⟨v537, hv537⟩ : ∃ z, z = f1_90 i3 := ⟨_, rfl⟩
   rw [← hv537]
   have hb538 : v537.toInt8.toInt32 = v537 := by rw [hv537]; exact f1_90_byte i3
   refine k_bastore X536 hx hZ e536 Vw535 ⟨by decide, by decide⟩ (i := 7) rfl (Nat.le_of_ble_eq_true rfl) (hb hby at_185) (pc' := 186) rfl (fun T539 h539 X539 e539 W539 V539 => ?_)
   rw [hb538] at V539
   have Vw539 : Arv Z h539 b507 k507 .byte (8 : Int32) [(.int v509), (.int v513), (.int v517), (.int v521), (.int v525), (.int v529), (.int v533), (.int v537)] (.int (0 : Int32)) := V539
   have N539 := Fr.snoc X539 N536' g_b507
   have Z539 : n0 ≤ h539.size := Nat.le_trans Z535 (Nat.le_of_eq W539.size.symm)
   refine k_iload X539 hx (hb hby at_186) rfl (pc' := 188) rfl ?_
   refine k_if_ne X539 hx (hb hby at_188) (pn := 191) rfl (py := 202) (by decide) (fun hc => absurd (by decide) hc) (fun _ => ?_)
   refine k_aload X539 hx (hb hby at_191) rfl rfl (pc' := 193) rfl ?_
   refine k_iload X539 hx (hb hby at_193) rfl (pc' := 195) rfl ?_
   refine k_iload X539 hx (hb hby at_195) rfl (pc' := 197) rfl ?_
   refine k_i2b X539 hx (hb hby at_197) (pc' := 198) rfl (fun v540 hv540 => ?_)
   refine k_bastore X539 hx hZ e539 Vw539 ⟨by decide, by decide⟩ (i := 2) rfl (Nat.le_of_ble_eq_true rfl) (hb hby at_198) (pc' := 199) rfl (fun T541 h541 X541 e541 W541 V541 => ?_)
   have hb542 : v540.toInt8.toInt32 = v540 := by rw [hv540]; exact k_i2b2 _
   rw [hb542] at V541
   have Vw541 : Arv Z h541 b507 k507 .byte (8 : Int32) [(.int v509), (.int v513), (.int v540), (.int v521), (.int v525), (.int v529), (.int v533), (.int v537)] (.int (0 : Int32)) := V541
   have N541 := Fr.snoc X541 N539 g_b507
   have Z541 : n0 ≤ h541.size := Nat.le_trans Z539 (Nat.le_of_eq W541.size.symm)
   refine k_goto X541 hx (hb hby at_199) (pc' := 376) (by decide) ?_
   refine k_aload X541 hx (hb hby at_376) rfl rfl (pc' := 378) rfl ?_
   refine k_iload X541 hx (hb hby at_378) rfl (pc' := 380) rfl ?_
   refine k_callS X541 hx hZ hown (hw _ (List.mem_of_getElem? (i := 7) rfl)) (hw _ (List.mem_of_getElem? (i := 8) rfl)) (hw _ (List.mem_of_getElem? (i := 9) rfl)) (hw _ (List.mem_of_getElem? (i := 10) rfl)) (by decide) (rm2_543 l Z a0 hw [] b507 k507 v509 v513 v540 v521 v525 v529 v533 v537 h541 n0 Z541 Vw541) (by decide) (by decide) e541 (by rw [hml]; rfl) (argsL := [(.ref b507), (.int (2 : Int32))]) (rest := []) (lenOf pd_2 rfl) rfl (W := 0) (Nat.le_refl _) rfl (hb hby at_380) (by decide) (by decide) (pc' := 383) rfl (fun T588 L588 r588 X588 q588 => ?_)
   obtain ⟨N588, e588, q588⟩ := q588
   have N588' := Fr.app N541 N588
   rcases q588 with ⟨v589, v590, v591, v592, v593, v594, v595, v596, v597, v598, v599, h600, h601, h602, h603, h604, h605, h606, h607, h608, h609, h610, hc611, hc612, hc613, rfl⟩ | ⟨v614, v615, v616, v617, v618, v619, v620, v621, h622, h623, h624, h625, h626, h627, h628, h629, hc630, hc631, hc632, rfl⟩ | ⟨v633, v634, v635, v636, v637, h638, h639, h640, h641, h642, hc643, hc644, rfl⟩ | ⟨v645, h646, hc647, rfl⟩
   ·
    show KEnds p e below s _ _ _ T588 (mkF m 383 #[.val (.int i0), .val (.int i1), .val (.int i2), .val (.long i3), .second, .val (.int v1), .val (.int (0 : Int32)), .val (.int v46), .val (.int (2 : Int32)), .val (.ref b507)] [(.int v599)])
    exfalso
    have B648 : (-2147483648 : Int) ≤ v46.toInt ∧ v46.toInt ≤ 2147483647 := ⟨(rng32 v46).1, Int.le_of_lt_add_one (rng32 v46).2⟩
    have B651 : (0 : Int) ≤ v46.toInt ∧ v46.toInt ≤ 2147483647 := ⟨k_ge hP47.1 (by decide), B648.2⟩
    have B652 : (0 : Int) ≤ v46.toInt ∧ v46.toInt ≤ 127 := ⟨B651.1, k_le hP47.2 (by decide)⟩
    have B653 : (0 : Int) ≤ (0 : Int32).toInt ∧ (0 : Int32).toInt ≤ 0 := (by decide)
    have q654 := hP47.1; rw [Int32.lt_iff_toInt_lt] at q654
    have B655 : (127 : Int) ≤ (127 : Int32).toInt ∧ (127 : Int32).toInt ≤ 127 := (by decide)
    have q656 := hP47.2; rw [Int32.lt_iff_toInt_lt] at q656
    have q660 : v540.toInt = v46.toInt := k_i2bx hv540 B652 (by decide) (by decide)
    have B659 : (0 : Int) ≤ v540.toInt ∧ v540.toInt ≤ 127 := (by rw [q660]; exact B652)
    have q658 : v589.toInt = v540.toInt := k_andx (k := 8) h600 B659 (by decide) (by decide) (by decide) (by decide)
    have B657 : (0 : Int) ≤ v589.toInt ∧ v589.toInt ≤ 127 := (by rw [q658]; exact B659)
    have B661 : (128 : Int) ≤ v589.toInt ∧ v589.toInt ≤ 127 := ⟨k_ge hc611 (by decide), B657.2⟩
    have B662 : (224 : Int) ≤ v589.toInt ∧ v589.toInt ≤ 127 := ⟨k_ge hc612 (by decide), B661.2⟩
    have B663 : (240 : Int) ≤ v589.toInt ∧ v589.toInt ≤ 127 := ⟨k_ge hc613 (by decide), B662.2⟩
    have B664 : (128 : Int) ≤ (128 : Int32).toInt ∧ (128 : Int32).toInt ≤ 128 := (by decide)
    have q665 := hc611; rw [Int32.lt_iff_toInt_lt] at q665
    have B666 : (224 : Int) ≤ (224 : Int32).toInt ∧ (224 : Int32).toInt ≤ 224 := (by decide)
    have q667 := hc612; rw [Int32.lt_iff_toInt_lt] at q667
    have B668 : (240 : Int) ≤ (240 : Int32).toInt ∧ (240 : Int32).toInt ≤ 240 := (by decide)
    have q669 := hc613; rw [Int32.lt_iff_toInt_lt] at q669
    omega
   ·
    show KEnds p e below s _ _ _ T588 (mkF m 383 #[.val (.int i0), .val (.int i1), .val (.int i2), .val (.long i3), .second, .val (.int v1), .val (.int (0 : Int32)), .val (.int v46), .val (.int (2 : Int32)), .val (.ref b507)] [(.int v621)])
    exfalso
    have B670 : (-2147483648 : Int) ≤ v46.toInt ∧ v46.toInt ≤ 2147483647 := ⟨(rng32 v46).1, Int.le_of_lt_add_one (rng32 v46).2⟩
    have B673 : (0 : Int) ≤ v46.toInt ∧ v46.toInt ≤ 2147483647 := ⟨k_ge hP47.1 (by decide), B670.2⟩
    have B674 : (0 : Int) ≤ v46.toInt ∧ v46.toInt ≤ 127 := ⟨B673.1, k_le hP47.2 (by decide)⟩
    have B675 : (0 : Int) ≤ (0 : Int32).toInt ∧ (0 : Int32).toInt ≤ 0 := (by decide)
    have q676 := hP47.1; rw [Int32.lt_iff_toInt_lt] at q676
    have B677 : (127 : Int) ≤ (127 : Int32).toInt ∧ (127 : Int32).toInt ≤ 127 := (by decide)
    have q678 := hP47.2; rw [Int32.lt_iff_toInt_lt] at q678
    have q682 : v540.toInt = v46.toInt := k_i2bx hv540 B674 (by decide) (by decide)
    have B681 : (0 : Int) ≤ v540.toInt ∧ v540.toInt ≤ 127 := (by rw [q682]; exact B674)
    have q680 : v614.toInt = v540.toInt := k_andx (k := 8) h622 B681 (by decide) (by decide) (by decide) (by decide)
    have B679 : (0 : Int) ≤ v614.toInt ∧ v614.toInt ≤ 127 := (by rw [q680]; exact B681)
    have B683 : (128 : Int) ≤ v614.toInt ∧ v614.toInt ≤ 127 := ⟨k_ge hc630 (by decide), B679.2⟩
    have B684 : (224 : Int) ≤ v614.toInt ∧ v614.toInt ≤ 127 := ⟨k_ge hc631 (by decide), B683.2⟩
    have B685 : (128 : Int) ≤ (128 : Int32).toInt ∧ (128 : Int32).toInt ≤ 128 := (by decide)
    have q686 := hc630; rw [Int32.lt_iff_toInt_lt] at q686
    have B687 : (224 : Int) ≤ (224 : Int32).toInt ∧ (224 : Int32).toInt ≤ 224 := (by decide)
    have q688 := hc631; rw [Int32.lt_iff_toInt_lt] at q688
    have B689 : (240 : Int) ≤ (240 : Int32).toInt ∧ (240 : Int32).toInt ≤ 240 := (by decide)
    have q690 := hc632; rw [Int32.lt_iff_toInt_lt] at q690
    omega
   ·
    show KEnds p e below s _ _ _ T588 (mkF m 383 #[.val (.int i0), .val (.int i1), .val (.int i2), .val (.long i3), .second, .val (.int v1), .val (.int (0 : Int32)), .val (.int v46), .val (.int (2 : Int32)), .val (.ref b507)] [(.int v637)])
    exfalso
    have B691 : (-2147483648 : Int) ≤ v46.toInt ∧ v46.toInt ≤ 2147483647 := ⟨(rng32 v46).1, Int.le_of_lt_add_one (rng32 v46).2⟩
    have B694 : (0 : Int) ≤ v46.toInt ∧ v46.toInt ≤ 2147483647 := ⟨k_ge hP47.1 (by decide), B691.2⟩
    have B695 : (0 : Int) ≤ v46.toInt ∧ v46.toInt ≤ 127 := ⟨B694.1, k_le hP47.2 (by decide)⟩
    have B696 : (0 : Int) ≤ (0 : Int32).toInt ∧ (0 : Int32).toInt ≤ 0 := (by decide)
    have q697 := hP47.1; rw [Int32.lt_iff_toInt_lt] at q697
    have B698 : (127 : Int) ≤ (127 : Int32).toInt ∧ (127 : Int32).toInt ≤ 127 := (by decide)
    have q699 := hP47.2; rw [Int32.lt_iff_toInt_lt] at q699
    have q703 : v540.toInt = v46.toInt := k_i2bx hv540 B695 (by decide) (by decide)
    have B702 : (0 : Int) ≤ v540.toInt ∧ v540.toInt ≤ 127 := (by rw [q703]; exact B695)
    have q701 : v633.toInt = v540.toInt := k_andx (k := 8) h638 B702 (by decide) (by decide) (by decide) (by decide)
    have B700 : (0 : Int) ≤ v633.toInt ∧ v633.toInt ≤ 127 := (by rw [q701]; exact B702)
    have B704 : (128 : Int) ≤ v633.toInt ∧ v633.toInt ≤ 127 := ⟨k_ge hc643 (by decide), B700.2⟩
    have B705 : (128 : Int) ≤ (128 : Int32).toInt ∧ (128 : Int32).toInt ≤ 128 := (by decide)
    have q706 := hc643; rw [Int32.lt_iff_toInt_lt] at q706
    have B707 : (224 : Int) ≤ (224 : Int32).toInt ∧ (224 : Int32).toInt ≤ 224 := (by decide)
    have q708 := hc644; rw [Int32.lt_iff_toInt_lt] at q708
    omega
   ·
    show KEnds p e below s _ _ _ T588 (mkF m 383 #[.val (.int i0), .val (.int i1), .val (.int i2), .val (.long i3), .second, .val (.int v1), .val (.int (0 : Int32)), .val (.int v46), .val (.int (2 : Int32)), .val (.ref b507)] [(.int v645)])
    refine k_iload X588 hx (hb hby at_383) rfl (pc' := 385) rfl ?_
    refine k_icmp_ne X588 hx (hb hby at_385) (pn := 388) rfl (py := 392) (by decide) (fun hc709 => ?_) (fun hc709 => ?_)
    ·
     refine k_iconst X588 hx (hb hby at_392) (pc' := 393) rfl (z := (0 : Int32)) rfl ?_
     exfalso
     have B710 : (-2147483648 : Int) ≤ v46.toInt ∧ v46.toInt ≤ 2147483647 := ⟨(rng32 v46).1, Int.le_of_lt_add_one (rng32 v46).2⟩
     have B713 : (0 : Int) ≤ v46.toInt ∧ v46.toInt ≤ 2147483647 := ⟨k_ge hP47.1 (by decide), B710.2⟩
     have B714 : (0 : Int) ≤ v46.toInt ∧ v46.toInt ≤ 127 := ⟨B713.1, k_le hP47.2 (by decide)⟩
     have B715 : (0 : Int) ≤ (0 : Int32).toInt ∧ (0 : Int32).toInt ≤ 0 := (by decide)
     have q716 := hP47.1; rw [Int32.lt_iff_toInt_lt] at q716
     have B717 : (127 : Int) ≤ (127 : Int32).toInt ∧ (127 : Int32).toInt ≤ 127 := (by decide)
     have q718 := hP47.2; rw [Int32.lt_iff_toInt_lt] at q718
     have q722 : v540.toInt = v46.toInt := k_i2bx hv540 B714 (by decide) (by decide)
     have B721 : (0 : Int) ≤ v540.toInt ∧ v540.toInt ≤ 127 := (by rw [q722]; exact B714)
     have q720 : v645.toInt = v540.toInt := k_andx (k := 8) h646 B721 (by decide) (by decide) (by decide) (by decide)
     have B719 : (0 : Int) ≤ v645.toInt ∧ v645.toInt ≤ 127 := (by rw [q720]; exact B721)
     have B723 : (128 : Int) ≤ (128 : Int32).toInt ∧ (128 : Int32).toInt ≤ 128 := (by decide)
     have q724 := hc647; rw [Int32.lt_iff_toInt_lt] at q724
     have q725 : ¬ v645.toInt = v46.toInt := fun q => hc709 (Int32.toInt_inj.mp q)
     omega
    ·
     refine k_iconst X588 hx (hb hby at_388) (pc' := 389) rfl (z := (1 : Int32)) rfl ?_
     refine k_goto X588 hx (hb hby at_389) (pc' := 393) (by decide) ?_
     exact k_retN X588 hx (t := .boolean) Bd.returns (by simp) (hb hby at_393) hlk (by decide) (by decide) (z' := (1 : Int32)) rfl ⟨rfl, N588'⟩
  ·
   show KEnds p e below s _ _ _ s₁ (mkF m 102 #[.val (.int i0), .val (.int i1), .val (.int i2), .val (.long i3), .second, .val (.int v1), .val (.int (0 : Int32)), .val (.int v46), .unset, .unset] [(.int (3 : Int32))])
   refine k_istore X0 hx (hb hby at_102) (Ls' := #[.val (.int i0), .val (.int i1), .val (.int i2), .val (.long i3), .second, .val (.int v1), .val (.int (0 : Int32)), .val (.int v46), .val (.int (3 : Int32)), .unset]) rfl (pc' := 104) rfl ?_
   refine k_bipush X0 hx (hb hby at_104) (pc' := 106) rfl (z := (8 : Int32)) rfl ?_
   refine k_newA X0 hx hZ (hw _ (List.mem_of_getElem? (i := 1) rfl)) e0 (hb hby at_106) (by decide) (cap := 8) (by decide) (by decide) (by decide) (by decide) (pc' := 108) rfl (fun T727 h727 b727 k727 g727 X727 e727 E727 V727 => ?_)
   have g_b727 : n0 ≤ b727 := Nat.le_trans Z0 (Nat.le_of_eq g727.symm)
   have Z727 : n0 ≤ h727.size := Nat.le_trans Z0 E727.1
   have Vw727 : Arv Z h727 b727 k727 .byte (8 : Int32) [(.int (0 : Int32)), (.int (0 : Int32)), (.int (0 : Int32)), (.int (0 : Int32)), (.int (0 : Int32)), (.int (0 : Int32)), (.int (0 : Int32)), (.int (0 : Int32))] (.int (0 : Int32)) := V727
   refine k_astore X727 hx (hb hby at_108) rfl (Ls' := #[.val (.int i0), .val (.int i1), .val (.int i2), .val (.long i3), .second, .val (.int v1), .val (.int (0 : Int32)), .val (.int v46), .val (.int (3 : Int32)), .val (.ref b727)]) rfl (pc' := 110) rfl ?_
   refine k_aload X727 hx (hb hby at_110) rfl rfl (pc' := 112) rfl ?_
   refine k_iconst X727 hx (hb hby at_112) (pc' := 113) rfl (z := (0 : Int32)) rfl ?_
   refine k_lloadN X727 hx (hb hby at_113) rfl (pc' := 114) rfl ?_
   refine k_iconst X727 hx (hb hby at_114) (pc' := 115) rfl (z := (0 : Int32)) rfl ?_
   refine k_callS X727 hx hZ hown (hw _ (List.mem_of_getElem? (i := 2) rfl)) (hw _ (List.mem_of_getElem? (i := 3) rfl)) (hw _ (List.mem_of_getElem? (i := 4) rfl)) (hw _ (List.mem_of_getElem? (i := 5) rfl)) (by decide) (rm1_55 l Z a0 hw [] i3 h727 n0 Z727 ) (by decide) (by decide) e727 (by rw [hml]; rfl) (argsL := [(.long i3), (.int (0 : Int32))]) (rest := [(.int (0 : Int32)), (.ref b727)]) (lenOf pd_0 rfl) rfl (W := 2) (Nat.le_refl _) rfl (hb hby at_115) (by decide) (by decide) (pc' := 118) rfl (fun T728 L728 r728 X728 q728 => ?_)
   obtain ⟨N728, e728, rfl⟩ := q728
   have N728' := Fr.app N0 N728
   show KEnds p e below s _ _ _ T728 (mkF m 118 #[.val (.int i0), .val (.int i1), .val (.int i2), .val (.long i3), .second, .val (.int v1), .val (.int (0 : Int32)), .val (.int v46), .val (.int (3 : Int32)), .val (.ref b727)] ((.int (f1_55 i3)) :: (.int (0 : Int32)) :: (.ref b727) :: []))
   obtain ⟨v729, hv729⟩ : ∃ z, z = f1_55 i3 := ⟨_, rfl⟩
   rw [← hv729]
   have hb730 : v729.toInt8.toInt32 = v729 := by rw [hv729]; exact f1_55_byte i3
   refine k_bastore X728 hx hZ e728 Vw727 ⟨by decide, by decide⟩ (i := 0) rfl (Nat.le_of_ble_eq_true rfl) (hb hby at_118) (pc' := 119) rfl (fun T731 h731 X731 e731 W731 V731 => ?_)
   rw [hb730] at V731
   have Vw731 : Arv Z h731 b727 k727 .byte (8 : Int32) [(.int v729), (.int (0 : Int32)), (.int (0 : Int32)), (.int (0 : Int32)), (.int (0 : Int32)), (.int (0 : Int32)), (.int (0 : Int32)), (.int (0 : Int32))] (.int (0 : Int32)) := V731
   have N731 := Fr.snoc X731 N728' g_b727
   have Z731 : n0 ≤ h731.size := Nat.le_trans Z727 (Nat.le_of_eq W731.size.symm)
   refine k_aload X731 hx (hb hby at_119) rfl rfl (pc' := 121) rfl ?_
   refine k_iconst X731 hx (hb hby at_121) (pc' := 122) rfl (z := (1 : Int32)) rfl ?_
   refine k_lloadN X731 hx (hb hby at_122) rfl (pc' := 123) rfl ?_
   refine k_iconst X731 hx (hb hby at_123) (pc' := 124) rfl (z := (1 : Int32)) rfl ?_
   refine k_callS X731 hx hZ hown (hw _ (List.mem_of_getElem? (i := 2) rfl)) (hw _ (List.mem_of_getElem? (i := 3) rfl)) (hw _ (List.mem_of_getElem? (i := 4) rfl)) (hw _ (List.mem_of_getElem? (i := 5) rfl)) (by decide) (rm1_60 l Z a0 hw [] i3 h731 n0 Z731 ) (by decide) (by decide) e731 (by rw [hml]; rfl) (argsL := [(.long i3), (.int (1 : Int32))]) (rest := [(.int (1 : Int32)), (.ref b727)]) (lenOf pd_0 rfl) rfl (W := 2) (Nat.le_refl _) rfl (hb hby at_124) (by decide) (by decide) (pc' := 127) rfl (fun T732 L732 r732 X732 q732 => ?_)
   obtain ⟨N732, e732, rfl⟩ := q732
   have N732' := Fr.app N731 N732
   show KEnds p e below s _ _ _ T732 (mkF m 127 #[.val (.int i0), .val (.int i1), .val (.int i2), .val (.long i3), .second, .val (.int v1), .val (.int (0 : Int32)), .val (.int v46), .val (.int (3 : Int32)), .val (.ref b727)] ((.int (f1_60 i3)) :: (.int (1 : Int32)) :: (.ref b727) :: []))
   obtain ⟨v733, hv733⟩ : ∃ z, z = f1_60 i3 := ⟨_, rfl⟩
   rw [← hv733]
   have hb734 : v733.toInt8.toInt32 = v733 := by rw [hv733]; exact f1_60_byte i3
   refine k_bastore X732 hx hZ e732 Vw731 ⟨by decide, by decide⟩ (i := 1) rfl (Nat.le_of_ble_eq_true rfl) (hb hby at_127) (pc' := 128) rfl (fun T735 h735 X735 e735 W735 V735 => ?_)
   rw [hb734] at V735
   have Vw735 : Arv Z h735 b727 k727 .byte (8 : Int32) [(.int v729), (.int v733), (.int (0 : Int32)), (.int (0 : Int32)), (.int (0 : Int32)), (.int (0 : Int32)), (.int (0 : Int32)), (.int (0 : Int32))] (.int (0 : Int32)) := V735
   have N735 := Fr.snoc X735 N732' g_b727
   have Z735 : n0 ≤ h735.size := Nat.le_trans Z731 (Nat.le_of_eq W735.size.symm)
   refine k_aload X735 hx (hb hby at_128) rfl rfl (pc' := 130) rfl ?_
   refine k_iconst X735 hx (hb hby at_130) (pc' := 131) rfl (z := (2 : Int32)) rfl ?_
   refine k_lloadN X735 hx (hb hby at_131) rfl (pc' := 132) rfl ?_
   refine k_iconst X735 hx (hb hby at_132) (pc' := 133) rfl (z := (2 : Int32)) rfl ?_
   refine k_callS X735 hx hZ hown (hw _ (List.mem_of_getElem? (i := 2) rfl)) (hw _ (List.mem_of_getElem? (i := 3) rfl)) (hw _ (List.mem_of_getElem? (i := 4) rfl)) (hw _ (List.mem_of_getElem? (i := 5) rfl)) (by decide) (rm1_65 l Z a0 hw [] i3 h735 n0 Z735 ) (by decide) (by decide) e735 (by rw [hml]; rfl) (argsL := [(.long i3), (.int (2 : Int32))]) (rest := [(.int (2 : Int32)), (.ref b727)]) (lenOf pd_0 rfl) rfl (W := 2) (Nat.le_refl _) rfl (hb hby at_133) (by decide) (by decide) (pc' := 136) rfl (fun T736 L736 r736 X736 q736 => ?_)
   obtain ⟨N736, e736, rfl⟩ := q736
   have N736' := Fr.app N735 N736
   show KEnds p e below s _ _ _ T736 (mkF m 136 #[.val (.int i0), .val (.int i1), .val (.int i2), .val (.long i3), .second, .val (.int v1), .val (.int (0 : Int32)), .val (.int v46), .val (.int (3 : Int32)), .val (.ref b727)] ((.int (f1_65 i3)) :: (.int (2 : Int32)) :: (.ref b727) :: []))
   obtain ⟨v737, hv737⟩ : ∃ z, z = f1_65 i3 := ⟨_, rfl⟩
   rw [← hv737]
   have hb738 : v737.toInt8.toInt32 = v737 := by rw [hv737]; exact f1_65_byte i3
   refine k_bastore X736 hx hZ e736 Vw735 ⟨by decide, by decide⟩ (i := 2) rfl (Nat.le_of_ble_eq_true rfl) (hb hby at_136) (pc' := 137) rfl (fun T739 h739 X739 e739 W739 V739 => ?_)
   rw [hb738] at V739
   have Vw739 : Arv Z h739 b727 k727 .byte (8 : Int32) [(.int v729), (.int v733), (.int v737), (.int (0 : Int32)), (.int (0 : Int32)), (.int (0 : Int32)), (.int (0 : Int32)), (.int (0 : Int32))] (.int (0 : Int32)) := V739
   have N739 := Fr.snoc X739 N736' g_b727
   have Z739 : n0 ≤ h739.size := Nat.le_trans Z735 (Nat.le_of_eq W739.size.symm)
   refine k_aload X739 hx (hb hby at_137) rfl rfl (pc' := 139) rfl ?_
   refine k_iconst X739 hx (hb hby at_139) (pc' := 140) rfl (z := (3 : Int32)) rfl ?_
   refine k_lloadN X739 hx (hb hby at_140) rfl (pc' := 141) rfl ?_
   refine k_iconst X739 hx (hb hby at_141) (pc' := 142) rfl (z := (3 : Int32)) rfl ?_
   refine k_callS X739 hx hZ hown (hw _ (List.mem_of_getElem? (i := 2) rfl)) (hw _ (List.mem_of_getElem? (i := 3) rfl)) (hw _ (List.mem_of_getElem? (i := 4) rfl)) (hw _ (List.mem_of_getElem? (i := 5) rfl)) (by decide) (rm1_70 l Z a0 hw [] i3 h739 n0 Z739 ) (by decide) (by decide) e739 (by rw [hml]; rfl) (argsL := [(.long i3), (.int (3 : Int32))]) (rest := [(.int (3 : Int32)), (.ref b727)]) (lenOf pd_0 rfl) rfl (W := 2) (Nat.le_refl _) rfl (hb hby at_142) (by decide) (by decide) (pc' := 145) rfl (fun T740 L740 r740 X740 q740 => ?_)
   obtain ⟨N740, e740, rfl⟩ := q740
   have N740' := Fr.app N739 N740
   show KEnds p e below s _ _ _ T740 (mkF m 145 #[.val (.int i0), .val (.int i1), .val (.int i2), .val (.long i3), .second, .val (.int v1), .val (.int (0 : Int32)), .val (.int v46), .val (.int (3 : Int32)), .val (.ref b727)] ((.int (f1_70 i3)) :: (.int (3 : Int32)) :: (.ref b727) :: []))
   obtain ⟨v741, hv741⟩ : ∃ z, z = f1_70 i3 := ⟨_, rfl⟩
   rw [← hv741]
   have hb742 : v741.toInt8.toInt32 = v741 := by rw [hv741]; exact f1_70_byte i3
   refine k_bastore X740 hx hZ e740 Vw739 ⟨by decide, by decide⟩ (i := 3) rfl (Nat.le_of_ble_eq_true rfl) (hb hby at_145) (pc' := 146) rfl (fun T743 h743 X743 e743 W743 V743 => ?_)
   rw [hb742] at V743
   have Vw743 : Arv Z h743 b727 k727 .byte (8 : Int32) [(.int v729), (.int v733), (.int v737), (.int v741), (.int (0 : Int32)), (.int (0 : Int32)), (.int (0 : Int32)), (.int (0 : Int32))] (.int (0 : Int32)) := V743
   have N743 := Fr.snoc X743 N740' g_b727
   have Z743 : n0 ≤ h743.size := Nat.le_trans Z739 (Nat.le_of_eq W743.size.symm)
   refine k_aload X743 hx (hb hby at_146) rfl rfl (pc' := 148) rfl ?_
   refine k_iconst X743 hx (hb hby at_148) (pc' := 149) rfl (z := (4 : Int32)) rfl ?_
   refine k_lloadN X743 hx (hb hby at_149) rfl (pc' := 150) rfl ?_
   refine k_iconst X743 hx (hb hby at_150) (pc' := 151) rfl (z := (4 : Int32)) rfl ?_
   refine k_callS X743 hx hZ hown (hw _ (List.mem_of_getElem? (i := 2) rfl)) (hw _ (List.mem_of_getElem? (i := 3) rfl)) (hw _ (List.mem_of_getElem? (i := 4) rfl)) (hw _ (List.mem_of_getElem? (i := 5) rfl)) (by decide) (rm1_75 l Z a0 hw [] i3 h743 n0 Z743 ) (by decide) (by decide) e743 (by rw [hml]; rfl) (argsL := [(.long i3), (.int (4 : Int32))]) (rest := [(.int (4 : Int32)), (.ref b727)]) (lenOf pd_0 rfl) rfl (W := 2) (Nat.le_refl _) rfl (hb hby at_151) (by decide) (by decide) (pc' := 154) rfl (fun T744 L744 r744 X744 q744 => ?_)
   obtain ⟨N744, e744, rfl⟩ := q744
   have N744' := Fr.app N743 N744
   show KEnds p e below s _ _ _ T744 (mkF m 154 #[.val (.int i0), .val (.int i1), .val (.int i2), .val (.long i3), .second, .val (.int v1), .val (.int (0 : Int32)), .val (.int v46), .val (.int (3 : Int32)), .val (.ref b727)] ((.int (f1_75 i3)) :: (.int (4 : Int32)) :: (.ref b727) :: []))
   obtain ⟨v745, hv745⟩ : ∃ z, z = f1_75 i3 := ⟨_, rfl⟩
   rw [← hv745]
   have hb746 : v745.toInt8.toInt32 = v745 := by rw [hv745]; exact f1_75_byte i3
   refine k_bastore X744 hx hZ e744 Vw743 ⟨by decide, by decide⟩ (i := 4) rfl (Nat.le_of_ble_eq_true rfl) (hb hby at_154) (pc' := 155) rfl (fun T747 h747 X747 e747 W747 V747 => ?_)
   rw [hb746] at V747
   have Vw747 : Arv Z h747 b727 k727 .byte (8 : Int32) [(.int v729), (.int v733), (.int v737), (.int v741), (.int v745), (.int (0 : Int32)), (.int (0 : Int32)), (.int (0 : Int32))] (.int (0 : Int32)) := V747
   have N747 := Fr.snoc X747 N744' g_b727
   have Z747 : n0 ≤ h747.size := Nat.le_trans Z743 (Nat.le_of_eq W747.size.symm)
   refine k_aload X747 hx (hb hby at_155) rfl rfl (pc' := 157) rfl ?_
   refine k_iconst X747 hx (hb hby at_157) (pc' := 158) rfl (z := (5 : Int32)) rfl ?_
   refine k_lloadN X747 hx (hb hby at_158) rfl (pc' := 159) rfl ?_
   refine k_iconst X747 hx (hb hby at_159) (pc' := 160) rfl (z := (5 : Int32)) rfl ?_
   refine k_callS X747 hx hZ hown (hw _ (List.mem_of_getElem? (i := 2) rfl)) (hw _ (List.mem_of_getElem? (i := 3) rfl)) (hw _ (List.mem_of_getElem? (i := 4) rfl)) (hw _ (List.mem_of_getElem? (i := 5) rfl)) (by decide) (rm1_80 l Z a0 hw [] i3 h747 n0 Z747 ) (by decide) (by decide) e747 (by rw [hml]; rfl) (argsL := [(.long i3), (.int (5 : Int32))]) (rest := [(.int (5 : Int32)), (.ref b727)]) (lenOf pd_0 rfl) rfl (W := 2) (Nat.le_refl _) rfl (hb hby at_160) (by decide) (by decide) (pc' := 163) rfl (fun T748 L748 r748 X748 q748 => ?_)
   obtain ⟨N748, e748, rfl⟩ := q748
   have N748' := Fr.app N747 N748
   show KEnds p e below s _ _ _ T748 (mkF m 163 #[.val (.int i0), .val (.int i1), .val (.int i2), .val (.long i3), .second, .val (.int v1), .val (.int (0 : Int32)), .val (.int v46), .val (.int (3 : Int32)), .val (.ref b727)] ((.int (f1_80 i3)) :: (.int (5 : Int32)) :: (.ref b727) :: []))
   obtain ⟨v749, hv749⟩ : ∃ z, z = f1_80 i3 := ⟨_, rfl⟩
   rw [← hv749]
   have hb750 : v749.toInt8.toInt32 = v749 := by rw [hv749]; exact f1_80_byte i3
   refine k_bastore X748 hx hZ e748 Vw747 ⟨by decide, by decide⟩ (i := 5) rfl (Nat.le_of_ble_eq_true rfl) (hb hby at_163) (pc' := 164) rfl (fun T751 h751 X751 e751 W751 V751 => ?_)
   rw [hb750] at V751
   have Vw751 : Arv Z h751 b727 k727 .byte (8 : Int32) [(.int v729), (.int v733), (.int v737), (.int v741), (.int v745), (.int v749), (.int (0 : Int32)), (.int (0 : Int32))] (.int (0 : Int32)) := V751
   have N751 := Fr.snoc X751 N748' g_b727
   have Z751 : n0 ≤ h751.size := Nat.le_trans Z747 (Nat.le_of_eq W751.size.symm)
   refine k_aload X751 hx (hb hby at_164) rfl rfl (pc' := 166) rfl ?_
   refine k_bipush X751 hx (hb hby at_166) (pc' := 168) rfl (z := (6 : Int32)) rfl ?_
   refine k_lloadN X751 hx (hb hby at_168) rfl (pc' := 169) rfl ?_
   refine k_bipush X751 hx (hb hby at_169) (pc' := 171) rfl (z := (6 : Int32)) rfl ?_
   refine k_callS X751 hx hZ hown (hw _ (List.mem_of_getElem? (i := 2) rfl)) (hw _ (List.mem_of_getElem? (i := 3) rfl)) (hw _ (List.mem_of_getElem? (i := 4) rfl)) (hw _ (List.mem_of_getElem? (i := 5) rfl)) (by decide) (rm1_85 l Z a0 hw [] i3 h751 n0 Z751 ) (by decide) (by decide) e751 (by rw [hml]; rfl) (argsL := [(.long i3), (.int (6 : Int32))]) (rest := [(.int (6 : Int32)), (.ref b727)]) (lenOf pd_0 rfl) rfl (W := 2) (Nat.le_refl _) rfl (hb hby at_171) (by decide) (by decide) (pc' := 174) rfl (fun T752 L752 r752 X752 q752 => ?_)
   obtain ⟨N752, e752, rfl⟩ := q752
   have N752' := Fr.app N751 N752
   show KEnds p e below s _ _ _ T752 (mkF m 174 #[.val (.int i0), .val (.int i1), .val (.int i2), .val (.long i3), .second, .val (.int v1), .val (.int (0 : Int32)), .val (.int v46), .val (.int (3 : Int32)), .val (.ref b727)] ((.int (f1_85 i3)) :: (.int (6 : Int32)) :: (.ref b727) :: []))
   obtain ⟨v753, hv753⟩ : ∃ z, z = f1_85 i3 := ⟨_, rfl⟩
   rw [← hv753]
   have hb754 : v753.toInt8.toInt32 = v753 := by rw [hv753]; exact f1_85_byte i3
   refine k_bastore X752 hx hZ e752 Vw751 ⟨by decide, by decide⟩ (i := 6) rfl (Nat.le_of_ble_eq_true rfl) (hb hby at_174) (pc' := 175) rfl (fun T755 h755 X755 e755 W755 V755 => ?_)
   rw [hb754] at V755
   have Vw755 : Arv Z h755 b727 k727 .byte (8 : Int32) [(.int v729), (.int v733), (.int v737), (.int v741), (.int v745), (.int v749), (.int v753), (.int (0 : Int32))] (.int (0 : Int32)) := V755
   have N755 := Fr.snoc X755 N752' g_b727
   have Z755 : n0 ≤ h755.size := Nat.le_trans Z751 (Nat.le_of_eq W755.size.symm)
   refine k_aload X755 hx (hb hby at_175) rfl rfl (pc' := 177) rfl ?_
   refine k_bipush X755 hx (hb hby at_177) (pc' := 179) rfl (z := (7 : Int32)) rfl ?_
   refine k_lloadN X755 hx (hb hby at_179) rfl (pc' := 180) rfl ?_
   refine k_bipush X755 hx (hb hby at_180) (pc' := 182) rfl (z := (7 : Int32)) rfl ?_
   refine k_callS X755 hx hZ hown (hw _ (List.mem_of_getElem? (i := 2) rfl)) (hw _ (List.mem_of_getElem? (i := 3) rfl)) (hw _ (List.mem_of_getElem? (i := 4) rfl)) (hw _ (List.mem_of_getElem? (i := 5) rfl)) (by decide) (rm1_90 l Z a0 hw [] i3 h755 n0 Z755 ) (by decide) (by decide) e755 (by rw [hml]; rfl) (argsL := [(.long i3), (.int (7 : Int32))]) (rest := [(.int (7 : Int32)), (.ref b727)]) (lenOf pd_0 rfl) rfl (W := 2) (Nat.le_refl _) rfl (hb hby at_182) (by decide) (by decide) (pc' := 185) rfl (fun T756 L756 r756 X756 q756 => ?_)
   obtain ⟨N756, e756, rfl⟩ := q756
   have N756' := Fr.app N755 N756
   show KEnds p e below s _ _ _ T756 (mkF m 185 #[.val (.int i0), .val (.int i1), .val (.int i2), .val (.long i3), .second, .val (.int v1), .val (.int (0 : Int32)), .val (.int v46), .val (.int (3 : Int32)), .val (.ref b727)] ((.int (f1_90 i3)) :: (.int (7 : Int32)) :: (.ref b727) :: []))
   obtain ⟨v757, hv757⟩ : ∃ z, z = f1_90 i3 := ⟨_, rfl⟩
   rw [← hv757]
   have hb758 : v757.toInt8.toInt32 = v757 := by rw [hv757]; exact f1_90_byte i3
   refine k_bastore X756 hx hZ e756 Vw755 ⟨by decide, by decide⟩ (i := 7) rfl (Nat.le_of_ble_eq_true rfl) (hb hby at_185) (pc' := 186) rfl (fun T759 h759 X759 e759 W759 V759 => ?_)
   rw [hb758] at V759
   have Vw759 : Arv Z h759 b727 k727 .byte (8 : Int32) [(.int v729), (.int v733), (.int v737), (.int v741), (.int v745), (.int v749), (.int v753), (.int v757)] (.int (0 : Int32)) := V759
   have N759 := Fr.snoc X759 N756' g_b727
   have Z759 : n0 ≤ h759.size := Nat.le_trans Z755 (Nat.le_of_eq W759.size.symm)
   refine k_iload X759 hx (hb hby at_186) rfl (pc' := 188) rfl ?_
   refine k_if_ne X759 hx (hb hby at_188) (pn := 191) rfl (py := 202) (by decide) (fun hc => absurd (by decide) hc) (fun _ => ?_)
   refine k_aload X759 hx (hb hby at_191) rfl rfl (pc' := 193) rfl ?_
   refine k_iload X759 hx (hb hby at_193) rfl (pc' := 195) rfl ?_
   refine k_iload X759 hx (hb hby at_195) rfl (pc' := 197) rfl ?_
   refine k_i2b X759 hx (hb hby at_197) (pc' := 198) rfl (fun v760 hv760 => ?_)
   refine k_bastore X759 hx hZ e759 Vw759 ⟨by decide, by decide⟩ (i := 3) rfl (Nat.le_of_ble_eq_true rfl) (hb hby at_198) (pc' := 199) rfl (fun T761 h761 X761 e761 W761 V761 => ?_)
   have hb762 : v760.toInt8.toInt32 = v760 := by rw [hv760]; exact k_i2b2 _
   rw [hb762] at V761
   have Vw761 : Arv Z h761 b727 k727 .byte (8 : Int32) [(.int v729), (.int v733), (.int v737), (.int v760), (.int v745), (.int v749), (.int v753), (.int v757)] (.int (0 : Int32)) := V761
   have N761 := Fr.snoc X761 N759 g_b727
   have Z761 : n0 ≤ h761.size := Nat.le_trans Z759 (Nat.le_of_eq W761.size.symm)
   refine k_goto X761 hx (hb hby at_199) (pc' := 376) (by decide) ?_
   refine k_aload X761 hx (hb hby at_376) rfl rfl (pc' := 378) rfl ?_
   refine k_iload X761 hx (hb hby at_378) rfl (pc' := 380) rfl ?_
   refine k_callS X761 hx hZ hown (hw _ (List.mem_of_getElem? (i := 7) rfl)) (hw _ (List.mem_of_getElem? (i := 8) rfl)) (hw _ (List.mem_of_getElem? (i := 9) rfl)) (hw _ (List.mem_of_getElem? (i := 10) rfl)) (by decide) (rm2_763 l Z a0 hw [] b727 k727 v729 v733 v737 v760 v745 v749 v753 v757 h761 n0 Z761 Vw761) (by decide) (by decide) e761 (by rw [hml]; rfl) (argsL := [(.ref b727), (.int (3 : Int32))]) (rest := []) (lenOf pd_2 rfl) rfl (W := 0) (Nat.le_refl _) rfl (hb hby at_380) (by decide) (by decide) (pc' := 383) rfl (fun T808 L808 r808 X808 q808 => ?_)
   obtain ⟨N808, e808, q808⟩ := q808
   have N808' := Fr.app N761 N808
   rcases q808 with ⟨v809, v810, v811, v812, v813, v814, v815, v816, v817, v818, v819, h820, h821, h822, h823, h824, h825, h826, h827, h828, h829, h830, hc831, hc832, hc833, rfl⟩ | ⟨v834, v835, v836, v837, v838, v839, v840, v841, h842, h843, h844, h845, h846, h847, h848, h849, hc850, hc851, hc852, rfl⟩ | ⟨v853, v854, v855, v856, v857, h858, h859, h860, h861, h862, hc863, hc864, rfl⟩ | ⟨v865, h866, hc867, rfl⟩
   ·
    show KEnds p e below s _ _ _ T808 (mkF m 383 #[.val (.int i0), .val (.int i1), .val (.int i2), .val (.long i3), .second, .val (.int v1), .val (.int (0 : Int32)), .val (.int v46), .val (.int (3 : Int32)), .val (.ref b727)] [(.int v819)])
    exfalso
    have B868 : (-2147483648 : Int) ≤ v46.toInt ∧ v46.toInt ≤ 2147483647 := ⟨(rng32 v46).1, Int.le_of_lt_add_one (rng32 v46).2⟩
    have B871 : (0 : Int) ≤ v46.toInt ∧ v46.toInt ≤ 2147483647 := ⟨k_ge hP47.1 (by decide), B868.2⟩
    have B872 : (0 : Int) ≤ v46.toInt ∧ v46.toInt ≤ 127 := ⟨B871.1, k_le hP47.2 (by decide)⟩
    have B873 : (0 : Int) ≤ (0 : Int32).toInt ∧ (0 : Int32).toInt ≤ 0 := (by decide)
    have q874 := hP47.1; rw [Int32.lt_iff_toInt_lt] at q874
    have B875 : (127 : Int) ≤ (127 : Int32).toInt ∧ (127 : Int32).toInt ≤ 127 := (by decide)
    have q876 := hP47.2; rw [Int32.lt_iff_toInt_lt] at q876
    have q880 : v760.toInt = v46.toInt := k_i2bx hv760 B872 (by decide) (by decide)
    have B879 : (0 : Int) ≤ v760.toInt ∧ v760.toInt ≤ 127 := (by rw [q880]; exact B872)
    have q878 : v809.toInt = v760.toInt := k_andx (k := 8) h820 B879 (by decide) (by decide) (by decide) (by decide)
    have B877 : (0 : Int) ≤ v809.toInt ∧ v809.toInt ≤ 127 := (by rw [q878]; exact B879)
    have B881 : (128 : Int) ≤ v809.toInt ∧ v809.toInt ≤ 127 := ⟨k_ge hc831 (by decide), B877.2⟩
    have B882 : (224 : Int) ≤ v809.toInt ∧ v809.toInt ≤ 127 := ⟨k_ge hc832 (by decide), B881.2⟩
    have B883 : (240 : Int) ≤ v809.toInt ∧ v809.toInt ≤ 127 := ⟨k_ge hc833 (by decide), B882.2⟩
    have B884 : (128 : Int) ≤ (128 : Int32).toInt ∧ (128 : Int32).toInt ≤ 128 := (by decide)
    have q885 := hc831; rw [Int32.lt_iff_toInt_lt] at q885
    have B886 : (224 : Int) ≤ (224 : Int32).toInt ∧ (224 : Int32).toInt ≤ 224 := (by decide)
    have q887 := hc832; rw [Int32.lt_iff_toInt_lt] at q887
    have B888 : (240 : Int) ≤ (240 : Int32).toInt ∧ (240 : Int32).toInt ≤ 240 := (by decide)
    have q889 := hc833; rw [Int32.lt_iff_toInt_lt] at q889
    omega
   ·
    show KEnds p e below s _ _ _ T808 (mkF m 383 #[.val (.int i0), .val (.int i1), .val (.int i2), .val (.long i3), .second, .val (.int v1), .val (.int (0 : Int32)), .val (.int v46), .val (.int (3 : Int32)), .val (.ref b727)] [(.int v841)])
    exfalso
    have B890 : (-2147483648 : Int) ≤ v46.toInt ∧ v46.toInt ≤ 2147483647 := ⟨(rng32 v46).1, Int.le_of_lt_add_one (rng32 v46).2⟩
    have B893 : (0 : Int) ≤ v46.toInt ∧ v46.toInt ≤ 2147483647 := ⟨k_ge hP47.1 (by decide), B890.2⟩
    have B894 : (0 : Int) ≤ v46.toInt ∧ v46.toInt ≤ 127 := ⟨B893.1, k_le hP47.2 (by decide)⟩
    have B895 : (0 : Int) ≤ (0 : Int32).toInt ∧ (0 : Int32).toInt ≤ 0 := (by decide)
    have q896 := hP47.1; rw [Int32.lt_iff_toInt_lt] at q896
    have B897 : (127 : Int) ≤ (127 : Int32).toInt ∧ (127 : Int32).toInt ≤ 127 := (by decide)
    have q898 := hP47.2; rw [Int32.lt_iff_toInt_lt] at q898
    have q902 : v760.toInt = v46.toInt := k_i2bx hv760 B894 (by decide) (by decide)
    have B901 : (0 : Int) ≤ v760.toInt ∧ v760.toInt ≤ 127 := (by rw [q902]; exact B894)
    have q900 : v834.toInt = v760.toInt := k_andx (k := 8) h842 B901 (by decide) (by decide) (by decide) (by decide)
    have B899 : (0 : Int) ≤ v834.toInt ∧ v834.toInt ≤ 127 := (by rw [q900]; exact B901)
    have B903 : (128 : Int) ≤ v834.toInt ∧ v834.toInt ≤ 127 := ⟨k_ge hc850 (by decide), B899.2⟩
    have B904 : (224 : Int) ≤ v834.toInt ∧ v834.toInt ≤ 127 := ⟨k_ge hc851 (by decide), B903.2⟩
    have B905 : (128 : Int) ≤ (128 : Int32).toInt ∧ (128 : Int32).toInt ≤ 128 := (by decide)
    have q906 := hc850; rw [Int32.lt_iff_toInt_lt] at q906
    have B907 : (224 : Int) ≤ (224 : Int32).toInt ∧ (224 : Int32).toInt ≤ 224 := (by decide)
    have q908 := hc851; rw [Int32.lt_iff_toInt_lt] at q908
    have B909 : (240 : Int) ≤ (240 : Int32).toInt ∧ (240 : Int32).toInt ≤ 240 := (by decide)
    have q910 := hc852; rw [Int32.lt_iff_toInt_lt] at q910
    omega
   ·
    show KEnds p e below s _ _ _ T808 (mkF m 383 #[.val (.int i0), .val (.int i1), .val (.int i2), .val (.long i3), .second, .val (.int v1), .val (.int (0 : Int32)), .val (.int v46), .val (.int (3 : Int32)), .val (.ref b727)] [(.int v857)])
    exfalso
    have B911 : (-2147483648 : Int) ≤ v46.toInt ∧ v46.toInt ≤ 2147483647 := ⟨(rng32 v46).1, Int.le_of_lt_add_one (rng32 v46).2⟩
    have B914 : (0 : Int) ≤ v46.toInt ∧ v46.toInt ≤ 2147483647 := ⟨k_ge hP47.1 (by decide), B911.2⟩
    have B915 : (0 : Int) ≤ v46.toInt ∧ v46.toInt ≤ 127 := ⟨B914.1, k_le hP47.2 (by decide)⟩
    have B916 : (0 : Int) ≤ (0 : Int32).toInt ∧ (0 : Int32).toInt ≤ 0 := (by decide)
    have q917 := hP47.1; rw [Int32.lt_iff_toInt_lt] at q917
    have B918 : (127 : Int) ≤ (127 : Int32).toInt ∧ (127 : Int32).toInt ≤ 127 := (by decide)
    have q919 := hP47.2; rw [Int32.lt_iff_toInt_lt] at q919
    have q923 : v760.toInt = v46.toInt := k_i2bx hv760 B915 (by decide) (by decide)
    have B922 : (0 : Int) ≤ v760.toInt ∧ v760.toInt ≤ 127 := (by rw [q923]; exact B915)
    have q921 : v853.toInt = v760.toInt := k_andx (k := 8) h858 B922 (by decide) (by decide) (by decide) (by decide)
    have B920 : (0 : Int) ≤ v853.toInt ∧ v853.toInt ≤ 127 := (by rw [q921]; exact B922)
    have B924 : (128 : Int) ≤ v853.toInt ∧ v853.toInt ≤ 127 := ⟨k_ge hc863 (by decide), B920.2⟩
    have B925 : (128 : Int) ≤ (128 : Int32).toInt ∧ (128 : Int32).toInt ≤ 128 := (by decide)
    have q926 := hc863; rw [Int32.lt_iff_toInt_lt] at q926
    have B927 : (224 : Int) ≤ (224 : Int32).toInt ∧ (224 : Int32).toInt ≤ 224 := (by decide)
    have q928 := hc864; rw [Int32.lt_iff_toInt_lt] at q928
    omega
   ·
    show KEnds p e below s _ _ _ T808 (mkF m 383 #[.val (.int i0), .val (.int i1), .val (.int i2), .val (.long i3), .second, .val (.int v1), .val (.int (0 : Int32)), .val (.int v46), .val (.int (3 : Int32)), .val (.ref b727)] [(.int v865)])
    refine k_iload X808 hx (hb hby at_383) rfl (pc' := 385) rfl ?_
    refine k_icmp_ne X808 hx (hb hby at_385) (pn := 388) rfl (py := 392) (by decide) (fun hc929 => ?_) (fun hc929 => ?_)
    ·
     refine k_iconst X808 hx (hb hby at_392) (pc' := 393) rfl (z := (0 : Int32)) rfl ?_
     exfalso
     have B930 : (-2147483648 : Int) ≤ v46.toInt ∧ v46.toInt ≤ 2147483647 := ⟨(rng32 v46).1, Int.le_of_lt_add_one (rng32 v46).2⟩
     have B933 : (0 : Int) ≤ v46.toInt ∧ v46.toInt ≤ 2147483647 := ⟨k_ge hP47.1 (by decide), B930.2⟩
     have B934 : (0 : Int) ≤ v46.toInt ∧ v46.toInt ≤ 127 := ⟨B933.1, k_le hP47.2 (by decide)⟩
     have B935 : (0 : Int) ≤ (0 : Int32).toInt ∧ (0 : Int32).toInt ≤ 0 := (by decide)
     have q936 := hP47.1; rw [Int32.lt_iff_toInt_lt] at q936
     have B937 : (127 : Int) ≤ (127 : Int32).toInt ∧ (127 : Int32).toInt ≤ 127 := (by decide)
     have q938 := hP47.2; rw [Int32.lt_iff_toInt_lt] at q938
     have q942 : v760.toInt = v46.toInt := k_i2bx hv760 B934 (by decide) (by decide)
     have B941 : (0 : Int) ≤ v760.toInt ∧ v760.toInt ≤ 127 := (by rw [q942]; exact B934)
     have q940 : v865.toInt = v760.toInt := k_andx (k := 8) h866 B941 (by decide) (by decide) (by decide) (by decide)
     have B939 : (0 : Int) ≤ v865.toInt ∧ v865.toInt ≤ 127 := (by rw [q940]; exact B941)
     have B943 : (128 : Int) ≤ (128 : Int32).toInt ∧ (128 : Int32).toInt ≤ 128 := (by decide)
     have q944 := hc867; rw [Int32.lt_iff_toInt_lt] at q944
     have q945 : ¬ v865.toInt = v46.toInt := fun q => hc929 (Int32.toInt_inj.mp q)
     omega
    ·
     refine k_iconst X808 hx (hb hby at_388) (pc' := 389) rfl (z := (1 : Int32)) rfl ?_
     refine k_goto X808 hx (hb hby at_389) (pc' := 393) (by decide) ?_
     exact k_retN X808 hx (t := .boolean) Bd.returns (by simp) (hb hby at_393) hlk (by decide) (by decide) (z' := (1 : Int32)) rfl ⟨rfl, N808'⟩
 ·
  show KEnds p e below s _ _ _ s₁ (mkF m 9 #[.val (.int i0), .val (.int i1), .val (.int i2), .val (.long i3), .second, .val (.int v1), .unset, .unset, .unset, .unset] [(.int (1 : Int32))])
  refine k_istore X0 hx (hb hby at_9) (Ls' := #[.val (.int i0), .val (.int i1), .val (.int i2), .val (.long i3), .second, .val (.int v1), .val (.int (1 : Int32)), .unset, .unset, .unset]) rfl (pc' := 11) rfl ?_
  suffices key947 : ∀ (v996 : Int32), (¬ v996 < (128 : Int32) ∧ ¬ (2047 : Int32) < v996) → KEnds p e below s 16 128 (Q0 n0) s₁ (mkF m 99 #[.val (.int i0), .val (.int i1), .val (.int i2), .val (.long i3), .second, .val (.int v1), .val (.int (1 : Int32)), .val (.int v996), .unset, .unset] []) by
   refine k_iload X0 hx (hb hby at_11) rfl (pc' := 13) rfl ?_
   refine k_if_ne X0 hx (hb hby at_13) (pn := 16) rfl (py := 26) (by decide) (fun _ => ?_) (fun hc => absurd hc (by decide))
   refine k_iload X0 hx (hb hby at_26) rfl (pc' := 28) rfl ?_
   refine k_iconst X0 hx (hb hby at_28) (pc' := 29) rfl (z := (1 : Int32)) rfl ?_
   refine k_icmp_ne X0 hx (hb hby at_29) (pn := 32) rfl (py := 47) (by decide) (fun hc => absurd (by decide) hc) (fun _ => ?_)
   refine k_sipush X0 hx (hb hby at_32) (pc' := 35) rfl (z := (128 : Int32)) rfl ?_
   refine k_iload X0 hx (hb hby at_35) rfl (pc' := 37) rfl ?_
   refine k_sipush X0 hx (hb hby at_37) (pc' := 40) rfl (z := (1920 : Int32)) rfl ?_
   refine k_irem X0 hx (hb hby at_40) (by decide) (pc' := 41) rfl (fun v948 hv948 => ?_)
   refine k_iadd X0 hx (hb hby at_41) (pc' := 42) rfl (fun v949 hv949 => ?_)
   refine k_istore X0 hx (hb hby at_42) (Ls' := #[.val (.int i0), .val (.int i1), .val (.int i2), .val (.long i3), .second, .val (.int v1), .val (.int (1 : Int32)), .val (.int v949), .unset, .unset]) rfl (pc' := 44) rfl ?_
   refine k_goto X0 hx (hb hby at_44) (pc' := 99) (by decide) ?_
   refine key947 v949 ?_
   refine ⟨?_, ?_⟩
   · intro hq973
     have B976 : (128 : Int) ≤ (128 : Int32).toInt ∧ (128 : Int32).toInt ≤ 128 := (by decide)
     have B981 : (-2147483648 : Int) ≤ i1.toInt ∧ i1.toInt ≤ 2147483647 := ⟨(rng32 i1).1, Int.le_of_lt_add_one (rng32 i1).2⟩
     have q980 : v1.toInt = i1.toInt % 2147483648 := (by rw [hv1]; exact c_mask _ _ 31 (by decide) (by decide))
     have B979 : (0 : Int) ≤ v1.toInt ∧ v1.toInt ≤ 2147483647 := (by rw [q980]; exact k_modB (by decide))
     have q978 : v948.toInt = v1.toInt % 1920 := (by rw [hv948]; exact (c_irem _ _ 1920 (by decide)).1 (Int.le_trans (by decide) B979.1))
     have B977 : (0 : Int) ≤ v948.toInt ∧ v948.toInt ≤ 1919 := (by rw [q978]; exact k_modB (by decide))
     have q975 : v949.toInt = (128 : Int32).toInt + v948.toInt := k_iaddx hv949 B976 B977 (by decide) (by decide)
     have B974 : (128 : Int) ≤ v949.toInt ∧ v949.toInt ≤ 2047 := k_addB q975 B976 B977
     have B982 : (128 : Int) ≤ v949.toInt ∧ v949.toInt ≤ 127 := ⟨B974.1, k_lt hq973 (by decide)⟩
     have q983 := hq973; rw [Int32.lt_iff_toInt_lt] at q983
     omega
   · intro hq984
     have B985 : (2047 : Int) ≤ (2047 : Int32).toInt ∧ (2047 : Int32).toInt ≤ 2047 := (by decide)
     have B988 : (128 : Int) ≤ (128 : Int32).toInt ∧ (128 : Int32).toInt ≤ 128 := (by decide)
     have B993 : (-2147483648 : Int) ≤ i1.toInt ∧ i1.toInt ≤ 2147483647 := ⟨(rng32 i1).1, Int.le_of_lt_add_one (rng32 i1).2⟩
     have q992 : v1.toInt = i1.toInt % 2147483648 := (by rw [hv1]; exact c_mask _ _ 31 (by decide) (by decide))
     have B991 : (0 : Int) ≤ v1.toInt ∧ v1.toInt ≤ 2147483647 := (by rw [q992]; exact k_modB (by decide))
     have q990 : v948.toInt = v1.toInt % 1920 := (by rw [hv948]; exact (c_irem _ _ 1920 (by decide)).1 (Int.le_trans (by decide) B991.1))
     have B989 : (0 : Int) ≤ v948.toInt ∧ v948.toInt ≤ 1919 := (by rw [q990]; exact k_modB (by decide))
     have q987 : v949.toInt = (128 : Int32).toInt + v948.toInt := k_iaddx hv949 B988 B989 (by decide) (by decide)
     have B986 : (128 : Int) ≤ v949.toInt ∧ v949.toInt ≤ 2047 := k_addB q987 B988 B989
     have B994 : (2048 : Int) ≤ v949.toInt ∧ v949.toInt ≤ 2047 := ⟨k_gt hq984 (by decide), B986.2⟩
     have q995 := hq984; rw [Int32.lt_iff_toInt_lt] at q995
     omega
  intro v996 hP997
  refine k_iloadN X0 hx (hb hby at_99) rfl (pc' := 100) rfl ?_
  refine k_iconst X0 hx (hb hby at_100) (pc' := 101) rfl (z := (3 : Int32)) rfl ?_
  refine k_iand X0 hx (hb hby at_101) (pc' := 102) rfl (fun v998 hv998 => ?_)
  have hs999 : v998 = (0 : Int32) ∨ v998 = (1 : Int32) ∨ v998 = (2 : Int32) ∨ v998 = (3 : Int32) := by
   have B1002 : (-2147483648 : Int) ≤ i2.toInt ∧ i2.toInt ≤ 2147483647 := ⟨(rng32 i2).1, Int.le_of_lt_add_one (rng32 i2).2⟩
   have q1001 : v998.toInt = i2.toInt % 4 := (by rw [hv998]; exact c_mask _ _ 2 (by decide) (by decide))
   have B1000 : (0 : Int) ≤ v998.toInt ∧ v998.toInt ≤ 3 := (by rw [q1001]; exact k_modB (by decide))
   rcases (by omega : v998.toInt = 0 ∨ v998.toInt = 1 ∨ v998.toInt = 2 ∨ v998.toInt = 3) with hq | hq | hq | hq
   · exact Or.inl (Int32.toInt_inj.mp hq)
   · exact Or.inr (Or.inl (Int32.toInt_inj.mp hq))
   · exact Or.inr (Or.inr (Or.inl (Int32.toInt_inj.mp hq)))
   · exact Or.inr (Or.inr (Or.inr ((Int32.toInt_inj.mp hq))))
  rcases hs999 with rfl | rfl | rfl | rfl
  ·
   show KEnds p e below s _ _ _ s₁ (mkF m 102 #[.val (.int i0), .val (.int i1), .val (.int i2), .val (.long i3), .second, .val (.int v1), .val (.int (1 : Int32)), .val (.int v996), .unset, .unset] [(.int (0 : Int32))])
   refine k_istore X0 hx (hb hby at_102) (Ls' := #[.val (.int i0), .val (.int i1), .val (.int i2), .val (.long i3), .second, .val (.int v1), .val (.int (1 : Int32)), .val (.int v996), .val (.int (0 : Int32)), .unset]) rfl (pc' := 104) rfl ?_
   refine k_bipush X0 hx (hb hby at_104) (pc' := 106) rfl (z := (8 : Int32)) rfl ?_
   refine k_newA X0 hx hZ (hw _ (List.mem_of_getElem? (i := 1) rfl)) e0 (hb hby at_106) (by decide) (cap := 8) (by decide) (by decide) (by decide) (by decide) (pc' := 108) rfl (fun T1004 h1004 b1004 k1004 g1004 X1004 e1004 E1004 V1004 => ?_)
   have g_b1004 : n0 ≤ b1004 := Nat.le_trans Z0 (Nat.le_of_eq g1004.symm)
   have Z1004 : n0 ≤ h1004.size := Nat.le_trans Z0 E1004.1
   have Vw1004 : Arv Z h1004 b1004 k1004 .byte (8 : Int32) [(.int (0 : Int32)), (.int (0 : Int32)), (.int (0 : Int32)), (.int (0 : Int32)), (.int (0 : Int32)), (.int (0 : Int32)), (.int (0 : Int32)), (.int (0 : Int32))] (.int (0 : Int32)) := V1004
   refine k_astore X1004 hx (hb hby at_108) rfl (Ls' := #[.val (.int i0), .val (.int i1), .val (.int i2), .val (.long i3), .second, .val (.int v1), .val (.int (1 : Int32)), .val (.int v996), .val (.int (0 : Int32)), .val (.ref b1004)]) rfl (pc' := 110) rfl ?_
   refine k_aload X1004 hx (hb hby at_110) rfl rfl (pc' := 112) rfl ?_
   refine k_iconst X1004 hx (hb hby at_112) (pc' := 113) rfl (z := (0 : Int32)) rfl ?_
   refine k_lloadN X1004 hx (hb hby at_113) rfl (pc' := 114) rfl ?_
   refine k_iconst X1004 hx (hb hby at_114) (pc' := 115) rfl (z := (0 : Int32)) rfl ?_
   refine k_callS X1004 hx hZ hown (hw _ (List.mem_of_getElem? (i := 2) rfl)) (hw _ (List.mem_of_getElem? (i := 3) rfl)) (hw _ (List.mem_of_getElem? (i := 4) rfl)) (hw _ (List.mem_of_getElem? (i := 5) rfl)) (by decide) (rm1_55 l Z a0 hw [] i3 h1004 n0 Z1004 ) (by decide) (by decide) e1004 (by rw [hml]; rfl) (argsL := [(.long i3), (.int (0 : Int32))]) (rest := [(.int (0 : Int32)), (.ref b1004)]) (lenOf pd_0 rfl) rfl (W := 2) (Nat.le_refl _) rfl (hb hby at_115) (by decide) (by decide) (pc' := 118) rfl (fun T1005 L1005 r1005 X1005 q1005 => ?_)
   obtain ⟨N1005, e1005, rfl⟩ := q1005
   have N1005' := Fr.app N0 N1005
   show KEnds p e below s _ _ _ T1005 (mkF m 118 #[.val (.int i0), .val (.int i1), .val (.int i2), .val (.long i3), .second, .val (.int v1), .val (.int (1 : Int32)), .val (.int v996), .val (.int (0 : Int32)), .val (.ref b1004)] ((.int (f1_55 i3)) :: (.int (0 : Int32)) :: (.ref b1004) :: []))
   obtain ⟨v1006, hv1006⟩ : ∃ z, z = f1_55 i3 := ⟨_, rfl⟩
   rw [← hv1006]
   have hb1007 : v1006.toInt8.toInt32 = v1006 := by rw [hv1006]; exact f1_55_byte i3
   refine k_bastore X1005 hx hZ e1005 Vw1004 ⟨by decide, by decide⟩ (i := 0) rfl (Nat.le_of_ble_eq_true rfl) (hb hby at_118) (pc' := 119) rfl (fun T1008 h1008 X1008 e1008 W1008 V1008 => ?_)
   rw [hb1007] at V1008
   have Vw1008 : Arv Z h1008 b1004 k1004 .byte (8 : Int32) [(.int v1006), (.int (0 : Int32)), (.int (0 : Int32)), (.int (0 : Int32)), (.int (0 : Int32)), (.int (0 : Int32)), (.int (0 : Int32)), (.int (0 : Int32))] (.int (0 : Int32)) := V1008
   have N1008 := Fr.snoc X1008 N1005' g_b1004
   have Z1008 : n0 ≤ h1008.size := Nat.le_trans Z1004 (Nat.le_of_eq W1008.size.symm)
   refine k_aload X1008 hx (hb hby at_119) rfl rfl (pc' := 121) rfl ?_
   refine k_iconst X1008 hx (hb hby at_121) (pc' := 122) rfl (z := (1 : Int32)) rfl ?_
   refine k_lloadN X1008 hx (hb hby at_122) rfl (pc' := 123) rfl ?_
   refine k_iconst X1008 hx (hb hby at_123) (pc' := 124) rfl (z := (1 : Int32)) rfl ?_
   refine k_callS X1008 hx hZ hown (hw _ (List.mem_of_getElem? (i := 2) rfl)) (hw _ (List.mem_of_getElem? (i := 3) rfl)) (hw _ (List.mem_of_getElem? (i := 4) rfl)) (hw _ (List.mem_of_getElem? (i := 5) rfl)) (by decide) (rm1_60 l Z a0 hw [] i3 h1008 n0 Z1008 ) (by decide) (by decide) e1008 (by rw [hml]; rfl) (argsL := [(.long i3), (.int (1 : Int32))]) (rest := [(.int (1 : Int32)), (.ref b1004)]) (lenOf pd_0 rfl) rfl (W := 2) (Nat.le_refl _) rfl (hb hby at_124) (by decide) (by decide) (pc' := 127) rfl (fun T1009 L1009 r1009 X1009 q1009 => ?_)
   obtain ⟨N1009, e1009, rfl⟩ := q1009
   have N1009' := Fr.app N1008 N1009
   show KEnds p e below s _ _ _ T1009 (mkF m 127 #[.val (.int i0), .val (.int i1), .val (.int i2), .val (.long i3), .second, .val (.int v1), .val (.int (1 : Int32)), .val (.int v996), .val (.int (0 : Int32)), .val (.ref b1004)] ((.int (f1_60 i3)) :: (.int (1 : Int32)) :: (.ref b1004) :: []))
   obtain ⟨v1010, hv1010⟩ : ∃ z, z = f1_60 i3 := ⟨_, rfl⟩
   rw [← hv1010]
   have hb1011 : v1010.toInt8.toInt32 = v1010 := by rw [hv1010]; exact f1_60_byte i3
   refine k_bastore X1009 hx hZ e1009 Vw1008 ⟨by decide, by decide⟩ (i := 1) rfl (Nat.le_of_ble_eq_true rfl) (hb hby at_127) (pc' := 128) rfl (fun T1012 h1012 X1012 e1012 W1012 V1012 => ?_)
   rw [hb1011] at V1012
   have Vw1012 : Arv Z h1012 b1004 k1004 .byte (8 : Int32) [(.int v1006), (.int v1010), (.int (0 : Int32)), (.int (0 : Int32)), (.int (0 : Int32)), (.int (0 : Int32)), (.int (0 : Int32)), (.int (0 : Int32))] (.int (0 : Int32)) := V1012
   have N1012 := Fr.snoc X1012 N1009' g_b1004
   have Z1012 : n0 ≤ h1012.size := Nat.le_trans Z1008 (Nat.le_of_eq W1012.size.symm)
   refine k_aload X1012 hx (hb hby at_128) rfl rfl (pc' := 130) rfl ?_
   refine k_iconst X1012 hx (hb hby at_130) (pc' := 131) rfl (z := (2 : Int32)) rfl ?_
   refine k_lloadN X1012 hx (hb hby at_131) rfl (pc' := 132) rfl ?_
   refine k_iconst X1012 hx (hb hby at_132) (pc' := 133) rfl (z := (2 : Int32)) rfl ?_
   refine k_callS X1012 hx hZ hown (hw _ (List.mem_of_getElem? (i := 2) rfl)) (hw _ (List.mem_of_getElem? (i := 3) rfl)) (hw _ (List.mem_of_getElem? (i := 4) rfl)) (hw _ (List.mem_of_getElem? (i := 5) rfl)) (by decide) (rm1_65 l Z a0 hw [] i3 h1012 n0 Z1012 ) (by decide) (by decide) e1012 (by rw [hml]; rfl) (argsL := [(.long i3), (.int (2 : Int32))]) (rest := [(.int (2 : Int32)), (.ref b1004)]) (lenOf pd_0 rfl) rfl (W := 2) (Nat.le_refl _) rfl (hb hby at_133) (by decide) (by decide) (pc' := 136) rfl (fun T1013 L1013 r1013 X1013 q1013 => ?_)
   obtain ⟨N1013, e1013, rfl⟩ := q1013
   have N1013' := Fr.app N1012 N1013
   show KEnds p e below s _ _ _ T1013 (mkF m 136 #[.val (.int i0), .val (.int i1), .val (.int i2), .val (.long i3), .second, .val (.int v1), .val (.int (1 : Int32)), .val (.int v996), .val (.int (0 : Int32)), .val (.ref b1004)] ((.int (f1_65 i3)) :: (.int (2 : Int32)) :: (.ref b1004) :: []))
   obtain ⟨v1014, hv1014⟩ : ∃ z, z = f1_65 i3 := ⟨_, rfl⟩
   rw [← hv1014]
   have hb1015 : v1014.toInt8.toInt32 = v1014 := by rw [hv1014]; exact f1_65_byte i3
   refine k_bastore X1013 hx hZ e1013 Vw1012 ⟨by decide, by decide⟩ (i := 2) rfl (Nat.le_of_ble_eq_true rfl) (hb hby at_136) (pc' := 137) rfl (fun T1016 h1016 X1016 e1016 W1016 V1016 => ?_)
   rw [hb1015] at V1016
   have Vw1016 : Arv Z h1016 b1004 k1004 .byte (8 : Int32) [(.int v1006), (.int v1010), (.int v1014), (.int (0 : Int32)), (.int (0 : Int32)), (.int (0 : Int32)), (.int (0 : Int32)), (.int (0 : Int32))] (.int (0 : Int32)) := V1016
   have N1016 := Fr.snoc X1016 N1013' g_b1004
   have Z1016 : n0 ≤ h1016.size := Nat.le_trans Z1012 (Nat.le_of_eq W1016.size.symm)
   refine k_aload X1016 hx (hb hby at_137) rfl rfl (pc' := 139) rfl ?_
   refine k_iconst X1016 hx (hb hby at_139) (pc' := 140) rfl (z := (3 : Int32)) rfl ?_
   refine k_lloadN X1016 hx (hb hby at_140) rfl (pc' := 141) rfl ?_
   refine k_iconst X1016 hx (hb hby at_141) (pc' := 142) rfl (z := (3 : Int32)) rfl ?_
   refine k_callS X1016 hx hZ hown (hw _ (List.mem_of_getElem? (i := 2) rfl)) (hw _ (List.mem_of_getElem? (i := 3) rfl)) (hw _ (List.mem_of_getElem? (i := 4) rfl)) (hw _ (List.mem_of_getElem? (i := 5) rfl)) (by decide) (rm1_70 l Z a0 hw [] i3 h1016 n0 Z1016 ) (by decide) (by decide) e1016 (by rw [hml]; rfl) (argsL := [(.long i3), (.int (3 : Int32))]) (rest := [(.int (3 : Int32)), (.ref b1004)]) (lenOf pd_0 rfl) rfl (W := 2) (Nat.le_refl _) rfl (hb hby at_142) (by decide) (by decide) (pc' := 145) rfl (fun T1017 L1017 r1017 X1017 q1017 => ?_)
   obtain ⟨N1017, e1017, rfl⟩ := q1017
   have N1017' := Fr.app N1016 N1017
   show KEnds p e below s _ _ _ T1017 (mkF m 145 #[.val (.int i0), .val (.int i1), .val (.int i2), .val (.long i3), .second, .val (.int v1), .val (.int (1 : Int32)), .val (.int v996), .val (.int (0 : Int32)), .val (.ref b1004)] ((.int (f1_70 i3)) :: (.int (3 : Int32)) :: (.ref b1004) :: []))
   obtain ⟨v1018, hv1018⟩ : ∃ z, z = f1_70 i3 := ⟨_, rfl⟩
   rw [← hv1018]
   have hb1019 : v1018.toInt8.toInt32 = v1018 := by rw [hv1018]; exact f1_70_byte i3
   refine k_bastore X1017 hx hZ e1017 Vw1016 ⟨by decide, by decide⟩ (i := 3) rfl (Nat.le_of_ble_eq_true rfl) (hb hby at_145) (pc' := 146) rfl (fun T1020 h1020 X1020 e1020 W1020 V1020 => ?_)
   rw [hb1019] at V1020
   have Vw1020 : Arv Z h1020 b1004 k1004 .byte (8 : Int32) [(.int v1006), (.int v1010), (.int v1014), (.int v1018), (.int (0 : Int32)), (.int (0 : Int32)), (.int (0 : Int32)), (.int (0 : Int32))] (.int (0 : Int32)) := V1020
   have N1020 := Fr.snoc X1020 N1017' g_b1004
   have Z1020 : n0 ≤ h1020.size := Nat.le_trans Z1016 (Nat.le_of_eq W1020.size.symm)
   refine k_aload X1020 hx (hb hby at_146) rfl rfl (pc' := 148) rfl ?_
   refine k_iconst X1020 hx (hb hby at_148) (pc' := 149) rfl (z := (4 : Int32)) rfl ?_
   refine k_lloadN X1020 hx (hb hby at_149) rfl (pc' := 150) rfl ?_
   refine k_iconst X1020 hx (hb hby at_150) (pc' := 151) rfl (z := (4 : Int32)) rfl ?_
   refine k_callS X1020 hx hZ hown (hw _ (List.mem_of_getElem? (i := 2) rfl)) (hw _ (List.mem_of_getElem? (i := 3) rfl)) (hw _ (List.mem_of_getElem? (i := 4) rfl)) (hw _ (List.mem_of_getElem? (i := 5) rfl)) (by decide) (rm1_75 l Z a0 hw [] i3 h1020 n0 Z1020 ) (by decide) (by decide) e1020 (by rw [hml]; rfl) (argsL := [(.long i3), (.int (4 : Int32))]) (rest := [(.int (4 : Int32)), (.ref b1004)]) (lenOf pd_0 rfl) rfl (W := 2) (Nat.le_refl _) rfl (hb hby at_151) (by decide) (by decide) (pc' := 154) rfl (fun T1021 L1021 r1021 X1021 q1021 => ?_)
   obtain ⟨N1021, e1021, rfl⟩ := q1021
   have N1021' := Fr.app N1020 N1021
   show KEnds p e below s _ _ _ T1021 (mkF m 154 #[.val (.int i0), .val (.int i1), .val (.int i2), .val (.long i3), .second, .val (.int v1), .val (.int (1 : Int32)), .val (.int v996), .val (.int (0 : Int32)), .val (.ref b1004)] ((.int (f1_75 i3)) :: (.int (4 : Int32)) :: (.ref b1004) :: []))
   obtain ⟨v1022, hv1022⟩ : ∃ z, z = f1_75 i3 := ⟨_, rfl⟩
   rw [← hv1022]
   have hb1023 : v1022.toInt8.toInt32 = v1022 := by rw [hv1022]; exact f1_75_byte i3
   refine k_bastore X1021 hx hZ e1021 Vw1020 ⟨by decide, by decide⟩ (i := 4) rfl (Nat.le_of_ble_eq_true rfl) (hb hby at_154) (pc' := 155) rfl (fun T1024 h1024 X1024 e1024 W1024 V1024 => ?_)
   rw [hb1023] at V1024
   have Vw1024 : Arv Z h1024 b1004 k1004 .byte (8 : Int32) [(.int v1006), (.int v1010), (.int v1014), (.int v1018), (.int v1022), (.int (0 : Int32)), (.int (0 : Int32)), (.int (0 : Int32))] (.int (0 : Int32)) := V1024
   have N1024 := Fr.snoc X1024 N1021' g_b1004
   have Z1024 : n0 ≤ h1024.size := Nat.le_trans Z1020 (Nat.le_of_eq W1024.size.symm)
   refine k_aload X1024 hx (hb hby at_155) rfl rfl (pc' := 157) rfl ?_
   refine k_iconst X1024 hx (hb hby at_157) (pc' := 158) rfl (z := (5 : Int32)) rfl ?_
   refine k_lloadN X1024 hx (hb hby at_158) rfl (pc' := 159) rfl ?_
   refine k_iconst X1024 hx (hb hby at_159) (pc' := 160) rfl (z := (5 : Int32)) rfl ?_
   refine k_callS X1024 hx hZ hown (hw _ (List.mem_of_getElem? (i := 2) rfl)) (hw _ (List.mem_of_getElem? (i := 3) rfl)) (hw _ (List.mem_of_getElem? (i := 4) rfl)) (hw _ (List.mem_of_getElem? (i := 5) rfl)) (by decide) (rm1_80 l Z a0 hw [] i3 h1024 n0 Z1024 ) (by decide) (by decide) e1024 (by rw [hml]; rfl) (argsL := [(.long i3), (.int (5 : Int32))]) (rest := [(.int (5 : Int32)), (.ref b1004)]) (lenOf pd_0 rfl) rfl (W := 2) (Nat.le_refl _) rfl (hb hby at_160) (by decide) (by decide) (pc' := 163) rfl (fun T1025 L1025 r1025 X1025 q1025 => ?_)
   obtain ⟨N1025, e1025, rfl⟩ := q1025
   have N1025' := Fr.app N1024 N1025
   show KEnds p e below s _ _ _ T1025 (mkF m 163 #[.val (.int i0), .val (.int i1), .val (.int i2), .val (.long i3), .second, .val (.int v1), .val (.int (1 : Int32)), .val (.int v996), .val (.int (0 : Int32)), .val (.ref b1004)] ((.int (f1_80 i3)) :: (.int (5 : Int32)) :: (.ref b1004) :: []))
   obtain ⟨v1026, hv1026⟩ : ∃ z, z = f1_80 i3 := ⟨_, rfl⟩
   rw [← hv1026]
   have hb1027 : v1026.toInt8.toInt32 = v1026 := by rw [hv1026]; exact f1_80_byte i3
   refine k_bastore X1025 hx hZ e1025 Vw1024 ⟨by decide, by decide⟩ (i := 5) rfl (Nat.le_of_ble_eq_true rfl) (hb hby at_163) (pc' := 164) rfl (fun T1028 h1028 X1028 e1028 W1028 V1028 => ?_)
   rw [hb1027] at V1028
   have Vw1028 : Arv Z h1028 b1004 k1004 .byte (8 : Int32) [(.int v1006), (.int v1010), (.int v1014), (.int v1018), (.int v1022), (.int v1026), (.int (0 : Int32)), (.int (0 : Int32))] (.int (0 : Int32)) := V1028
   have N1028 := Fr.snoc X1028 N1025' g_b1004
   have Z1028 : n0 ≤ h1028.size := Nat.le_trans Z1024 (Nat.le_of_eq W1028.size.symm)
   refine k_aload X1028 hx (hb hby at_164) rfl rfl (pc' := 166) rfl ?_
   refine k_bipush X1028 hx (hb hby at_166) (pc' := 168) rfl (z := (6 : Int32)) rfl ?_
   refine k_lloadN X1028 hx (hb hby at_168) rfl (pc' := 169) rfl ?_
   refine k_bipush X1028 hx (hb hby at_169) (pc' := 171) rfl (z := (6 : Int32)) rfl ?_
   refine k_callS X1028 hx hZ hown (hw _ (List.mem_of_getElem? (i := 2) rfl)) (hw _ (List.mem_of_getElem? (i := 3) rfl)) (hw _ (List.mem_of_getElem? (i := 4) rfl)) (hw _ (List.mem_of_getElem? (i := 5) rfl)) (by decide) (rm1_85 l Z a0 hw [] i3 h1028 n0 Z1028 ) (by decide) (by decide) e1028 (by rw [hml]; rfl) (argsL := [(.long i3), (.int (6 : Int32))]) (rest := [(.int (6 : Int32)), (.ref b1004)]) (lenOf pd_0 rfl) rfl (W := 2) (Nat.le_refl _) rfl (hb hby at_171) (by decide) (by decide) (pc' := 174) rfl (fun T1029 L1029 r1029 X1029 q1029 => ?_)
   obtain ⟨N1029, e1029, rfl⟩ := q1029
   have N1029' := Fr.app N1028 N1029
   show KEnds p e below s _ _ _ T1029 (mkF m 174 #[.val (.int i0), .val (.int i1), .val (.int i2), .val (.long i3), .second, .val (.int v1), .val (.int (1 : Int32)), .val (.int v996), .val (.int (0 : Int32)), .val (.ref b1004)] ((.int (f1_85 i3)) :: (.int (6 : Int32)) :: (.ref b1004) :: []))
   obtain ⟨v1030, hv1030⟩ : ∃ z, z = f1_85 i3 := ⟨_, rfl⟩
   rw [← hv1030]
   have hb1031 : v1030.toInt8.toInt32 = v1030 := by rw [hv1030]; exact f1_85_byte i3
   refine k_bastore X1029 hx hZ e1029 Vw1028 ⟨by decide, by decide⟩ (i := 6) rfl (Nat.le_of_ble_eq_true rfl) (hb hby at_174) (pc' := 175) rfl (fun T1032 h1032 X1032 e1032 W1032 V1032 => ?_)
   rw [hb1031] at V1032
   have Vw1032 : Arv Z h1032 b1004 k1004 .byte (8 : Int32) [(.int v1006), (.int v1010), (.int v1014), (.int v1018), (.int v1022), (.int v1026), (.int v1030), (.int (0 : Int32))] (.int (0 : Int32)) := V1032
   have N1032 := Fr.snoc X1032 N1029' g_b1004
   have Z1032 : n0 ≤ h1032.size := Nat.le_trans Z1028 (Nat.le_of_eq W1032.size.symm)
   refine k_aload X1032 hx (hb hby at_175) rfl rfl (pc' := 177) rfl ?_
   refine k_bipush X1032 hx (hb hby at_177) (pc' := 179) rfl (z := (7 : Int32)) rfl ?_
   refine k_lloadN X1032 hx (hb hby at_179) rfl (pc' := 180) rfl ?_
   refine k_bipush X1032 hx (hb hby at_180) (pc' := 182) rfl (z := (7 : Int32)) rfl ?_
   refine k_callS X1032 hx hZ hown (hw _ (List.mem_of_getElem? (i := 2) rfl)) (hw _ (List.mem_of_getElem? (i := 3) rfl)) (hw _ (List.mem_of_getElem? (i := 4) rfl)) (hw _ (List.mem_of_getElem? (i := 5) rfl)) (by decide) (rm1_90 l Z a0 hw [] i3 h1032 n0 Z1032 ) (by decide) (by decide) e1032 (by rw [hml]; rfl) (argsL := [(.long i3), (.int (7 : Int32))]) (rest := [(.int (7 : Int32)), (.ref b1004)]) (lenOf pd_0 rfl) rfl (W := 2) (Nat.le_refl _) rfl (hb hby at_182) (by decide) (by decide) (pc' := 185) rfl (fun T1033 L1033 r1033 X1033 q1033 => ?_)
   obtain ⟨N1033, e1033, rfl⟩ := q1033
   have N1033' := Fr.app N1032 N1033
   show KEnds p e below s _ _ _ T1033 (mkF m 185 #[.val (.int i0), .val (.int i1), .val (.int i2), .val (.long i3), .second, .val (.int v1), .val (.int (1 : Int32)), .val (.int v996), .val (.int (0 : Int32)), .val (.ref b1004)] ((.int (f1_90 i3)) :: (.int (7 : Int32)) :: (.ref b1004) :: []))
   obtain ⟨v1034, hv1034⟩ : ∃ z, z = f1_90 i3 := ⟨_, rfl⟩
   rw [← hv1034]
   have hb1035 : v1034.toInt8.toInt32 = v1034 := by rw [hv1034]; exact f1_90_byte i3
   refine k_bastore X1033 hx hZ e1033 Vw1032 ⟨by decide, by decide⟩ (i := 7) rfl (Nat.le_of_ble_eq_true rfl) (hb hby at_185) (pc' := 186) rfl (fun T1036 h1036 X1036 e1036 W1036 V1036 => ?_)
   rw [hb1035] at V1036
   have Vw1036 : Arv Z h1036 b1004 k1004 .byte (8 : Int32) [(.int v1006), (.int v1010), (.int v1014), (.int v1018), (.int v1022), (.int v1026), (.int v1030), (.int v1034)] (.int (0 : Int32)) := V1036
   have N1036 := Fr.snoc X1036 N1033' g_b1004
   have Z1036 : n0 ≤ h1036.size := Nat.le_trans Z1032 (Nat.le_of_eq W1036.size.symm)
   refine k_iload X1036 hx (hb hby at_186) rfl (pc' := 188) rfl ?_
   refine k_if_ne X1036 hx (hb hby at_188) (pn := 191) rfl (py := 202) (by decide) (fun _ => ?_) (fun hc => absurd hc (by decide))
   refine k_iload X1036 hx (hb hby at_202) rfl (pc' := 204) rfl ?_
   refine k_iconst X1036 hx (hb hby at_204) (pc' := 205) rfl (z := (1 : Int32)) rfl ?_
   refine k_icmp_ne X1036 hx (hb hby at_205) (pn := 208) rfl (py := 243) (by decide) (fun hc => absurd (by decide) hc) (fun _ => ?_)
   refine k_aload X1036 hx (hb hby at_208) rfl rfl (pc' := 210) rfl ?_
   refine k_iload X1036 hx (hb hby at_210) rfl (pc' := 212) rfl ?_
   refine k_sipush X1036 hx (hb hby at_212) (pc' := 215) rfl (z := (192 : Int32)) rfl ?_
   refine k_iload X1036 hx (hb hby at_215) rfl (pc' := 217) rfl ?_
   refine k_bipush X1036 hx (hb hby at_217) (pc' := 219) rfl (z := (6 : Int32)) rfl ?_
   refine k_ishr X1036 hx (hb hby at_219) (pc' := 220) rfl (fun v1037 hv1037 => ?_)
   refine k_ior X1036 hx (hb hby at_220) (pc' := 221) rfl (fun v1038 hv1038 => ?_)
   refine k_i2b X1036 hx (hb hby at_221) (pc' := 222) rfl (fun v1039 hv1039 => ?_)
   refine k_bastore X1036 hx hZ e1036 Vw1036 ⟨by decide, by decide⟩ (i := 0) rfl (Nat.le_of_ble_eq_true rfl) (hb hby at_222) (pc' := 223) rfl (fun T1040 h1040 X1040 e1040 W1040 V1040 => ?_)
   have hb1041 : v1039.toInt8.toInt32 = v1039 := by rw [hv1039]; exact k_i2b2 _
   rw [hb1041] at V1040
   have Vw1040 : Arv Z h1040 b1004 k1004 .byte (8 : Int32) [(.int v1039), (.int v1010), (.int v1014), (.int v1018), (.int v1022), (.int v1026), (.int v1030), (.int v1034)] (.int (0 : Int32)) := V1040
   have N1040 := Fr.snoc X1040 N1036 g_b1004
   have Z1040 : n0 ≤ h1040.size := Nat.le_trans Z1036 (Nat.le_of_eq W1040.size.symm)
   refine k_aload X1040 hx (hb hby at_223) rfl rfl (pc' := 225) rfl ?_
   refine k_iload X1040 hx (hb hby at_225) rfl (pc' := 227) rfl ?_
   refine k_iconst X1040 hx (hb hby at_227) (pc' := 228) rfl (z := (1 : Int32)) rfl ?_
   refine k_iaddL X1040 hx (hb hby at_228) (pc' := 229) rfl (z := (1 : Int32)) (by decide) ?_
   refine k_sipush X1040 hx (hb hby at_229) (pc' := 232) rfl (z := (128 : Int32)) rfl ?_
   refine k_iload X1040 hx (hb hby at_232) rfl (pc' := 234) rfl ?_
   refine k_bipush X1040 hx (hb hby at_234) (pc' := 236) rfl (z := (63 : Int32)) rfl ?_
   refine k_iand X1040 hx (hb hby at_236) (pc' := 237) rfl (fun v1042 hv1042 => ?_)
   refine k_ior X1040 hx (hb hby at_237) (pc' := 238) rfl (fun v1043 hv1043 => ?_)
   refine k_i2b X1040 hx (hb hby at_238) (pc' := 239) rfl (fun v1044 hv1044 => ?_)
   refine k_bastore X1040 hx hZ e1040 Vw1040 ⟨by decide, by decide⟩ (i := 1) rfl (Nat.le_of_ble_eq_true rfl) (hb hby at_239) (pc' := 240) rfl (fun T1045 h1045 X1045 e1045 W1045 V1045 => ?_)
   have hb1046 : v1044.toInt8.toInt32 = v1044 := by rw [hv1044]; exact k_i2b2 _
   rw [hb1046] at V1045
   have Vw1045 : Arv Z h1045 b1004 k1004 .byte (8 : Int32) [(.int v1039), (.int v1044), (.int v1014), (.int v1018), (.int v1022), (.int v1026), (.int v1030), (.int v1034)] (.int (0 : Int32)) := V1045
   have N1045 := Fr.snoc X1045 N1040 g_b1004
   have Z1045 : n0 ≤ h1045.size := Nat.le_trans Z1040 (Nat.le_of_eq W1045.size.symm)
   refine k_goto X1045 hx (hb hby at_240) (pc' := 376) (by decide) ?_
   refine k_aload X1045 hx (hb hby at_376) rfl rfl (pc' := 378) rfl ?_
   refine k_iload X1045 hx (hb hby at_378) rfl (pc' := 380) rfl ?_
   refine k_callS X1045 hx hZ hown (hw _ (List.mem_of_getElem? (i := 7) rfl)) (hw _ (List.mem_of_getElem? (i := 8) rfl)) (hw _ (List.mem_of_getElem? (i := 9) rfl)) (hw _ (List.mem_of_getElem? (i := 10) rfl)) (by decide) (rm2_98 l Z a0 hw [] b1004 k1004 v1039 v1044 v1014 v1018 v1022 v1026 v1030 v1034 h1045 n0 Z1045 Vw1045) (by decide) (by decide) e1045 (by rw [hml]; rfl) (argsL := [(.ref b1004), (.int (0 : Int32))]) (rest := []) (lenOf pd_2 rfl) rfl (W := 0) (Nat.le_refl _) rfl (hb hby at_380) (by decide) (by decide) (pc' := 383) rfl (fun T1047 L1047 r1047 X1047 q1047 => ?_)
   obtain ⟨N1047, e1047, q1047⟩ := q1047
   have N1047' := Fr.app N1045 N1047
   rcases q1047 with ⟨v1048, v1049, v1050, v1051, v1052, v1053, v1054, v1055, v1056, v1057, v1058, h1059, h1060, h1061, h1062, h1063, h1064, h1065, h1066, h1067, h1068, h1069, hc1070, hc1071, hc1072, rfl⟩ | ⟨v1073, v1074, v1075, v1076, v1077, v1078, v1079, v1080, h1081, h1082, h1083, h1084, h1085, h1086, h1087, h1088, hc1089, hc1090, hc1091, rfl⟩ | ⟨v1092, v1093, v1094, v1095, v1096, h1097, h1098, h1099, h1100, h1101, hc1102, hc1103, rfl⟩ | ⟨v1104, h1105, hc1106, rfl⟩
   ·
    show KEnds p e below s _ _ _ T1047 (mkF m 383 #[.val (.int i0), .val (.int i1), .val (.int i2), .val (.long i3), .second, .val (.int v1), .val (.int (1 : Int32)), .val (.int v996), .val (.int (0 : Int32)), .val (.ref b1004)] [(.int v1058)])
    exfalso
    have B1107 : (-2147483648 : Int) ≤ v996.toInt ∧ v996.toInt ≤ 2147483647 := ⟨(rng32 v996).1, Int.le_of_lt_add_one (rng32 v996).2⟩
    have B1110 : (128 : Int) ≤ v996.toInt ∧ v996.toInt ≤ 2147483647 := ⟨k_ge hP997.1 (by decide), B1107.2⟩
    have B1111 : (128 : Int) ≤ v996.toInt ∧ v996.toInt ≤ 2047 := ⟨B1110.1, k_le hP997.2 (by decide)⟩
    have B1112 : (128 : Int) ≤ (128 : Int32).toInt ∧ (128 : Int32).toInt ≤ 128 := (by decide)
    have q1113 := hP997.1; rw [Int32.lt_iff_toInt_lt] at q1113
    have B1114 : (2047 : Int) ≤ (2047 : Int32).toInt ∧ (2047 : Int32).toInt ≤ 2047 := (by decide)
    have q1115 := hP997.2; rw [Int32.lt_iff_toInt_lt] at q1115
    have q1123 : v1037.toInt = v996.toInt / 64 := (by rw [hv1037]; exact c_ishr _ _ 6 (by decide))
    have B1122 : (2 : Int) ≤ v1037.toInt ∧ v1037.toInt ≤ 31 := (by rw [q1123]; exact k_divB B1111 (by decide) (by decide) (by decide))
    have q1121 : v1038.toInt = 192 + v1037.toInt := k_orx (k := 6) hv1038 B1122 (by decide) (by decide) (by decide) (by decide) (by decide) (by decide)
    have B1120 : (194 : Int) ≤ v1038.toInt ∧ v1038.toInt ≤ 223 := k_caddB q1121 B1122
    have q1119 : v1039.toInt = v1038.toInt - 256 := k_i2by hv1039 B1120 (by decide) (by decide)
    have B1118 : (-62 : Int) ≤ v1039.toInt ∧ v1039.toInt ≤ -33 := k_subB q1119 B1120
    have q1117 : v1048.toInt = v1039.toInt - (-256) := (by rw [h1059, c_mask _ _ 8 (by decide) (by decide)]; exact k_modx B1118 (by decide) (by decide))
    have B1116 : (194 : Int) ≤ v1048.toInt ∧ v1048.toInt ≤ 223 := k_subB q1117 B1118
    have B1124 : (224 : Int) ≤ v1048.toInt ∧ v1048.toInt ≤ 223 := ⟨k_ge hc1071 (by decide), B1116.2⟩
    have B1125 : (240 : Int) ≤ v1048.toInt ∧ v1048.toInt ≤ 223 := ⟨k_ge hc1072 (by decide), B1124.2⟩
    have q1126 := hc1070; rw [Int32.lt_iff_toInt_lt] at q1126
    have B1127 : (224 : Int) ≤ (224 : Int32).toInt ∧ (224 : Int32).toInt ≤ 224 := (by decide)
    have q1128 := hc1071; rw [Int32.lt_iff_toInt_lt] at q1128
    have B1129 : (240 : Int) ≤ (240 : Int32).toInt ∧ (240 : Int32).toInt ≤ 240 := (by decide)
    have q1130 := hc1072; rw [Int32.lt_iff_toInt_lt] at q1130
    omega
   ·
    show KEnds p e below s _ _ _ T1047 (mkF m 383 #[.val (.int i0), .val (.int i1), .val (.int i2), .val (.long i3), .second, .val (.int v1), .val (.int (1 : Int32)), .val (.int v996), .val (.int (0 : Int32)), .val (.ref b1004)] [(.int v1080)])
    exfalso
    have B1131 : (-2147483648 : Int) ≤ v996.toInt ∧ v996.toInt ≤ 2147483647 := ⟨(rng32 v996).1, Int.le_of_lt_add_one (rng32 v996).2⟩
    have B1134 : (128 : Int) ≤ v996.toInt ∧ v996.toInt ≤ 2147483647 := ⟨k_ge hP997.1 (by decide), B1131.2⟩
    have B1135 : (128 : Int) ≤ v996.toInt ∧ v996.toInt ≤ 2047 := ⟨B1134.1, k_le hP997.2 (by decide)⟩
    have B1136 : (128 : Int) ≤ (128 : Int32).toInt ∧ (128 : Int32).toInt ≤ 128 := (by decide)
    have q1137 := hP997.1; rw [Int32.lt_iff_toInt_lt] at q1137
    have B1138 : (2047 : Int) ≤ (2047 : Int32).toInt ∧ (2047 : Int32).toInt ≤ 2047 := (by decide)
    have q1139 := hP997.2; rw [Int32.lt_iff_toInt_lt] at q1139
    have q1147 : v1037.toInt = v996.toInt / 64 := (by rw [hv1037]; exact c_ishr _ _ 6 (by decide))
    have B1146 : (2 : Int) ≤ v1037.toInt ∧ v1037.toInt ≤ 31 := (by rw [q1147]; exact k_divB B1135 (by decide) (by decide) (by decide))
    have q1145 : v1038.toInt = 192 + v1037.toInt := k_orx (k := 6) hv1038 B1146 (by decide) (by decide) (by decide) (by decide) (by decide) (by decide)
    have B1144 : (194 : Int) ≤ v1038.toInt ∧ v1038.toInt ≤ 223 := k_caddB q1145 B1146
    have q1143 : v1039.toInt = v1038.toInt - 256 := k_i2by hv1039 B1144 (by decide) (by decide)
    have B1142 : (-62 : Int) ≤ v1039.toInt ∧ v1039.toInt ≤ -33 := k_subB q1143 B1144
    have q1141 : v1073.toInt = v1039.toInt - (-256) := (by rw [h1081, c_mask _ _ 8 (by decide) (by decide)]; exact k_modx B1142 (by decide) (by decide))
    have B1140 : (194 : Int) ≤ v1073.toInt ∧ v1073.toInt ≤ 223 := k_subB q1141 B1142
    have B1148 : (224 : Int) ≤ v1073.toInt ∧ v1073.toInt ≤ 223 := ⟨k_ge hc1090 (by decide), B1140.2⟩
    have q1149 := hc1089; rw [Int32.lt_iff_toInt_lt] at q1149
    have B1150 : (224 : Int) ≤ (224 : Int32).toInt ∧ (224 : Int32).toInt ≤ 224 := (by decide)
    have q1151 := hc1090; rw [Int32.lt_iff_toInt_lt] at q1151
    have B1152 : (240 : Int) ≤ (240 : Int32).toInt ∧ (240 : Int32).toInt ≤ 240 := (by decide)
    have q1153 := hc1091; rw [Int32.lt_iff_toInt_lt] at q1153
    omega
   ·
    show KEnds p e below s _ _ _ T1047 (mkF m 383 #[.val (.int i0), .val (.int i1), .val (.int i2), .val (.long i3), .second, .val (.int v1), .val (.int (1 : Int32)), .val (.int v996), .val (.int (0 : Int32)), .val (.ref b1004)] [(.int v1096)])
    refine k_iload X1047 hx (hb hby at_383) rfl (pc' := 385) rfl ?_
    refine k_icmp_ne X1047 hx (hb hby at_385) (pn := 388) rfl (py := 392) (by decide) (fun hc1154 => ?_) (fun hc1154 => ?_)
    ·
     refine k_iconst X1047 hx (hb hby at_392) (pc' := 393) rfl (z := (0 : Int32)) rfl ?_
     exfalso
     have B1155 : (-2147483648 : Int) ≤ v996.toInt ∧ v996.toInt ≤ 2147483647 := ⟨(rng32 v996).1, Int.le_of_lt_add_one (rng32 v996).2⟩
     have B1158 : (128 : Int) ≤ v996.toInt ∧ v996.toInt ≤ 2147483647 := ⟨k_ge hP997.1 (by decide), B1155.2⟩
     have B1159 : (128 : Int) ≤ v996.toInt ∧ v996.toInt ≤ 2047 := ⟨B1158.1, k_le hP997.2 (by decide)⟩
     have B1160 : (128 : Int) ≤ (128 : Int32).toInt ∧ (128 : Int32).toInt ≤ 128 := (by decide)
     have q1161 := hP997.1; rw [Int32.lt_iff_toInt_lt] at q1161
     have B1162 : (2047 : Int) ≤ (2047 : Int32).toInt ∧ (2047 : Int32).toInt ≤ 2047 := (by decide)
     have q1163 := hP997.2; rw [Int32.lt_iff_toInt_lt] at q1163
     have q1171 : v1037.toInt = v996.toInt / 64 := (by rw [hv1037]; exact c_ishr _ _ 6 (by decide))
     have B1170 : (2 : Int) ≤ v1037.toInt ∧ v1037.toInt ≤ 31 := (by rw [q1171]; exact k_divB B1159 (by decide) (by decide) (by decide))
     have q1169 : v1038.toInt = 192 + v1037.toInt := k_orx (k := 6) hv1038 B1170 (by decide) (by decide) (by decide) (by decide) (by decide) (by decide)
     have B1168 : (194 : Int) ≤ v1038.toInt ∧ v1038.toInt ≤ 223 := k_caddB q1169 B1170
     have q1167 : v1039.toInt = v1038.toInt - 256 := k_i2by hv1039 B1168 (by decide) (by decide)
     have B1166 : (-62 : Int) ≤ v1039.toInt ∧ v1039.toInt ≤ -33 := k_subB q1167 B1168
     have q1165 : v1092.toInt = v1039.toInt - (-256) := (by rw [h1097, c_mask _ _ 8 (by decide) (by decide)]; exact k_modx B1166 (by decide) (by decide))
     have B1164 : (194 : Int) ≤ v1092.toInt ∧ v1092.toInt ≤ 223 := k_subB q1165 B1166
     have q1172 := hc1102; rw [Int32.lt_iff_toInt_lt] at q1172
     have B1173 : (224 : Int) ≤ (224 : Int32).toInt ∧ (224 : Int32).toInt ≤ 224 := (by decide)
     have q1174 := hc1103; rw [Int32.lt_iff_toInt_lt] at q1174
     have q1180 : v1093.toInt = v1092.toInt - (192) := (by rw [h1098, c_mask _ _ 5 (by decide) (by decide)]; exact k_modx B1164 (by decide) (by decide))
     have B1179 : (2 : Int) ≤ v1093.toInt ∧ v1093.toInt ≤ 31 := k_subB q1180 B1164
     have q1178 : v1094.toInt = 64 * v1093.toInt := k_ishlx (k := 6) h1099 B1179 (by decide) (by decide) (by decide)
     have B1177 : (128 : Int) ≤ v1094.toInt ∧ v1094.toInt ≤ 1984 := (by rw [q1178]; exact k_mulB B1179 (by decide))
     have q1188 : v1042.toInt = v996.toInt % 64 := (by rw [hv1042]; exact c_mask _ _ 6 (by decide) (by decide))
     have B1187 : (0 : Int) ≤ v1042.toInt ∧ v1042.toInt ≤ 63 := (by rw [q1188]; exact k_modB (by decide))
     have q1186 : v1043.toInt = 128 + v1042.toInt := k_orx (k := 7) hv1043 B1187 (by decide) (by decide) (by decide) (by decide) (by decide) (by decide)
     have B1185 : (128 : Int) ≤ v1043.toInt ∧ v1043.toInt ≤ 191 := k_caddB q1186 B1187
     have q1184 : v1044.toInt = v1043.toInt - 256 := k_i2by hv1044 B1185 (by decide) (by decide)
     have B1183 : (-128 : Int) ≤ v1044.toInt ∧ v1044.toInt ≤ -65 := k_subB q1184 B1185
     have q1182 : v1095.toInt = v1044.toInt - (-128) := (by rw [h1100, c_mask _ _ 6 (by decide) (by decide)]; exact k_modx B1183 (by decide) (by decide))
     have B1181 : (0 : Int) ≤ v1095.toInt ∧ v1095.toInt ≤ 63 := k_subB q1182 B1183
     have q1176 : v1096.toInt = v1094.toInt + v1095.toInt := k_orx2 (k := 6) h1101 B1177 B1181 (by decide) (by decide) (by decide) (by decide) (by omega)
     have B1175 : (128 : Int) ≤ v1096.toInt ∧ v1096.toInt ≤ 2047 := k_addB q1176 B1177 B1181
     have q1189 : ¬ v1096.toInt = v996.toInt := fun q => hc1154 (Int32.toInt_inj.mp q)
     omega
    ·
     refine k_iconst X1047 hx (hb hby at_388) (pc' := 389) rfl (z := (1 : Int32)) rfl ?_
     refine k_goto X1047 hx (hb hby at_389) (pc' := 393) (by decide) ?_
     exact k_retN X1047 hx (t := .boolean) Bd.returns (by simp) (hb hby at_393) hlk (by decide) (by decide) (z' := (1 : Int32)) rfl ⟨rfl, N1047'⟩
   ·
    show KEnds p e below s _ _ _ T1047 (mkF m 383 #[.val (.int i0), .val (.int i1), .val (.int i2), .val (.long i3), .second, .val (.int v1), .val (.int (1 : Int32)), .val (.int v996), .val (.int (0 : Int32)), .val (.ref b1004)] [(.int v1104)])
    exfalso
    have B1190 : (-2147483648 : Int) ≤ v996.toInt ∧ v996.toInt ≤ 2147483647 := ⟨(rng32 v996).1, Int.le_of_lt_add_one (rng32 v996).2⟩
    have B1193 : (128 : Int) ≤ v996.toInt ∧ v996.toInt ≤ 2147483647 := ⟨k_ge hP997.1 (by decide), B1190.2⟩
    have B1194 : (128 : Int) ≤ v996.toInt ∧ v996.toInt ≤ 2047 := ⟨B1193.1, k_le hP997.2 (by decide)⟩
    have B1195 : (128 : Int) ≤ (128 : Int32).toInt ∧ (128 : Int32).toInt ≤ 128 := (by decide)
    have q1196 := hP997.1; rw [Int32.lt_iff_toInt_lt] at q1196
    have B1197 : (2047 : Int) ≤ (2047 : Int32).toInt ∧ (2047 : Int32).toInt ≤ 2047 := (by decide)
    have q1198 := hP997.2; rw [Int32.lt_iff_toInt_lt] at q1198
    have q1206 : v1037.toInt = v996.toInt / 64 := (by rw [hv1037]; exact c_ishr _ _ 6 (by decide))
    have B1205 : (2 : Int) ≤ v1037.toInt ∧ v1037.toInt ≤ 31 := (by rw [q1206]; exact k_divB B1194 (by decide) (by decide) (by decide))
    have q1204 : v1038.toInt = 192 + v1037.toInt := k_orx (k := 6) hv1038 B1205 (by decide) (by decide) (by decide) (by decide) (by decide) (by decide)
    have B1203 : (194 : Int) ≤ v1038.toInt ∧ v1038.toInt ≤ 223 := k_caddB q1204 B1205
    have q1202 : v1039.toInt = v1038.toInt - 256 := k_i2by hv1039 B1203 (by decide) (by decide)
    have B1201 : (-62 : Int) ≤ v1039.toInt ∧ v1039.toInt ≤ -33 := k_subB q1202 B1203
    have q1200 : v1104.toInt = v1039.toInt - (-256) := (by rw [h1105, c_mask _ _ 8 (by decide) (by decide)]; exact k_modx B1201 (by decide) (by decide))
    have B1199 : (194 : Int) ≤ v1104.toInt ∧ v1104.toInt ≤ 223 := k_subB q1200 B1201
    have B1207 : (194 : Int) ≤ v1104.toInt ∧ v1104.toInt ≤ 127 := ⟨B1199.1, k_lt hc1106 (by decide)⟩
    have q1208 := hc1106; rw [Int32.lt_iff_toInt_lt] at q1208
    omega
  ·
   show KEnds p e below s _ _ _ s₁ (mkF m 102 #[.val (.int i0), .val (.int i1), .val (.int i2), .val (.long i3), .second, .val (.int v1), .val (.int (1 : Int32)), .val (.int v996), .unset, .unset] [(.int (1 : Int32))])
   refine k_istore X0 hx (hb hby at_102) (Ls' := #[.val (.int i0), .val (.int i1), .val (.int i2), .val (.long i3), .second, .val (.int v1), .val (.int (1 : Int32)), .val (.int v996), .val (.int (1 : Int32)), .unset]) rfl (pc' := 104) rfl ?_
   refine k_bipush X0 hx (hb hby at_104) (pc' := 106) rfl (z := (8 : Int32)) rfl ?_
   refine k_newA X0 hx hZ (hw _ (List.mem_of_getElem? (i := 1) rfl)) e0 (hb hby at_106) (by decide) (cap := 8) (by decide) (by decide) (by decide) (by decide) (pc' := 108) rfl (fun T1210 h1210 b1210 k1210 g1210 X1210 e1210 E1210 V1210 => ?_)
   have g_b1210 : n0 ≤ b1210 := Nat.le_trans Z0 (Nat.le_of_eq g1210.symm)
   have Z1210 : n0 ≤ h1210.size := Nat.le_trans Z0 E1210.1
   have Vw1210 : Arv Z h1210 b1210 k1210 .byte (8 : Int32) [(.int (0 : Int32)), (.int (0 : Int32)), (.int (0 : Int32)), (.int (0 : Int32)), (.int (0 : Int32)), (.int (0 : Int32)), (.int (0 : Int32)), (.int (0 : Int32))] (.int (0 : Int32)) := V1210
   refine k_astore X1210 hx (hb hby at_108) rfl (Ls' := #[.val (.int i0), .val (.int i1), .val (.int i2), .val (.long i3), .second, .val (.int v1), .val (.int (1 : Int32)), .val (.int v996), .val (.int (1 : Int32)), .val (.ref b1210)]) rfl (pc' := 110) rfl ?_
   refine k_aload X1210 hx (hb hby at_110) rfl rfl (pc' := 112) rfl ?_
   refine k_iconst X1210 hx (hb hby at_112) (pc' := 113) rfl (z := (0 : Int32)) rfl ?_
   refine k_lloadN X1210 hx (hb hby at_113) rfl (pc' := 114) rfl ?_
   refine k_iconst X1210 hx (hb hby at_114) (pc' := 115) rfl (z := (0 : Int32)) rfl ?_
   refine k_callS X1210 hx hZ hown (hw _ (List.mem_of_getElem? (i := 2) rfl)) (hw _ (List.mem_of_getElem? (i := 3) rfl)) (hw _ (List.mem_of_getElem? (i := 4) rfl)) (hw _ (List.mem_of_getElem? (i := 5) rfl)) (by decide) (rm1_55 l Z a0 hw [] i3 h1210 n0 Z1210 ) (by decide) (by decide) e1210 (by rw [hml]; rfl) (argsL := [(.long i3), (.int (0 : Int32))]) (rest := [(.int (0 : Int32)), (.ref b1210)]) (lenOf pd_0 rfl) rfl (W := 2) (Nat.le_refl _) rfl (hb hby at_115) (by decide) (by decide) (pc' := 118) rfl (fun T1211 L1211 r1211 X1211 q1211 => ?_)
   obtain ⟨N1211, e1211, rfl⟩ := q1211
   have N1211' := Fr.app N0 N1211
   show KEnds p e below s _ _ _ T1211 (mkF m 118 #[.val (.int i0), .val (.int i1), .val (.int i2), .val (.long i3), .second, .val (.int v1), .val (.int (1 : Int32)), .val (.int v996), .val (.int (1 : Int32)), .val (.ref b1210)] ((.int (f1_55 i3)) :: (.int (0 : Int32)) :: (.ref b1210) :: []))
   obtain ⟨v1212, hv1212⟩ : ∃ z, z = f1_55 i3 := ⟨_, rfl⟩
   rw [← hv1212]
   have hb1213 : v1212.toInt8.toInt32 = v1212 := by rw [hv1212]; exact f1_55_byte i3
   refine k_bastore X1211 hx hZ e1211 Vw1210 ⟨by decide, by decide⟩ (i := 0) rfl (Nat.le_of_ble_eq_true rfl) (hb hby at_118) (pc' := 119) rfl (fun T1214 h1214 X1214 e1214 W1214 V1214 => ?_)
   rw [hb1213] at V1214
   have Vw1214 : Arv Z h1214 b1210 k1210 .byte (8 : Int32) [(.int v1212), (.int (0 : Int32)), (.int (0 : Int32)), (.int (0 : Int32)), (.int (0 : Int32)), (.int (0 : Int32)), (.int (0 : Int32)), (.int (0 : Int32))] (.int (0 : Int32)) := V1214
   have N1214 := Fr.snoc X1214 N1211' g_b1210
   have Z1214 : n0 ≤ h1214.size := Nat.le_trans Z1210 (Nat.le_of_eq W1214.size.symm)
   refine k_aload X1214 hx (hb hby at_119) rfl rfl (pc' := 121) rfl ?_
   refine k_iconst X1214 hx (hb hby at_121) (pc' := 122) rfl (z := (1 : Int32)) rfl ?_
   refine k_lloadN X1214 hx (hb hby at_122) rfl (pc' := 123) rfl ?_
   refine k_iconst X1214 hx (hb hby at_123) (pc' := 124) rfl (z := (1 : Int32)) rfl ?_
   refine k_callS X1214 hx hZ hown (hw _ (List.mem_of_getElem? (i := 2) rfl)) (hw _ (List.mem_of_getElem? (i := 3) rfl)) (hw _ (List.mem_of_getElem? (i := 4) rfl)) (hw _ (List.mem_of_getElem? (i := 5) rfl)) (by decide) (rm1_60 l Z a0 hw [] i3 h1214 n0 Z1214 ) (by decide) (by decide) e1214 (by rw [hml]; rfl) (argsL := [(.long i3), (.int (1 : Int32))]) (rest := [(.int (1 : Int32)), (.ref b1210)]) (lenOf pd_0 rfl) rfl (W := 2) (Nat.le_refl _) rfl (hb hby at_124) (by decide) (by decide) (pc' := 127) rfl (fun T1215 L1215 r1215 X1215 q1215 => ?_)
   obtain ⟨N1215, e1215, rfl⟩ := q1215
   have N1215' := Fr.app N1214 N1215
   show KEnds p e below s _ _ _ T1215 (mkF m 127 #[.val (.int i0), .val (.int i1), .val (.int i2), .val (.long i3), .second, .val (.int v1), .val (.int (1 : Int32)), .val (.int v996), .val (.int (1 : Int32)), .val (.ref b1210)] ((.int (f1_60 i3)) :: (.int (1 : Int32)) :: (.ref b1210) :: []))
   obtain ⟨v1216, hv1216⟩ : ∃ z, z = f1_60 i3 := ⟨_, rfl⟩
   rw [← hv1216]
   have hb1217 : v1216.toInt8.toInt32 = v1216 := by rw [hv1216]; exact f1_60_byte i3
   refine k_bastore X1215 hx hZ e1215 Vw1214 ⟨by decide, by decide⟩ (i := 1) rfl (Nat.le_of_ble_eq_true rfl) (hb hby at_127) (pc' := 128) rfl (fun T1218 h1218 X1218 e1218 W1218 V1218 => ?_)
   rw [hb1217] at V1218
   have Vw1218 : Arv Z h1218 b1210 k1210 .byte (8 : Int32) [(.int v1212), (.int v1216), (.int (0 : Int32)), (.int (0 : Int32)), (.int (0 : Int32)), (.int (0 : Int32)), (.int (0 : Int32)), (.int (0 : Int32))] (.int (0 : Int32)) := V1218
   have N1218 := Fr.snoc X1218 N1215' g_b1210
   have Z1218 : n0 ≤ h1218.size := Nat.le_trans Z1214 (Nat.le_of_eq W1218.size.symm)
   refine k_aload X1218 hx (hb hby at_128) rfl rfl (pc' := 130) rfl ?_
   refine k_iconst X1218 hx (hb hby at_130) (pc' := 131) rfl (z := (2 : Int32)) rfl ?_
   refine k_lloadN X1218 hx (hb hby at_131) rfl (pc' := 132) rfl ?_
   refine k_iconst X1218 hx (hb hby at_132) (pc' := 133) rfl (z := (2 : Int32)) rfl ?_
   refine k_callS X1218 hx hZ hown (hw _ (List.mem_of_getElem? (i := 2) rfl)) (hw _ (List.mem_of_getElem? (i := 3) rfl)) (hw _ (List.mem_of_getElem? (i := 4) rfl)) (hw _ (List.mem_of_getElem? (i := 5) rfl)) (by decide) (rm1_65 l Z a0 hw [] i3 h1218 n0 Z1218 ) (by decide) (by decide) e1218 (by rw [hml]; rfl) (argsL := [(.long i3), (.int (2 : Int32))]) (rest := [(.int (2 : Int32)), (.ref b1210)]) (lenOf pd_0 rfl) rfl (W := 2) (Nat.le_refl _) rfl (hb hby at_133) (by decide) (by decide) (pc' := 136) rfl (fun T1219 L1219 r1219 X1219 q1219 => ?_)
   obtain ⟨N1219, e1219, rfl⟩ := q1219
   have N1219' := Fr.app N1218 N1219
   show KEnds p e below s _ _ _ T1219 (mkF m 136 #[.val (.int i0), .val (.int i1), .val (.int i2), .val (.long i3), .second, .val (.int v1), .val (.int (1 : Int32)), .val (.int v996), .val (.int (1 : Int32)), .val (.ref b1210)] ((.int (f1_65 i3)) :: (.int (2 : Int32)) :: (.ref b1210) :: []))
   obtain ⟨v1220, hv1220⟩ : ∃ z, z = f1_65 i3 := ⟨_, rfl⟩
   rw [← hv1220]
   have hb1221 : v1220.toInt8.toInt32 = v1220 := by rw [hv1220]; exact f1_65_byte i3
   refine k_bastore X1219 hx hZ e1219 Vw1218 ⟨by decide, by decide⟩ (i := 2) rfl (Nat.le_of_ble_eq_true rfl) (hb hby at_136) (pc' := 137) rfl (fun T1222 h1222 X1222 e1222 W1222 V1222 => ?_)
   rw [hb1221] at V1222
   have Vw1222 : Arv Z h1222 b1210 k1210 .byte (8 : Int32) [(.int v1212), (.int v1216), (.int v1220), (.int (0 : Int32)), (.int (0 : Int32)), (.int (0 : Int32)), (.int (0 : Int32)), (.int (0 : Int32))] (.int (0 : Int32)) := V1222
   have N1222 := Fr.snoc X1222 N1219' g_b1210
   have Z1222 : n0 ≤ h1222.size := Nat.le_trans Z1218 (Nat.le_of_eq W1222.size.symm)
   refine k_aload X1222 hx (hb hby at_137) rfl rfl (pc' := 139) rfl ?_
   refine k_iconst X1222 hx (hb hby at_139) (pc' := 140) rfl (z := (3 : Int32)) rfl ?_
   refine k_lloadN X1222 hx (hb hby at_140) rfl (pc' := 141) rfl ?_
   refine k_iconst X1222 hx (hb hby at_141) (pc' := 142) rfl (z := (3 : Int32)) rfl ?_
   refine k_callS X1222 hx hZ hown (hw _ (List.mem_of_getElem? (i := 2) rfl)) (hw _ (List.mem_of_getElem? (i := 3) rfl)) (hw _ (List.mem_of_getElem? (i := 4) rfl)) (hw _ (List.mem_of_getElem? (i := 5) rfl)) (by decide) (rm1_70 l Z a0 hw [] i3 h1222 n0 Z1222 ) (by decide) (by decide) e1222 (by rw [hml]; rfl) (argsL := [(.long i3), (.int (3 : Int32))]) (rest := [(.int (3 : Int32)), (.ref b1210)]) (lenOf pd_0 rfl) rfl (W := 2) (Nat.le_refl _) rfl (hb hby at_142) (by decide) (by decide) (pc' := 145) rfl (fun T1223 L1223 r1223 X1223 q1223 => ?_)
   obtain ⟨N1223, e1223, rfl⟩ := q1223
   have N1223' := Fr.app N1222 N1223
   show KEnds p e below s _ _ _ T1223 (mkF m 145 #[.val (.int i0), .val (.int i1), .val (.int i2), .val (.long i3), .second, .val (.int v1), .val (.int (1 : Int32)), .val (.int v996), .val (.int (1 : Int32)), .val (.ref b1210)] ((.int (f1_70 i3)) :: (.int (3 : Int32)) :: (.ref b1210) :: []))
   obtain ⟨v1224, hv1224⟩ : ∃ z, z = f1_70 i3 := ⟨_, rfl⟩
   rw [← hv1224]
   have hb1225 : v1224.toInt8.toInt32 = v1224 := by rw [hv1224]; exact f1_70_byte i3
   refine k_bastore X1223 hx hZ e1223 Vw1222 ⟨by decide, by decide⟩ (i := 3) rfl (Nat.le_of_ble_eq_true rfl) (hb hby at_145) (pc' := 146) rfl (fun T1226 h1226 X1226 e1226 W1226 V1226 => ?_)
   rw [hb1225] at V1226
   have Vw1226 : Arv Z h1226 b1210 k1210 .byte (8 : Int32) [(.int v1212), (.int v1216), (.int v1220), (.int v1224), (.int (0 : Int32)), (.int (0 : Int32)), (.int (0 : Int32)), (.int (0 : Int32))] (.int (0 : Int32)) := V1226
   have N1226 := Fr.snoc X1226 N1223' g_b1210
   have Z1226 : n0 ≤ h1226.size := Nat.le_trans Z1222 (Nat.le_of_eq W1226.size.symm)
   refine k_aload X1226 hx (hb hby at_146) rfl rfl (pc' := 148) rfl ?_
   refine k_iconst X1226 hx (hb hby at_148) (pc' := 149) rfl (z := (4 : Int32)) rfl ?_
   refine k_lloadN X1226 hx (hb hby at_149) rfl (pc' := 150) rfl ?_
   refine k_iconst X1226 hx (hb hby at_150) (pc' := 151) rfl (z := (4 : Int32)) rfl ?_
   refine k_callS X1226 hx hZ hown (hw _ (List.mem_of_getElem? (i := 2) rfl)) (hw _ (List.mem_of_getElem? (i := 3) rfl)) (hw _ (List.mem_of_getElem? (i := 4) rfl)) (hw _ (List.mem_of_getElem? (i := 5) rfl)) (by decide) (rm1_75 l Z a0 hw [] i3 h1226 n0 Z1226 ) (by decide) (by decide) e1226 (by rw [hml]; rfl) (argsL := [(.long i3), (.int (4 : Int32))]) (rest := [(.int (4 : Int32)), (.ref b1210)]) (lenOf pd_0 rfl) rfl (W := 2) (Nat.le_refl _) rfl (hb hby at_151) (by decide) (by decide) (pc' := 154) rfl (fun T1227 L1227 r1227 X1227 q1227 => ?_)
   obtain ⟨N1227, e1227, rfl⟩ := q1227
   have N1227' := Fr.app N1226 N1227
   show KEnds p e below s _ _ _ T1227 (mkF m 154 #[.val (.int i0), .val (.int i1), .val (.int i2), .val (.long i3), .second, .val (.int v1), .val (.int (1 : Int32)), .val (.int v996), .val (.int (1 : Int32)), .val (.ref b1210)] ((.int (f1_75 i3)) :: (.int (4 : Int32)) :: (.ref b1210) :: []))
   obtain ⟨v1228, hv1228⟩ : ∃ z, z = f1_75 i3 := ⟨_, rfl⟩
   rw [← hv1228]
   have hb1229 : v1228.toInt8.toInt32 = v1228 := by rw [hv1228]; exact f1_75_byte i3
   refine k_bastore X1227 hx hZ e1227 Vw1226 ⟨by decide, by decide⟩ (i := 4) rfl (Nat.le_of_ble_eq_true rfl) (hb hby at_154) (pc' := 155) rfl (fun T1230 h1230 X1230 e1230 W1230 V1230 => ?_)
   rw [hb1229] at V1230
   have Vw1230 : Arv Z h1230 b1210 k1210 .byte (8 : Int32) [(.int v1212), (.int v1216), (.int v1220), (.int v1224), (.int v1228), (.int (0 : Int32)), (.int (0 : Int32)), (.int (0 : Int32))] (.int (0 : Int32)) := V1230
   have N1230 := Fr.snoc X1230 N1227' g_b1210
   have Z1230 : n0 ≤ h1230.size := Nat.le_trans Z1226 (Nat.le_of_eq W1230.size.symm)
   refine k_aload X1230 hx (hb hby at_155) rfl rfl (pc' := 157) rfl ?_
   refine k_iconst X1230 hx (hb hby at_157) (pc' := 158) rfl (z := (5 : Int32)) rfl ?_
   refine k_lloadN X1230 hx (hb hby at_158) rfl (pc' := 159) rfl ?_
   refine k_iconst X1230 hx (hb hby at_159) (pc' := 160) rfl (z := (5 : Int32)) rfl ?_
   refine k_callS X1230 hx hZ hown (hw _ (List.mem_of_getElem? (i := 2) rfl)) (hw _ (List.mem_of_getElem? (i := 3) rfl)) (hw _ (List.mem_of_getElem? (i := 4) rfl)) (hw _ (List.mem_of_getElem? (i := 5) rfl)) (by decide) (rm1_80 l Z a0 hw [] i3 h1230 n0 Z1230 ) (by decide) (by decide) e1230 (by rw [hml]; rfl) (argsL := [(.long i3), (.int (5 : Int32))]) (rest := [(.int (5 : Int32)), (.ref b1210)]) (lenOf pd_0 rfl) rfl (W := 2) (Nat.le_refl _) rfl (hb hby at_160) (by decide) (by decide) (pc' := 163) rfl (fun T1231 L1231 r1231 X1231 q1231 => ?_)
   obtain ⟨N1231, e1231, rfl⟩ := q1231
   have N1231' := Fr.app N1230 N1231
   show KEnds p e below s _ _ _ T1231 (mkF m 163 #[.val (.int i0), .val (.int i1), .val (.int i2), .val (.long i3), .second, .val (.int v1), .val (.int (1 : Int32)), .val (.int v996), .val (.int (1 : Int32)), .val (.ref b1210)] ((.int (f1_80 i3)) :: (.int (5 : Int32)) :: (.ref b1210) :: []))
   obtain ⟨v1232, hv1232⟩ : ∃ z, z = f1_80 i3 := ⟨_, rfl⟩
   rw [← hv1232]
   have hb1233 : v1232.toInt8.toInt32 = v1232 := by rw [hv1232]; exact f1_80_byte i3
   refine k_bastore X1231 hx hZ e1231 Vw1230 ⟨by decide, by decide⟩ (i := 5) rfl (Nat.le_of_ble_eq_true rfl) (hb hby at_163) (pc' := 164) rfl (fun T1234 h1234 X1234 e1234 W1234 V1234 => ?_)
   rw [hb1233] at V1234
   have Vw1234 : Arv Z h1234 b1210 k1210 .byte (8 : Int32) [(.int v1212), (.int v1216), (.int v1220), (.int v1224), (.int v1228), (.int v1232), (.int (0 : Int32)), (.int (0 : Int32))] (.int (0 : Int32)) := V1234
   have N1234 := Fr.snoc X1234 N1231' g_b1210
   have Z1234 : n0 ≤ h1234.size := Nat.le_trans Z1230 (Nat.le_of_eq W1234.size.symm)
   refine k_aload X1234 hx (hb hby at_164) rfl rfl (pc' := 166) rfl ?_
   refine k_bipush X1234 hx (hb hby at_166) (pc' := 168) rfl (z := (6 : Int32)) rfl ?_
   refine k_lloadN X1234 hx (hb hby at_168) rfl (pc' := 169) rfl ?_
   refine k_bipush X1234 hx (hb hby at_169) (pc' := 171) rfl (z := (6 : Int32)) rfl ?_
   refine k_callS X1234 hx hZ hown (hw _ (List.mem_of_getElem? (i := 2) rfl)) (hw _ (List.mem_of_getElem? (i := 3) rfl)) (hw _ (List.mem_of_getElem? (i := 4) rfl)) (hw _ (List.mem_of_getElem? (i := 5) rfl)) (by decide) (rm1_85 l Z a0 hw [] i3 h1234 n0 Z1234 ) (by decide) (by decide) e1234 (by rw [hml]; rfl) (argsL := [(.long i3), (.int (6 : Int32))]) (rest := [(.int (6 : Int32)), (.ref b1210)]) (lenOf pd_0 rfl) rfl (W := 2) (Nat.le_refl _) rfl (hb hby at_171) (by decide) (by decide) (pc' := 174) rfl (fun T1235 L1235 r1235 X1235 q1235 => ?_)
   obtain ⟨N1235, e1235, rfl⟩ := q1235
   have N1235' := Fr.app N1234 N1235
   show KEnds p e below s _ _ _ T1235 (mkF m 174 #[.val (.int i0), .val (.int i1), .val (.int i2), .val (.long i3), .second, .val (.int v1), .val (.int (1 : Int32)), .val (.int v996), .val (.int (1 : Int32)), .val (.ref b1210)] ((.int (f1_85 i3)) :: (.int (6 : Int32)) :: (.ref b1210) :: []))
   obtain ⟨v1236, hv1236⟩ : ∃ z, z = f1_85 i3 := ⟨_, rfl⟩
   rw [← hv1236]
   have hb1237 : v1236.toInt8.toInt32 = v1236 := by rw [hv1236]; exact f1_85_byte i3
   refine k_bastore X1235 hx hZ e1235 Vw1234 ⟨by decide, by decide⟩ (i := 6) rfl (Nat.le_of_ble_eq_true rfl) (hb hby at_174) (pc' := 175) rfl (fun T1238 h1238 X1238 e1238 W1238 V1238 => ?_)
   rw [hb1237] at V1238
   have Vw1238 : Arv Z h1238 b1210 k1210 .byte (8 : Int32) [(.int v1212), (.int v1216), (.int v1220), (.int v1224), (.int v1228), (.int v1232), (.int v1236), (.int (0 : Int32))] (.int (0 : Int32)) := V1238
   have N1238 := Fr.snoc X1238 N1235' g_b1210
   have Z1238 : n0 ≤ h1238.size := Nat.le_trans Z1234 (Nat.le_of_eq W1238.size.symm)
   refine k_aload X1238 hx (hb hby at_175) rfl rfl (pc' := 177) rfl ?_
   refine k_bipush X1238 hx (hb hby at_177) (pc' := 179) rfl (z := (7 : Int32)) rfl ?_
   refine k_lloadN X1238 hx (hb hby at_179) rfl (pc' := 180) rfl ?_
   refine k_bipush X1238 hx (hb hby at_180) (pc' := 182) rfl (z := (7 : Int32)) rfl ?_
   refine k_callS X1238 hx hZ hown (hw _ (List.mem_of_getElem? (i := 2) rfl)) (hw _ (List.mem_of_getElem? (i := 3) rfl)) (hw _ (List.mem_of_getElem? (i := 4) rfl)) (hw _ (List.mem_of_getElem? (i := 5) rfl)) (by decide) (rm1_90 l Z a0 hw [] i3 h1238 n0 Z1238 ) (by decide) (by decide) e1238 (by rw [hml]; rfl) (argsL := [(.long i3), (.int (7 : Int32))]) (rest := [(.int (7 : Int32)), (.ref b1210)]) (lenOf pd_0 rfl) rfl (W := 2) (Nat.le_refl _) rfl (hb hby at_182) (by decide) (by decide) (pc' := 185) rfl (fun T1239 L1239 r1239 X1239 q1239 => ?_)
   obtain ⟨N1239, e1239, rfl⟩ := q1239
   have N1239' := Fr.app N1238 N1239
   show KEnds p e below s _ _ _ T1239 (mkF m 185 #[.val (.int i0), .val (.int i1), .val (.int i2), .val (.long i3), .second, .val (.int v1), .val (.int (1 : Int32)), .val (.int v996), .val (.int (1 : Int32)), .val (.ref b1210)] ((.int (f1_90 i3)) :: (.int (7 : Int32)) :: (.ref b1210) :: []))
   obtain ⟨v1240, hv1240⟩ : ∃ z, z = f1_90 i3 := ⟨_, rfl⟩
   rw [← hv1240]
   have hb1241 : v1240.toInt8.toInt32 = v1240 := by rw [hv1240]; exact f1_90_byte i3
   refine k_bastore X1239 hx hZ e1239 Vw1238 ⟨by decide, by decide⟩ (i := 7) rfl (Nat.le_of_ble_eq_true rfl) (hb hby at_185) (pc' := 186) rfl (fun T1242 h1242 X1242 e1242 W1242 V1242 => ?_)
   rw [hb1241] at V1242
   have Vw1242 : Arv Z h1242 b1210 k1210 .byte (8 : Int32) [(.int v1212), (.int v1216), (.int v1220), (.int v1224), (.int v1228), (.int v1232), (.int v1236), (.int v1240)] (.int (0 : Int32)) := V1242
   have N1242 := Fr.snoc X1242 N1239' g_b1210
   have Z1242 : n0 ≤ h1242.size := Nat.le_trans Z1238 (Nat.le_of_eq W1242.size.symm)
   refine k_iload X1242 hx (hb hby at_186) rfl (pc' := 188) rfl ?_
   refine k_if_ne X1242 hx (hb hby at_188) (pn := 191) rfl (py := 202) (by decide) (fun _ => ?_) (fun hc => absurd hc (by decide))
   refine k_iload X1242 hx (hb hby at_202) rfl (pc' := 204) rfl ?_
   refine k_iconst X1242 hx (hb hby at_204) (pc' := 205) rfl (z := (1 : Int32)) rfl ?_
   refine k_icmp_ne X1242 hx (hb hby at_205) (pn := 208) rfl (py := 243) (by decide) (fun hc => absurd (by decide) hc) (fun _ => ?_)
   refine k_aload X1242 hx (hb hby at_208) rfl rfl (pc' := 210) rfl ?_
   refine k_iload X1242 hx (hb hby at_210) rfl (pc' := 212) rfl ?_
   refine k_sipush X1242 hx (hb hby at_212) (pc' := 215) rfl (z := (192 : Int32)) rfl ?_
   refine k_iload X1242 hx (hb hby at_215) rfl (pc' := 217) rfl ?_
   refine k_bipush X1242 hx (hb hby at_217) (pc' := 219) rfl (z := (6 : Int32)) rfl ?_
   refine k_ishr X1242 hx (hb hby at_219) (pc' := 220) rfl (fun v1243 hv1243 => ?_)
   refine k_ior X1242 hx (hb hby at_220) (pc' := 221) rfl (fun v1244 hv1244 => ?_)
   refine k_i2b X1242 hx (hb hby at_221) (pc' := 222) rfl (fun v1245 hv1245 => ?_)
   refine k_bastore X1242 hx hZ e1242 Vw1242 ⟨by decide, by decide⟩ (i := 1) rfl (Nat.le_of_ble_eq_true rfl) (hb hby at_222) (pc' := 223) rfl (fun T1246 h1246 X1246 e1246 W1246 V1246 => ?_)
   have hb1247 : v1245.toInt8.toInt32 = v1245 := by rw [hv1245]; exact k_i2b2 _
   rw [hb1247] at V1246
   have Vw1246 : Arv Z h1246 b1210 k1210 .byte (8 : Int32) [(.int v1212), (.int v1245), (.int v1220), (.int v1224), (.int v1228), (.int v1232), (.int v1236), (.int v1240)] (.int (0 : Int32)) := V1246
   have N1246 := Fr.snoc X1246 N1242 g_b1210
   have Z1246 : n0 ≤ h1246.size := Nat.le_trans Z1242 (Nat.le_of_eq W1246.size.symm)
   refine k_aload X1246 hx (hb hby at_223) rfl rfl (pc' := 225) rfl ?_
   refine k_iload X1246 hx (hb hby at_225) rfl (pc' := 227) rfl ?_
   refine k_iconst X1246 hx (hb hby at_227) (pc' := 228) rfl (z := (1 : Int32)) rfl ?_
   refine k_iaddL X1246 hx (hb hby at_228) (pc' := 229) rfl (z := (2 : Int32)) (by decide) ?_
   refine k_sipush X1246 hx (hb hby at_229) (pc' := 232) rfl (z := (128 : Int32)) rfl ?_
   refine k_iload X1246 hx (hb hby at_232) rfl (pc' := 234) rfl ?_
   refine k_bipush X1246 hx (hb hby at_234) (pc' := 236) rfl (z := (63 : Int32)) rfl ?_
   refine k_iand X1246 hx (hb hby at_236) (pc' := 237) rfl (fun v1248 hv1248 => ?_)
   refine k_ior X1246 hx (hb hby at_237) (pc' := 238) rfl (fun v1249 hv1249 => ?_)
   refine k_i2b X1246 hx (hb hby at_238) (pc' := 239) rfl (fun v1250 hv1250 => ?_)
   refine k_bastore X1246 hx hZ e1246 Vw1246 ⟨by decide, by decide⟩ (i := 2) rfl (Nat.le_of_ble_eq_true rfl) (hb hby at_239) (pc' := 240) rfl (fun T1251 h1251 X1251 e1251 W1251 V1251 => ?_)
   have hb1252 : v1250.toInt8.toInt32 = v1250 := by rw [hv1250]; exact k_i2b2 _
   rw [hb1252] at V1251
   have Vw1251 : Arv Z h1251 b1210 k1210 .byte (8 : Int32) [(.int v1212), (.int v1245), (.int v1250), (.int v1224), (.int v1228), (.int v1232), (.int v1236), (.int v1240)] (.int (0 : Int32)) := V1251
   have N1251 := Fr.snoc X1251 N1246 g_b1210
   have Z1251 : n0 ≤ h1251.size := Nat.le_trans Z1246 (Nat.le_of_eq W1251.size.symm)
   refine k_goto X1251 hx (hb hby at_240) (pc' := 376) (by decide) ?_
   refine k_aload X1251 hx (hb hby at_376) rfl rfl (pc' := 378) rfl ?_
   refine k_iload X1251 hx (hb hby at_378) rfl (pc' := 380) rfl ?_
   refine k_callS X1251 hx hZ hown (hw _ (List.mem_of_getElem? (i := 7) rfl)) (hw _ (List.mem_of_getElem? (i := 8) rfl)) (hw _ (List.mem_of_getElem? (i := 9) rfl)) (hw _ (List.mem_of_getElem? (i := 10) rfl)) (by decide) (rm2_323 l Z a0 hw [] b1210 k1210 v1212 v1245 v1250 v1224 v1228 v1232 v1236 v1240 h1251 n0 Z1251 Vw1251) (by decide) (by decide) e1251 (by rw [hml]; rfl) (argsL := [(.ref b1210), (.int (1 : Int32))]) (rest := []) (lenOf pd_2 rfl) rfl (W := 0) (Nat.le_refl _) rfl (hb hby at_380) (by decide) (by decide) (pc' := 383) rfl (fun T1253 L1253 r1253 X1253 q1253 => ?_)
   obtain ⟨N1253, e1253, q1253⟩ := q1253
   have N1253' := Fr.app N1251 N1253
   rcases q1253 with ⟨v1254, v1255, v1256, v1257, v1258, v1259, v1260, v1261, v1262, v1263, v1264, h1265, h1266, h1267, h1268, h1269, h1270, h1271, h1272, h1273, h1274, h1275, hc1276, hc1277, hc1278, rfl⟩ | ⟨v1279, v1280, v1281, v1282, v1283, v1284, v1285, v1286, h1287, h1288, h1289, h1290, h1291, h1292, h1293, h1294, hc1295, hc1296, hc1297, rfl⟩ | ⟨v1298, v1299, v1300, v1301, v1302, h1303, h1304, h1305, h1306, h1307, hc1308, hc1309, rfl⟩ | ⟨v1310, h1311, hc1312, rfl⟩
   ·
    show KEnds p e below s _ _ _ T1253 (mkF m 383 #[.val (.int i0), .val (.int i1), .val (.int i2), .val (.long i3), .second, .val (.int v1), .val (.int (1 : Int32)), .val (.int v996), .val (.int (1 : Int32)), .val (.ref b1210)] [(.int v1264)])
    exfalso
    have B1313 : (-2147483648 : Int) ≤ v996.toInt ∧ v996.toInt ≤ 2147483647 := ⟨(rng32 v996).1, Int.le_of_lt_add_one (rng32 v996).2⟩
    have B1316 : (128 : Int) ≤ v996.toInt ∧ v996.toInt ≤ 2147483647 := ⟨k_ge hP997.1 (by decide), B1313.2⟩
    have B1317 : (128 : Int) ≤ v996.toInt ∧ v996.toInt ≤ 2047 := ⟨B1316.1, k_le hP997.2 (by decide)⟩
    have B1318 : (128 : Int) ≤ (128 : Int32).toInt ∧ (128 : Int32).toInt ≤ 128 := (by decide)
    have q1319 := hP997.1; rw [Int32.lt_iff_toInt_lt] at q1319
    have B1320 : (2047 : Int) ≤ (2047 : Int32).toInt ∧ (2047 : Int32).toInt ≤ 2047 := (by decide)
    have q1321 := hP997.2; rw [Int32.lt_iff_toInt_lt] at q1321
    have q1329 : v1243.toInt = v996.toInt / 64 := (by rw [hv1243]; exact c_ishr _ _ 6 (by decide))
    have B1328 : (2 : Int) ≤ v1243.toInt ∧ v1243.toInt ≤ 31 := (by rw [q1329]; exact k_divB B1317 (by decide) (by decide) (by decide))
    have q1327 : v1244.toInt = 192 + v1243.toInt := k_orx (k := 6) hv1244 B1328 (by decide) (by decide) (by decide) (by decide) (by decide) (by decide)
    have B1326 : (194 : Int) ≤ v1244.toInt ∧ v1244.toInt ≤ 223 := k_caddB q1327 B1328
    have q1325 : v1245.toInt = v1244.toInt - 256 := k_i2by hv1245 B1326 (by decide) (by decide)
    have B1324 : (-62 : Int) ≤ v1245.toInt ∧ v1245.toInt ≤ -33 := k_subB q1325 B1326
    have q1323 : v1254.toInt = v1245.toInt - (-256) := (by rw [h1265, c_mask _ _ 8 (by decide) (by decide)]; exact k_modx B1324 (by decide) (by decide))
    have B1322 : (194 : Int) ≤ v1254.toInt ∧ v1254.toInt ≤ 223 := k_subB q1323 B1324
    have B1330 : (224 : Int) ≤ v1254.toInt ∧ v1254.toInt ≤ 223 := ⟨k_ge hc1277 (by decide), B1322.2⟩
    have B1331 : (240 : Int) ≤ v1254.toInt ∧ v1254.toInt ≤ 223 := ⟨k_ge hc1278 (by decide), B1330.2⟩
    have q1332 := hc1276; rw [Int32.lt_iff_toInt_lt] at q1332
    have B1333 : (224 : Int) ≤ (224 : Int32).toInt ∧ (224 : Int32).toInt ≤ 224 := (by decide)
    have q1334 := hc1277; rw [Int32.lt_iff_toInt_lt] at q1334
    have B1335 : (240 : Int) ≤ (240 : Int32).toInt ∧ (240 : Int32).toInt ≤ 240 := (by decide)
    have q1336 := hc1278; rw [Int32.lt_iff_toInt_lt] at q1336
    omega
   ·
    show KEnds p e below s _ _ _ T1253 (mkF m 383 #[.val (.int i0), .val (.int i1), .val (.int i2), .val (.long i3), .second, .val (.int v1), .val (.int (1 : Int32)), .val (.int v996), .val (.int (1 : Int32)), .val (.ref b1210)] [(.int v1286)])
    exfalso
    have B1337 : (-2147483648 : Int) ≤ v996.toInt ∧ v996.toInt ≤ 2147483647 := ⟨(rng32 v996).1, Int.le_of_lt_add_one (rng32 v996).2⟩
    have B1340 : (128 : Int) ≤ v996.toInt ∧ v996.toInt ≤ 2147483647 := ⟨k_ge hP997.1 (by decide), B1337.2⟩
    have B1341 : (128 : Int) ≤ v996.toInt ∧ v996.toInt ≤ 2047 := ⟨B1340.1, k_le hP997.2 (by decide)⟩
    have B1342 : (128 : Int) ≤ (128 : Int32).toInt ∧ (128 : Int32).toInt ≤ 128 := (by decide)
    have q1343 := hP997.1; rw [Int32.lt_iff_toInt_lt] at q1343
    have B1344 : (2047 : Int) ≤ (2047 : Int32).toInt ∧ (2047 : Int32).toInt ≤ 2047 := (by decide)
    have q1345 := hP997.2; rw [Int32.lt_iff_toInt_lt] at q1345
    have q1353 : v1243.toInt = v996.toInt / 64 := (by rw [hv1243]; exact c_ishr _ _ 6 (by decide))
    have B1352 : (2 : Int) ≤ v1243.toInt ∧ v1243.toInt ≤ 31 := (by rw [q1353]; exact k_divB B1341 (by decide) (by decide) (by decide))
    have q1351 : v1244.toInt = 192 + v1243.toInt := k_orx (k := 6) hv1244 B1352 (by decide) (by decide) (by decide) (by decide) (by decide) (by decide)
    have B1350 : (194 : Int) ≤ v1244.toInt ∧ v1244.toInt ≤ 223 := k_caddB q1351 B1352
    have q1349 : v1245.toInt = v1244.toInt - 256 := k_i2by hv1245 B1350 (by decide) (by decide)
    have B1348 : (-62 : Int) ≤ v1245.toInt ∧ v1245.toInt ≤ -33 := k_subB q1349 B1350
    have q1347 : v1279.toInt = v1245.toInt - (-256) := (by rw [h1287, c_mask _ _ 8 (by decide) (by decide)]; exact k_modx B1348 (by decide) (by decide))
    have B1346 : (194 : Int) ≤ v1279.toInt ∧ v1279.toInt ≤ 223 := k_subB q1347 B1348
    have B1354 : (224 : Int) ≤ v1279.toInt ∧ v1279.toInt ≤ 223 := ⟨k_ge hc1296 (by decide), B1346.2⟩
    have q1355 := hc1295; rw [Int32.lt_iff_toInt_lt] at q1355
    have B1356 : (224 : Int) ≤ (224 : Int32).toInt ∧ (224 : Int32).toInt ≤ 224 := (by decide)
    have q1357 := hc1296; rw [Int32.lt_iff_toInt_lt] at q1357
    have B1358 : (240 : Int) ≤ (240 : Int32).toInt ∧ (240 : Int32).toInt ≤ 240 := (by decide)
    have q1359 := hc1297; rw [Int32.lt_iff_toInt_lt] at q1359
    omega
   ·
    show KEnds p e below s _ _ _ T1253 (mkF m 383 #[.val (.int i0), .val (.int i1), .val (.int i2), .val (.long i3), .second, .val (.int v1), .val (.int (1 : Int32)), .val (.int v996), .val (.int (1 : Int32)), .val (.ref b1210)] [(.int v1302)])
    refine k_iload X1253 hx (hb hby at_383) rfl (pc' := 385) rfl ?_
    refine k_icmp_ne X1253 hx (hb hby at_385) (pn := 388) rfl (py := 392) (by decide) (fun hc1360 => ?_) (fun hc1360 => ?_)
    ·
     refine k_iconst X1253 hx (hb hby at_392) (pc' := 393) rfl (z := (0 : Int32)) rfl ?_
     exfalso
     have B1361 : (-2147483648 : Int) ≤ v996.toInt ∧ v996.toInt ≤ 2147483647 := ⟨(rng32 v996).1, Int.le_of_lt_add_one (rng32 v996).2⟩
     have B1364 : (128 : Int) ≤ v996.toInt ∧ v996.toInt ≤ 2147483647 := ⟨k_ge hP997.1 (by decide), B1361.2⟩
     have B1365 : (128 : Int) ≤ v996.toInt ∧ v996.toInt ≤ 2047 := ⟨B1364.1, k_le hP997.2 (by decide)⟩
     have B1366 : (128 : Int) ≤ (128 : Int32).toInt ∧ (128 : Int32).toInt ≤ 128 := (by decide)
     have q1367 := hP997.1; rw [Int32.lt_iff_toInt_lt] at q1367
     have B1368 : (2047 : Int) ≤ (2047 : Int32).toInt ∧ (2047 : Int32).toInt ≤ 2047 := (by decide)
     have q1369 := hP997.2; rw [Int32.lt_iff_toInt_lt] at q1369
     have q1377 : v1243.toInt = v996.toInt / 64 := (by rw [hv1243]; exact c_ishr _ _ 6 (by decide))
     have B1376 : (2 : Int) ≤ v1243.toInt ∧ v1243.toInt ≤ 31 := (by rw [q1377]; exact k_divB B1365 (by decide) (by decide) (by decide))
     have q1375 : v1244.toInt = 192 + v1243.toInt := k_orx (k := 6) hv1244 B1376 (by decide) (by decide) (by decide) (by decide) (by decide) (by decide)
     have B1374 : (194 : Int) ≤ v1244.toInt ∧ v1244.toInt ≤ 223 := k_caddB q1375 B1376
     have q1373 : v1245.toInt = v1244.toInt - 256 := k_i2by hv1245 B1374 (by decide) (by decide)
     have B1372 : (-62 : Int) ≤ v1245.toInt ∧ v1245.toInt ≤ -33 := k_subB q1373 B1374
     have q1371 : v1298.toInt = v1245.toInt - (-256) := (by rw [h1303, c_mask _ _ 8 (by decide) (by decide)]; exact k_modx B1372 (by decide) (by decide))
     have B1370 : (194 : Int) ≤ v1298.toInt ∧ v1298.toInt ≤ 223 := k_subB q1371 B1372
     have q1378 := hc1308; rw [Int32.lt_iff_toInt_lt] at q1378
     have B1379 : (224 : Int) ≤ (224 : Int32).toInt ∧ (224 : Int32).toInt ≤ 224 := (by decide)
     have q1380 := hc1309; rw [Int32.lt_iff_toInt_lt] at q1380
     have q1386 : v1299.toInt = v1298.toInt - (192) := (by rw [h1304, c_mask _ _ 5 (by decide) (by decide)]; exact k_modx B1370 (by decide) (by decide))
     have B1385 : (2 : Int) ≤ v1299.toInt ∧ v1299.toInt ≤ 31 := k_subB q1386 B1370
     have q1384 : v1300.toInt = 64 * v1299.toInt := k_ishlx (k := 6) h1305 B1385 (by decide) (by decide) (by decide)
     have B1383 : (128 : Int) ≤ v1300.toInt ∧ v1300.toInt ≤ 1984 := (by rw [q1384]; exact k_mulB B1385 (by decide))
     have q1394 : v1248.toInt = v996.toInt % 64 := (by rw [hv1248]; exact c_mask _ _ 6 (by decide) (by decide))
     have B1393 : (0 : Int) ≤ v1248.toInt ∧ v1248.toInt ≤ 63 := (by rw [q1394]; exact k_modB (by decide))
     have q1392 : v1249.toInt = 128 + v1248.toInt := k_orx (k := 7) hv1249 B1393 (by decide) (by decide) (by decide) (by decide) (by decide) (by decide)
     have B1391 : (128 : Int) ≤ v1249.toInt ∧ v1249.toInt ≤ 191 := k_caddB q1392 B1393
     have q1390 : v1250.toInt = v1249.toInt - 256 := k_i2by hv1250 B1391 (by decide) (by decide)
     have B1389 : (-128 : Int) ≤ v1250.toInt ∧ v1250.toInt ≤ -65 := k_subB q1390 B1391
     have q1388 : v1301.toInt = v1250.toInt - (-128) := (by rw [h1306, c_mask _ _ 6 (by decide) (by decide)]; exact k_modx B1389 (by decide) (by decide))
     have B1387 : (0 : Int) ≤ v1301.toInt ∧ v1301.toInt ≤ 63 := k_subB q1388 B1389
     have q1382 : v1302.toInt = v1300.toInt + v1301.toInt := k_orx2 (k := 6) h1307 B1383 B1387 (by decide) (by decide) (by decide) (by decide) (by omega)
     have B1381 : (128 : Int) ≤ v1302.toInt ∧ v1302.toInt ≤ 2047 := k_addB q1382 B1383 B1387
     have q1395 : ¬ v1302.toInt = v996.toInt := fun q => hc1360 (Int32.toInt_inj.mp q)
     omega
    ·
     refine k_iconst X1253 hx (hb hby at_388) (pc' := 389) rfl (z := (1 : Int32)) rfl ?_
     refine k_goto X1253 hx (hb hby at_389) (pc' := 393) (by decide) ?_
     exact k_retN X1253 hx (t := .boolean) Bd.returns (by simp) (hb hby at_393) hlk (by decide) (by decide) (z' := (1 : Int32)) rfl ⟨rfl, N1253'⟩
   ·
    show KEnds p e below s _ _ _ T1253 (mkF m 383 #[.val (.int i0), .val (.int i1), .val (.int i2), .val (.long i3), .second, .val (.int v1), .val (.int (1 : Int32)), .val (.int v996), .val (.int (1 : Int32)), .val (.ref b1210)] [(.int v1310)])
    exfalso
    have B1396 : (-2147483648 : Int) ≤ v996.toInt ∧ v996.toInt ≤ 2147483647 := ⟨(rng32 v996).1, Int.le_of_lt_add_one (rng32 v996).2⟩
    have B1399 : (128 : Int) ≤ v996.toInt ∧ v996.toInt ≤ 2147483647 := ⟨k_ge hP997.1 (by decide), B1396.2⟩
    have B1400 : (128 : Int) ≤ v996.toInt ∧ v996.toInt ≤ 2047 := ⟨B1399.1, k_le hP997.2 (by decide)⟩
    have B1401 : (128 : Int) ≤ (128 : Int32).toInt ∧ (128 : Int32).toInt ≤ 128 := (by decide)
    have q1402 := hP997.1; rw [Int32.lt_iff_toInt_lt] at q1402
    have B1403 : (2047 : Int) ≤ (2047 : Int32).toInt ∧ (2047 : Int32).toInt ≤ 2047 := (by decide)
    have q1404 := hP997.2; rw [Int32.lt_iff_toInt_lt] at q1404
    have q1412 : v1243.toInt = v996.toInt / 64 := (by rw [hv1243]; exact c_ishr _ _ 6 (by decide))
    have B1411 : (2 : Int) ≤ v1243.toInt ∧ v1243.toInt ≤ 31 := (by rw [q1412]; exact k_divB B1400 (by decide) (by decide) (by decide))
    have q1410 : v1244.toInt = 192 + v1243.toInt := k_orx (k := 6) hv1244 B1411 (by decide) (by decide) (by decide) (by decide) (by decide) (by decide)
    have B1409 : (194 : Int) ≤ v1244.toInt ∧ v1244.toInt ≤ 223 := k_caddB q1410 B1411
    have q1408 : v1245.toInt = v1244.toInt - 256 := k_i2by hv1245 B1409 (by decide) (by decide)
    have B1407 : (-62 : Int) ≤ v1245.toInt ∧ v1245.toInt ≤ -33 := k_subB q1408 B1409
    have q1406 : v1310.toInt = v1245.toInt - (-256) := (by rw [h1311, c_mask _ _ 8 (by decide) (by decide)]; exact k_modx B1407 (by decide) (by decide))
    have B1405 : (194 : Int) ≤ v1310.toInt ∧ v1310.toInt ≤ 223 := k_subB q1406 B1407
    have B1413 : (194 : Int) ≤ v1310.toInt ∧ v1310.toInt ≤ 127 := ⟨B1405.1, k_lt hc1312 (by decide)⟩
    have q1414 := hc1312; rw [Int32.lt_iff_toInt_lt] at q1414
    omega
  ·
   show KEnds p e below s _ _ _ s₁ (mkF m 102 #[.val (.int i0), .val (.int i1), .val (.int i2), .val (.long i3), .second, .val (.int v1), .val (.int (1 : Int32)), .val (.int v996), .unset, .unset] [(.int (2 : Int32))])
   refine k_istore X0 hx (hb hby at_102) (Ls' := #[.val (.int i0), .val (.int i1), .val (.int i2), .val (.long i3), .second, .val (.int v1), .val (.int (1 : Int32)), .val (.int v996), .val (.int (2 : Int32)), .unset]) rfl (pc' := 104) rfl ?_
   refine k_bipush X0 hx (hb hby at_104) (pc' := 106) rfl (z := (8 : Int32)) rfl ?_
   refine k_newA X0 hx hZ (hw _ (List.mem_of_getElem? (i := 1) rfl)) e0 (hb hby at_106) (by decide) (cap := 8) (by decide) (by decide) (by decide) (by decide) (pc' := 108) rfl (fun T1416 h1416 b1416 k1416 g1416 X1416 e1416 E1416 V1416 => ?_)
   have g_b1416 : n0 ≤ b1416 := Nat.le_trans Z0 (Nat.le_of_eq g1416.symm)
   have Z1416 : n0 ≤ h1416.size := Nat.le_trans Z0 E1416.1
   have Vw1416 : Arv Z h1416 b1416 k1416 .byte (8 : Int32) [(.int (0 : Int32)), (.int (0 : Int32)), (.int (0 : Int32)), (.int (0 : Int32)), (.int (0 : Int32)), (.int (0 : Int32)), (.int (0 : Int32)), (.int (0 : Int32))] (.int (0 : Int32)) := V1416
   refine k_astore X1416 hx (hb hby at_108) rfl (Ls' := #[.val (.int i0), .val (.int i1), .val (.int i2), .val (.long i3), .second, .val (.int v1), .val (.int (1 : Int32)), .val (.int v996), .val (.int (2 : Int32)), .val (.ref b1416)]) rfl (pc' := 110) rfl ?_
   refine k_aload X1416 hx (hb hby at_110) rfl rfl (pc' := 112) rfl ?_
   refine k_iconst X1416 hx (hb hby at_112) (pc' := 113) rfl (z := (0 : Int32)) rfl ?_
   refine k_lloadN X1416 hx (hb hby at_113) rfl (pc' := 114) rfl ?_
   refine k_iconst X1416 hx (hb hby at_114) (pc' := 115) rfl (z := (0 : Int32)) rfl ?_
   refine k_callS X1416 hx hZ hown (hw _ (List.mem_of_getElem? (i := 2) rfl)) (hw _ (List.mem_of_getElem? (i := 3) rfl)) (hw _ (List.mem_of_getElem? (i := 4) rfl)) (hw _ (List.mem_of_getElem? (i := 5) rfl)) (by decide) (rm1_55 l Z a0 hw [] i3 h1416 n0 Z1416 ) (by decide) (by decide) e1416 (by rw [hml]; rfl) (argsL := [(.long i3), (.int (0 : Int32))]) (rest := [(.int (0 : Int32)), (.ref b1416)]) (lenOf pd_0 rfl) rfl (W := 2) (Nat.le_refl _) rfl (hb hby at_115) (by decide) (by decide) (pc' := 118) rfl (fun T1417 L1417 r1417 X1417 q1417 => ?_)
   obtain ⟨N1417, e1417, rfl⟩ := q1417
   have N1417' := Fr.app N0 N1417
   show KEnds p e below s _ _ _ T1417 (mkF m 118 #[.val (.int i0), .val (.int i1), .val (.int i2), .val (.long i3), .second, .val (.int v1), .val (.int (1 : Int32)), .val (.int v996), .val (.int (2 : Int32)), .val (.ref b1416)] ((.int (f1_55 i3)) :: (.int (0 : Int32)) :: (.ref b1416) :: []))
   obtain ⟨v1418, hv1418⟩ : ∃ z, z = f1_55 i3 := ⟨_, rfl⟩
   rw [← hv1418]
   have hb1419 : v1418.toInt8.toInt32 = v1418 := by rw [hv1418]; exact f1_55_byte i3
   refine k_bastore X1417 hx hZ e1417 Vw1416 ⟨by decide, by decide⟩ (i := 0) rfl (Nat.le_of_ble_eq_true rfl) (hb hby at_118) (pc' := 119) rfl (fun T1420 h1420 X1420 e1420 W1420 V1420 => ?_)
   rw [hb1419] at V1420
   have Vw1420 : Arv Z h1420 b1416 k1416 .byte (8 : Int32) [(.int v1418), (.int (0 : Int32)), (.int (0 : Int32)), (.int (0 : Int32)), (.int (0 : Int32)), (.int (0 : Int32)), (.int (0 : Int32)), (.int (0 : Int32))] (.int (0 : Int32)) := V1420
   have N1420 := Fr.snoc X1420 N1417' g_b1416
   have Z1420 : n0 ≤ h1420.size := Nat.le_trans Z1416 (Nat.le_of_eq W1420.size.symm)
   refine k_aload X1420 hx (hb hby at_119) rfl rfl (pc' := 121) rfl ?_
   refine k_iconst X1420 hx (hb hby at_121) (pc' := 122) rfl (z := (1 : Int32)) rfl ?_
   refine k_lloadN X1420 hx (hb hby at_122) rfl (pc' := 123) rfl ?_
   refine k_iconst X1420 hx (hb hby at_123) (pc' := 124) rfl (z := (1 : Int32)) rfl ?_
   refine k_callS X1420 hx hZ hown (hw _ (List.mem_of_getElem? (i := 2) rfl)) (hw _ (List.mem_of_getElem? (i := 3) rfl)) (hw _ (List.mem_of_getElem? (i := 4) rfl)) (hw _ (List.mem_of_getElem? (i := 5) rfl)) (by decide) (rm1_60 l Z a0 hw [] i3 h1420 n0 Z1420 ) (by decide) (by decide) e1420 (by rw [hml]; rfl) (argsL := [(.long i3), (.int (1 : Int32))]) (rest := [(.int (1 : Int32)), (.ref b1416)]) (lenOf pd_0 rfl) rfl (W := 2) (Nat.le_refl _) rfl (hb hby at_124) (by decide) (by decide) (pc' := 127) rfl (fun T1421 L1421 r1421 X1421 q1421 => ?_)
   obtain ⟨N1421, e1421, rfl⟩ := q1421
   have N1421' := Fr.app N1420 N1421
   show KEnds p e below s _ _ _ T1421 (mkF m 127 #[.val (.int i0), .val (.int i1), .val (.int i2), .val (.long i3), .second, .val (.int v1), .val (.int (1 : Int32)), .val (.int v996), .val (.int (2 : Int32)), .val (.ref b1416)] ((.int (f1_60 i3)) :: (.int (1 : Int32)) :: (.ref b1416) :: []))
   obtain ⟨v1422, hv1422⟩ : ∃ z, z = f1_60 i3 := ⟨_, rfl⟩
   rw [← hv1422]
   have hb1423 : v1422.toInt8.toInt32 = v1422 := by rw [hv1422]; exact f1_60_byte i3
   refine k_bastore X1421 hx hZ e1421 Vw1420 ⟨by decide, by decide⟩ (i := 1) rfl (Nat.le_of_ble_eq_true rfl) (hb hby at_127) (pc' := 128) rfl (fun T1424 h1424 X1424 e1424 W1424 V1424 => ?_)
   rw [hb1423] at V1424
   have Vw1424 : Arv Z h1424 b1416 k1416 .byte (8 : Int32) [(.int v1418), (.int v1422), (.int (0 : Int32)), (.int (0 : Int32)), (.int (0 : Int32)), (.int (0 : Int32)), (.int (0 : Int32)), (.int (0 : Int32))] (.int (0 : Int32)) := V1424
   have N1424 := Fr.snoc X1424 N1421' g_b1416
   have Z1424 : n0 ≤ h1424.size := Nat.le_trans Z1420 (Nat.le_of_eq W1424.size.symm)
   refine k_aload X1424 hx (hb hby at_128) rfl rfl (pc' := 130) rfl ?_
   refine k_iconst X1424 hx (hb hby at_130) (pc' := 131) rfl (z := (2 : Int32)) rfl ?_
   refine k_lloadN X1424 hx (hb hby at_131) rfl (pc' := 132) rfl ?_
   refine k_iconst X1424 hx (hb hby at_132) (pc' := 133) rfl (z := (2 : Int32)) rfl ?_
   refine k_callS X1424 hx hZ hown (hw _ (List.mem_of_getElem? (i := 2) rfl)) (hw _ (List.mem_of_getElem? (i := 3) rfl)) (hw _ (List.mem_of_getElem? (i := 4) rfl)) (hw _ (List.mem_of_getElem? (i := 5) rfl)) (by decide) (rm1_65 l Z a0 hw [] i3 h1424 n0 Z1424 ) (by decide) (by decide) e1424 (by rw [hml]; rfl) (argsL := [(.long i3), (.int (2 : Int32))]) (rest := [(.int (2 : Int32)), (.ref b1416)]) (lenOf pd_0 rfl) rfl (W := 2) (Nat.le_refl _) rfl (hb hby at_133) (by decide) (by decide) (pc' := 136) rfl (fun T1425 L1425 r1425 X1425 q1425 => ?_)
   obtain ⟨N1425, e1425, rfl⟩ := q1425
   have N1425' := Fr.app N1424 N1425
   show KEnds p e below s _ _ _ T1425 (mkF m 136 #[.val (.int i0), .val (.int i1), .val (.int i2), .val (.long i3), .second, .val (.int v1), .val (.int (1 : Int32)), .val (.int v996), .val (.int (2 : Int32)), .val (.ref b1416)] ((.int (f1_65 i3)) :: (.int (2 : Int32)) :: (.ref b1416) :: []))
   obtain ⟨v1426, hv1426⟩ : ∃ z, z = f1_65 i3 := ⟨_, rfl⟩
   rw [← hv1426]
   have hb1427 : v1426.toInt8.toInt32 = v1426 := by rw [hv1426]; exact f1_65_byte i3
   refine k_bastore X1425 hx hZ e1425 Vw1424 ⟨by decide, by decide⟩ (i := 2) rfl (Nat.le_of_ble_eq_true rfl) (hb hby at_136) (pc' := 137) rfl (fun T1428 h1428 X1428 e1428 W1428 V1428 => ?_)
   rw [hb1427] at V1428
   have Vw1428 : Arv Z h1428 b1416 k1416 .byte (8 : Int32) [(.int v1418), (.int v1422), (.int v1426), (.int (0 : Int32)), (.int (0 : Int32)), (.int (0 : Int32)), (.int (0 : Int32)), (.int (0 : Int32))] (.int (0 : Int32)) := V1428
   have N1428 := Fr.snoc X1428 N1425' g_b1416
   have Z1428 : n0 ≤ h1428.size := Nat.le_trans Z1424 (Nat.le_of_eq W1428.size.symm)
   refine k_aload X1428 hx (hb hby at_137) rfl rfl (pc' := 139) rfl ?_
   refine k_iconst X1428 hx (hb hby at_139) (pc' := 140) rfl (z := (3 : Int32)) rfl ?_
   refine k_lloadN X1428 hx (hb hby at_140) rfl (pc' := 141) rfl ?_
   refine k_iconst X1428 hx (hb hby at_141) (pc' := 142) rfl (z := (3 : Int32)) rfl ?_
   refine k_callS X1428 hx hZ hown (hw _ (List.mem_of_getElem? (i := 2) rfl)) (hw _ (List.mem_of_getElem? (i := 3) rfl)) (hw _ (List.mem_of_getElem? (i := 4) rfl)) (hw _ (List.mem_of_getElem? (i := 5) rfl)) (by decide) (rm1_70 l Z a0 hw [] i3 h1428 n0 Z1428 ) (by decide) (by decide) e1428 (by rw [hml]; rfl) (argsL := [(.long i3), (.int (3 : Int32))]) (rest := [(.int (3 : Int32)), (.ref b1416)]) (lenOf pd_0 rfl) rfl (W := 2) (Nat.le_refl _) rfl (hb hby at_142) (by decide) (by decide) (pc' := 145) rfl (fun T1429 L1429 r1429 X1429 q1429 => ?_)
   obtain ⟨N1429, e1429, rfl⟩ := q1429
   have N1429' := Fr.app N1428 N1429
   show KEnds p e below s _ _ _ T1429 (mkF m 145 #[.val (.int i0), .val (.int i1), .val (.int i2), .val (.long i3), .second, .val (.int v1), .val (.int (1 : Int32)), .val (.int v996), .val (.int (2 : Int32)), .val (.ref b1416)] ((.int (f1_70 i3)) :: (.int (3 : Int32)) :: (.ref b1416) :: []))
   obtain ⟨v1430, hv1430⟩ : ∃ z, z = f1_70 i3 := ⟨_, rfl⟩
   rw [← hv1430]
   have hb1431 : v1430.toInt8.toInt32 = v1430 := by rw [hv1430]; exact f1_70_byte i3
   refine k_bastore X1429 hx hZ e1429 Vw1428 ⟨by decide, by decide⟩ (i := 3) rfl (Nat.le_of_ble_eq_true rfl) (hb hby at_145) (pc' := 146) rfl (fun T1432 h1432 X1432 e1432 W1432 V1432 => ?_)
   rw [hb1431] at V1432
   have Vw1432 : Arv Z h1432 b1416 k1416 .byte (8 : Int32) [(.int v1418), (.int v1422), (.int v1426), (.int v1430), (.int (0 : Int32)), (.int (0 : Int32)), (.int (0 : Int32)), (.int (0 : Int32))] (.int (0 : Int32)) := V1432
   have N1432 := Fr.snoc X1432 N1429' g_b1416
   have Z1432 : n0 ≤ h1432.size := Nat.le_trans Z1428 (Nat.le_of_eq W1432.size.symm)
   refine k_aload X1432 hx (hb hby at_146) rfl rfl (pc' := 148) rfl ?_
   refine k_iconst X1432 hx (hb hby at_148) (pc' := 149) rfl (z := (4 : Int32)) rfl ?_
   refine k_lloadN X1432 hx (hb hby at_149) rfl (pc' := 150) rfl ?_
   refine k_iconst X1432 hx (hb hby at_150) (pc' := 151) rfl (z := (4 : Int32)) rfl ?_
   refine k_callS X1432 hx hZ hown (hw _ (List.mem_of_getElem? (i := 2) rfl)) (hw _ (List.mem_of_getElem? (i := 3) rfl)) (hw _ (List.mem_of_getElem? (i := 4) rfl)) (hw _ (List.mem_of_getElem? (i := 5) rfl)) (by decide) (rm1_75 l Z a0 hw [] i3 h1432 n0 Z1432 ) (by decide) (by decide) e1432 (by rw [hml]; rfl) (argsL := [(.long i3), (.int (4 : Int32))]) (rest := [(.int (4 : Int32)), (.ref b1416)]) (lenOf pd_0 rfl) rfl (W := 2) (Nat.le_refl _) rfl (hb hby at_151) (by decide) (by decide) (pc' := 154) rfl (fun T1433 L1433 r1433 X1433 q1433 => ?_)
   obtain ⟨N1433, e1433, rfl⟩ := q1433
   have N1433' := Fr.app N1432 N1433
   show KEnds p e below s _ _ _ T1433 (mkF m 154 #[.val (.int i0), .val (.int i1), .val (.int i2), .val (.long i3), .second, .val (.int v1), .val (.int (1 : Int32)), .val (.int v996), .val (.int (2 : Int32)), .val (.ref b1416)] ((.int (f1_75 i3)) :: (.int (4 : Int32)) :: (.ref b1416) :: []))
   obtain ⟨v1434, hv1434⟩ : ∃ z, z = f1_75 i3 := ⟨_, rfl⟩
   rw [← hv1434]
   have hb1435 : v1434.toInt8.toInt32 = v1434 := by rw [hv1434]; exact f1_75_byte i3
   refine k_bastore X1433 hx hZ e1433 Vw1432 ⟨by decide, by decide⟩ (i := 4) rfl (Nat.le_of_ble_eq_true rfl) (hb hby at_154) (pc' := 155) rfl (fun T1436 h1436 X1436 e1436 W1436 V1436 => ?_)
   rw [hb1435] at V1436
   have Vw1436 : Arv Z h1436 b1416 k1416 .byte (8 : Int32) [(.int v1418), (.int v1422), (.int v1426), (.int v1430), (.int v1434), (.int (0 : Int32)), (.int (0 : Int32)), (.int (0 : Int32))] (.int (0 : Int32)) := V1436
   have N1436 := Fr.snoc X1436 N1433' g_b1416
   have Z1436 : n0 ≤ h1436.size := Nat.le_trans Z1432 (Nat.le_of_eq W1436.size.symm)
   refine k_aload X1436 hx (hb hby at_155) rfl rfl (pc' := 157) rfl ?_
   refine k_iconst X1436 hx (hb hby at_157) (pc' := 158) rfl (z := (5 : Int32)) rfl ?_
   refine k_lloadN X1436 hx (hb hby at_158) rfl (pc' := 159) rfl ?_
   refine k_iconst X1436 hx (hb hby at_159) (pc' := 160) rfl (z := (5 : Int32)) rfl ?_
   refine k_callS X1436 hx hZ hown (hw _ (List.mem_of_getElem? (i := 2) rfl)) (hw _ (List.mem_of_getElem? (i := 3) rfl)) (hw _ (List.mem_of_getElem? (i := 4) rfl)) (hw _ (List.mem_of_getElem? (i := 5) rfl)) (by decide) (rm1_80 l Z a0 hw [] i3 h1436 n0 Z1436 ) (by decide) (by decide) e1436 (by rw [hml]; rfl) (argsL := [(.long i3), (.int (5 : Int32))]) (rest := [(.int (5 : Int32)), (.ref b1416)]) (lenOf pd_0 rfl) rfl (W := 2) (Nat.le_refl _) rfl (hb hby at_160) (by decide) (by decide) (pc' := 163) rfl (fun T1437 L1437 r1437 X1437 q1437 => ?_)
   obtain ⟨N1437, e1437, rfl⟩ := q1437
   have N1437' := Fr.app N1436 N1437
   show KEnds p e below s _ _ _ T1437 (mkF m 163 #[.val (.int i0), .val (.int i1), .val (.int i2), .val (.long i3), .second, .val (.int v1), .val (.int (1 : Int32)), .val (.int v996), .val (.int (2 : Int32)), .val (.ref b1416)] ((.int (f1_80 i3)) :: (.int (5 : Int32)) :: (.ref b1416) :: []))
   obtain ⟨v1438, hv1438⟩ : ∃ z, z = f1_80 i3 := ⟨_, rfl⟩
   rw [← hv1438]
   have hb1439 : v1438.toInt8.toInt32 = v1438 := by rw [hv1438]; exact f1_80_byte i3
   refine k_bastore X1437 hx hZ e1437 Vw1436 ⟨by decide, by decide⟩ (i := 5) rfl (Nat.le_of_ble_eq_true rfl) (hb hby at_163) (pc' := 164) rfl (fun T1440 h1440 X1440 e1440 W1440 V1440 => ?_)
   rw [hb1439] at V1440
   have Vw1440 : Arv Z h1440 b1416 k1416 .byte (8 : Int32) [(.int v1418), (.int v1422), (.int v1426), (.int v1430), (.int v1434), (.int v1438), (.int (0 : Int32)), (.int (0 : Int32))] (.int (0 : Int32)) := V1440
   have N1440 := Fr.snoc X1440 N1437' g_b1416
   have Z1440 : n0 ≤ h1440.size := Nat.le_trans Z1436 (Nat.le_of_eq W1440.size.symm)
   refine k_aload X1440 hx (hb hby at_164) rfl rfl (pc' := 166) rfl ?_
   refine k_bipush X1440 hx (hb hby at_166) (pc' := 168) rfl (z := (6 : Int32)) rfl ?_
   refine k_lloadN X1440 hx (hb hby at_168) rfl (pc' := 169) rfl ?_
   refine k_bipush X1440 hx (hb hby at_169) (pc' := 171) rfl (z := (6 : Int32)) rfl ?_
   refine k_callS X1440 hx hZ hown (hw _ (List.mem_of_getElem? (i := 2) rfl)) (hw _ (List.mem_of_getElem? (i := 3) rfl)) (hw _ (List.mem_of_getElem? (i := 4) rfl)) (hw _ (List.mem_of_getElem? (i := 5) rfl)) (by decide) (rm1_85 l Z a0 hw [] i3 h1440 n0 Z1440 ) (by decide) (by decide) e1440 (by rw [hml]; rfl) (argsL := [(.long i3), (.int (6 : Int32))]) (rest := [(.int (6 : Int32)), (.ref b1416)]) (lenOf pd_0 rfl) rfl (W := 2) (Nat.le_refl _) rfl (hb hby at_171) (by decide) (by decide) (pc' := 174) rfl (fun T1441 L1441 r1441 X1441 q1441 => ?_)
   obtain ⟨N1441, e1441, rfl⟩ := q1441
   have N1441' := Fr.app N1440 N1441
   show KEnds p e below s _ _ _ T1441 (mkF m 174 #[.val (.int i0), .val (.int i1), .val (.int i2), .val (.long i3), .second, .val (.int v1), .val (.int (1 : Int32)), .val (.int v996), .val (.int (2 : Int32)), .val (.ref b1416)] ((.int (f1_85 i3)) :: (.int (6 : Int32)) :: (.ref b1416) :: []))
   obtain ⟨v1442, hv1442⟩ : ∃ z, z = f1_85 i3 := ⟨_, rfl⟩
   rw [← hv1442]
   have hb1443 : v1442.toInt8.toInt32 = v1442 := by rw [hv1442]; exact f1_85_byte i3
   refine k_bastore X1441 hx hZ e1441 Vw1440 ⟨by decide, by decide⟩ (i := 6) rfl (Nat.le_of_ble_eq_true rfl) (hb hby at_174) (pc' := 175) rfl (fun T1444 h1444 X1444 e1444 W1444 V1444 => ?_)
   rw [hb1443] at V1444
   have Vw1444 : Arv Z h1444 b1416 k1416 .byte (8 : Int32) [(.int v1418), (.int v1422), (.int v1426), (.int v1430), (.int v1434), (.int v1438), (.int v1442), (.int (0 : Int32))] (.int (0 : Int32)) := V1444
   have N1444 := Fr.snoc X1444 N1441' g_b1416
   have Z1444 : n0 ≤ h1444.size := Nat.le_trans Z1440 (Nat.le_of_eq W1444.size.symm)
   refine k_aload X1444 hx (hb hby at_175) rfl rfl (pc' := 177) rfl ?_
   refine k_bipush X1444 hx (hb hby at_177) (pc' := 179) rfl (z := (7 : Int32)) rfl ?_
   refine k_lloadN X1444 hx (hb hby at_179) rfl (pc' := 180) rfl ?_
   refine k_bipush X1444 hx (hb hby at_180) (pc' := 182) rfl (z := (7 : Int32)) rfl ?_
   refine k_callS X1444 hx hZ hown (hw _ (List.mem_of_getElem? (i := 2) rfl)) (hw _ (List.mem_of_getElem? (i := 3) rfl)) (hw _ (List.mem_of_getElem? (i := 4) rfl)) (hw _ (List.mem_of_getElem? (i := 5) rfl)) (by decide) (rm1_90 l Z a0 hw [] i3 h1444 n0 Z1444 ) (by decide) (by decide) e1444 (by rw [hml]; rfl) (argsL := [(.long i3), (.int (7 : Int32))]) (rest := [(.int (7 : Int32)), (.ref b1416)]) (lenOf pd_0 rfl) rfl (W := 2) (Nat.le_refl _) rfl (hb hby at_182) (by decide) (by decide) (pc' := 185) rfl (fun T1445 L1445 r1445 X1445 q1445 => ?_)
   obtain ⟨N1445, e1445, rfl⟩ := q1445
   have N1445' := Fr.app N1444 N1445
   show KEnds p e below s _ _ _ T1445 (mkF m 185 #[.val (.int i0), .val (.int i1), .val (.int i2), .val (.long i3), .second, .val (.int v1), .val (.int (1 : Int32)), .val (.int v996), .val (.int (2 : Int32)), .val (.ref b1416)] ((.int (f1_90 i3)) :: (.int (7 : Int32)) :: (.ref b1416) :: []))
   obtain ⟨v1446, hv1446⟩ : ∃ z, z = f1_90 i3 := ⟨_, rfl⟩
   rw [← hv1446]
   have hb1447 : v1446.toInt8.toInt32 = v1446 := by rw [hv1446]; exact f1_90_byte i3
   refine k_bastore X1445 hx hZ e1445 Vw1444 ⟨by decide, by decide⟩ (i := 7) rfl (Nat.le_of_ble_eq_true rfl) (hb hby at_185) (pc' := 186) rfl (fun T1448 h1448 X1448 e1448 W1448 V1448 => ?_)
   rw [hb1447] at V1448
   have Vw1448 : Arv Z h1448 b1416 k1416 .byte (8 : Int32) [(.int v1418), (.int v1422), (.int v1426), (.int v1430), (.int v1434), (.int v1438), (.int v1442), (.int v1446)] (.int (0 : Int32)) := V1448
   have N1448 := Fr.snoc X1448 N1445' g_b1416
   have Z1448 : n0 ≤ h1448.size := Nat.le_trans Z1444 (Nat.le_of_eq W1448.size.symm)
   refine k_iload X1448 hx (hb hby at_186) rfl (pc' := 188) rfl ?_
   refine k_if_ne X1448 hx (hb hby at_188) (pn := 191) rfl (py := 202) (by decide) (fun _ => ?_) (fun hc => absurd hc (by decide))
   refine k_iload X1448 hx (hb hby at_202) rfl (pc' := 204) rfl ?_
   refine k_iconst X1448 hx (hb hby at_204) (pc' := 205) rfl (z := (1 : Int32)) rfl ?_
   refine k_icmp_ne X1448 hx (hb hby at_205) (pn := 208) rfl (py := 243) (by decide) (fun hc => absurd (by decide) hc) (fun _ => ?_)
   refine k_aload X1448 hx (hb hby at_208) rfl rfl (pc' := 210) rfl ?_
   refine k_iload X1448 hx (hb hby at_210) rfl (pc' := 212) rfl ?_
   refine k_sipush X1448 hx (hb hby at_212) (pc' := 215) rfl (z := (192 : Int32)) rfl ?_
   refine k_iload X1448 hx (hb hby at_215) rfl (pc' := 217) rfl ?_
   refine k_bipush X1448 hx (hb hby at_217) (pc' := 219) rfl (z := (6 : Int32)) rfl ?_
   refine k_ishr X1448 hx (hb hby at_219) (pc' := 220) rfl (fun v1449 hv1449 => ?_)
   refine k_ior X1448 hx (hb hby at_220) (pc' := 221) rfl (fun v1450 hv1450 => ?_)
   refine k_i2b X1448 hx (hb hby at_221) (pc' := 222) rfl (fun v1451 hv1451 => ?_)
   refine k_bastore X1448 hx hZ e1448 Vw1448 ⟨by decide, by decide⟩ (i := 2) rfl (Nat.le_of_ble_eq_true rfl) (hb hby at_222) (pc' := 223) rfl (fun T1452 h1452 X1452 e1452 W1452 V1452 => ?_)
   have hb1453 : v1451.toInt8.toInt32 = v1451 := by rw [hv1451]; exact k_i2b2 _
   rw [hb1453] at V1452
   have Vw1452 : Arv Z h1452 b1416 k1416 .byte (8 : Int32) [(.int v1418), (.int v1422), (.int v1451), (.int v1430), (.int v1434), (.int v1438), (.int v1442), (.int v1446)] (.int (0 : Int32)) := V1452
   have N1452 := Fr.snoc X1452 N1448 g_b1416
   have Z1452 : n0 ≤ h1452.size := Nat.le_trans Z1448 (Nat.le_of_eq W1452.size.symm)
   refine k_aload X1452 hx (hb hby at_223) rfl rfl (pc' := 225) rfl ?_
   refine k_iload X1452 hx (hb hby at_225) rfl (pc' := 227) rfl ?_
   refine k_iconst X1452 hx (hb hby at_227) (pc' := 228) rfl (z := (1 : Int32)) rfl ?_
   refine k_iaddL X1452 hx (hb hby at_228) (pc' := 229) rfl (z := (3 : Int32)) (by decide) ?_
   refine k_sipush X1452 hx (hb hby at_229) (pc' := 232) rfl (z := (128 : Int32)) rfl ?_
   refine k_iload X1452 hx (hb hby at_232) rfl (pc' := 234) rfl ?_
   refine k_bipush X1452 hx (hb hby at_234) (pc' := 236) rfl (z := (63 : Int32)) rfl ?_
   refine k_iand X1452 hx (hb hby at_236) (pc' := 237) rfl (fun v1454 hv1454 => ?_)
   refine k_ior X1452 hx (hb hby at_237) (pc' := 238) rfl (fun v1455 hv1455 => ?_)
   refine k_i2b X1452 hx (hb hby at_238) (pc' := 239) rfl (fun v1456 hv1456 => ?_)
   refine k_bastore X1452 hx hZ e1452 Vw1452 ⟨by decide, by decide⟩ (i := 3) rfl (Nat.le_of_ble_eq_true rfl) (hb hby at_239) (pc' := 240) rfl (fun T1457 h1457 X1457 e1457 W1457 V1457 => ?_)
   have hb1458 : v1456.toInt8.toInt32 = v1456 := by rw [hv1456]; exact k_i2b2 _
   rw [hb1458] at V1457
   have Vw1457 : Arv Z h1457 b1416 k1416 .byte (8 : Int32) [(.int v1418), (.int v1422), (.int v1451), (.int v1456), (.int v1434), (.int v1438), (.int v1442), (.int v1446)] (.int (0 : Int32)) := V1457
   have N1457 := Fr.snoc X1457 N1452 g_b1416
   have Z1457 : n0 ≤ h1457.size := Nat.le_trans Z1452 (Nat.le_of_eq W1457.size.symm)
   refine k_goto X1457 hx (hb hby at_240) (pc' := 376) (by decide) ?_
   refine k_aload X1457 hx (hb hby at_376) rfl rfl (pc' := 378) rfl ?_
   refine k_iload X1457 hx (hb hby at_378) rfl (pc' := 380) rfl ?_
   refine k_callS X1457 hx hZ hown (hw _ (List.mem_of_getElem? (i := 7) rfl)) (hw _ (List.mem_of_getElem? (i := 8) rfl)) (hw _ (List.mem_of_getElem? (i := 9) rfl)) (hw _ (List.mem_of_getElem? (i := 10) rfl)) (by decide) (rm2_543 l Z a0 hw [] b1416 k1416 v1418 v1422 v1451 v1456 v1434 v1438 v1442 v1446 h1457 n0 Z1457 Vw1457) (by decide) (by decide) e1457 (by rw [hml]; rfl) (argsL := [(.ref b1416), (.int (2 : Int32))]) (rest := []) (lenOf pd_2 rfl) rfl (W := 0) (Nat.le_refl _) rfl (hb hby at_380) (by decide) (by decide) (pc' := 383) rfl (fun T1459 L1459 r1459 X1459 q1459 => ?_)
   obtain ⟨N1459, e1459, q1459⟩ := q1459
   have N1459' := Fr.app N1457 N1459
   rcases q1459 with ⟨v1460, v1461, v1462, v1463, v1464, v1465, v1466, v1467, v1468, v1469, v1470, h1471, h1472, h1473, h1474, h1475, h1476, h1477, h1478, h1479, h1480, h1481, hc1482, hc1483, hc1484, rfl⟩ | ⟨v1485, v1486, v1487, v1488, v1489, v1490, v1491, v1492, h1493, h1494, h1495, h1496, h1497, h1498, h1499, h1500, hc1501, hc1502, hc1503, rfl⟩ | ⟨v1504, v1505, v1506, v1507, v1508, h1509, h1510, h1511, h1512, h1513, hc1514, hc1515, rfl⟩ | ⟨v1516, h1517, hc1518, rfl⟩
   ·
    show KEnds p e below s _ _ _ T1459 (mkF m 383 #[.val (.int i0), .val (.int i1), .val (.int i2), .val (.long i3), .second, .val (.int v1), .val (.int (1 : Int32)), .val (.int v996), .val (.int (2 : Int32)), .val (.ref b1416)] [(.int v1470)])
    exfalso
    have B1519 : (-2147483648 : Int) ≤ v996.toInt ∧ v996.toInt ≤ 2147483647 := ⟨(rng32 v996).1, Int.le_of_lt_add_one (rng32 v996).2⟩
    have B1522 : (128 : Int) ≤ v996.toInt ∧ v996.toInt ≤ 2147483647 := ⟨k_ge hP997.1 (by decide), B1519.2⟩
    have B1523 : (128 : Int) ≤ v996.toInt ∧ v996.toInt ≤ 2047 := ⟨B1522.1, k_le hP997.2 (by decide)⟩
    have B1524 : (128 : Int) ≤ (128 : Int32).toInt ∧ (128 : Int32).toInt ≤ 128 := (by decide)
    have q1525 := hP997.1; rw [Int32.lt_iff_toInt_lt] at q1525
    have B1526 : (2047 : Int) ≤ (2047 : Int32).toInt ∧ (2047 : Int32).toInt ≤ 2047 := (by decide)
    have q1527 := hP997.2; rw [Int32.lt_iff_toInt_lt] at q1527
    have q1535 : v1449.toInt = v996.toInt / 64 := (by rw [hv1449]; exact c_ishr _ _ 6 (by decide))
    have B1534 : (2 : Int) ≤ v1449.toInt ∧ v1449.toInt ≤ 31 := (by rw [q1535]; exact k_divB B1523 (by decide) (by decide) (by decide))
    have q1533 : v1450.toInt = 192 + v1449.toInt := k_orx (k := 6) hv1450 B1534 (by decide) (by decide) (by decide) (by decide) (by decide) (by decide)
    have B1532 : (194 : Int) ≤ v1450.toInt ∧ v1450.toInt ≤ 223 := k_caddB q1533 B1534
    have q1531 : v1451.toInt = v1450.toInt - 256 := k_i2by hv1451 B1532 (by decide) (by decide)
    have B1530 : (-62 : Int) ≤ v1451.toInt ∧ v1451.toInt ≤ -33 := k_subB q1531 B1532
    have q1529 : v1460.toInt = v1451.toInt - (-256) := (by rw [h1471, c_mask _ _ 8 (by decide) (by decide)]; exact k_modx B1530 (by decide) (by decide))
    have B1528 : (194 : Int) ≤ v1460.toInt ∧ v1460.toInt ≤ 223 := k_subB q1529 B1530
    have B1536 : (224 : Int) ≤ v1460.toInt ∧ v1460.toInt ≤ 223 := ⟨k_ge hc1483 (by decide), B1528.2⟩
    have B1537 : (240 : Int) ≤ v1460.toInt ∧ v1460.toInt ≤ 223 := ⟨k_ge hc1484 (by decide), B1536.2⟩
    have q1538 := hc1482; rw [Int32.lt_iff_toInt_lt] at q1538
    have B1539 : (224 : Int) ≤ (224 : Int32).toInt ∧ (224 : Int32).toInt ≤ 224 := (by decide)
    have q1540 := hc1483; rw [Int32.lt_iff_toInt_lt] at q1540
    have B1541 : (240 : Int) ≤ (240 : Int32).toInt ∧ (240 : Int32).toInt ≤ 240 := (by decide)
    have q1542 := hc1484; rw [Int32.lt_iff_toInt_lt] at q1542
    omega
   ·
    show KEnds p e below s _ _ _ T1459 (mkF m 383 #[.val (.int i0), .val (.int i1), .val (.int i2), .val (.long i3), .second, .val (.int v1), .val (.int (1 : Int32)), .val (.int v996), .val (.int (2 : Int32)), .val (.ref b1416)] [(.int v1492)])
    exfalso
    have B1543 : (-2147483648 : Int) ≤ v996.toInt ∧ v996.toInt ≤ 2147483647 := ⟨(rng32 v996).1, Int.le_of_lt_add_one (rng32 v996).2⟩
    have B1546 : (128 : Int) ≤ v996.toInt ∧ v996.toInt ≤ 2147483647 := ⟨k_ge hP997.1 (by decide), B1543.2⟩
    have B1547 : (128 : Int) ≤ v996.toInt ∧ v996.toInt ≤ 2047 := ⟨B1546.1, k_le hP997.2 (by decide)⟩
    have B1548 : (128 : Int) ≤ (128 : Int32).toInt ∧ (128 : Int32).toInt ≤ 128 := (by decide)
    have q1549 := hP997.1; rw [Int32.lt_iff_toInt_lt] at q1549
    have B1550 : (2047 : Int) ≤ (2047 : Int32).toInt ∧ (2047 : Int32).toInt ≤ 2047 := (by decide)
    have q1551 := hP997.2; rw [Int32.lt_iff_toInt_lt] at q1551
    have q1559 : v1449.toInt = v996.toInt / 64 := (by rw [hv1449]; exact c_ishr _ _ 6 (by decide))
    have B1558 : (2 : Int) ≤ v1449.toInt ∧ v1449.toInt ≤ 31 := (by rw [q1559]; exact k_divB B1547 (by decide) (by decide) (by decide))
    have q1557 : v1450.toInt = 192 + v1449.toInt := k_orx (k := 6) hv1450 B1558 (by decide) (by decide) (by decide) (by decide) (by decide) (by decide)
    have B1556 : (194 : Int) ≤ v1450.toInt ∧ v1450.toInt ≤ 223 := k_caddB q1557 B1558
    have q1555 : v1451.toInt = v1450.toInt - 256 := k_i2by hv1451 B1556 (by decide) (by decide)
    have B1554 : (-62 : Int) ≤ v1451.toInt ∧ v1451.toInt ≤ -33 := k_subB q1555 B1556
    have q1553 : v1485.toInt = v1451.toInt - (-256) := (by rw [h1493, c_mask _ _ 8 (by decide) (by decide)]; exact k_modx B1554 (by decide) (by decide))
    have B1552 : (194 : Int) ≤ v1485.toInt ∧ v1485.toInt ≤ 223 := k_subB q1553 B1554
    have B1560 : (224 : Int) ≤ v1485.toInt ∧ v1485.toInt ≤ 223 := ⟨k_ge hc1502 (by decide), B1552.2⟩
    have q1561 := hc1501; rw [Int32.lt_iff_toInt_lt] at q1561
    have B1562 : (224 : Int) ≤ (224 : Int32).toInt ∧ (224 : Int32).toInt ≤ 224 := (by decide)
    have q1563 := hc1502; rw [Int32.lt_iff_toInt_lt] at q1563
    have B1564 : (240 : Int) ≤ (240 : Int32).toInt ∧ (240 : Int32).toInt ≤ 240 := (by decide)
    have q1565 := hc1503; rw [Int32.lt_iff_toInt_lt] at q1565
    omega
   ·
    show KEnds p e below s _ _ _ T1459 (mkF m 383 #[.val (.int i0), .val (.int i1), .val (.int i2), .val (.long i3), .second, .val (.int v1), .val (.int (1 : Int32)), .val (.int v996), .val (.int (2 : Int32)), .val (.ref b1416)] [(.int v1508)])
    refine k_iload X1459 hx (hb hby at_383) rfl (pc' := 385) rfl ?_
    refine k_icmp_ne X1459 hx (hb hby at_385) (pn := 388) rfl (py := 392) (by decide) (fun hc1566 => ?_) (fun hc1566 => ?_)
    ·
     refine k_iconst X1459 hx (hb hby at_392) (pc' := 393) rfl (z := (0 : Int32)) rfl ?_
     exfalso
     have B1567 : (-2147483648 : Int) ≤ v996.toInt ∧ v996.toInt ≤ 2147483647 := ⟨(rng32 v996).1, Int.le_of_lt_add_one (rng32 v996).2⟩
     have B1570 : (128 : Int) ≤ v996.toInt ∧ v996.toInt ≤ 2147483647 := ⟨k_ge hP997.1 (by decide), B1567.2⟩
     have B1571 : (128 : Int) ≤ v996.toInt ∧ v996.toInt ≤ 2047 := ⟨B1570.1, k_le hP997.2 (by decide)⟩
     have B1572 : (128 : Int) ≤ (128 : Int32).toInt ∧ (128 : Int32).toInt ≤ 128 := (by decide)
     have q1573 := hP997.1; rw [Int32.lt_iff_toInt_lt] at q1573
     have B1574 : (2047 : Int) ≤ (2047 : Int32).toInt ∧ (2047 : Int32).toInt ≤ 2047 := (by decide)
     have q1575 := hP997.2; rw [Int32.lt_iff_toInt_lt] at q1575
     have q1583 : v1449.toInt = v996.toInt / 64 := (by rw [hv1449]; exact c_ishr _ _ 6 (by decide))
     have B1582 : (2 : Int) ≤ v1449.toInt ∧ v1449.toInt ≤ 31 := (by rw [q1583]; exact k_divB B1571 (by decide) (by decide) (by decide))
     have q1581 : v1450.toInt = 192 + v1449.toInt := k_orx (k := 6) hv1450 B1582 (by decide) (by decide) (by decide) (by decide) (by decide) (by decide)
     have B1580 : (194 : Int) ≤ v1450.toInt ∧ v1450.toInt ≤ 223 := k_caddB q1581 B1582
     have q1579 : v1451.toInt = v1450.toInt - 256 := k_i2by hv1451 B1580 (by decide) (by decide)
     have B1578 : (-62 : Int) ≤ v1451.toInt ∧ v1451.toInt ≤ -33 := k_subB q1579 B1580
     have q1577 : v1504.toInt = v1451.toInt - (-256) := (by rw [h1509, c_mask _ _ 8 (by decide) (by decide)]; exact k_modx B1578 (by decide) (by decide))
     have B1576 : (194 : Int) ≤ v1504.toInt ∧ v1504.toInt ≤ 223 := k_subB q1577 B1578
     have q1584 := hc1514; rw [Int32.lt_iff_toInt_lt] at q1584
     have B1585 : (224 : Int) ≤ (224 : Int32).toInt ∧ (224 : Int32).toInt ≤ 224 := (by decide)
     have q1586 := hc1515; rw [Int32.lt_iff_toInt_lt] at q1586
     have q1592 : v1505.toInt = v1504.toInt - (192) := (by rw [h1510, c_mask _ _ 5 (by decide) (by decide)]; exact k_modx B1576 (by decide) (by decide))
     have B1591 : (2 : Int) ≤ v1505.toInt ∧ v1505.toInt ≤ 31 := k_subB q1592 B1576
     have q1590 : v1506.toInt = 64 * v1505.toInt := k_ishlx (k := 6) h1511 B1591 (by decide) (by decide) (by decide)
     have B1589 : (128 : Int) ≤ v1506.toInt ∧ v1506.toInt ≤ 1984 := (by rw [q1590]; exact k_mulB B1591 (by decide))
     have q1600 : v1454.toInt = v996.toInt % 64 := (by rw [hv1454]; exact c_mask _ _ 6 (by decide) (by decide))
     have B1599 : (0 : Int) ≤ v1454.toInt ∧ v1454.toInt ≤ 63 := (by rw [q1600]; exact k_modB (by decide))
     have q1598 : v1455.toInt = 128 + v1454.toInt := k_orx (k := 7) hv1455 B1599 (by decide) (by decide) (by decide) (by decide) (by decide) (by decide)
     have B1597 : (128 : Int) ≤ v1455.toInt ∧ v1455.toInt ≤ 191 := k_caddB q1598 B1599
     have q1596 : v1456.toInt = v1455.toInt - 256 := k_i2by hv1456 B1597 (by decide) (by decide)
     have B1595 : (-128 : Int) ≤ v1456.toInt ∧ v1456.toInt ≤ -65 := k_subB q1596 B1597
     have q1594 : v1507.toInt = v1456.toInt - (-128) := (by rw [h1512, c_mask _ _ 6 (by decide) (by decide)]; exact k_modx B1595 (by decide) (by decide))
     have B1593 : (0 : Int) ≤ v1507.toInt ∧ v1507.toInt ≤ 63 := k_subB q1594 B1595
     have q1588 : v1508.toInt = v1506.toInt + v1507.toInt := k_orx2 (k := 6) h1513 B1589 B1593 (by decide) (by decide) (by decide) (by decide) (by omega)
     have B1587 : (128 : Int) ≤ v1508.toInt ∧ v1508.toInt ≤ 2047 := k_addB q1588 B1589 B1593
     have q1601 : ¬ v1508.toInt = v996.toInt := fun q => hc1566 (Int32.toInt_inj.mp q)
     omega
    ·
     refine k_iconst X1459 hx (hb hby at_388) (pc' := 389) rfl (z := (1 : Int32)) rfl ?_
     refine k_goto X1459 hx (hb hby at_389) (pc' := 393) (by decide) ?_
     exact k_retN X1459 hx (t := .boolean) Bd.returns (by simp) (hb hby at_393) hlk (by decide) (by decide) (z' := (1 : Int32)) rfl ⟨rfl, N1459'⟩
   ·
    show KEnds p e below s _ _ _ T1459 (mkF m 383 #[.val (.int i0), .val (.int i1), .val (.int i2), .val (.long i3), .second, .val (.int v1), .val (.int (1 : Int32)), .val (.int v996), .val (.int (2 : Int32)), .val (.ref b1416)] [(.int v1516)])
    exfalso
    have B1602 : (-2147483648 : Int) ≤ v996.toInt ∧ v996.toInt ≤ 2147483647 := ⟨(rng32 v996).1, Int.le_of_lt_add_one (rng32 v996).2⟩
    have B1605 : (128 : Int) ≤ v996.toInt ∧ v996.toInt ≤ 2147483647 := ⟨k_ge hP997.1 (by decide), B1602.2⟩
    have B1606 : (128 : Int) ≤ v996.toInt ∧ v996.toInt ≤ 2047 := ⟨B1605.1, k_le hP997.2 (by decide)⟩
    have B1607 : (128 : Int) ≤ (128 : Int32).toInt ∧ (128 : Int32).toInt ≤ 128 := (by decide)
    have q1608 := hP997.1; rw [Int32.lt_iff_toInt_lt] at q1608
    have B1609 : (2047 : Int) ≤ (2047 : Int32).toInt ∧ (2047 : Int32).toInt ≤ 2047 := (by decide)
    have q1610 := hP997.2; rw [Int32.lt_iff_toInt_lt] at q1610
    have q1618 : v1449.toInt = v996.toInt / 64 := (by rw [hv1449]; exact c_ishr _ _ 6 (by decide))
    have B1617 : (2 : Int) ≤ v1449.toInt ∧ v1449.toInt ≤ 31 := (by rw [q1618]; exact k_divB B1606 (by decide) (by decide) (by decide))
    have q1616 : v1450.toInt = 192 + v1449.toInt := k_orx (k := 6) hv1450 B1617 (by decide) (by decide) (by decide) (by decide) (by decide) (by decide)
    have B1615 : (194 : Int) ≤ v1450.toInt ∧ v1450.toInt ≤ 223 := k_caddB q1616 B1617
    have q1614 : v1451.toInt = v1450.toInt - 256 := k_i2by hv1451 B1615 (by decide) (by decide)
    have B1613 : (-62 : Int) ≤ v1451.toInt ∧ v1451.toInt ≤ -33 := k_subB q1614 B1615
    have q1612 : v1516.toInt = v1451.toInt - (-256) := (by rw [h1517, c_mask _ _ 8 (by decide) (by decide)]; exact k_modx B1613 (by decide) (by decide))
    have B1611 : (194 : Int) ≤ v1516.toInt ∧ v1516.toInt ≤ 223 := k_subB q1612 B1613
    have B1619 : (194 : Int) ≤ v1516.toInt ∧ v1516.toInt ≤ 127 := ⟨B1611.1, k_lt hc1518 (by decide)⟩
    have q1620 := hc1518; rw [Int32.lt_iff_toInt_lt] at q1620
    omega
  ·
   show KEnds p e below s _ _ _ s₁ (mkF m 102 #[.val (.int i0), .val (.int i1), .val (.int i2), .val (.long i3), .second, .val (.int v1), .val (.int (1 : Int32)), .val (.int v996), .unset, .unset] [(.int (3 : Int32))])
   refine k_istore X0 hx (hb hby at_102) (Ls' := #[.val (.int i0), .val (.int i1), .val (.int i2), .val (.long i3), .second, .val (.int v1), .val (.int (1 : Int32)), .val (.int v996), .val (.int (3 : Int32)), .unset]) rfl (pc' := 104) rfl ?_
   refine k_bipush X0 hx (hb hby at_104) (pc' := 106) rfl (z := (8 : Int32)) rfl ?_
   refine k_newA X0 hx hZ (hw _ (List.mem_of_getElem? (i := 1) rfl)) e0 (hb hby at_106) (by decide) (cap := 8) (by decide) (by decide) (by decide) (by decide) (pc' := 108) rfl (fun T1622 h1622 b1622 k1622 g1622 X1622 e1622 E1622 V1622 => ?_)
   have g_b1622 : n0 ≤ b1622 := Nat.le_trans Z0 (Nat.le_of_eq g1622.symm)
   have Z1622 : n0 ≤ h1622.size := Nat.le_trans Z0 E1622.1
   have Vw1622 : Arv Z h1622 b1622 k1622 .byte (8 : Int32) [(.int (0 : Int32)), (.int (0 : Int32)), (.int (0 : Int32)), (.int (0 : Int32)), (.int (0 : Int32)), (.int (0 : Int32)), (.int (0 : Int32)), (.int (0 : Int32))] (.int (0 : Int32)) := V1622
   refine k_astore X1622 hx (hb hby at_108) rfl (Ls' := #[.val (.int i0), .val (.int i1), .val (.int i2), .val (.long i3), .second, .val (.int v1), .val (.int (1 : Int32)), .val (.int v996), .val (.int (3 : Int32)), .val (.ref b1622)]) rfl (pc' := 110) rfl ?_
   refine k_aload X1622 hx (hb hby at_110) rfl rfl (pc' := 112) rfl ?_
   refine k_iconst X1622 hx (hb hby at_112) (pc' := 113) rfl (z := (0 : Int32)) rfl ?_
   refine k_lloadN X1622 hx (hb hby at_113) rfl (pc' := 114) rfl ?_
   refine k_iconst X1622 hx (hb hby at_114) (pc' := 115) rfl (z := (0 : Int32)) rfl ?_
   refine k_callS X1622 hx hZ hown (hw _ (List.mem_of_getElem? (i := 2) rfl)) (hw _ (List.mem_of_getElem? (i := 3) rfl)) (hw _ (List.mem_of_getElem? (i := 4) rfl)) (hw _ (List.mem_of_getElem? (i := 5) rfl)) (by decide) (rm1_55 l Z a0 hw [] i3 h1622 n0 Z1622 ) (by decide) (by decide) e1622 (by rw [hml]; rfl) (argsL := [(.long i3), (.int (0 : Int32))]) (rest := [(.int (0 : Int32)), (.ref b1622)]) (lenOf pd_0 rfl) rfl (W := 2) (Nat.le_refl _) rfl (hb hby at_115) (by decide) (by decide) (pc' := 118) rfl (fun T1623 L1623 r1623 X1623 q1623 => ?_)
   obtain ⟨N1623, e1623, rfl⟩ := q1623
   have N1623' := Fr.app N0 N1623
   show KEnds p e below s _ _ _ T1623 (mkF m 118 #[.val (.int i0), .val (.int i1), .val (.int i2), .val (.long i3), .second, .val (.int v1), .val (.int (1 : Int32)), .val (.int v996), .val (.int (3 : Int32)), .val (.ref b1622)] ((.int (f1_55 i3)) :: (.int (0 : Int32)) :: (.ref b1622) :: []))
   obtain ⟨v1624, hv1624⟩ : ∃ z, z = f1_55 i3 := ⟨_, rfl⟩
   rw [← hv1624]
   have hb1625 : v1624.toInt8.toInt32 = v1624 := by rw [hv1624]; exact f1_55_byte i3
   refine k_bastore X1623 hx hZ e1623 Vw1622 ⟨by decide, by decide⟩ (i := 0) rfl (Nat.le_of_ble_eq_true rfl) (hb hby at_118) (pc' := 119) rfl (fun T1626 h1626 X1626 e1626 W1626 V1626 => ?_)
   rw [hb1625] at V1626
   have Vw1626 : Arv Z h1626 b1622 k1622 .byte (8 : Int32) [(.int v1624), (.int (0 : Int32)), (.int (0 : Int32)), (.int (0 : Int32)), (.int (0 : Int32)), (.int (0 : Int32)), (.int (0 : Int32)), (.int (0 : Int32))] (.int (0 : Int32)) := V1626
   have N1626 := Fr.snoc X1626 N1623' g_b1622
   have Z1626 : n0 ≤ h1626.size := Nat.le_trans Z1622 (Nat.le_of_eq W1626.size.symm)
   refine k_aload X1626 hx (hb hby at_119) rfl rfl (pc' := 121) rfl ?_
   refine k_iconst X1626 hx (hb hby at_121) (pc' := 122) rfl (z := (1 : Int32)) rfl ?_
   refine k_lloadN X1626 hx (hb hby at_122) rfl (pc' := 123) rfl ?_
   refine k_iconst X1626 hx (hb hby at_123) (pc' := 124) rfl (z := (1 : Int32)) rfl ?_
   refine k_callS X1626 hx hZ hown (hw _ (List.mem_of_getElem? (i := 2) rfl)) (hw _ (List.mem_of_getElem? (i := 3) rfl)) (hw _ (List.mem_of_getElem? (i := 4) rfl)) (hw _ (List.mem_of_getElem? (i := 5) rfl)) (by decide) (rm1_60 l Z a0 hw [] i3 h1626 n0 Z1626 ) (by decide) (by decide) e1626 (by rw [hml]; rfl) (argsL := [(.long i3), (.int (1 : Int32))]) (rest := [(.int (1 : Int32)), (.ref b1622)]) (lenOf pd_0 rfl) rfl (W := 2) (Nat.le_refl _) rfl (hb hby at_124) (by decide) (by decide) (pc' := 127) rfl (fun T1627 L1627 r1627 X1627 q1627 => ?_)
   obtain ⟨N1627, e1627, rfl⟩ := q1627
   have N1627' := Fr.app N1626 N1627
   show KEnds p e below s _ _ _ T1627 (mkF m 127 #[.val (.int i0), .val (.int i1), .val (.int i2), .val (.long i3), .second, .val (.int v1), .val (.int (1 : Int32)), .val (.int v996), .val (.int (3 : Int32)), .val (.ref b1622)] ((.int (f1_60 i3)) :: (.int (1 : Int32)) :: (.ref b1622) :: []))
   obtain ⟨v1628, hv1628⟩ : ∃ z, z = f1_60 i3 := ⟨_, rfl⟩
   rw [← hv1628]
   have hb1629 : v1628.toInt8.toInt32 = v1628 := by rw [hv1628]; exact f1_60_byte i3
   refine k_bastore X1627 hx hZ e1627 Vw1626 ⟨by decide, by decide⟩ (i := 1) rfl (Nat.le_of_ble_eq_true rfl) (hb hby at_127) (pc' := 128) rfl (fun T1630 h1630 X1630 e1630 W1630 V1630 => ?_)
   rw [hb1629] at V1630
   have Vw1630 : Arv Z h1630 b1622 k1622 .byte (8 : Int32) [(.int v1624), (.int v1628), (.int (0 : Int32)), (.int (0 : Int32)), (.int (0 : Int32)), (.int (0 : Int32)), (.int (0 : Int32)), (.int (0 : Int32))] (.int (0 : Int32)) := V1630
   have N1630 := Fr.snoc X1630 N1627' g_b1622
   have Z1630 : n0 ≤ h1630.size := Nat.le_trans Z1626 (Nat.le_of_eq W1630.size.symm)
   refine k_aload X1630 hx (hb hby at_128) rfl rfl (pc' := 130) rfl ?_
   refine k_iconst X1630 hx (hb hby at_130) (pc' := 131) rfl (z := (2 : Int32)) rfl ?_
   refine k_lloadN X1630 hx (hb hby at_131) rfl (pc' := 132) rfl ?_
   refine k_iconst X1630 hx (hb hby at_132) (pc' := 133) rfl (z := (2 : Int32)) rfl ?_
   refine k_callS X1630 hx hZ hown (hw _ (List.mem_of_getElem? (i := 2) rfl)) (hw _ (List.mem_of_getElem? (i := 3) rfl)) (hw _ (List.mem_of_getElem? (i := 4) rfl)) (hw _ (List.mem_of_getElem? (i := 5) rfl)) (by decide) (rm1_65 l Z a0 hw [] i3 h1630 n0 Z1630 ) (by decide) (by decide) e1630 (by rw [hml]; rfl) (argsL := [(.long i3), (.int (2 : Int32))]) (rest := [(.int (2 : Int32)), (.ref b1622)]) (lenOf pd_0 rfl) rfl (W := 2) (Nat.le_refl _) rfl (hb hby at_133) (by decide) (by decide) (pc' := 136) rfl (fun T1631 L1631 r1631 X1631 q1631 => ?_)
   obtain ⟨N1631, e1631, rfl⟩ := q1631
   have N1631' := Fr.app N1630 N1631
   show KEnds p e below s _ _ _ T1631 (mkF m 136 #[.val (.int i0), .val (.int i1), .val (.int i2), .val (.long i3), .second, .val (.int v1), .val (.int (1 : Int32)), .val (.int v996), .val (.int (3 : Int32)), .val (.ref b1622)] ((.int (f1_65 i3)) :: (.int (2 : Int32)) :: (.ref b1622) :: []))
   obtain ⟨v1632, hv1632⟩ : ∃ z, z = f1_65 i3 := ⟨_, rfl⟩
   rw [← hv1632]
   have hb1633 : v1632.toInt8.toInt32 = v1632 := by rw [hv1632]; exact f1_65_byte i3
   refine k_bastore X1631 hx hZ e1631 Vw1630 ⟨by decide, by decide⟩ (i := 2) rfl (Nat.le_of_ble_eq_true rfl) (hb hby at_136) (pc' := 137) rfl (fun T1634 h1634 X1634 e1634 W1634 V1634 => ?_)
   rw [hb1633] at V1634
   have Vw1634 : Arv Z h1634 b1622 k1622 .byte (8 : Int32) [(.int v1624), (.int v1628), (.int v1632), (.int (0 : Int32)), (.int (0 : Int32)), (.int (0 : Int32)), (.int (0 : Int32)), (.int (0 : Int32))] (.int (0 : Int32)) := V1634
   have N1634 := Fr.snoc X1634 N1631' g_b1622
   have Z1634 : n0 ≤ h1634.size := Nat.le_trans Z1630 (Nat.le_of_eq W1634.size.symm)
   refine k_aload X1634 hx (hb hby at_137) rfl rfl (pc' := 139) rfl ?_
   refine k_iconst X1634 hx (hb hby at_139) (pc' := 140) rfl (z := (3 : Int32)) rfl ?_
   refine k_lloadN X1634 hx (hb hby at_140) rfl (pc' := 141) rfl ?_
   refine k_iconst X1634 hx (hb hby at_141) (pc' := 142) rfl (z := (3 : Int32)) rfl ?_
   refine k_callS X1634 hx hZ hown (hw _ (List.mem_of_getElem? (i := 2) rfl)) (hw _ (List.mem_of_getElem? (i := 3) rfl)) (hw _ (List.mem_of_getElem? (i := 4) rfl)) (hw _ (List.mem_of_getElem? (i := 5) rfl)) (by decide) (rm1_70 l Z a0 hw [] i3 h1634 n0 Z1634 ) (by decide) (by decide) e1634 (by rw [hml]; rfl) (argsL := [(.long i3), (.int (3 : Int32))]) (rest := [(.int (3 : Int32)), (.ref b1622)]) (lenOf pd_0 rfl) rfl (W := 2) (Nat.le_refl _) rfl (hb hby at_142) (by decide) (by decide) (pc' := 145) rfl (fun T1635 L1635 r1635 X1635 q1635 => ?_)
   obtain ⟨N1635, e1635, rfl⟩ := q1635
   have N1635' := Fr.app N1634 N1635
   show KEnds p e below s _ _ _ T1635 (mkF m 145 #[.val (.int i0), .val (.int i1), .val (.int i2), .val (.long i3), .second, .val (.int v1), .val (.int (1 : Int32)), .val (.int v996), .val (.int (3 : Int32)), .val (.ref b1622)] ((.int (f1_70 i3)) :: (.int (3 : Int32)) :: (.ref b1622) :: []))
   obtain ⟨v1636, hv1636⟩ : ∃ z, z = f1_70 i3 := ⟨_, rfl⟩
   rw [← hv1636]
   have hb1637 : v1636.toInt8.toInt32 = v1636 := by rw [hv1636]; exact f1_70_byte i3
   refine k_bastore X1635 hx hZ e1635 Vw1634 ⟨by decide, by decide⟩ (i := 3) rfl (Nat.le_of_ble_eq_true rfl) (hb hby at_145) (pc' := 146) rfl (fun T1638 h1638 X1638 e1638 W1638 V1638 => ?_)
   rw [hb1637] at V1638
   have Vw1638 : Arv Z h1638 b1622 k1622 .byte (8 : Int32) [(.int v1624), (.int v1628), (.int v1632), (.int v1636), (.int (0 : Int32)), (.int (0 : Int32)), (.int (0 : Int32)), (.int (0 : Int32))] (.int (0 : Int32)) := V1638
   have N1638 := Fr.snoc X1638 N1635' g_b1622
   have Z1638 : n0 ≤ h1638.size := Nat.le_trans Z1634 (Nat.le_of_eq W1638.size.symm)
   refine k_aload X1638 hx (hb hby at_146) rfl rfl (pc' := 148) rfl ?_
   refine k_iconst X1638 hx (hb hby at_148) (pc' := 149) rfl (z := (4 : Int32)) rfl ?_
   refine k_lloadN X1638 hx (hb hby at_149) rfl (pc' := 150) rfl ?_
   refine k_iconst X1638 hx (hb hby at_150) (pc' := 151) rfl (z := (4 : Int32)) rfl ?_
   refine k_callS X1638 hx hZ hown (hw _ (List.mem_of_getElem? (i := 2) rfl)) (hw _ (List.mem_of_getElem? (i := 3) rfl)) (hw _ (List.mem_of_getElem? (i := 4) rfl)) (hw _ (List.mem_of_getElem? (i := 5) rfl)) (by decide) (rm1_75 l Z a0 hw [] i3 h1638 n0 Z1638 ) (by decide) (by decide) e1638 (by rw [hml]; rfl) (argsL := [(.long i3), (.int (4 : Int32))]) (rest := [(.int (4 : Int32)), (.ref b1622)]) (lenOf pd_0 rfl) rfl (W := 2) (Nat.le_refl _) rfl (hb hby at_151) (by decide) (by decide) (pc' := 154) rfl (fun T1639 L1639 r1639 X1639 q1639 => ?_)
   obtain ⟨N1639, e1639, rfl⟩ := q1639
   have N1639' := Fr.app N1638 N1639
   show KEnds p e below s _ _ _ T1639 (mkF m 154 #[.val (.int i0), .val (.int i1), .val (.int i2), .val (.long i3), .second, .val (.int v1), .val (.int (1 : Int32)), .val (.int v996), .val (.int (3 : Int32)), .val (.ref b1622)] ((.int (f1_75 i3)) :: (.int (4 : Int32)) :: (.ref b1622) :: []))
   obtain ⟨v1640, hv1640⟩ : ∃ z, z = f1_75 i3 := ⟨_, rfl⟩
   rw [← hv1640]
   have hb1641 : v1640.toInt8.toInt32 = v1640 := by rw [hv1640]; exact f1_75_byte i3
   refine k_bastore X1639 hx hZ e1639 Vw1638 ⟨by decide, by decide⟩ (i := 4) rfl (Nat.le_of_ble_eq_true rfl) (hb hby at_154) (pc' := 155) rfl (fun T1642 h1642 X1642 e1642 W1642 V1642 => ?_)
   rw [hb1641] at V1642
   have Vw1642 : Arv Z h1642 b1622 k1622 .byte (8 : Int32) [(.int v1624), (.int v1628), (.int v1632), (.int v1636), (.int v1640), (.int (0 : Int32)), (.int (0 : Int32)), (.int (0 : Int32))] (.int (0 : Int32)) := V1642
   have N1642 := Fr.snoc X1642 N1639' g_b1622
   have Z1642 : n0 ≤ h1642.size := Nat.le_trans Z1638 (Nat.le_of_eq W1642.size.symm)
   refine k_aload X1642 hx (hb hby at_155) rfl rfl (pc' := 157) rfl ?_
   refine k_iconst X1642 hx (hb hby at_157) (pc' := 158) rfl (z := (5 : Int32)) rfl ?_
   refine k_lloadN X1642 hx (hb hby at_158) rfl (pc' := 159) rfl ?_
   refine k_iconst X1642 hx (hb hby at_159) (pc' := 160) rfl (z := (5 : Int32)) rfl ?_
   refine k_callS X1642 hx hZ hown (hw _ (List.mem_of_getElem? (i := 2) rfl)) (hw _ (List.mem_of_getElem? (i := 3) rfl)) (hw _ (List.mem_of_getElem? (i := 4) rfl)) (hw _ (List.mem_of_getElem? (i := 5) rfl)) (by decide) (rm1_80 l Z a0 hw [] i3 h1642 n0 Z1642 ) (by decide) (by decide) e1642 (by rw [hml]; rfl) (argsL := [(.long i3), (.int (5 : Int32))]) (rest := [(.int (5 : Int32)), (.ref b1622)]) (lenOf pd_0 rfl) rfl (W := 2) (Nat.le_refl _) rfl (hb hby at_160) (by decide) (by decide) (pc' := 163) rfl (fun T1643 L1643 r1643 X1643 q1643 => ?_)
   obtain ⟨N1643, e1643, rfl⟩ := q1643
   have N1643' := Fr.app N1642 N1643
   show KEnds p e below s _ _ _ T1643 (mkF m 163 #[.val (.int i0), .val (.int i1), .val (.int i2), .val (.long i3), .second, .val (.int v1), .val (.int (1 : Int32)), .val (.int v996), .val (.int (3 : Int32)), .val (.ref b1622)] ((.int (f1_80 i3)) :: (.int (5 : Int32)) :: (.ref b1622) :: []))
   obtain ⟨v1644, hv1644⟩ : ∃ z, z = f1_80 i3 := ⟨_, rfl⟩
   rw [← hv1644]
   have hb1645 : v1644.toInt8.toInt32 = v1644 := by rw [hv1644]; exact f1_80_byte i3
   refine k_bastore X1643 hx hZ e1643 Vw1642 ⟨by decide, by decide⟩ (i := 5) rfl (Nat.le_of_ble_eq_true rfl) (hb hby at_163) (pc' := 164) rfl (fun T1646 h1646 X1646 e1646 W1646 V1646 => ?_)
   rw [hb1645] at V1646
   have Vw1646 : Arv Z h1646 b1622 k1622 .byte (8 : Int32) [(.int v1624), (.int v1628), (.int v1632), (.int v1636), (.int v1640), (.int v1644), (.int (0 : Int32)), (.int (0 : Int32))] (.int (0 : Int32)) := V1646
   have N1646 := Fr.snoc X1646 N1643' g_b1622
   have Z1646 : n0 ≤ h1646.size := Nat.le_trans Z1642 (Nat.le_of_eq W1646.size.symm)
   refine k_aload X1646 hx (hb hby at_164) rfl rfl (pc' := 166) rfl ?_
   refine k_bipush X1646 hx (hb hby at_166) (pc' := 168) rfl (z := (6 : Int32)) rfl ?_
   refine k_lloadN X1646 hx (hb hby at_168) rfl (pc' := 169) rfl ?_
   refine k_bipush X1646 hx (hb hby at_169) (pc' := 171) rfl (z := (6 : Int32)) rfl ?_
   refine k_callS X1646 hx hZ hown (hw _ (List.mem_of_getElem? (i := 2) rfl)) (hw _ (List.mem_of_getElem? (i := 3) rfl)) (hw _ (List.mem_of_getElem? (i := 4) rfl)) (hw _ (List.mem_of_getElem? (i := 5) rfl)) (by decide) (rm1_85 l Z a0 hw [] i3 h1646 n0 Z1646 ) (by decide) (by decide) e1646 (by rw [hml]; rfl) (argsL := [(.long i3), (.int (6 : Int32))]) (rest := [(.int (6 : Int32)), (.ref b1622)]) (lenOf pd_0 rfl) rfl (W := 2) (Nat.le_refl _) rfl (hb hby at_171) (by decide) (by decide) (pc' := 174) rfl (fun T1647 L1647 r1647 X1647 q1647 => ?_)
   obtain ⟨N1647, e1647, rfl⟩ := q1647
   have N1647' := Fr.app N1646 N1647
   show KEnds p e below s _ _ _ T1647 (mkF m 174 #[.val (.int i0), .val (.int i1), .val (.int i2), .val (.long i3), .second, .val (.int v1), .val (.int (1 : Int32)), .val (.int v996), .val (.int (3 : Int32)), .val (.ref b1622)] ((.int (f1_85 i3)) :: (.int (6 : Int32)) :: (.ref b1622) :: []))
   obtain ⟨v1648, hv1648⟩ : ∃ z, z = f1_85 i3 := ⟨_, rfl⟩
   rw [← hv1648]
   have hb1649 : v1648.toInt8.toInt32 = v1648 := by rw [hv1648]; exact f1_85_byte i3
   refine k_bastore X1647 hx hZ e1647 Vw1646 ⟨by decide, by decide⟩ (i := 6) rfl (Nat.le_of_ble_eq_true rfl) (hb hby at_174) (pc' := 175) rfl (fun T1650 h1650 X1650 e1650 W1650 V1650 => ?_)
   rw [hb1649] at V1650
   have Vw1650 : Arv Z h1650 b1622 k1622 .byte (8 : Int32) [(.int v1624), (.int v1628), (.int v1632), (.int v1636), (.int v1640), (.int v1644), (.int v1648), (.int (0 : Int32))] (.int (0 : Int32)) := V1650
   have N1650 := Fr.snoc X1650 N1647' g_b1622
   have Z1650 : n0 ≤ h1650.size := Nat.le_trans Z1646 (Nat.le_of_eq W1650.size.symm)
   refine k_aload X1650 hx (hb hby at_175) rfl rfl (pc' := 177) rfl ?_
   refine k_bipush X1650 hx (hb hby at_177) (pc' := 179) rfl (z := (7 : Int32)) rfl ?_
   refine k_lloadN X1650 hx (hb hby at_179) rfl (pc' := 180) rfl ?_
   refine k_bipush X1650 hx (hb hby at_180) (pc' := 182) rfl (z := (7 : Int32)) rfl ?_
   refine k_callS X1650 hx hZ hown (hw _ (List.mem_of_getElem? (i := 2) rfl)) (hw _ (List.mem_of_getElem? (i := 3) rfl)) (hw _ (List.mem_of_getElem? (i := 4) rfl)) (hw _ (List.mem_of_getElem? (i := 5) rfl)) (by decide) (rm1_90 l Z a0 hw [] i3 h1650 n0 Z1650 ) (by decide) (by decide) e1650 (by rw [hml]; rfl) (argsL := [(.long i3), (.int (7 : Int32))]) (rest := [(.int (7 : Int32)), (.ref b1622)]) (lenOf pd_0 rfl) rfl (W := 2) (Nat.le_refl _) rfl (hb hby at_182) (by decide) (by decide) (pc' := 185) rfl (fun T1651 L1651 r1651 X1651 q1651 => ?_)
   obtain ⟨N1651, e1651, rfl⟩ := q1651
   have N1651' := Fr.app N1650 N1651
   show KEnds p e below s _ _ _ T1651 (mkF m 185 #[.val (.int i0), .val (.int i1), .val (.int i2), .val (.long i3), .second, .val (.int v1), .val (.int (1 : Int32)), .val (.int v996), .val (.int (3 : Int32)), .val (.ref b1622)] ((.int (f1_90 i3)) :: (.int (7 : Int32)) :: (.ref b1622) :: []))
   obtain ⟨v1652, hv1652⟩ : ∃ z, z = f1_90 i3 := ⟨_, rfl⟩
   rw [← hv1652]
   have hb1653 : v1652.toInt8.toInt32 = v1652 := by rw [hv1652]; exact f1_90_byte i3
   refine k_bastore X1651 hx hZ e1651 Vw1650 ⟨by decide, by decide⟩ (i := 7) rfl (Nat.le_of_ble_eq_true rfl) (hb hby at_185) (pc' := 186) rfl (fun T1654 h1654 X1654 e1654 W1654 V1654 => ?_)
   rw [hb1653] at V1654
   have Vw1654 : Arv Z h1654 b1622 k1622 .byte (8 : Int32) [(.int v1624), (.int v1628), (.int v1632), (.int v1636), (.int v1640), (.int v1644), (.int v1648), (.int v1652)] (.int (0 : Int32)) := V1654
   have N1654 := Fr.snoc X1654 N1651' g_b1622
   have Z1654 : n0 ≤ h1654.size := Nat.le_trans Z1650 (Nat.le_of_eq W1654.size.symm)
   refine k_iload X1654 hx (hb hby at_186) rfl (pc' := 188) rfl ?_
   refine k_if_ne X1654 hx (hb hby at_188) (pn := 191) rfl (py := 202) (by decide) (fun _ => ?_) (fun hc => absurd hc (by decide))
   refine k_iload X1654 hx (hb hby at_202) rfl (pc' := 204) rfl ?_
   refine k_iconst X1654 hx (hb hby at_204) (pc' := 205) rfl (z := (1 : Int32)) rfl ?_
   refine k_icmp_ne X1654 hx (hb hby at_205) (pn := 208) rfl (py := 243) (by decide) (fun hc => absurd (by decide) hc) (fun _ => ?_)
   refine k_aload X1654 hx (hb hby at_208) rfl rfl (pc' := 210) rfl ?_
   refine k_iload X1654 hx (hb hby at_210) rfl (pc' := 212) rfl ?_
   refine k_sipush X1654 hx (hb hby at_212) (pc' := 215) rfl (z := (192 : Int32)) rfl ?_
   refine k_iload X1654 hx (hb hby at_215) rfl (pc' := 217) rfl ?_
   refine k_bipush X1654 hx (hb hby at_217) (pc' := 219) rfl (z := (6 : Int32)) rfl ?_
   refine k_ishr X1654 hx (hb hby at_219) (pc' := 220) rfl (fun v1655 hv1655 => ?_)
   refine k_ior X1654 hx (hb hby at_220) (pc' := 221) rfl (fun v1656 hv1656 => ?_)
   refine k_i2b X1654 hx (hb hby at_221) (pc' := 222) rfl (fun v1657 hv1657 => ?_)
   refine k_bastore X1654 hx hZ e1654 Vw1654 ⟨by decide, by decide⟩ (i := 3) rfl (Nat.le_of_ble_eq_true rfl) (hb hby at_222) (pc' := 223) rfl (fun T1658 h1658 X1658 e1658 W1658 V1658 => ?_)
   have hb1659 : v1657.toInt8.toInt32 = v1657 := by rw [hv1657]; exact k_i2b2 _
   rw [hb1659] at V1658
   have Vw1658 : Arv Z h1658 b1622 k1622 .byte (8 : Int32) [(.int v1624), (.int v1628), (.int v1632), (.int v1657), (.int v1640), (.int v1644), (.int v1648), (.int v1652)] (.int (0 : Int32)) := V1658
   have N1658 := Fr.snoc X1658 N1654 g_b1622
   have Z1658 : n0 ≤ h1658.size := Nat.le_trans Z1654 (Nat.le_of_eq W1658.size.symm)
   refine k_aload X1658 hx (hb hby at_223) rfl rfl (pc' := 225) rfl ?_
   refine k_iload X1658 hx (hb hby at_225) rfl (pc' := 227) rfl ?_
   refine k_iconst X1658 hx (hb hby at_227) (pc' := 228) rfl (z := (1 : Int32)) rfl ?_
   refine k_iaddL X1658 hx (hb hby at_228) (pc' := 229) rfl (z := (4 : Int32)) (by decide) ?_
   refine k_sipush X1658 hx (hb hby at_229) (pc' := 232) rfl (z := (128 : Int32)) rfl ?_
   refine k_iload X1658 hx (hb hby at_232) rfl (pc' := 234) rfl ?_
   refine k_bipush X1658 hx (hb hby at_234) (pc' := 236) rfl (z := (63 : Int32)) rfl ?_
   refine k_iand X1658 hx (hb hby at_236) (pc' := 237) rfl (fun v1660 hv1660 => ?_)
   refine k_ior X1658 hx (hb hby at_237) (pc' := 238) rfl (fun v1661 hv1661 => ?_)
   refine k_i2b X1658 hx (hb hby at_238) (pc' := 239) rfl (fun v1662 hv1662 => ?_)
   refine k_bastore X1658 hx hZ e1658 Vw1658 ⟨by decide, by decide⟩ (i := 4) rfl (Nat.le_of_ble_eq_true rfl) (hb hby at_239) (pc' := 240) rfl (fun T1663 h1663 X1663 e1663 W1663 V1663 => ?_)
   have hb1664 : v1662.toInt8.toInt32 = v1662 := by rw [hv1662]; exact k_i2b2 _
   rw [hb1664] at V1663
   have Vw1663 : Arv Z h1663 b1622 k1622 .byte (8 : Int32) [(.int v1624), (.int v1628), (.int v1632), (.int v1657), (.int v1662), (.int v1644), (.int v1648), (.int v1652)] (.int (0 : Int32)) := V1663
   have N1663 := Fr.snoc X1663 N1658 g_b1622
   have Z1663 : n0 ≤ h1663.size := Nat.le_trans Z1658 (Nat.le_of_eq W1663.size.symm)
   refine k_goto X1663 hx (hb hby at_240) (pc' := 376) (by decide) ?_
   refine k_aload X1663 hx (hb hby at_376) rfl rfl (pc' := 378) rfl ?_
   refine k_iload X1663 hx (hb hby at_378) rfl (pc' := 380) rfl ?_
   refine k_callS X1663 hx hZ hown (hw _ (List.mem_of_getElem? (i := 7) rfl)) (hw _ (List.mem_of_getElem? (i := 8) rfl)) (hw _ (List.mem_of_getElem? (i := 9) rfl)) (hw _ (List.mem_of_getElem? (i := 10) rfl)) (by decide) (rm2_763 l Z a0 hw [] b1622 k1622 v1624 v1628 v1632 v1657 v1662 v1644 v1648 v1652 h1663 n0 Z1663 Vw1663) (by decide) (by decide) e1663 (by rw [hml]; rfl) (argsL := [(.ref b1622), (.int (3 : Int32))]) (rest := []) (lenOf pd_2 rfl) rfl (W := 0) (Nat.le_refl _) rfl (hb hby at_380) (by decide) (by decide) (pc' := 383) rfl (fun T1665 L1665 r1665 X1665 q1665 => ?_)
   obtain ⟨N1665, e1665, q1665⟩ := q1665
   have N1665' := Fr.app N1663 N1665
   rcases q1665 with ⟨v1666, v1667, v1668, v1669, v1670, v1671, v1672, v1673, v1674, v1675, v1676, h1677, h1678, h1679, h1680, h1681, h1682, h1683, h1684, h1685, h1686, h1687, hc1688, hc1689, hc1690, rfl⟩ | ⟨v1691, v1692, v1693, v1694, v1695, v1696, v1697, v1698, h1699, h1700, h1701, h1702, h1703, h1704, h1705, h1706, hc1707, hc1708, hc1709, rfl⟩ | ⟨v1710, v1711, v1712, v1713, v1714, h1715, h1716, h1717, h1718, h1719, hc1720, hc1721, rfl⟩ | ⟨v1722, h1723, hc1724, rfl⟩
   ·
    show KEnds p e below s _ _ _ T1665 (mkF m 383 #[.val (.int i0), .val (.int i1), .val (.int i2), .val (.long i3), .second, .val (.int v1), .val (.int (1 : Int32)), .val (.int v996), .val (.int (3 : Int32)), .val (.ref b1622)] [(.int v1676)])
    exfalso
    have B1725 : (-2147483648 : Int) ≤ v996.toInt ∧ v996.toInt ≤ 2147483647 := ⟨(rng32 v996).1, Int.le_of_lt_add_one (rng32 v996).2⟩
    have B1728 : (128 : Int) ≤ v996.toInt ∧ v996.toInt ≤ 2147483647 := ⟨k_ge hP997.1 (by decide), B1725.2⟩
    have B1729 : (128 : Int) ≤ v996.toInt ∧ v996.toInt ≤ 2047 := ⟨B1728.1, k_le hP997.2 (by decide)⟩
    have B1730 : (128 : Int) ≤ (128 : Int32).toInt ∧ (128 : Int32).toInt ≤ 128 := (by decide)
    have q1731 := hP997.1; rw [Int32.lt_iff_toInt_lt] at q1731
    have B1732 : (2047 : Int) ≤ (2047 : Int32).toInt ∧ (2047 : Int32).toInt ≤ 2047 := (by decide)
    have q1733 := hP997.2; rw [Int32.lt_iff_toInt_lt] at q1733
    have q1741 : v1655.toInt = v996.toInt / 64 := (by rw [hv1655]; exact c_ishr _ _ 6 (by decide))
    have B1740 : (2 : Int) ≤ v1655.toInt ∧ v1655.toInt ≤ 31 := (by rw [q1741]; exact k_divB B1729 (by decide) (by decide) (by decide))
    have q1739 : v1656.toInt = 192 + v1655.toInt := k_orx (k := 6) hv1656 B1740 (by decide) (by decide) (by decide) (by decide) (by decide) (by decide)
    have B1738 : (194 : Int) ≤ v1656.toInt ∧ v1656.toInt ≤ 223 := k_caddB q1739 B1740
    have q1737 : v1657.toInt = v1656.toInt - 256 := k_i2by hv1657 B1738 (by decide) (by decide)
    have B1736 : (-62 : Int) ≤ v1657.toInt ∧ v1657.toInt ≤ -33 := k_subB q1737 B1738
    have q1735 : v1666.toInt = v1657.toInt - (-256) := (by rw [h1677, c_mask _ _ 8 (by decide) (by decide)]; exact k_modx B1736 (by decide) (by decide))
    have B1734 : (194 : Int) ≤ v1666.toInt ∧ v1666.toInt ≤ 223 := k_subB q1735 B1736
    have B1742 : (224 : Int) ≤ v1666.toInt ∧ v1666.toInt ≤ 223 := ⟨k_ge hc1689 (by decide), B1734.2⟩
    have B1743 : (240 : Int) ≤ v1666.toInt ∧ v1666.toInt ≤ 223 := ⟨k_ge hc1690 (by decide), B1742.2⟩
    have q1744 := hc1688; rw [Int32.lt_iff_toInt_lt] at q1744
    have B1745 : (224 : Int) ≤ (224 : Int32).toInt ∧ (224 : Int32).toInt ≤ 224 := (by decide)
    have q1746 := hc1689; rw [Int32.lt_iff_toInt_lt] at q1746
    have B1747 : (240 : Int) ≤ (240 : Int32).toInt ∧ (240 : Int32).toInt ≤ 240 := (by decide)
    have q1748 := hc1690; rw [Int32.lt_iff_toInt_lt] at q1748
    omega
   ·
    show KEnds p e below s _ _ _ T1665 (mkF m 383 #[.val (.int i0), .val (.int i1), .val (.int i2), .val (.long i3), .second, .val (.int v1), .val (.int (1 : Int32)), .val (.int v996), .val (.int (3 : Int32)), .val (.ref b1622)] [(.int v1698)])
    exfalso
    have B1749 : (-2147483648 : Int) ≤ v996.toInt ∧ v996.toInt ≤ 2147483647 := ⟨(rng32 v996).1, Int.le_of_lt_add_one (rng32 v996).2⟩
    have B1752 : (128 : Int) ≤ v996.toInt ∧ v996.toInt ≤ 2147483647 := ⟨k_ge hP997.1 (by decide), B1749.2⟩
    have B1753 : (128 : Int) ≤ v996.toInt ∧ v996.toInt ≤ 2047 := ⟨B1752.1, k_le hP997.2 (by decide)⟩
    have B1754 : (128 : Int) ≤ (128 : Int32).toInt ∧ (128 : Int32).toInt ≤ 128 := (by decide)
    have q1755 := hP997.1; rw [Int32.lt_iff_toInt_lt] at q1755
    have B1756 : (2047 : Int) ≤ (2047 : Int32).toInt ∧ (2047 : Int32).toInt ≤ 2047 := (by decide)
    have q1757 := hP997.2; rw [Int32.lt_iff_toInt_lt] at q1757
    have q1765 : v1655.toInt = v996.toInt / 64 := (by rw [hv1655]; exact c_ishr _ _ 6 (by decide))
    have B1764 : (2 : Int) ≤ v1655.toInt ∧ v1655.toInt ≤ 31 := (by rw [q1765]; exact k_divB B1753 (by decide) (by decide) (by decide))
    have q1763 : v1656.toInt = 192 + v1655.toInt := k_orx (k := 6) hv1656 B1764 (by decide) (by decide) (by decide) (by decide) (by decide) (by decide)
    have B1762 : (194 : Int) ≤ v1656.toInt ∧ v1656.toInt ≤ 223 := k_caddB q1763 B1764
    have q1761 : v1657.toInt = v1656.toInt - 256 := k_i2by hv1657 B1762 (by decide) (by decide)
    have B1760 : (-62 : Int) ≤ v1657.toInt ∧ v1657.toInt ≤ -33 := k_subB q1761 B1762
    have q1759 : v1691.toInt = v1657.toInt - (-256) := (by rw [h1699, c_mask _ _ 8 (by decide) (by decide)]; exact k_modx B1760 (by decide) (by decide))
    have B1758 : (194 : Int) ≤ v1691.toInt ∧ v1691.toInt ≤ 223 := k_subB q1759 B1760
    have B1766 : (224 : Int) ≤ v1691.toInt ∧ v1691.toInt ≤ 223 := ⟨k_ge hc1708 (by decide), B1758.2⟩
    have q1767 := hc1707; rw [Int32.lt_iff_toInt_lt] at q1767
    have B1768 : (224 : Int) ≤ (224 : Int32).toInt ∧ (224 : Int32).toInt ≤ 224 := (by decide)
    have q1769 := hc1708; rw [Int32.lt_iff_toInt_lt] at q1769
    have B1770 : (240 : Int) ≤ (240 : Int32).toInt ∧ (240 : Int32).toInt ≤ 240 := (by decide)
    have q1771 := hc1709; rw [Int32.lt_iff_toInt_lt] at q1771
    omega
   ·
    show KEnds p e below s _ _ _ T1665 (mkF m 383 #[.val (.int i0), .val (.int i1), .val (.int i2), .val (.long i3), .second, .val (.int v1), .val (.int (1 : Int32)), .val (.int v996), .val (.int (3 : Int32)), .val (.ref b1622)] [(.int v1714)])
    refine k_iload X1665 hx (hb hby at_383) rfl (pc' := 385) rfl ?_
    refine k_icmp_ne X1665 hx (hb hby at_385) (pn := 388) rfl (py := 392) (by decide) (fun hc1772 => ?_) (fun hc1772 => ?_)
    ·
     refine k_iconst X1665 hx (hb hby at_392) (pc' := 393) rfl (z := (0 : Int32)) rfl ?_
     exfalso
     have B1773 : (-2147483648 : Int) ≤ v996.toInt ∧ v996.toInt ≤ 2147483647 := ⟨(rng32 v996).1, Int.le_of_lt_add_one (rng32 v996).2⟩
     have B1776 : (128 : Int) ≤ v996.toInt ∧ v996.toInt ≤ 2147483647 := ⟨k_ge hP997.1 (by decide), B1773.2⟩
     have B1777 : (128 : Int) ≤ v996.toInt ∧ v996.toInt ≤ 2047 := ⟨B1776.1, k_le hP997.2 (by decide)⟩
     have B1778 : (128 : Int) ≤ (128 : Int32).toInt ∧ (128 : Int32).toInt ≤ 128 := (by decide)
     have q1779 := hP997.1; rw [Int32.lt_iff_toInt_lt] at q1779
     have B1780 : (2047 : Int) ≤ (2047 : Int32).toInt ∧ (2047 : Int32).toInt ≤ 2047 := (by decide)
     have q1781 := hP997.2; rw [Int32.lt_iff_toInt_lt] at q1781
     have q1789 : v1655.toInt = v996.toInt / 64 := (by rw [hv1655]; exact c_ishr _ _ 6 (by decide))
     have B1788 : (2 : Int) ≤ v1655.toInt ∧ v1655.toInt ≤ 31 := (by rw [q1789]; exact k_divB B1777 (by decide) (by decide) (by decide))
     have q1787 : v1656.toInt = 192 + v1655.toInt := k_orx (k := 6) hv1656 B1788 (by decide) (by decide) (by decide) (by decide) (by decide) (by decide)
     have B1786 : (194 : Int) ≤ v1656.toInt ∧ v1656.toInt ≤ 223 := k_caddB q1787 B1788
     have q1785 : v1657.toInt = v1656.toInt - 256 := k_i2by hv1657 B1786 (by decide) (by decide)
     have B1784 : (-62 : Int) ≤ v1657.toInt ∧ v1657.toInt ≤ -33 := k_subB q1785 B1786
     have q1783 : v1710.toInt = v1657.toInt - (-256) := (by rw [h1715, c_mask _ _ 8 (by decide) (by decide)]; exact k_modx B1784 (by decide) (by decide))
     have B1782 : (194 : Int) ≤ v1710.toInt ∧ v1710.toInt ≤ 223 := k_subB q1783 B1784
     have q1790 := hc1720; rw [Int32.lt_iff_toInt_lt] at q1790
     have B1791 : (224 : Int) ≤ (224 : Int32).toInt ∧ (224 : Int32).toInt ≤ 224 := (by decide)
     have q1792 := hc1721; rw [Int32.lt_iff_toInt_lt] at q1792
     have q1798 : v1711.toInt = v1710.toInt - (192) := (by rw [h1716, c_mask _ _ 5 (by decide) (by decide)]; exact k_modx B1782 (by decide) (by decide))
     have B1797 : (2 : Int) ≤ v1711.toInt ∧ v1711.toInt ≤ 31 := k_subB q1798 B1782
     have q1796 : v1712.toInt = 64 * v1711.toInt := k_ishlx (k := 6) h1717 B1797 (by decide) (by decide) (by decide)
     have B1795 : (128 : Int) ≤ v1712.toInt ∧ v1712.toInt ≤ 1984 := (by rw [q1796]; exact k_mulB B1797 (by decide))
     have q1806 : v1660.toInt = v996.toInt % 64 := (by rw [hv1660]; exact c_mask _ _ 6 (by decide) (by decide))
     have B1805 : (0 : Int) ≤ v1660.toInt ∧ v1660.toInt ≤ 63 := (by rw [q1806]; exact k_modB (by decide))
     have q1804 : v1661.toInt = 128 + v1660.toInt := k_orx (k := 7) hv1661 B1805 (by decide) (by decide) (by decide) (by decide) (by decide) (by decide)
     have B1803 : (128 : Int) ≤ v1661.toInt ∧ v1661.toInt ≤ 191 := k_caddB q1804 B1805
     have q1802 : v1662.toInt = v1661.toInt - 256 := k_i2by hv1662 B1803 (by decide) (by decide)
     have B1801 : (-128 : Int) ≤ v1662.toInt ∧ v1662.toInt ≤ -65 := k_subB q1802 B1803
     have q1800 : v1713.toInt = v1662.toInt - (-128) := (by rw [h1718, c_mask _ _ 6 (by decide) (by decide)]; exact k_modx B1801 (by decide) (by decide))
     have B1799 : (0 : Int) ≤ v1713.toInt ∧ v1713.toInt ≤ 63 := k_subB q1800 B1801
     have q1794 : v1714.toInt = v1712.toInt + v1713.toInt := k_orx2 (k := 6) h1719 B1795 B1799 (by decide) (by decide) (by decide) (by decide) (by omega)
     have B1793 : (128 : Int) ≤ v1714.toInt ∧ v1714.toInt ≤ 2047 := k_addB q1794 B1795 B1799
     have q1807 : ¬ v1714.toInt = v996.toInt := fun q => hc1772 (Int32.toInt_inj.mp q)
     omega
    ·
     refine k_iconst X1665 hx (hb hby at_388) (pc' := 389) rfl (z := (1 : Int32)) rfl ?_
     refine k_goto X1665 hx (hb hby at_389) (pc' := 393) (by decide) ?_
     exact k_retN X1665 hx (t := .boolean) Bd.returns (by simp) (hb hby at_393) hlk (by decide) (by decide) (z' := (1 : Int32)) rfl ⟨rfl, N1665'⟩
   ·
    show KEnds p e below s _ _ _ T1665 (mkF m 383 #[.val (.int i0), .val (.int i1), .val (.int i2), .val (.long i3), .second, .val (.int v1), .val (.int (1 : Int32)), .val (.int v996), .val (.int (3 : Int32)), .val (.ref b1622)] [(.int v1722)])
    exfalso
    have B1808 : (-2147483648 : Int) ≤ v996.toInt ∧ v996.toInt ≤ 2147483647 := ⟨(rng32 v996).1, Int.le_of_lt_add_one (rng32 v996).2⟩
    have B1811 : (128 : Int) ≤ v996.toInt ∧ v996.toInt ≤ 2147483647 := ⟨k_ge hP997.1 (by decide), B1808.2⟩
    have B1812 : (128 : Int) ≤ v996.toInt ∧ v996.toInt ≤ 2047 := ⟨B1811.1, k_le hP997.2 (by decide)⟩
    have B1813 : (128 : Int) ≤ (128 : Int32).toInt ∧ (128 : Int32).toInt ≤ 128 := (by decide)
    have q1814 := hP997.1; rw [Int32.lt_iff_toInt_lt] at q1814
    have B1815 : (2047 : Int) ≤ (2047 : Int32).toInt ∧ (2047 : Int32).toInt ≤ 2047 := (by decide)
    have q1816 := hP997.2; rw [Int32.lt_iff_toInt_lt] at q1816
    have q1824 : v1655.toInt = v996.toInt / 64 := (by rw [hv1655]; exact c_ishr _ _ 6 (by decide))
    have B1823 : (2 : Int) ≤ v1655.toInt ∧ v1655.toInt ≤ 31 := (by rw [q1824]; exact k_divB B1812 (by decide) (by decide) (by decide))
    have q1822 : v1656.toInt = 192 + v1655.toInt := k_orx (k := 6) hv1656 B1823 (by decide) (by decide) (by decide) (by decide) (by decide) (by decide)
    have B1821 : (194 : Int) ≤ v1656.toInt ∧ v1656.toInt ≤ 223 := k_caddB q1822 B1823
    have q1820 : v1657.toInt = v1656.toInt - 256 := k_i2by hv1657 B1821 (by decide) (by decide)
    have B1819 : (-62 : Int) ≤ v1657.toInt ∧ v1657.toInt ≤ -33 := k_subB q1820 B1821
    have q1818 : v1722.toInt = v1657.toInt - (-256) := (by rw [h1723, c_mask _ _ 8 (by decide) (by decide)]; exact k_modx B1819 (by decide) (by decide))
    have B1817 : (194 : Int) ≤ v1722.toInt ∧ v1722.toInt ≤ 223 := k_subB q1818 B1819
    have B1825 : (194 : Int) ≤ v1722.toInt ∧ v1722.toInt ≤ 127 := ⟨B1817.1, k_lt hc1724 (by decide)⟩
    have q1826 := hc1724; rw [Int32.lt_iff_toInt_lt] at q1826
    omega
 ·
  show KEnds p e below s _ _ _ s₁ (mkF m 9 #[.val (.int i0), .val (.int i1), .val (.int i2), .val (.long i3), .second, .val (.int v1), .unset, .unset, .unset, .unset] [(.int (2 : Int32))])
  refine k_istore X0 hx (hb hby at_9) (Ls' := #[.val (.int i0), .val (.int i1), .val (.int i2), .val (.long i3), .second, .val (.int v1), .val (.int (2 : Int32)), .unset, .unset, .unset]) rfl (pc' := 11) rfl ?_
  suffices key1828 : ∀ (v2040 : Int32), (¬ v2040 < (2048 : Int32) ∧ ¬ (65535 : Int32) < v2040) → KEnds p e below s 16 128 (Q0 n0) s₁ (mkF m 99 #[.val (.int i0), .val (.int i1), .val (.int i2), .val (.long i3), .second, .val (.int v1), .val (.int (2 : Int32)), .val (.int v2040), .unset, .unset] []) by
   refine k_iload X0 hx (hb hby at_11) rfl (pc' := 13) rfl ?_
   refine k_if_ne X0 hx (hb hby at_13) (pn := 16) rfl (py := 26) (by decide) (fun _ => ?_) (fun hc => absurd hc (by decide))
   refine k_iload X0 hx (hb hby at_26) rfl (pc' := 28) rfl ?_
   refine k_iconst X0 hx (hb hby at_28) (pc' := 29) rfl (z := (1 : Int32)) rfl ?_
   refine k_icmp_ne X0 hx (hb hby at_29) (pn := 32) rfl (py := 47) (by decide) (fun _ => ?_) (fun hc => absurd hc (by decide))
   refine k_iload X0 hx (hb hby at_47) rfl (pc' := 49) rfl ?_
   refine k_iconst X0 hx (hb hby at_49) (pc' := 50) rfl (z := (2 : Int32)) rfl ?_
   refine k_icmp_ne X0 hx (hb hby at_50) (pn := 53) rfl (py := 89) (by decide) (fun hc => absurd (by decide) hc) (fun _ => ?_)
   refine k_sipush X0 hx (hb hby at_53) (pc' := 56) rfl (z := (2048 : Int32)) rfl ?_
   refine k_iload X0 hx (hb hby at_56) rfl (pc' := 58) rfl ?_
   refine k_ldc X0 hx hZ hown (hw _ (List.mem_of_getElem? (i := 14) rfl)) (hb hby at_58) (pc' := 60) rfl ?_
   refine k_irem X0 hx (hb hby at_60) (by decide) (pc' := 61) rfl (fun v1829 hv1829 => ?_)
   refine k_iadd X0 hx (hb hby at_61) (pc' := 62) rfl (fun v1830 hv1830 => ?_)
   refine k_istore X0 hx (hb hby at_62) (Ls' := #[.val (.int i0), .val (.int i1), .val (.int i2), .val (.long i3), .second, .val (.int v1), .val (.int (2 : Int32)), .val (.int v1830), .unset, .unset]) rfl (pc' := 64) rfl ?_
   refine k_iload X0 hx (hb hby at_64) rfl (pc' := 66) rfl ?_
   refine k_ldc X0 hx hZ hown (hw _ (List.mem_of_getElem? (i := 15) rfl)) (hb hby at_66) (pc' := 68) rfl ?_
   refine k_icmp_lt X0 hx (hb hby at_68) (pn := 71) rfl (py := 99) (by decide) (fun hc1831 => ?_) (fun hc1831 => ?_)
   ·
    refine key1828 v1830 ?_
    refine ⟨?_, ?_⟩
    · intro hq1861
      have B1864 : (2048 : Int) ≤ (2048 : Int32).toInt ∧ (2048 : Int32).toInt ≤ 2048 := (by decide)
      have B1869 : (-2147483648 : Int) ≤ i1.toInt ∧ i1.toInt ≤ 2147483647 := ⟨(rng32 i1).1, Int.le_of_lt_add_one (rng32 i1).2⟩
      have q1868 : v1.toInt = i1.toInt % 2147483648 := (by rw [hv1]; exact c_mask _ _ 31 (by decide) (by decide))
      have B1867 : (0 : Int) ≤ v1.toInt ∧ v1.toInt ≤ 2147483647 := (by rw [q1868]; exact k_modB (by decide))
      have q1866 : v1829.toInt = v1.toInt % 63488 := (by rw [hv1829]; exact (c_irem _ _ 63488 (by decide)).1 (Int.le_trans (by decide) B1867.1))
      have B1865 : (0 : Int) ≤ v1829.toInt ∧ v1829.toInt ≤ 63487 := (by rw [q1866]; exact k_modB (by decide))
      have q1863 : v1830.toInt = (2048 : Int32).toInt + v1829.toInt := k_iaddx hv1830 B1864 B1865 (by decide) (by decide)
      have B1862 : (2048 : Int) ≤ v1830.toInt ∧ v1830.toInt ≤ 65535 := k_addB q1863 B1864 B1865
      have B1870 : (2048 : Int) ≤ v1830.toInt ∧ v1830.toInt ≤ 55295 := ⟨B1862.1, k_lt hc1831 (by decide)⟩
      have B1871 : (2048 : Int) ≤ v1830.toInt ∧ v1830.toInt ≤ 2047 := ⟨B1870.1, k_lt hq1861 (by decide)⟩
      have B1872 : (55296 : Int) ≤ (55296 : Int32).toInt ∧ (55296 : Int32).toInt ≤ 55296 := (by decide)
      have q1873 := hc1831; rw [Int32.lt_iff_toInt_lt] at q1873
      have q1874 := hq1861; rw [Int32.lt_iff_toInt_lt] at q1874
      omega
    · intro hq1875
      have B1878 : (2048 : Int) ≤ (2048 : Int32).toInt ∧ (2048 : Int32).toInt ≤ 2048 := (by decide)
      have B1883 : (-2147483648 : Int) ≤ i1.toInt ∧ i1.toInt ≤ 2147483647 := ⟨(rng32 i1).1, Int.le_of_lt_add_one (rng32 i1).2⟩
      have q1882 : v1.toInt = i1.toInt % 2147483648 := (by rw [hv1]; exact c_mask _ _ 31 (by decide) (by decide))
      have B1881 : (0 : Int) ≤ v1.toInt ∧ v1.toInt ≤ 2147483647 := (by rw [q1882]; exact k_modB (by decide))
      have q1880 : v1829.toInt = v1.toInt % 63488 := (by rw [hv1829]; exact (c_irem _ _ 63488 (by decide)).1 (Int.le_trans (by decide) B1881.1))
      have B1879 : (0 : Int) ≤ v1829.toInt ∧ v1829.toInt ≤ 63487 := (by rw [q1880]; exact k_modB (by decide))
      have q1877 : v1830.toInt = (2048 : Int32).toInt + v1829.toInt := k_iaddx hv1830 B1878 B1879 (by decide) (by decide)
      have B1876 : (2048 : Int) ≤ v1830.toInt ∧ v1830.toInt ≤ 65535 := k_addB q1877 B1878 B1879
      have B1884 : (2048 : Int) ≤ v1830.toInt ∧ v1830.toInt ≤ 55295 := ⟨B1876.1, k_lt hc1831 (by decide)⟩
      have B1885 : (65536 : Int) ≤ v1830.toInt ∧ v1830.toInt ≤ 55295 := ⟨k_gt hq1875 (by decide), B1884.2⟩
      have B1886 : (55296 : Int) ≤ (55296 : Int32).toInt ∧ (55296 : Int32).toInt ≤ 55296 := (by decide)
      have q1887 := hc1831; rw [Int32.lt_iff_toInt_lt] at q1887
      have B1888 : (65535 : Int) ≤ (65535 : Int32).toInt ∧ (65535 : Int32).toInt ≤ 65535 := (by decide)
      have q1889 := hq1875; rw [Int32.lt_iff_toInt_lt] at q1889
      omega
   ·
    refine k_iload X0 hx (hb hby at_71) rfl (pc' := 73) rfl ?_
    refine k_ldc X0 hx hZ hown (hw _ (List.mem_of_getElem? (i := 18) rfl)) (hb hby at_73) (pc' := 75) rfl ?_
    refine k_icmp_ge X0 hx (hb hby at_75) (pn := 78) rfl (py := 99) (by decide) (fun hc1890 => ?_) (fun hc1890 => ?_)
    ·
     refine key1828 v1830 ?_
     refine ⟨?_, ?_⟩
     · intro hq1926
       have B1929 : (2048 : Int) ≤ (2048 : Int32).toInt ∧ (2048 : Int32).toInt ≤ 2048 := (by decide)
       have B1934 : (-2147483648 : Int) ≤ i1.toInt ∧ i1.toInt ≤ 2147483647 := ⟨(rng32 i1).1, Int.le_of_lt_add_one (rng32 i1).2⟩
       have q1933 : v1.toInt = i1.toInt % 2147483648 := (by rw [hv1]; exact c_mask _ _ 31 (by decide) (by decide))
       have B1932 : (0 : Int) ≤ v1.toInt ∧ v1.toInt ≤ 2147483647 := (by rw [q1933]; exact k_modB (by decide))
       have q1931 : v1829.toInt = v1.toInt % 63488 := (by rw [hv1829]; exact (c_irem _ _ 63488 (by decide)).1 (Int.le_trans (by decide) B1932.1))
       have B1930 : (0 : Int) ≤ v1829.toInt ∧ v1829.toInt ≤ 63487 := (by rw [q1931]; exact k_modB (by decide))
       have q1928 : v1830.toInt = (2048 : Int32).toInt + v1829.toInt := k_iaddx hv1830 B1929 B1930 (by decide) (by decide)
       have B1927 : (2048 : Int) ≤ v1830.toInt ∧ v1830.toInt ≤ 65535 := k_addB q1928 B1929 B1930
       have B1935 : (55296 : Int) ≤ v1830.toInt ∧ v1830.toInt ≤ 65535 := ⟨k_ge hc1831 (by decide), B1927.2⟩
       have B1936 : (57344 : Int) ≤ v1830.toInt ∧ v1830.toInt ≤ 65535 := ⟨k_ge hc1890 (by decide), B1935.2⟩
       have B1937 : (57344 : Int) ≤ v1830.toInt ∧ v1830.toInt ≤ 2047 := ⟨B1936.1, k_lt hq1926 (by decide)⟩
       have B1938 : (55296 : Int) ≤ (55296 : Int32).toInt ∧ (55296 : Int32).toInt ≤ 55296 := (by decide)
       have q1939 := hc1831; rw [Int32.lt_iff_toInt_lt] at q1939
       have B1940 : (57344 : Int) ≤ (57344 : Int32).toInt ∧ (57344 : Int32).toInt ≤ 57344 := (by decide)
       have q1941 := hc1890; rw [Int32.lt_iff_toInt_lt] at q1941
       have q1942 := hq1926; rw [Int32.lt_iff_toInt_lt] at q1942
       omega
     · intro hq1943
       have B1946 : (2048 : Int) ≤ (2048 : Int32).toInt ∧ (2048 : Int32).toInt ≤ 2048 := (by decide)
       have B1951 : (-2147483648 : Int) ≤ i1.toInt ∧ i1.toInt ≤ 2147483647 := ⟨(rng32 i1).1, Int.le_of_lt_add_one (rng32 i1).2⟩
       have q1950 : v1.toInt = i1.toInt % 2147483648 := (by rw [hv1]; exact c_mask _ _ 31 (by decide) (by decide))
       have B1949 : (0 : Int) ≤ v1.toInt ∧ v1.toInt ≤ 2147483647 := (by rw [q1950]; exact k_modB (by decide))
       have q1948 : v1829.toInt = v1.toInt % 63488 := (by rw [hv1829]; exact (c_irem _ _ 63488 (by decide)).1 (Int.le_trans (by decide) B1949.1))
       have B1947 : (0 : Int) ≤ v1829.toInt ∧ v1829.toInt ≤ 63487 := (by rw [q1948]; exact k_modB (by decide))
       have q1945 : v1830.toInt = (2048 : Int32).toInt + v1829.toInt := k_iaddx hv1830 B1946 B1947 (by decide) (by decide)
       have B1944 : (2048 : Int) ≤ v1830.toInt ∧ v1830.toInt ≤ 65535 := k_addB q1945 B1946 B1947
       have B1952 : (55296 : Int) ≤ v1830.toInt ∧ v1830.toInt ≤ 65535 := ⟨k_ge hc1831 (by decide), B1944.2⟩
       have B1953 : (57344 : Int) ≤ v1830.toInt ∧ v1830.toInt ≤ 65535 := ⟨k_ge hc1890 (by decide), B1952.2⟩
       have B1954 : (65536 : Int) ≤ v1830.toInt ∧ v1830.toInt ≤ 65535 := ⟨k_gt hq1943 (by decide), B1953.2⟩
       have B1955 : (55296 : Int) ≤ (55296 : Int32).toInt ∧ (55296 : Int32).toInt ≤ 55296 := (by decide)
       have q1956 := hc1831; rw [Int32.lt_iff_toInt_lt] at q1956
       have B1957 : (57344 : Int) ≤ (57344 : Int32).toInt ∧ (57344 : Int32).toInt ≤ 57344 := (by decide)
       have q1958 := hc1890; rw [Int32.lt_iff_toInt_lt] at q1958
       have B1959 : (65535 : Int) ≤ (65535 : Int32).toInt ∧ (65535 : Int32).toInt ≤ 65535 := (by decide)
       have q1960 := hq1943; rw [Int32.lt_iff_toInt_lt] at q1960
       omega
    ·
     refine k_iload X0 hx (hb hby at_78) rfl (pc' := 80) rfl ?_
     refine k_sipush X0 hx (hb hby at_80) (pc' := 83) rfl (z := (2048 : Int32)) rfl ?_
     refine k_iadd X0 hx (hb hby at_83) (pc' := 84) rfl (fun v1961 hv1961 => ?_)
     refine k_istore X0 hx (hb hby at_84) (Ls' := #[.val (.int i0), .val (.int i1), .val (.int i2), .val (.long i3), .second, .val (.int v1), .val (.int (2 : Int32)), .val (.int v1961), .unset, .unset]) rfl (pc' := 86) rfl ?_
     refine k_goto X0 hx (hb hby at_86) (pc' := 99) (by decide) ?_
     refine key1828 v1961 ?_
     refine ⟨?_, ?_⟩
     · intro hq2001
       have B2004 : (2048 : Int) ≤ (2048 : Int32).toInt ∧ (2048 : Int32).toInt ≤ 2048 := (by decide)
       have B2009 : (-2147483648 : Int) ≤ i1.toInt ∧ i1.toInt ≤ 2147483647 := ⟨(rng32 i1).1, Int.le_of_lt_add_one (rng32 i1).2⟩
       have q2008 : v1.toInt = i1.toInt % 2147483648 := (by rw [hv1]; exact c_mask _ _ 31 (by decide) (by decide))
       have B2007 : (0 : Int) ≤ v1.toInt ∧ v1.toInt ≤ 2147483647 := (by rw [q2008]; exact k_modB (by decide))
       have q2006 : v1829.toInt = v1.toInt % 63488 := (by rw [hv1829]; exact (c_irem _ _ 63488 (by decide)).1 (Int.le_trans (by decide) B2007.1))
       have B2005 : (0 : Int) ≤ v1829.toInt ∧ v1829.toInt ≤ 63487 := (by rw [q2006]; exact k_modB (by decide))
       have q2003 : v1830.toInt = (2048 : Int32).toInt + v1829.toInt := k_iaddx hv1830 B2004 B2005 (by decide) (by decide)
       have B2002 : (2048 : Int) ≤ v1830.toInt ∧ v1830.toInt ≤ 65535 := k_addB q2003 B2004 B2005
       have B2010 : (55296 : Int) ≤ v1830.toInt ∧ v1830.toInt ≤ 65535 := ⟨k_ge hc1831 (by decide), B2002.2⟩
       have B2011 : (55296 : Int) ≤ v1830.toInt ∧ v1830.toInt ≤ 57343 := ⟨B2010.1, k_lt hc1890 (by decide)⟩
       have B2012 : (55296 : Int) ≤ (55296 : Int32).toInt ∧ (55296 : Int32).toInt ≤ 55296 := (by decide)
       have q2013 := hc1831; rw [Int32.lt_iff_toInt_lt] at q2013
       have B2014 : (57344 : Int) ≤ (57344 : Int32).toInt ∧ (57344 : Int32).toInt ≤ 57344 := (by decide)
       have q2015 := hc1890; rw [Int32.lt_iff_toInt_lt] at q2015
       have q2017 : v1961.toInt = v1830.toInt + (2048 : Int32).toInt := k_iaddx hv1961 B2011 B2004 (by decide) (by decide)
       have B2016 : (57344 : Int) ≤ v1961.toInt ∧ v1961.toInt ≤ 59391 := k_addB q2017 B2011 B2004
       have B2018 : (57344 : Int) ≤ v1961.toInt ∧ v1961.toInt ≤ 2047 := ⟨B2016.1, k_lt hq2001 (by decide)⟩
       have q2019 := hq2001; rw [Int32.lt_iff_toInt_lt] at q2019
       omega
     · intro hq2020
       have B2023 : (2048 : Int) ≤ (2048 : Int32).toInt ∧ (2048 : Int32).toInt ≤ 2048 := (by decide)
       have B2028 : (-2147483648 : Int) ≤ i1.toInt ∧ i1.toInt ≤ 2147483647 := ⟨(rng32 i1).1, Int.le_of_lt_add_one (rng32 i1).2⟩
       have q2027 : v1.toInt = i1.toInt % 2147483648 := (by rw [hv1]; exact c_mask _ _ 31 (by decide) (by decide))
       have B2026 : (0 : Int) ≤ v1.toInt ∧ v1.toInt ≤ 2147483647 := (by rw [q2027]; exact k_modB (by decide))
       have q2025 : v1829.toInt = v1.toInt % 63488 := (by rw [hv1829]; exact (c_irem _ _ 63488 (by decide)).1 (Int.le_trans (by decide) B2026.1))
       have B2024 : (0 : Int) ≤ v1829.toInt ∧ v1829.toInt ≤ 63487 := (by rw [q2025]; exact k_modB (by decide))
       have q2022 : v1830.toInt = (2048 : Int32).toInt + v1829.toInt := k_iaddx hv1830 B2023 B2024 (by decide) (by decide)
       have B2021 : (2048 : Int) ≤ v1830.toInt ∧ v1830.toInt ≤ 65535 := k_addB q2022 B2023 B2024
       have B2029 : (55296 : Int) ≤ v1830.toInt ∧ v1830.toInt ≤ 65535 := ⟨k_ge hc1831 (by decide), B2021.2⟩
       have B2030 : (55296 : Int) ≤ v1830.toInt ∧ v1830.toInt ≤ 57343 := ⟨B2029.1, k_lt hc1890 (by decide)⟩
       have B2031 : (55296 : Int) ≤ (55296 : Int32).toInt ∧ (55296 : Int32).toInt ≤ 55296 := (by decide)
       have q2032 := hc1831; rw [Int32.lt_iff_toInt_lt] at q2032
       have B2033 : (57344 : Int) ≤ (57344 : Int32).toInt ∧ (57344 : Int32).toInt ≤ 57344 := (by decide)
       have q2034 := hc1890; rw [Int32.lt_iff_toInt_lt] at q2034
       have B2035 : (65535 : Int) ≤ (65535 : Int32).toInt ∧ (65535 : Int32).toInt ≤ 65535 := (by decide)
       have q2037 : v1961.toInt = v1830.toInt + (2048 : Int32).toInt := k_iaddx hv1961 B2030 B2023 (by decide) (by decide)
       have B2036 : (57344 : Int) ≤ v1961.toInt ∧ v1961.toInt ≤ 59391 := k_addB q2037 B2030 B2023
       have B2038 : (65536 : Int) ≤ v1961.toInt ∧ v1961.toInt ≤ 59391 := ⟨k_gt hq2020 (by decide), B2036.2⟩
       have q2039 := hq2020; rw [Int32.lt_iff_toInt_lt] at q2039
       omega
  intro v2040 hP2041
  refine k_iloadN X0 hx (hb hby at_99) rfl (pc' := 100) rfl ?_
  refine k_iconst X0 hx (hb hby at_100) (pc' := 101) rfl (z := (3 : Int32)) rfl ?_
  refine k_iand X0 hx (hb hby at_101) (pc' := 102) rfl (fun v2042 hv2042 => ?_)
  have hs2043 : v2042 = (0 : Int32) ∨ v2042 = (1 : Int32) ∨ v2042 = (2 : Int32) ∨ v2042 = (3 : Int32) := by
   have B2046 : (-2147483648 : Int) ≤ i2.toInt ∧ i2.toInt ≤ 2147483647 := ⟨(rng32 i2).1, Int.le_of_lt_add_one (rng32 i2).2⟩
   have q2045 : v2042.toInt = i2.toInt % 4 := (by rw [hv2042]; exact c_mask _ _ 2 (by decide) (by decide))
   have B2044 : (0 : Int) ≤ v2042.toInt ∧ v2042.toInt ≤ 3 := (by rw [q2045]; exact k_modB (by decide))
   rcases (by omega : v2042.toInt = 0 ∨ v2042.toInt = 1 ∨ v2042.toInt = 2 ∨ v2042.toInt = 3) with hq | hq | hq | hq
   · exact Or.inl (Int32.toInt_inj.mp hq)
   · exact Or.inr (Or.inl (Int32.toInt_inj.mp hq))
   · exact Or.inr (Or.inr (Or.inl (Int32.toInt_inj.mp hq)))
   · exact Or.inr (Or.inr (Or.inr ((Int32.toInt_inj.mp hq))))
  rcases hs2043 with rfl | rfl | rfl | rfl
  ·
   show KEnds p e below s _ _ _ s₁ (mkF m 102 #[.val (.int i0), .val (.int i1), .val (.int i2), .val (.long i3), .second, .val (.int v1), .val (.int (2 : Int32)), .val (.int v2040), .unset, .unset] [(.int (0 : Int32))])
   refine k_istore X0 hx (hb hby at_102) (Ls' := #[.val (.int i0), .val (.int i1), .val (.int i2), .val (.long i3), .second, .val (.int v1), .val (.int (2 : Int32)), .val (.int v2040), .val (.int (0 : Int32)), .unset]) rfl (pc' := 104) rfl ?_
   refine k_bipush X0 hx (hb hby at_104) (pc' := 106) rfl (z := (8 : Int32)) rfl ?_
   refine k_newA X0 hx hZ (hw _ (List.mem_of_getElem? (i := 1) rfl)) e0 (hb hby at_106) (by decide) (cap := 8) (by decide) (by decide) (by decide) (by decide) (pc' := 108) rfl (fun T2048 h2048 b2048 k2048 g2048 X2048 e2048 E2048 V2048 => ?_)
   have g_b2048 : n0 ≤ b2048 := Nat.le_trans Z0 (Nat.le_of_eq g2048.symm)
   have Z2048 : n0 ≤ h2048.size := Nat.le_trans Z0 E2048.1
   have Vw2048 : Arv Z h2048 b2048 k2048 .byte (8 : Int32) [(.int (0 : Int32)), (.int (0 : Int32)), (.int (0 : Int32)), (.int (0 : Int32)), (.int (0 : Int32)), (.int (0 : Int32)), (.int (0 : Int32)), (.int (0 : Int32))] (.int (0 : Int32)) := V2048
   refine k_astore X2048 hx (hb hby at_108) rfl (Ls' := #[.val (.int i0), .val (.int i1), .val (.int i2), .val (.long i3), .second, .val (.int v1), .val (.int (2 : Int32)), .val (.int v2040), .val (.int (0 : Int32)), .val (.ref b2048)]) rfl (pc' := 110) rfl ?_
   refine k_aload X2048 hx (hb hby at_110) rfl rfl (pc' := 112) rfl ?_
   refine k_iconst X2048 hx (hb hby at_112) (pc' := 113) rfl (z := (0 : Int32)) rfl ?_
   refine k_lloadN X2048 hx (hb hby at_113) rfl (pc' := 114) rfl ?_
   refine k_iconst X2048 hx (hb hby at_114) (pc' := 115) rfl (z := (0 : Int32)) rfl ?_
   refine k_callS X2048 hx hZ hown (hw _ (List.mem_of_getElem? (i := 2) rfl)) (hw _ (List.mem_of_getElem? (i := 3) rfl)) (hw _ (List.mem_of_getElem? (i := 4) rfl)) (hw _ (List.mem_of_getElem? (i := 5) rfl)) (by decide) (rm1_55 l Z a0 hw [] i3 h2048 n0 Z2048 ) (by decide) (by decide) e2048 (by rw [hml]; rfl) (argsL := [(.long i3), (.int (0 : Int32))]) (rest := [(.int (0 : Int32)), (.ref b2048)]) (lenOf pd_0 rfl) rfl (W := 2) (Nat.le_refl _) rfl (hb hby at_115) (by decide) (by decide) (pc' := 118) rfl (fun T2049 L2049 r2049 X2049 q2049 => ?_)
   obtain ⟨N2049, e2049, rfl⟩ := q2049
   have N2049' := Fr.app N0 N2049
   show KEnds p e below s _ _ _ T2049 (mkF m 118 #[.val (.int i0), .val (.int i1), .val (.int i2), .val (.long i3), .second, .val (.int v1), .val (.int (2 : Int32)), .val (.int v2040), .val (.int (0 : Int32)), .val (.ref b2048)] ((.int (f1_55 i3)) :: (.int (0 : Int32)) :: (.ref b2048) :: []))
   obtain ⟨v2050, hv2050⟩ : ∃ z, z = f1_55 i3 := ⟨_, rfl⟩
   rw [← hv2050]
   have hb2051 : v2050.toInt8.toInt32 = v2050 := by rw [hv2050]; exact f1_55_byte i3
   refine k_bastore X2049 hx hZ e2049 Vw2048 ⟨by decide, by decide⟩ (i := 0) rfl (Nat.le_of_ble_eq_true rfl) (hb hby at_118) (pc' := 119) rfl (fun T2052 h2052 X2052 e2052 W2052 V2052 => ?_)
   rw [hb2051] at V2052
   have Vw2052 : Arv Z h2052 b2048 k2048 .byte (8 : Int32) [(.int v2050), (.int (0 : Int32)), (.int (0 : Int32)), (.int (0 : Int32)), (.int (0 : Int32)), (.int (0 : Int32)), (.int (0 : Int32)), (.int (0 : Int32))] (.int (0 : Int32)) := V2052
   have N2052 := Fr.snoc X2052 N2049' g_b2048
   have Z2052 : n0 ≤ h2052.size := Nat.le_trans Z2048 (Nat.le_of_eq W2052.size.symm)
   refine k_aload X2052 hx (hb hby at_119) rfl rfl (pc' := 121) rfl ?_
   refine k_iconst X2052 hx (hb hby at_121) (pc' := 122) rfl (z := (1 : Int32)) rfl ?_
   refine k_lloadN X2052 hx (hb hby at_122) rfl (pc' := 123) rfl ?_
   refine k_iconst X2052 hx (hb hby at_123) (pc' := 124) rfl (z := (1 : Int32)) rfl ?_
   refine k_callS X2052 hx hZ hown (hw _ (List.mem_of_getElem? (i := 2) rfl)) (hw _ (List.mem_of_getElem? (i := 3) rfl)) (hw _ (List.mem_of_getElem? (i := 4) rfl)) (hw _ (List.mem_of_getElem? (i := 5) rfl)) (by decide) (rm1_60 l Z a0 hw [] i3 h2052 n0 Z2052 ) (by decide) (by decide) e2052 (by rw [hml]; rfl) (argsL := [(.long i3), (.int (1 : Int32))]) (rest := [(.int (1 : Int32)), (.ref b2048)]) (lenOf pd_0 rfl) rfl (W := 2) (Nat.le_refl _) rfl (hb hby at_124) (by decide) (by decide) (pc' := 127) rfl (fun T2053 L2053 r2053 X2053 q2053 => ?_)
   obtain ⟨N2053, e2053, rfl⟩ := q2053
   have N2053' := Fr.app N2052 N2053
   show KEnds p e below s _ _ _ T2053 (mkF m 127 #[.val (.int i0), .val (.int i1), .val (.int i2), .val (.long i3), .second, .val (.int v1), .val (.int (2 : Int32)), .val (.int v2040), .val (.int (0 : Int32)), .val (.ref b2048)] ((.int (f1_60 i3)) :: (.int (1 : Int32)) :: (.ref b2048) :: []))
   obtain ⟨v2054, hv2054⟩ : ∃ z, z = f1_60 i3 := ⟨_, rfl⟩
   rw [← hv2054]
   have hb2055 : v2054.toInt8.toInt32 = v2054 := by rw [hv2054]; exact f1_60_byte i3
   refine k_bastore X2053 hx hZ e2053 Vw2052 ⟨by decide, by decide⟩ (i := 1) rfl (Nat.le_of_ble_eq_true rfl) (hb hby at_127) (pc' := 128) rfl (fun T2056 h2056 X2056 e2056 W2056 V2056 => ?_)
   rw [hb2055] at V2056
   have Vw2056 : Arv Z h2056 b2048 k2048 .byte (8 : Int32) [(.int v2050), (.int v2054), (.int (0 : Int32)), (.int (0 : Int32)), (.int (0 : Int32)), (.int (0 : Int32)), (.int (0 : Int32)), (.int (0 : Int32))] (.int (0 : Int32)) := V2056
   have N2056 := Fr.snoc X2056 N2053' g_b2048
   have Z2056 : n0 ≤ h2056.size := Nat.le_trans Z2052 (Nat.le_of_eq W2056.size.symm)
   refine k_aload X2056 hx (hb hby at_128) rfl rfl (pc' := 130) rfl ?_
   refine k_iconst X2056 hx (hb hby at_130) (pc' := 131) rfl (z := (2 : Int32)) rfl ?_
   refine k_lloadN X2056 hx (hb hby at_131) rfl (pc' := 132) rfl ?_
   refine k_iconst X2056 hx (hb hby at_132) (pc' := 133) rfl (z := (2 : Int32)) rfl ?_
   refine k_callS X2056 hx hZ hown (hw _ (List.mem_of_getElem? (i := 2) rfl)) (hw _ (List.mem_of_getElem? (i := 3) rfl)) (hw _ (List.mem_of_getElem? (i := 4) rfl)) (hw _ (List.mem_of_getElem? (i := 5) rfl)) (by decide) (rm1_65 l Z a0 hw [] i3 h2056 n0 Z2056 ) (by decide) (by decide) e2056 (by rw [hml]; rfl) (argsL := [(.long i3), (.int (2 : Int32))]) (rest := [(.int (2 : Int32)), (.ref b2048)]) (lenOf pd_0 rfl) rfl (W := 2) (Nat.le_refl _) rfl (hb hby at_133) (by decide) (by decide) (pc' := 136) rfl (fun T2057 L2057 r2057 X2057 q2057 => ?_)
   obtain ⟨N2057, e2057, rfl⟩ := q2057
   have N2057' := Fr.app N2056 N2057
   show KEnds p e below s _ _ _ T2057 (mkF m 136 #[.val (.int i0), .val (.int i1), .val (.int i2), .val (.long i3), .second, .val (.int v1), .val (.int (2 : Int32)), .val (.int v2040), .val (.int (0 : Int32)), .val (.ref b2048)] ((.int (f1_65 i3)) :: (.int (2 : Int32)) :: (.ref b2048) :: []))
   obtain ⟨v2058, hv2058⟩ : ∃ z, z = f1_65 i3 := ⟨_, rfl⟩
   rw [← hv2058]
   have hb2059 : v2058.toInt8.toInt32 = v2058 := by rw [hv2058]; exact f1_65_byte i3
   refine k_bastore X2057 hx hZ e2057 Vw2056 ⟨by decide, by decide⟩ (i := 2) rfl (Nat.le_of_ble_eq_true rfl) (hb hby at_136) (pc' := 137) rfl (fun T2060 h2060 X2060 e2060 W2060 V2060 => ?_)
   rw [hb2059] at V2060
   have Vw2060 : Arv Z h2060 b2048 k2048 .byte (8 : Int32) [(.int v2050), (.int v2054), (.int v2058), (.int (0 : Int32)), (.int (0 : Int32)), (.int (0 : Int32)), (.int (0 : Int32)), (.int (0 : Int32))] (.int (0 : Int32)) := V2060
   have N2060 := Fr.snoc X2060 N2057' g_b2048
   have Z2060 : n0 ≤ h2060.size := Nat.le_trans Z2056 (Nat.le_of_eq W2060.size.symm)
   refine k_aload X2060 hx (hb hby at_137) rfl rfl (pc' := 139) rfl ?_
   refine k_iconst X2060 hx (hb hby at_139) (pc' := 140) rfl (z := (3 : Int32)) rfl ?_
   refine k_lloadN X2060 hx (hb hby at_140) rfl (pc' := 141) rfl ?_
   refine k_iconst X2060 hx (hb hby at_141) (pc' := 142) rfl (z := (3 : Int32)) rfl ?_
   refine k_callS X2060 hx hZ hown (hw _ (List.mem_of_getElem? (i := 2) rfl)) (hw _ (List.mem_of_getElem? (i := 3) rfl)) (hw _ (List.mem_of_getElem? (i := 4) rfl)) (hw _ (List.mem_of_getElem? (i := 5) rfl)) (by decide) (rm1_70 l Z a0 hw [] i3 h2060 n0 Z2060 ) (by decide) (by decide) e2060 (by rw [hml]; rfl) (argsL := [(.long i3), (.int (3 : Int32))]) (rest := [(.int (3 : Int32)), (.ref b2048)]) (lenOf pd_0 rfl) rfl (W := 2) (Nat.le_refl _) rfl (hb hby at_142) (by decide) (by decide) (pc' := 145) rfl (fun T2061 L2061 r2061 X2061 q2061 => ?_)
   obtain ⟨N2061, e2061, rfl⟩ := q2061
   have N2061' := Fr.app N2060 N2061
   show KEnds p e below s _ _ _ T2061 (mkF m 145 #[.val (.int i0), .val (.int i1), .val (.int i2), .val (.long i3), .second, .val (.int v1), .val (.int (2 : Int32)), .val (.int v2040), .val (.int (0 : Int32)), .val (.ref b2048)] ((.int (f1_70 i3)) :: (.int (3 : Int32)) :: (.ref b2048) :: []))
   obtain ⟨v2062, hv2062⟩ : ∃ z, z = f1_70 i3 := ⟨_, rfl⟩
   rw [← hv2062]
   have hb2063 : v2062.toInt8.toInt32 = v2062 := by rw [hv2062]; exact f1_70_byte i3
   refine k_bastore X2061 hx hZ e2061 Vw2060 ⟨by decide, by decide⟩ (i := 3) rfl (Nat.le_of_ble_eq_true rfl) (hb hby at_145) (pc' := 146) rfl (fun T2064 h2064 X2064 e2064 W2064 V2064 => ?_)
   rw [hb2063] at V2064
   have Vw2064 : Arv Z h2064 b2048 k2048 .byte (8 : Int32) [(.int v2050), (.int v2054), (.int v2058), (.int v2062), (.int (0 : Int32)), (.int (0 : Int32)), (.int (0 : Int32)), (.int (0 : Int32))] (.int (0 : Int32)) := V2064
   have N2064 := Fr.snoc X2064 N2061' g_b2048
   have Z2064 : n0 ≤ h2064.size := Nat.le_trans Z2060 (Nat.le_of_eq W2064.size.symm)
   refine k_aload X2064 hx (hb hby at_146) rfl rfl (pc' := 148) rfl ?_
   refine k_iconst X2064 hx (hb hby at_148) (pc' := 149) rfl (z := (4 : Int32)) rfl ?_
   refine k_lloadN X2064 hx (hb hby at_149) rfl (pc' := 150) rfl ?_
   refine k_iconst X2064 hx (hb hby at_150) (pc' := 151) rfl (z := (4 : Int32)) rfl ?_
   refine k_callS X2064 hx hZ hown (hw _ (List.mem_of_getElem? (i := 2) rfl)) (hw _ (List.mem_of_getElem? (i := 3) rfl)) (hw _ (List.mem_of_getElem? (i := 4) rfl)) (hw _ (List.mem_of_getElem? (i := 5) rfl)) (by decide) (rm1_75 l Z a0 hw [] i3 h2064 n0 Z2064 ) (by decide) (by decide) e2064 (by rw [hml]; rfl) (argsL := [(.long i3), (.int (4 : Int32))]) (rest := [(.int (4 : Int32)), (.ref b2048)]) (lenOf pd_0 rfl) rfl (W := 2) (Nat.le_refl _) rfl (hb hby at_151) (by decide) (by decide) (pc' := 154) rfl (fun T2065 L2065 r2065 X2065 q2065 => ?_)
   obtain ⟨N2065, e2065, rfl⟩ := q2065
   have N2065' := Fr.app N2064 N2065
   show KEnds p e below s _ _ _ T2065 (mkF m 154 #[.val (.int i0), .val (.int i1), .val (.int i2), .val (.long i3), .second, .val (.int v1), .val (.int (2 : Int32)), .val (.int v2040), .val (.int (0 : Int32)), .val (.ref b2048)] ((.int (f1_75 i3)) :: (.int (4 : Int32)) :: (.ref b2048) :: []))
   obtain ⟨v2066, hv2066⟩ : ∃ z, z = f1_75 i3 := ⟨_, rfl⟩
   rw [← hv2066]
   have hb2067 : v2066.toInt8.toInt32 = v2066 := by rw [hv2066]; exact f1_75_byte i3
   refine k_bastore X2065 hx hZ e2065 Vw2064 ⟨by decide, by decide⟩ (i := 4) rfl (Nat.le_of_ble_eq_true rfl) (hb hby at_154) (pc' := 155) rfl (fun T2068 h2068 X2068 e2068 W2068 V2068 => ?_)
   rw [hb2067] at V2068
   have Vw2068 : Arv Z h2068 b2048 k2048 .byte (8 : Int32) [(.int v2050), (.int v2054), (.int v2058), (.int v2062), (.int v2066), (.int (0 : Int32)), (.int (0 : Int32)), (.int (0 : Int32))] (.int (0 : Int32)) := V2068
   have N2068 := Fr.snoc X2068 N2065' g_b2048
   have Z2068 : n0 ≤ h2068.size := Nat.le_trans Z2064 (Nat.le_of_eq W2068.size.symm)
   refine k_aload X2068 hx (hb hby at_155) rfl rfl (pc' := 157) rfl ?_
   refine k_iconst X2068 hx (hb hby at_157) (pc' := 158) rfl (z := (5 : Int32)) rfl ?_
   refine k_lloadN X2068 hx (hb hby at_158) rfl (pc' := 159) rfl ?_
   refine k_iconst X2068 hx (hb hby at_159) (pc' := 160) rfl (z := (5 : Int32)) rfl ?_
   refine k_callS X2068 hx hZ hown (hw _ (List.mem_of_getElem? (i := 2) rfl)) (hw _ (List.mem_of_getElem? (i := 3) rfl)) (hw _ (List.mem_of_getElem? (i := 4) rfl)) (hw _ (List.mem_of_getElem? (i := 5) rfl)) (by decide) (rm1_80 l Z a0 hw [] i3 h2068 n0 Z2068 ) (by decide) (by decide) e2068 (by rw [hml]; rfl) (argsL := [(.long i3), (.int (5 : Int32))]) (rest := [(.int (5 : Int32)), (.ref b2048)]) (lenOf pd_0 rfl) rfl (W := 2) (Nat.le_refl _) rfl (hb hby at_160) (by decide) (by decide) (pc' := 163) rfl (fun T2069 L2069 r2069 X2069 q2069 => ?_)
   obtain ⟨N2069, e2069, rfl⟩ := q2069
   have N2069' := Fr.app N2068 N2069
   show KEnds p e below s _ _ _ T2069 (mkF m 163 #[.val (.int i0), .val (.int i1), .val (.int i2), .val (.long i3), .second, .val (.int v1), .val (.int (2 : Int32)), .val (.int v2040), .val (.int (0 : Int32)), .val (.ref b2048)] ((.int (f1_80 i3)) :: (.int (5 : Int32)) :: (.ref b2048) :: []))
   obtain ⟨v2070, hv2070⟩ : ∃ z, z = f1_80 i3 := ⟨_, rfl⟩
   rw [← hv2070]
   have hb2071 : v2070.toInt8.toInt32 = v2070 := by rw [hv2070]; exact f1_80_byte i3
   refine k_bastore X2069 hx hZ e2069 Vw2068 ⟨by decide, by decide⟩ (i := 5) rfl (Nat.le_of_ble_eq_true rfl) (hb hby at_163) (pc' := 164) rfl (fun T2072 h2072 X2072 e2072 W2072 V2072 => ?_)
   rw [hb2071] at V2072
   have Vw2072 : Arv Z h2072 b2048 k2048 .byte (8 : Int32) [(.int v2050), (.int v2054), (.int v2058), (.int v2062), (.int v2066), (.int v2070), (.int (0 : Int32)), (.int (0 : Int32))] (.int (0 : Int32)) := V2072
   have N2072 := Fr.snoc X2072 N2069' g_b2048
   have Z2072 : n0 ≤ h2072.size := Nat.le_trans Z2068 (Nat.le_of_eq W2072.size.symm)
   refine k_aload X2072 hx (hb hby at_164) rfl rfl (pc' := 166) rfl ?_
   refine k_bipush X2072 hx (hb hby at_166) (pc' := 168) rfl (z := (6 : Int32)) rfl ?_
   refine k_lloadN X2072 hx (hb hby at_168) rfl (pc' := 169) rfl ?_
   refine k_bipush X2072 hx (hb hby at_169) (pc' := 171) rfl (z := (6 : Int32)) rfl ?_
   refine k_callS X2072 hx hZ hown (hw _ (List.mem_of_getElem? (i := 2) rfl)) (hw _ (List.mem_of_getElem? (i := 3) rfl)) (hw _ (List.mem_of_getElem? (i := 4) rfl)) (hw _ (List.mem_of_getElem? (i := 5) rfl)) (by decide) (rm1_85 l Z a0 hw [] i3 h2072 n0 Z2072 ) (by decide) (by decide) e2072 (by rw [hml]; rfl) (argsL := [(.long i3), (.int (6 : Int32))]) (rest := [(.int (6 : Int32)), (.ref b2048)]) (lenOf pd_0 rfl) rfl (W := 2) (Nat.le_refl _) rfl (hb hby at_171) (by decide) (by decide) (pc' := 174) rfl (fun T2073 L2073 r2073 X2073 q2073 => ?_)
   obtain ⟨N2073, e2073, rfl⟩ := q2073
   have N2073' := Fr.app N2072 N2073
   show KEnds p e below s _ _ _ T2073 (mkF m 174 #[.val (.int i0), .val (.int i1), .val (.int i2), .val (.long i3), .second, .val (.int v1), .val (.int (2 : Int32)), .val (.int v2040), .val (.int (0 : Int32)), .val (.ref b2048)] ((.int (f1_85 i3)) :: (.int (6 : Int32)) :: (.ref b2048) :: []))
   obtain ⟨v2074, hv2074⟩ : ∃ z, z = f1_85 i3 := ⟨_, rfl⟩
   rw [← hv2074]
   have hb2075 : v2074.toInt8.toInt32 = v2074 := by rw [hv2074]; exact f1_85_byte i3
   refine k_bastore X2073 hx hZ e2073 Vw2072 ⟨by decide, by decide⟩ (i := 6) rfl (Nat.le_of_ble_eq_true rfl) (hb hby at_174) (pc' := 175) rfl (fun T2076 h2076 X2076 e2076 W2076 V2076 => ?_)
   rw [hb2075] at V2076
   have Vw2076 : Arv Z h2076 b2048 k2048 .byte (8 : Int32) [(.int v2050), (.int v2054), (.int v2058), (.int v2062), (.int v2066), (.int v2070), (.int v2074), (.int (0 : Int32))] (.int (0 : Int32)) := V2076
   have N2076 := Fr.snoc X2076 N2073' g_b2048
   have Z2076 : n0 ≤ h2076.size := Nat.le_trans Z2072 (Nat.le_of_eq W2076.size.symm)
   refine k_aload X2076 hx (hb hby at_175) rfl rfl (pc' := 177) rfl ?_
   refine k_bipush X2076 hx (hb hby at_177) (pc' := 179) rfl (z := (7 : Int32)) rfl ?_
   refine k_lloadN X2076 hx (hb hby at_179) rfl (pc' := 180) rfl ?_
   refine k_bipush X2076 hx (hb hby at_180) (pc' := 182) rfl (z := (7 : Int32)) rfl ?_
   refine k_callS X2076 hx hZ hown (hw _ (List.mem_of_getElem? (i := 2) rfl)) (hw _ (List.mem_of_getElem? (i := 3) rfl)) (hw _ (List.mem_of_getElem? (i := 4) rfl)) (hw _ (List.mem_of_getElem? (i := 5) rfl)) (by decide) (rm1_90 l Z a0 hw [] i3 h2076 n0 Z2076 ) (by decide) (by decide) e2076 (by rw [hml]; rfl) (argsL := [(.long i3), (.int (7 : Int32))]) (rest := [(.int (7 : Int32)), (.ref b2048)]) (lenOf pd_0 rfl) rfl (W := 2) (Nat.le_refl _) rfl (hb hby at_182) (by decide) (by decide) (pc' := 185) rfl (fun T2077 L2077 r2077 X2077 q2077 => ?_)
   obtain ⟨N2077, e2077, rfl⟩ := q2077
   have N2077' := Fr.app N2076 N2077
   show KEnds p e below s _ _ _ T2077 (mkF m 185 #[.val (.int i0), .val (.int i1), .val (.int i2), .val (.long i3), .second, .val (.int v1), .val (.int (2 : Int32)), .val (.int v2040), .val (.int (0 : Int32)), .val (.ref b2048)] ((.int (f1_90 i3)) :: (.int (7 : Int32)) :: (.ref b2048) :: []))
   obtain ⟨v2078, hv2078⟩ : ∃ z, z = f1_90 i3 := ⟨_, rfl⟩
   rw [← hv2078]
   have hb2079 : v2078.toInt8.toInt32 = v2078 := by rw [hv2078]; exact f1_90_byte i3
   refine k_bastore X2077 hx hZ e2077 Vw2076 ⟨by decide, by decide⟩ (i := 7) rfl (Nat.le_of_ble_eq_true rfl) (hb hby at_185) (pc' := 186) rfl (fun T2080 h2080 X2080 e2080 W2080 V2080 => ?_)
   rw [hb2079] at V2080
   have Vw2080 : Arv Z h2080 b2048 k2048 .byte (8 : Int32) [(.int v2050), (.int v2054), (.int v2058), (.int v2062), (.int v2066), (.int v2070), (.int v2074), (.int v2078)] (.int (0 : Int32)) := V2080
   have N2080 := Fr.snoc X2080 N2077' g_b2048
   have Z2080 : n0 ≤ h2080.size := Nat.le_trans Z2076 (Nat.le_of_eq W2080.size.symm)
   refine k_iload X2080 hx (hb hby at_186) rfl (pc' := 188) rfl ?_
   refine k_if_ne X2080 hx (hb hby at_188) (pn := 191) rfl (py := 202) (by decide) (fun _ => ?_) (fun hc => absurd hc (by decide))
   refine k_iload X2080 hx (hb hby at_202) rfl (pc' := 204) rfl ?_
   refine k_iconst X2080 hx (hb hby at_204) (pc' := 205) rfl (z := (1 : Int32)) rfl ?_
   refine k_icmp_ne X2080 hx (hb hby at_205) (pn := 208) rfl (py := 243) (by decide) (fun _ => ?_) (fun hc => absurd hc (by decide))
   refine k_iload X2080 hx (hb hby at_243) rfl (pc' := 245) rfl ?_
   refine k_iconst X2080 hx (hb hby at_245) (pc' := 246) rfl (z := (2 : Int32)) rfl ?_
   refine k_icmp_ne X2080 hx (hb hby at_246) (pn := 249) rfl (py := 304) (by decide) (fun hc => absurd (by decide) hc) (fun _ => ?_)
   refine k_aload X2080 hx (hb hby at_249) rfl rfl (pc' := 251) rfl ?_
   refine k_iload X2080 hx (hb hby at_251) rfl (pc' := 253) rfl ?_
   refine k_sipush X2080 hx (hb hby at_253) (pc' := 256) rfl (z := (224 : Int32)) rfl ?_
   refine k_iload X2080 hx (hb hby at_256) rfl (pc' := 258) rfl ?_
   refine k_bipush X2080 hx (hb hby at_258) (pc' := 260) rfl (z := (12 : Int32)) rfl ?_
   refine k_ishr X2080 hx (hb hby at_260) (pc' := 261) rfl (fun v2081 hv2081 => ?_)
   refine k_ior X2080 hx (hb hby at_261) (pc' := 262) rfl (fun v2082 hv2082 => ?_)
   refine k_i2b X2080 hx (hb hby at_262) (pc' := 263) rfl (fun v2083 hv2083 => ?_)
   refine k_bastore X2080 hx hZ e2080 Vw2080 ⟨by decide, by decide⟩ (i := 0) rfl (Nat.le_of_ble_eq_true rfl) (hb hby at_263) (pc' := 264) rfl (fun T2084 h2084 X2084 e2084 W2084 V2084 => ?_)
   have hb2085 : v2083.toInt8.toInt32 = v2083 := by rw [hv2083]; exact k_i2b2 _
   rw [hb2085] at V2084
   have Vw2084 : Arv Z h2084 b2048 k2048 .byte (8 : Int32) [(.int v2083), (.int v2054), (.int v2058), (.int v2062), (.int v2066), (.int v2070), (.int v2074), (.int v2078)] (.int (0 : Int32)) := V2084
   have N2084 := Fr.snoc X2084 N2080 g_b2048
   have Z2084 : n0 ≤ h2084.size := Nat.le_trans Z2080 (Nat.le_of_eq W2084.size.symm)
   refine k_aload X2084 hx (hb hby at_264) rfl rfl (pc' := 266) rfl ?_
   refine k_iload X2084 hx (hb hby at_266) rfl (pc' := 268) rfl ?_
   refine k_iconst X2084 hx (hb hby at_268) (pc' := 269) rfl (z := (1 : Int32)) rfl ?_
   refine k_iaddL X2084 hx (hb hby at_269) (pc' := 270) rfl (z := (1 : Int32)) (by decide) ?_
   refine k_sipush X2084 hx (hb hby at_270) (pc' := 273) rfl (z := (128 : Int32)) rfl ?_
   refine k_iload X2084 hx (hb hby at_273) rfl (pc' := 275) rfl ?_
   refine k_bipush X2084 hx (hb hby at_275) (pc' := 277) rfl (z := (6 : Int32)) rfl ?_
   refine k_ishr X2084 hx (hb hby at_277) (pc' := 278) rfl (fun v2086 hv2086 => ?_)
   refine k_bipush X2084 hx (hb hby at_278) (pc' := 280) rfl (z := (63 : Int32)) rfl ?_
   refine k_iand X2084 hx (hb hby at_280) (pc' := 281) rfl (fun v2087 hv2087 => ?_)
   refine k_ior X2084 hx (hb hby at_281) (pc' := 282) rfl (fun v2088 hv2088 => ?_)
   refine k_i2b X2084 hx (hb hby at_282) (pc' := 283) rfl (fun v2089 hv2089 => ?_)
   refine k_bastore X2084 hx hZ e2084 Vw2084 ⟨by decide, by decide⟩ (i := 1) rfl (Nat.le_of_ble_eq_true rfl) (hb hby at_283) (pc' := 284) rfl (fun T2090 h2090 X2090 e2090 W2090 V2090 => ?_)
   have hb2091 : v2089.toInt8.toInt32 = v2089 := by rw [hv2089]; exact k_i2b2 _
   rw [hb2091] at V2090
   have Vw2090 : Arv Z h2090 b2048 k2048 .byte (8 : Int32) [(.int v2083), (.int v2089), (.int v2058), (.int v2062), (.int v2066), (.int v2070), (.int v2074), (.int v2078)] (.int (0 : Int32)) := V2090
   have N2090 := Fr.snoc X2090 N2084 g_b2048
   have Z2090 : n0 ≤ h2090.size := Nat.le_trans Z2084 (Nat.le_of_eq W2090.size.symm)
   refine k_aload X2090 hx (hb hby at_284) rfl rfl (pc' := 286) rfl ?_
   refine k_iload X2090 hx (hb hby at_286) rfl (pc' := 288) rfl ?_
   refine k_iconst X2090 hx (hb hby at_288) (pc' := 289) rfl (z := (2 : Int32)) rfl ?_
   refine k_iaddL X2090 hx (hb hby at_289) (pc' := 290) rfl (z := (2 : Int32)) (by decide) ?_
   refine k_sipush X2090 hx (hb hby at_290) (pc' := 293) rfl (z := (128 : Int32)) rfl ?_
   refine k_iload X2090 hx (hb hby at_293) rfl (pc' := 295) rfl ?_
   refine k_bipush X2090 hx (hb hby at_295) (pc' := 297) rfl (z := (63 : Int32)) rfl ?_
   refine k_iand X2090 hx (hb hby at_297) (pc' := 298) rfl (fun v2092 hv2092 => ?_)
   refine k_ior X2090 hx (hb hby at_298) (pc' := 299) rfl (fun v2093 hv2093 => ?_)
   refine k_i2b X2090 hx (hb hby at_299) (pc' := 300) rfl (fun v2094 hv2094 => ?_)
   refine k_bastore X2090 hx hZ e2090 Vw2090 ⟨by decide, by decide⟩ (i := 2) rfl (Nat.le_of_ble_eq_true rfl) (hb hby at_300) (pc' := 301) rfl (fun T2095 h2095 X2095 e2095 W2095 V2095 => ?_)
   have hb2096 : v2094.toInt8.toInt32 = v2094 := by rw [hv2094]; exact k_i2b2 _
   rw [hb2096] at V2095
   have Vw2095 : Arv Z h2095 b2048 k2048 .byte (8 : Int32) [(.int v2083), (.int v2089), (.int v2094), (.int v2062), (.int v2066), (.int v2070), (.int v2074), (.int v2078)] (.int (0 : Int32)) := V2095
   have N2095 := Fr.snoc X2095 N2090 g_b2048
   have Z2095 : n0 ≤ h2095.size := Nat.le_trans Z2090 (Nat.le_of_eq W2095.size.symm)
   refine k_goto X2095 hx (hb hby at_301) (pc' := 376) (by decide) ?_
   refine k_aload X2095 hx (hb hby at_376) rfl rfl (pc' := 378) rfl ?_
   refine k_iload X2095 hx (hb hby at_378) rfl (pc' := 380) rfl ?_
   refine k_callS X2095 hx hZ hown (hw _ (List.mem_of_getElem? (i := 7) rfl)) (hw _ (List.mem_of_getElem? (i := 8) rfl)) (hw _ (List.mem_of_getElem? (i := 9) rfl)) (hw _ (List.mem_of_getElem? (i := 10) rfl)) (by decide) (rm2_98 l Z a0 hw [] b2048 k2048 v2083 v2089 v2094 v2062 v2066 v2070 v2074 v2078 h2095 n0 Z2095 Vw2095) (by decide) (by decide) e2095 (by rw [hml]; rfl) (argsL := [(.ref b2048), (.int (0 : Int32))]) (rest := []) (lenOf pd_2 rfl) rfl (W := 0) (Nat.le_refl _) rfl (hb hby at_380) (by decide) (by decide) (pc' := 383) rfl (fun T2097 L2097 r2097 X2097 q2097 => ?_)
   obtain ⟨N2097, e2097, q2097⟩ := q2097
   have N2097' := Fr.app N2095 N2097
   rcases q2097 with ⟨v2098, v2099, v2100, v2101, v2102, v2103, v2104, v2105, v2106, v2107, v2108, h2109, h2110, h2111, h2112, h2113, h2114, h2115, h2116, h2117, h2118, h2119, hc2120, hc2121, hc2122, rfl⟩ | ⟨v2123, v2124, v2125, v2126, v2127, v2128, v2129, v2130, h2131, h2132, h2133, h2134, h2135, h2136, h2137, h2138, hc2139, hc2140, hc2141, rfl⟩ | ⟨v2142, v2143, v2144, v2145, v2146, h2147, h2148, h2149, h2150, h2151, hc2152, hc2153, rfl⟩ | ⟨v2154, h2155, hc2156, rfl⟩
   ·
    show KEnds p e below s _ _ _ T2097 (mkF m 383 #[.val (.int i0), .val (.int i1), .val (.int i2), .val (.long i3), .second, .val (.int v1), .val (.int (2 : Int32)), .val (.int v2040), .val (.int (0 : Int32)), .val (.ref b2048)] [(.int v2108)])
    exfalso
    have B2157 : (-2147483648 : Int) ≤ v2040.toInt ∧ v2040.toInt ≤ 2147483647 := ⟨(rng32 v2040).1, Int.le_of_lt_add_one (rng32 v2040).2⟩
    have B2160 : (2048 : Int) ≤ v2040.toInt ∧ v2040.toInt ≤ 2147483647 := ⟨k_ge hP2041.1 (by decide), B2157.2⟩
    have B2161 : (2048 : Int) ≤ v2040.toInt ∧ v2040.toInt ≤ 65535 := ⟨B2160.1, k_le hP2041.2 (by decide)⟩
    have B2162 : (2048 : Int) ≤ (2048 : Int32).toInt ∧ (2048 : Int32).toInt ≤ 2048 := (by decide)
    have q2163 := hP2041.1; rw [Int32.lt_iff_toInt_lt] at q2163
    have B2164 : (65535 : Int) ≤ (65535 : Int32).toInt ∧ (65535 : Int32).toInt ≤ 65535 := (by decide)
    have q2165 := hP2041.2; rw [Int32.lt_iff_toInt_lt] at q2165
    have q2173 : v2081.toInt = v2040.toInt / 4096 := (by rw [hv2081]; exact c_ishr _ _ 12 (by decide))
    have B2172 : (0 : Int) ≤ v2081.toInt ∧ v2081.toInt ≤ 15 := (by rw [q2173]; exact k_divB B2161 (by decide) (by decide) (by decide))
    have q2171 : v2082.toInt = 224 + v2081.toInt := k_orx (k := 5) hv2082 B2172 (by decide) (by decide) (by decide) (by decide) (by decide) (by decide)
    have B2170 : (224 : Int) ≤ v2082.toInt ∧ v2082.toInt ≤ 239 := k_caddB q2171 B2172
    have q2169 : v2083.toInt = v2082.toInt - 256 := k_i2by hv2083 B2170 (by decide) (by decide)
    have B2168 : (-32 : Int) ≤ v2083.toInt ∧ v2083.toInt ≤ -17 := k_subB q2169 B2170
    have q2167 : v2098.toInt = v2083.toInt - (-256) := (by rw [h2109, c_mask _ _ 8 (by decide) (by decide)]; exact k_modx B2168 (by decide) (by decide))
    have B2166 : (224 : Int) ≤ v2098.toInt ∧ v2098.toInt ≤ 239 := k_subB q2167 B2168
    have B2174 : (240 : Int) ≤ v2098.toInt ∧ v2098.toInt ≤ 239 := ⟨k_ge hc2122 (by decide), B2166.2⟩
    have B2175 : (128 : Int) ≤ (128 : Int32).toInt ∧ (128 : Int32).toInt ≤ 128 := (by decide)
    have q2176 := hc2120; rw [Int32.lt_iff_toInt_lt] at q2176
    have B2177 : (224 : Int) ≤ (224 : Int32).toInt ∧ (224 : Int32).toInt ≤ 224 := (by decide)
    have q2178 := hc2121; rw [Int32.lt_iff_toInt_lt] at q2178
    have B2179 : (240 : Int) ≤ (240 : Int32).toInt ∧ (240 : Int32).toInt ≤ 240 := (by decide)
    have q2180 := hc2122; rw [Int32.lt_iff_toInt_lt] at q2180
    omega
   ·
    show KEnds p e below s _ _ _ T2097 (mkF m 383 #[.val (.int i0), .val (.int i1), .val (.int i2), .val (.long i3), .second, .val (.int v1), .val (.int (2 : Int32)), .val (.int v2040), .val (.int (0 : Int32)), .val (.ref b2048)] [(.int v2130)])
    refine k_iload X2097 hx (hb hby at_383) rfl (pc' := 385) rfl ?_
    refine k_icmp_ne X2097 hx (hb hby at_385) (pn := 388) rfl (py := 392) (by decide) (fun hc2181 => ?_) (fun hc2181 => ?_)
    ·
     refine k_iconst X2097 hx (hb hby at_392) (pc' := 393) rfl (z := (0 : Int32)) rfl ?_
     exfalso
     have B2182 : (-2147483648 : Int) ≤ v2040.toInt ∧ v2040.toInt ≤ 2147483647 := ⟨(rng32 v2040).1, Int.le_of_lt_add_one (rng32 v2040).2⟩
     have B2185 : (2048 : Int) ≤ v2040.toInt ∧ v2040.toInt ≤ 2147483647 := ⟨k_ge hP2041.1 (by decide), B2182.2⟩
     have B2186 : (2048 : Int) ≤ v2040.toInt ∧ v2040.toInt ≤ 65535 := ⟨B2185.1, k_le hP2041.2 (by decide)⟩
     have B2187 : (2048 : Int) ≤ (2048 : Int32).toInt ∧ (2048 : Int32).toInt ≤ 2048 := (by decide)
     have q2188 := hP2041.1; rw [Int32.lt_iff_toInt_lt] at q2188
     have B2189 : (65535 : Int) ≤ (65535 : Int32).toInt ∧ (65535 : Int32).toInt ≤ 65535 := (by decide)
     have q2190 := hP2041.2; rw [Int32.lt_iff_toInt_lt] at q2190
     have q2198 : v2081.toInt = v2040.toInt / 4096 := (by rw [hv2081]; exact c_ishr _ _ 12 (by decide))
     have B2197 : (0 : Int) ≤ v2081.toInt ∧ v2081.toInt ≤ 15 := (by rw [q2198]; exact k_divB B2186 (by decide) (by decide) (by decide))
     have q2196 : v2082.toInt = 224 + v2081.toInt := k_orx (k := 5) hv2082 B2197 (by decide) (by decide) (by decide) (by decide) (by decide) (by decide)
     have B2195 : (224 : Int) ≤ v2082.toInt ∧ v2082.toInt ≤ 239 := k_caddB q2196 B2197
     have q2194 : v2083.toInt = v2082.toInt - 256 := k_i2by hv2083 B2195 (by decide) (by decide)
     have B2193 : (-32 : Int) ≤ v2083.toInt ∧ v2083.toInt ≤ -17 := k_subB q2194 B2195
     have q2192 : v2123.toInt = v2083.toInt - (-256) := (by rw [h2131, c_mask _ _ 8 (by decide) (by decide)]; exact k_modx B2193 (by decide) (by decide))
     have B2191 : (224 : Int) ≤ v2123.toInt ∧ v2123.toInt ≤ 239 := k_subB q2192 B2193
     have B2199 : (128 : Int) ≤ (128 : Int32).toInt ∧ (128 : Int32).toInt ≤ 128 := (by decide)
     have q2200 := hc2139; rw [Int32.lt_iff_toInt_lt] at q2200
     have B2201 : (224 : Int) ≤ (224 : Int32).toInt ∧ (224 : Int32).toInt ≤ 224 := (by decide)
     have q2202 := hc2140; rw [Int32.lt_iff_toInt_lt] at q2202
     have B2203 : (240 : Int) ≤ (240 : Int32).toInt ∧ (240 : Int32).toInt ≤ 240 := (by decide)
     have q2204 := hc2141; rw [Int32.lt_iff_toInt_lt] at q2204
     have q2214 : v2124.toInt = v2123.toInt - (224) := (by rw [h2132, c_mask _ _ 4 (by decide) (by decide)]; exact k_modx B2191 (by decide) (by decide))
     have B2213 : (0 : Int) ≤ v2124.toInt ∧ v2124.toInt ≤ 15 := k_subB q2214 B2191
     have q2212 : v2125.toInt = 64 * v2124.toInt := k_ishlx (k := 6) h2133 B2213 (by decide) (by decide) (by decide)
     have B2211 : (0 : Int) ≤ v2125.toInt ∧ v2125.toInt ≤ 960 := (by rw [q2212]; exact k_mulB B2213 (by decide))
     have q2224 : v2086.toInt = v2040.toInt / 64 := (by rw [hv2086]; exact c_ishr _ _ 6 (by decide))
     have B2223 : (32 : Int) ≤ v2086.toInt ∧ v2086.toInt ≤ 1023 := (by rw [q2224]; exact k_divB B2186 (by decide) (by decide) (by decide))
     have q2222 : v2087.toInt = v2086.toInt % 64 := (by rw [hv2087]; exact c_mask _ _ 6 (by decide) (by decide))
     have B2221 : (0 : Int) ≤ v2087.toInt ∧ v2087.toInt ≤ 63 := (by rw [q2222]; exact k_modB (by decide))
     have q2220 : v2088.toInt = 128 + v2087.toInt := k_orx (k := 7) hv2088 B2221 (by decide) (by decide) (by decide) (by decide) (by decide) (by decide)
     have B2219 : (128 : Int) ≤ v2088.toInt ∧ v2088.toInt ≤ 191 := k_caddB q2220 B2221
     have q2218 : v2089.toInt = v2088.toInt - 256 := k_i2by hv2089 B2219 (by decide) (by decide)
     have B2217 : (-128 : Int) ≤ v2089.toInt ∧ v2089.toInt ≤ -65 := k_subB q2218 B2219
     have q2216 : v2126.toInt = v2089.toInt - (-128) := (by rw [h2134, c_mask _ _ 6 (by decide) (by decide)]; exact k_modx B2217 (by decide) (by decide))
     have B2215 : (0 : Int) ≤ v2126.toInt ∧ v2126.toInt ≤ 63 := k_subB q2216 B2217
     have q2210 : v2127.toInt = v2125.toInt + v2126.toInt := k_orx2 (k := 6) h2135 B2211 B2215 (by decide) (by decide) (by decide) (by decide) (by omega)
     have B2209 : (0 : Int) ≤ v2127.toInt ∧ v2127.toInt ≤ 1023 := k_addB q2210 B2211 B2215
     have q2208 : v2128.toInt = 64 * v2127.toInt := k_ishlx (k := 6) h2136 B2209 (by decide) (by decide) (by decide)
     have B2207 : (0 : Int) ≤ v2128.toInt ∧ v2128.toInt ≤ 65472 := (by rw [q2208]; exact k_mulB B2209 (by decide))
     have q2232 : v2092.toInt = v2040.toInt % 64 := (by rw [hv2092]; exact c_mask _ _ 6 (by decide) (by decide))
     have B2231 : (0 : Int) ≤ v2092.toInt ∧ v2092.toInt ≤ 63 := (by rw [q2232]; exact k_modB (by decide))
     have q2230 : v2093.toInt = 128 + v2092.toInt := k_orx (k := 7) hv2093 B2231 (by decide) (by decide) (by decide) (by decide) (by decide) (by decide)
     have B2229 : (128 : Int) ≤ v2093.toInt ∧ v2093.toInt ≤ 191 := k_caddB q2230 B2231
     have q2228 : v2094.toInt = v2093.toInt - 256 := k_i2by hv2094 B2229 (by decide) (by decide)
     have B2227 : (-128 : Int) ≤ v2094.toInt ∧ v2094.toInt ≤ -65 := k_subB q2228 B2229
     have q2226 : v2129.toInt = v2094.toInt - (-128) := (by rw [h2137, c_mask _ _ 6 (by decide) (by decide)]; exact k_modx B2227 (by decide) (by decide))
     have B2225 : (0 : Int) ≤ v2129.toInt ∧ v2129.toInt ≤ 63 := k_subB q2226 B2227
     have q2206 : v2130.toInt = v2128.toInt + v2129.toInt := k_orx2 (k := 6) h2138 B2207 B2225 (by decide) (by decide) (by decide) (by decide) (by omega)
     have B2205 : (0 : Int) ≤ v2130.toInt ∧ v2130.toInt ≤ 65535 := k_addB q2206 B2207 B2225
     have q2233 : ¬ v2130.toInt = v2040.toInt := fun q => hc2181 (Int32.toInt_inj.mp q)
     omega
    ·
     refine k_iconst X2097 hx (hb hby at_388) (pc' := 389) rfl (z := (1 : Int32)) rfl ?_
     refine k_goto X2097 hx (hb hby at_389) (pc' := 393) (by decide) ?_
     exact k_retN X2097 hx (t := .boolean) Bd.returns (by simp) (hb hby at_393) hlk (by decide) (by decide) (z' := (1 : Int32)) rfl ⟨rfl, N2097'⟩
   ·
    show KEnds p e below s _ _ _ T2097 (mkF m 383 #[.val (.int i0), .val (.int i1), .val (.int i2), .val (.long i3), .second, .val (.int v1), .val (.int (2 : Int32)), .val (.int v2040), .val (.int (0 : Int32)), .val (.ref b2048)] [(.int v2146)])
    exfalso
    have B2234 : (-2147483648 : Int) ≤ v2040.toInt ∧ v2040.toInt ≤ 2147483647 := ⟨(rng32 v2040).1, Int.le_of_lt_add_one (rng32 v2040).2⟩
    have B2237 : (2048 : Int) ≤ v2040.toInt ∧ v2040.toInt ≤ 2147483647 := ⟨k_ge hP2041.1 (by decide), B2234.2⟩
    have B2238 : (2048 : Int) ≤ v2040.toInt ∧ v2040.toInt ≤ 65535 := ⟨B2237.1, k_le hP2041.2 (by decide)⟩
    have B2239 : (2048 : Int) ≤ (2048 : Int32).toInt ∧ (2048 : Int32).toInt ≤ 2048 := (by decide)
    have q2240 := hP2041.1; rw [Int32.lt_iff_toInt_lt] at q2240
    have B2241 : (65535 : Int) ≤ (65535 : Int32).toInt ∧ (65535 : Int32).toInt ≤ 65535 := (by decide)
    have q2242 := hP2041.2; rw [Int32.lt_iff_toInt_lt] at q2242
    have q2250 : v2081.toInt = v2040.toInt / 4096 := (by rw [hv2081]; exact c_ishr _ _ 12 (by decide))
    have B2249 : (0 : Int) ≤ v2081.toInt ∧ v2081.toInt ≤ 15 := (by rw [q2250]; exact k_divB B2238 (by decide) (by decide) (by decide))
    have q2248 : v2082.toInt = 224 + v2081.toInt := k_orx (k := 5) hv2082 B2249 (by decide) (by decide) (by decide) (by decide) (by decide) (by decide)
    have B2247 : (224 : Int) ≤ v2082.toInt ∧ v2082.toInt ≤ 239 := k_caddB q2248 B2249
    have q2246 : v2083.toInt = v2082.toInt - 256 := k_i2by hv2083 B2247 (by decide) (by decide)
    have B2245 : (-32 : Int) ≤ v2083.toInt ∧ v2083.toInt ≤ -17 := k_subB q2246 B2247
    have q2244 : v2142.toInt = v2083.toInt - (-256) := (by rw [h2147, c_mask _ _ 8 (by decide) (by decide)]; exact k_modx B2245 (by decide) (by decide))
    have B2243 : (224 : Int) ≤ v2142.toInt ∧ v2142.toInt ≤ 239 := k_subB q2244 B2245
    have B2251 : (224 : Int) ≤ v2142.toInt ∧ v2142.toInt ≤ 223 := ⟨B2243.1, k_lt hc2153 (by decide)⟩
    have B2252 : (128 : Int) ≤ (128 : Int32).toInt ∧ (128 : Int32).toInt ≤ 128 := (by decide)
    have q2253 := hc2152; rw [Int32.lt_iff_toInt_lt] at q2253
    have B2254 : (224 : Int) ≤ (224 : Int32).toInt ∧ (224 : Int32).toInt ≤ 224 := (by decide)
    have q2255 := hc2153; rw [Int32.lt_iff_toInt_lt] at q2255
    omega
   ·
    show KEnds p e below s _ _ _ T2097 (mkF m 383 #[.val (.int i0), .val (.int i1), .val (.int i2), .val (.long i3), .second, .val (.int v1), .val (.int (2 : Int32)), .val (.int v2040), .val (.int (0 : Int32)), .val (.ref b2048)] [(.int v2154)])
    exfalso
    have B2256 : (-2147483648 : Int) ≤ v2040.toInt ∧ v2040.toInt ≤ 2147483647 := ⟨(rng32 v2040).1, Int.le_of_lt_add_one (rng32 v2040).2⟩
    have B2259 : (2048 : Int) ≤ v2040.toInt ∧ v2040.toInt ≤ 2147483647 := ⟨k_ge hP2041.1 (by decide), B2256.2⟩
    have B2260 : (2048 : Int) ≤ v2040.toInt ∧ v2040.toInt ≤ 65535 := ⟨B2259.1, k_le hP2041.2 (by decide)⟩
    have B2261 : (2048 : Int) ≤ (2048 : Int32).toInt ∧ (2048 : Int32).toInt ≤ 2048 := (by decide)
    have q2262 := hP2041.1; rw [Int32.lt_iff_toInt_lt] at q2262
    have B2263 : (65535 : Int) ≤ (65535 : Int32).toInt ∧ (65535 : Int32).toInt ≤ 65535 := (by decide)
    have q2264 := hP2041.2; rw [Int32.lt_iff_toInt_lt] at q2264
    have q2272 : v2081.toInt = v2040.toInt / 4096 := (by rw [hv2081]; exact c_ishr _ _ 12 (by decide))
    have B2271 : (0 : Int) ≤ v2081.toInt ∧ v2081.toInt ≤ 15 := (by rw [q2272]; exact k_divB B2260 (by decide) (by decide) (by decide))
    have q2270 : v2082.toInt = 224 + v2081.toInt := k_orx (k := 5) hv2082 B2271 (by decide) (by decide) (by decide) (by decide) (by decide) (by decide)
    have B2269 : (224 : Int) ≤ v2082.toInt ∧ v2082.toInt ≤ 239 := k_caddB q2270 B2271
    have q2268 : v2083.toInt = v2082.toInt - 256 := k_i2by hv2083 B2269 (by decide) (by decide)
    have B2267 : (-32 : Int) ≤ v2083.toInt ∧ v2083.toInt ≤ -17 := k_subB q2268 B2269
    have q2266 : v2154.toInt = v2083.toInt - (-256) := (by rw [h2155, c_mask _ _ 8 (by decide) (by decide)]; exact k_modx B2267 (by decide) (by decide))
    have B2265 : (224 : Int) ≤ v2154.toInt ∧ v2154.toInt ≤ 239 := k_subB q2266 B2267
    have B2273 : (224 : Int) ≤ v2154.toInt ∧ v2154.toInt ≤ 127 := ⟨B2265.1, k_lt hc2156 (by decide)⟩
    have B2274 : (128 : Int) ≤ (128 : Int32).toInt ∧ (128 : Int32).toInt ≤ 128 := (by decide)
    have q2275 := hc2156; rw [Int32.lt_iff_toInt_lt] at q2275
    omega
  ·
   show KEnds p e below s _ _ _ s₁ (mkF m 102 #[.val (.int i0), .val (.int i1), .val (.int i2), .val (.long i3), .second, .val (.int v1), .val (.int (2 : Int32)), .val (.int v2040), .unset, .unset] [(.int (1 : Int32))])
   refine k_istore X0 hx (hb hby at_102) (Ls' := #[.val (.int i0), .val (.int i1), .val (.int i2), .val (.long i3), .second, .val (.int v1), .val (.int (2 : Int32)), .val (.int v2040), .val (.int (1 : Int32)), .unset]) rfl (pc' := 104) rfl ?_
   refine k_bipush X0 hx (hb hby at_104) (pc' := 106) rfl (z := (8 : Int32)) rfl ?_
   refine k_newA X0 hx hZ (hw _ (List.mem_of_getElem? (i := 1) rfl)) e0 (hb hby at_106) (by decide) (cap := 8) (by decide) (by decide) (by decide) (by decide) (pc' := 108) rfl (fun T2277 h2277 b2277 k2277 g2277 X2277 e2277 E2277 V2277 => ?_)
   have g_b2277 : n0 ≤ b2277 := Nat.le_trans Z0 (Nat.le_of_eq g2277.symm)
   have Z2277 : n0 ≤ h2277.size := Nat.le_trans Z0 E2277.1
   have Vw2277 : Arv Z h2277 b2277 k2277 .byte (8 : Int32) [(.int (0 : Int32)), (.int (0 : Int32)), (.int (0 : Int32)), (.int (0 : Int32)), (.int (0 : Int32)), (.int (0 : Int32)), (.int (0 : Int32)), (.int (0 : Int32))] (.int (0 : Int32)) := V2277
   refine k_astore X2277 hx (hb hby at_108) rfl (Ls' := #[.val (.int i0), .val (.int i1), .val (.int i2), .val (.long i3), .second, .val (.int v1), .val (.int (2 : Int32)), .val (.int v2040), .val (.int (1 : Int32)), .val (.ref b2277)]) rfl (pc' := 110) rfl ?_
   refine k_aload X2277 hx (hb hby at_110) rfl rfl (pc' := 112) rfl ?_
   refine k_iconst X2277 hx (hb hby at_112) (pc' := 113) rfl (z := (0 : Int32)) rfl ?_
   refine k_lloadN X2277 hx (hb hby at_113) rfl (pc' := 114) rfl ?_
   refine k_iconst X2277 hx (hb hby at_114) (pc' := 115) rfl (z := (0 : Int32)) rfl ?_
   refine k_callS X2277 hx hZ hown (hw _ (List.mem_of_getElem? (i := 2) rfl)) (hw _ (List.mem_of_getElem? (i := 3) rfl)) (hw _ (List.mem_of_getElem? (i := 4) rfl)) (hw _ (List.mem_of_getElem? (i := 5) rfl)) (by decide) (rm1_55 l Z a0 hw [] i3 h2277 n0 Z2277 ) (by decide) (by decide) e2277 (by rw [hml]; rfl) (argsL := [(.long i3), (.int (0 : Int32))]) (rest := [(.int (0 : Int32)), (.ref b2277)]) (lenOf pd_0 rfl) rfl (W := 2) (Nat.le_refl _) rfl (hb hby at_115) (by decide) (by decide) (pc' := 118) rfl (fun T2278 L2278 r2278 X2278 q2278 => ?_)
   obtain ⟨N2278, e2278, rfl⟩ := q2278
   have N2278' := Fr.app N0 N2278
   show KEnds p e below s _ _ _ T2278 (mkF m 118 #[.val (.int i0), .val (.int i1), .val (.int i2), .val (.long i3), .second, .val (.int v1), .val (.int (2 : Int32)), .val (.int v2040), .val (.int (1 : Int32)), .val (.ref b2277)] ((.int (f1_55 i3)) :: (.int (0 : Int32)) :: (.ref b2277) :: []))
   obtain ⟨v2279, hv2279⟩ : ∃ z, z = f1_55 i3 := ⟨_, rfl⟩
   rw [← hv2279]
   have hb2280 : v2279.toInt8.toInt32 = v2279 := by rw [hv2279]; exact f1_55_byte i3
   refine k_bastore X2278 hx hZ e2278 Vw2277 ⟨by decide, by decide⟩ (i := 0) rfl (Nat.le_of_ble_eq_true rfl) (hb hby at_118) (pc' := 119) rfl (fun T2281 h2281 X2281 e2281 W2281 V2281 => ?_)
   rw [hb2280] at V2281
   have Vw2281 : Arv Z h2281 b2277 k2277 .byte (8 : Int32) [(.int v2279), (.int (0 : Int32)), (.int (0 : Int32)), (.int (0 : Int32)), (.int (0 : Int32)), (.int (0 : Int32)), (.int (0 : Int32)), (.int (0 : Int32))] (.int (0 : Int32)) := V2281
   have N2281 := Fr.snoc X2281 N2278' g_b2277
   have Z2281 : n0 ≤ h2281.size := Nat.le_trans Z2277 (Nat.le_of_eq W2281.size.symm)
   refine k_aload X2281 hx (hb hby at_119) rfl rfl (pc' := 121) rfl ?_
   refine k_iconst X2281 hx (hb hby at_121) (pc' := 122) rfl (z := (1 : Int32)) rfl ?_
   refine k_lloadN X2281 hx (hb hby at_122) rfl (pc' := 123) rfl ?_
   refine k_iconst X2281 hx (hb hby at_123) (pc' := 124) rfl (z := (1 : Int32)) rfl ?_
   refine k_callS X2281 hx hZ hown (hw _ (List.mem_of_getElem? (i := 2) rfl)) (hw _ (List.mem_of_getElem? (i := 3) rfl)) (hw _ (List.mem_of_getElem? (i := 4) rfl)) (hw _ (List.mem_of_getElem? (i := 5) rfl)) (by decide) (rm1_60 l Z a0 hw [] i3 h2281 n0 Z2281 ) (by decide) (by decide) e2281 (by rw [hml]; rfl) (argsL := [(.long i3), (.int (1 : Int32))]) (rest := [(.int (1 : Int32)), (.ref b2277)]) (lenOf pd_0 rfl) rfl (W := 2) (Nat.le_refl _) rfl (hb hby at_124) (by decide) (by decide) (pc' := 127) rfl (fun T2282 L2282 r2282 X2282 q2282 => ?_)
   obtain ⟨N2282, e2282, rfl⟩ := q2282
   have N2282' := Fr.app N2281 N2282
   show KEnds p e below s _ _ _ T2282 (mkF m 127 #[.val (.int i0), .val (.int i1), .val (.int i2), .val (.long i3), .second, .val (.int v1), .val (.int (2 : Int32)), .val (.int v2040), .val (.int (1 : Int32)), .val (.ref b2277)] ((.int (f1_60 i3)) :: (.int (1 : Int32)) :: (.ref b2277) :: []))
   obtain ⟨v2283, hv2283⟩ : ∃ z, z = f1_60 i3 := ⟨_, rfl⟩
   rw [← hv2283]
   have hb2284 : v2283.toInt8.toInt32 = v2283 := by rw [hv2283]; exact f1_60_byte i3
   refine k_bastore X2282 hx hZ e2282 Vw2281 ⟨by decide, by decide⟩ (i := 1) rfl (Nat.le_of_ble_eq_true rfl) (hb hby at_127) (pc' := 128) rfl (fun T2285 h2285 X2285 e2285 W2285 V2285 => ?_)
   rw [hb2284] at V2285
   have Vw2285 : Arv Z h2285 b2277 k2277 .byte (8 : Int32) [(.int v2279), (.int v2283), (.int (0 : Int32)), (.int (0 : Int32)), (.int (0 : Int32)), (.int (0 : Int32)), (.int (0 : Int32)), (.int (0 : Int32))] (.int (0 : Int32)) := V2285
   have N2285 := Fr.snoc X2285 N2282' g_b2277
   have Z2285 : n0 ≤ h2285.size := Nat.le_trans Z2281 (Nat.le_of_eq W2285.size.symm)
   refine k_aload X2285 hx (hb hby at_128) rfl rfl (pc' := 130) rfl ?_
   refine k_iconst X2285 hx (hb hby at_130) (pc' := 131) rfl (z := (2 : Int32)) rfl ?_
   refine k_lloadN X2285 hx (hb hby at_131) rfl (pc' := 132) rfl ?_
   refine k_iconst X2285 hx (hb hby at_132) (pc' := 133) rfl (z := (2 : Int32)) rfl ?_
   refine k_callS X2285 hx hZ hown (hw _ (List.mem_of_getElem? (i := 2) rfl)) (hw _ (List.mem_of_getElem? (i := 3) rfl)) (hw _ (List.mem_of_getElem? (i := 4) rfl)) (hw _ (List.mem_of_getElem? (i := 5) rfl)) (by decide) (rm1_65 l Z a0 hw [] i3 h2285 n0 Z2285 ) (by decide) (by decide) e2285 (by rw [hml]; rfl) (argsL := [(.long i3), (.int (2 : Int32))]) (rest := [(.int (2 : Int32)), (.ref b2277)]) (lenOf pd_0 rfl) rfl (W := 2) (Nat.le_refl _) rfl (hb hby at_133) (by decide) (by decide) (pc' := 136) rfl (fun T2286 L2286 r2286 X2286 q2286 => ?_)
   obtain ⟨N2286, e2286, rfl⟩ := q2286
   have N2286' := Fr.app N2285 N2286
   show KEnds p e below s _ _ _ T2286 (mkF m 136 #[.val (.int i0), .val (.int i1), .val (.int i2), .val (.long i3), .second, .val (.int v1), .val (.int (2 : Int32)), .val (.int v2040), .val (.int (1 : Int32)), .val (.ref b2277)] ((.int (f1_65 i3)) :: (.int (2 : Int32)) :: (.ref b2277) :: []))
   obtain ⟨v2287, hv2287⟩ : ∃ z, z = f1_65 i3 := ⟨_, rfl⟩
   rw [← hv2287]
   have hb2288 : v2287.toInt8.toInt32 = v2287 := by rw [hv2287]; exact f1_65_byte i3
   refine k_bastore X2286 hx hZ e2286 Vw2285 ⟨by decide, by decide⟩ (i := 2) rfl (Nat.le_of_ble_eq_true rfl) (hb hby at_136) (pc' := 137) rfl (fun T2289 h2289 X2289 e2289 W2289 V2289 => ?_)
   rw [hb2288] at V2289
   have Vw2289 : Arv Z h2289 b2277 k2277 .byte (8 : Int32) [(.int v2279), (.int v2283), (.int v2287), (.int (0 : Int32)), (.int (0 : Int32)), (.int (0 : Int32)), (.int (0 : Int32)), (.int (0 : Int32))] (.int (0 : Int32)) := V2289
   have N2289 := Fr.snoc X2289 N2286' g_b2277
   have Z2289 : n0 ≤ h2289.size := Nat.le_trans Z2285 (Nat.le_of_eq W2289.size.symm)
   refine k_aload X2289 hx (hb hby at_137) rfl rfl (pc' := 139) rfl ?_
   refine k_iconst X2289 hx (hb hby at_139) (pc' := 140) rfl (z := (3 : Int32)) rfl ?_
   refine k_lloadN X2289 hx (hb hby at_140) rfl (pc' := 141) rfl ?_
   refine k_iconst X2289 hx (hb hby at_141) (pc' := 142) rfl (z := (3 : Int32)) rfl ?_
   refine k_callS X2289 hx hZ hown (hw _ (List.mem_of_getElem? (i := 2) rfl)) (hw _ (List.mem_of_getElem? (i := 3) rfl)) (hw _ (List.mem_of_getElem? (i := 4) rfl)) (hw _ (List.mem_of_getElem? (i := 5) rfl)) (by decide) (rm1_70 l Z a0 hw [] i3 h2289 n0 Z2289 ) (by decide) (by decide) e2289 (by rw [hml]; rfl) (argsL := [(.long i3), (.int (3 : Int32))]) (rest := [(.int (3 : Int32)), (.ref b2277)]) (lenOf pd_0 rfl) rfl (W := 2) (Nat.le_refl _) rfl (hb hby at_142) (by decide) (by decide) (pc' := 145) rfl (fun T2290 L2290 r2290 X2290 q2290 => ?_)
   obtain ⟨N2290, e2290, rfl⟩ := q2290
   have N2290' := Fr.app N2289 N2290
   show KEnds p e below s _ _ _ T2290 (mkF m 145 #[.val (.int i0), .val (.int i1), .val (.int i2), .val (.long i3), .second, .val (.int v1), .val (.int (2 : Int32)), .val (.int v2040), .val (.int (1 : Int32)), .val (.ref b2277)] ((.int (f1_70 i3)) :: (.int (3 : Int32)) :: (.ref b2277) :: []))
   obtain ⟨v2291, hv2291⟩ : ∃ z, z = f1_70 i3 := ⟨_, rfl⟩
   rw [← hv2291]
   have hb2292 : v2291.toInt8.toInt32 = v2291 := by rw [hv2291]; exact f1_70_byte i3
   refine k_bastore X2290 hx hZ e2290 Vw2289 ⟨by decide, by decide⟩ (i := 3) rfl (Nat.le_of_ble_eq_true rfl) (hb hby at_145) (pc' := 146) rfl (fun T2293 h2293 X2293 e2293 W2293 V2293 => ?_)
   rw [hb2292] at V2293
   have Vw2293 : Arv Z h2293 b2277 k2277 .byte (8 : Int32) [(.int v2279), (.int v2283), (.int v2287), (.int v2291), (.int (0 : Int32)), (.int (0 : Int32)), (.int (0 : Int32)), (.int (0 : Int32))] (.int (0 : Int32)) := V2293
   have N2293 := Fr.snoc X2293 N2290' g_b2277
   have Z2293 : n0 ≤ h2293.size := Nat.le_trans Z2289 (Nat.le_of_eq W2293.size.symm)
   refine k_aload X2293 hx (hb hby at_146) rfl rfl (pc' := 148) rfl ?_
   refine k_iconst X2293 hx (hb hby at_148) (pc' := 149) rfl (z := (4 : Int32)) rfl ?_
   refine k_lloadN X2293 hx (hb hby at_149) rfl (pc' := 150) rfl ?_
   refine k_iconst X2293 hx (hb hby at_150) (pc' := 151) rfl (z := (4 : Int32)) rfl ?_
   refine k_callS X2293 hx hZ hown (hw _ (List.mem_of_getElem? (i := 2) rfl)) (hw _ (List.mem_of_getElem? (i := 3) rfl)) (hw _ (List.mem_of_getElem? (i := 4) rfl)) (hw _ (List.mem_of_getElem? (i := 5) rfl)) (by decide) (rm1_75 l Z a0 hw [] i3 h2293 n0 Z2293 ) (by decide) (by decide) e2293 (by rw [hml]; rfl) (argsL := [(.long i3), (.int (4 : Int32))]) (rest := [(.int (4 : Int32)), (.ref b2277)]) (lenOf pd_0 rfl) rfl (W := 2) (Nat.le_refl _) rfl (hb hby at_151) (by decide) (by decide) (pc' := 154) rfl (fun T2294 L2294 r2294 X2294 q2294 => ?_)
   obtain ⟨N2294, e2294, rfl⟩ := q2294
   have N2294' := Fr.app N2293 N2294
   show KEnds p e below s _ _ _ T2294 (mkF m 154 #[.val (.int i0), .val (.int i1), .val (.int i2), .val (.long i3), .second, .val (.int v1), .val (.int (2 : Int32)), .val (.int v2040), .val (.int (1 : Int32)), .val (.ref b2277)] ((.int (f1_75 i3)) :: (.int (4 : Int32)) :: (.ref b2277) :: []))
   obtain ⟨v2295, hv2295⟩ : ∃ z, z = f1_75 i3 := ⟨_, rfl⟩
   rw [← hv2295]
   have hb2296 : v2295.toInt8.toInt32 = v2295 := by rw [hv2295]; exact f1_75_byte i3
   refine k_bastore X2294 hx hZ e2294 Vw2293 ⟨by decide, by decide⟩ (i := 4) rfl (Nat.le_of_ble_eq_true rfl) (hb hby at_154) (pc' := 155) rfl (fun T2297 h2297 X2297 e2297 W2297 V2297 => ?_)
   rw [hb2296] at V2297
   have Vw2297 : Arv Z h2297 b2277 k2277 .byte (8 : Int32) [(.int v2279), (.int v2283), (.int v2287), (.int v2291), (.int v2295), (.int (0 : Int32)), (.int (0 : Int32)), (.int (0 : Int32))] (.int (0 : Int32)) := V2297
   have N2297 := Fr.snoc X2297 N2294' g_b2277
   have Z2297 : n0 ≤ h2297.size := Nat.le_trans Z2293 (Nat.le_of_eq W2297.size.symm)
   refine k_aload X2297 hx (hb hby at_155) rfl rfl (pc' := 157) rfl ?_
   refine k_iconst X2297 hx (hb hby at_157) (pc' := 158) rfl (z := (5 : Int32)) rfl ?_
   refine k_lloadN X2297 hx (hb hby at_158) rfl (pc' := 159) rfl ?_
   refine k_iconst X2297 hx (hb hby at_159) (pc' := 160) rfl (z := (5 : Int32)) rfl ?_
   refine k_callS X2297 hx hZ hown (hw _ (List.mem_of_getElem? (i := 2) rfl)) (hw _ (List.mem_of_getElem? (i := 3) rfl)) (hw _ (List.mem_of_getElem? (i := 4) rfl)) (hw _ (List.mem_of_getElem? (i := 5) rfl)) (by decide) (rm1_80 l Z a0 hw [] i3 h2297 n0 Z2297 ) (by decide) (by decide) e2297 (by rw [hml]; rfl) (argsL := [(.long i3), (.int (5 : Int32))]) (rest := [(.int (5 : Int32)), (.ref b2277)]) (lenOf pd_0 rfl) rfl (W := 2) (Nat.le_refl _) rfl (hb hby at_160) (by decide) (by decide) (pc' := 163) rfl (fun T2298 L2298 r2298 X2298 q2298 => ?_)
   obtain ⟨N2298, e2298, rfl⟩ := q2298
   have N2298' := Fr.app N2297 N2298
   show KEnds p e below s _ _ _ T2298 (mkF m 163 #[.val (.int i0), .val (.int i1), .val (.int i2), .val (.long i3), .second, .val (.int v1), .val (.int (2 : Int32)), .val (.int v2040), .val (.int (1 : Int32)), .val (.ref b2277)] ((.int (f1_80 i3)) :: (.int (5 : Int32)) :: (.ref b2277) :: []))
   obtain ⟨v2299, hv2299⟩ : ∃ z, z = f1_80 i3 := ⟨_, rfl⟩
   rw [← hv2299]
   have hb2300 : v2299.toInt8.toInt32 = v2299 := by rw [hv2299]; exact f1_80_byte i3
   refine k_bastore X2298 hx hZ e2298 Vw2297 ⟨by decide, by decide⟩ (i := 5) rfl (Nat.le_of_ble_eq_true rfl) (hb hby at_163) (pc' := 164) rfl (fun T2301 h2301 X2301 e2301 W2301 V2301 => ?_)
   rw [hb2300] at V2301
   have Vw2301 : Arv Z h2301 b2277 k2277 .byte (8 : Int32) [(.int v2279), (.int v2283), (.int v2287), (.int v2291), (.int v2295), (.int v2299), (.int (0 : Int32)), (.int (0 : Int32))] (.int (0 : Int32)) := V2301
   have N2301 := Fr.snoc X2301 N2298' g_b2277
   have Z2301 : n0 ≤ h2301.size := Nat.le_trans Z2297 (Nat.le_of_eq W2301.size.symm)
   refine k_aload X2301 hx (hb hby at_164) rfl rfl (pc' := 166) rfl ?_
   refine k_bipush X2301 hx (hb hby at_166) (pc' := 168) rfl (z := (6 : Int32)) rfl ?_
   refine k_lloadN X2301 hx (hb hby at_168) rfl (pc' := 169) rfl ?_
   refine k_bipush X2301 hx (hb hby at_169) (pc' := 171) rfl (z := (6 : Int32)) rfl ?_
   refine k_callS X2301 hx hZ hown (hw _ (List.mem_of_getElem? (i := 2) rfl)) (hw _ (List.mem_of_getElem? (i := 3) rfl)) (hw _ (List.mem_of_getElem? (i := 4) rfl)) (hw _ (List.mem_of_getElem? (i := 5) rfl)) (by decide) (rm1_85 l Z a0 hw [] i3 h2301 n0 Z2301 ) (by decide) (by decide) e2301 (by rw [hml]; rfl) (argsL := [(.long i3), (.int (6 : Int32))]) (rest := [(.int (6 : Int32)), (.ref b2277)]) (lenOf pd_0 rfl) rfl (W := 2) (Nat.le_refl _) rfl (hb hby at_171) (by decide) (by decide) (pc' := 174) rfl (fun T2302 L2302 r2302 X2302 q2302 => ?_)
   obtain ⟨N2302, e2302, rfl⟩ := q2302
   have N2302' := Fr.app N2301 N2302
   show KEnds p e below s _ _ _ T2302 (mkF m 174 #[.val (.int i0), .val (.int i1), .val (.int i2), .val (.long i3), .second, .val (.int v1), .val (.int (2 : Int32)), .val (.int v2040), .val (.int (1 : Int32)), .val (.ref b2277)] ((.int (f1_85 i3)) :: (.int (6 : Int32)) :: (.ref b2277) :: []))
   obtain ⟨v2303, hv2303⟩ : ∃ z, z = f1_85 i3 := ⟨_, rfl⟩
   rw [← hv2303]
   have hb2304 : v2303.toInt8.toInt32 = v2303 := by rw [hv2303]; exact f1_85_byte i3
   refine k_bastore X2302 hx hZ e2302 Vw2301 ⟨by decide, by decide⟩ (i := 6) rfl (Nat.le_of_ble_eq_true rfl) (hb hby at_174) (pc' := 175) rfl (fun T2305 h2305 X2305 e2305 W2305 V2305 => ?_)
   rw [hb2304] at V2305
   have Vw2305 : Arv Z h2305 b2277 k2277 .byte (8 : Int32) [(.int v2279), (.int v2283), (.int v2287), (.int v2291), (.int v2295), (.int v2299), (.int v2303), (.int (0 : Int32))] (.int (0 : Int32)) := V2305
   have N2305 := Fr.snoc X2305 N2302' g_b2277
   have Z2305 : n0 ≤ h2305.size := Nat.le_trans Z2301 (Nat.le_of_eq W2305.size.symm)
   refine k_aload X2305 hx (hb hby at_175) rfl rfl (pc' := 177) rfl ?_
   refine k_bipush X2305 hx (hb hby at_177) (pc' := 179) rfl (z := (7 : Int32)) rfl ?_
   refine k_lloadN X2305 hx (hb hby at_179) rfl (pc' := 180) rfl ?_
   refine k_bipush X2305 hx (hb hby at_180) (pc' := 182) rfl (z := (7 : Int32)) rfl ?_
   refine k_callS X2305 hx hZ hown (hw _ (List.mem_of_getElem? (i := 2) rfl)) (hw _ (List.mem_of_getElem? (i := 3) rfl)) (hw _ (List.mem_of_getElem? (i := 4) rfl)) (hw _ (List.mem_of_getElem? (i := 5) rfl)) (by decide) (rm1_90 l Z a0 hw [] i3 h2305 n0 Z2305 ) (by decide) (by decide) e2305 (by rw [hml]; rfl) (argsL := [(.long i3), (.int (7 : Int32))]) (rest := [(.int (7 : Int32)), (.ref b2277)]) (lenOf pd_0 rfl) rfl (W := 2) (Nat.le_refl _) rfl (hb hby at_182) (by decide) (by decide) (pc' := 185) rfl (fun T2306 L2306 r2306 X2306 q2306 => ?_)
   obtain ⟨N2306, e2306, rfl⟩ := q2306
   have N2306' := Fr.app N2305 N2306
   show KEnds p e below s _ _ _ T2306 (mkF m 185 #[.val (.int i0), .val (.int i1), .val (.int i2), .val (.long i3), .second, .val (.int v1), .val (.int (2 : Int32)), .val (.int v2040), .val (.int (1 : Int32)), .val (.ref b2277)] ((.int (f1_90 i3)) :: (.int (7 : Int32)) :: (.ref b2277) :: []))
   obtain ⟨v2307, hv2307⟩ : ∃ z, z = f1_90 i3 := ⟨_, rfl⟩
   rw [← hv2307]
   have hb2308 : v2307.toInt8.toInt32 = v2307 := by rw [hv2307]; exact f1_90_byte i3
   refine k_bastore X2306 hx hZ e2306 Vw2305 ⟨by decide, by decide⟩ (i := 7) rfl (Nat.le_of_ble_eq_true rfl) (hb hby at_185) (pc' := 186) rfl (fun T2309 h2309 X2309 e2309 W2309 V2309 => ?_)
   rw [hb2308] at V2309
   have Vw2309 : Arv Z h2309 b2277 k2277 .byte (8 : Int32) [(.int v2279), (.int v2283), (.int v2287), (.int v2291), (.int v2295), (.int v2299), (.int v2303), (.int v2307)] (.int (0 : Int32)) := V2309
   have N2309 := Fr.snoc X2309 N2306' g_b2277
   have Z2309 : n0 ≤ h2309.size := Nat.le_trans Z2305 (Nat.le_of_eq W2309.size.symm)
   refine k_iload X2309 hx (hb hby at_186) rfl (pc' := 188) rfl ?_
   refine k_if_ne X2309 hx (hb hby at_188) (pn := 191) rfl (py := 202) (by decide) (fun _ => ?_) (fun hc => absurd hc (by decide))
   refine k_iload X2309 hx (hb hby at_202) rfl (pc' := 204) rfl ?_
   refine k_iconst X2309 hx (hb hby at_204) (pc' := 205) rfl (z := (1 : Int32)) rfl ?_
   refine k_icmp_ne X2309 hx (hb hby at_205) (pn := 208) rfl (py := 243) (by decide) (fun _ => ?_) (fun hc => absurd hc (by decide))
   refine k_iload X2309 hx (hb hby at_243) rfl (pc' := 245) rfl ?_
   refine k_iconst X2309 hx (hb hby at_245) (pc' := 246) rfl (z := (2 : Int32)) rfl ?_
   refine k_icmp_ne X2309 hx (hb hby at_246) (pn := 249) rfl (py := 304) (by decide) (fun hc => absurd (by decide) hc) (fun _ => ?_)
   refine k_aload X2309 hx (hb hby at_249) rfl rfl (pc' := 251) rfl ?_
   refine k_iload X2309 hx (hb hby at_251) rfl (pc' := 253) rfl ?_
   refine k_sipush X2309 hx (hb hby at_253) (pc' := 256) rfl (z := (224 : Int32)) rfl ?_
   refine k_iload X2309 hx (hb hby at_256) rfl (pc' := 258) rfl ?_
   refine k_bipush X2309 hx (hb hby at_258) (pc' := 260) rfl (z := (12 : Int32)) rfl ?_
   refine k_ishr X2309 hx (hb hby at_260) (pc' := 261) rfl (fun v2310 hv2310 => ?_)
   refine k_ior X2309 hx (hb hby at_261) (pc' := 262) rfl (fun v2311 hv2311 => ?_)
   refine k_i2b X2309 hx (hb hby at_262) (pc' := 263) rfl (fun v2312 hv2312 => ?_)
   refine k_bastore X2309 hx hZ e2309 Vw2309 ⟨by decide, by decide⟩ (i := 1) rfl (Nat.le_of_ble_eq_true rfl) (hb hby at_263) (pc' := 264) rfl (fun T2313 h2313 X2313 e2313 W2313 V2313 => ?_)
   have hb2314 : v2312.toInt8.toInt32 = v2312 := by rw [hv2312]; exact k_i2b2 _
   rw [hb2314] at V2313
   have Vw2313 : Arv Z h2313 b2277 k2277 .byte (8 : Int32) [(.int v2279), (.int v2312), (.int v2287), (.int v2291), (.int v2295), (.int v2299), (.int v2303), (.int v2307)] (.int (0 : Int32)) := V2313
   have N2313 := Fr.snoc X2313 N2309 g_b2277
   have Z2313 : n0 ≤ h2313.size := Nat.le_trans Z2309 (Nat.le_of_eq W2313.size.symm)
   refine k_aload X2313 hx (hb hby at_264) rfl rfl (pc' := 266) rfl ?_
   refine k_iload X2313 hx (hb hby at_266) rfl (pc' := 268) rfl ?_
   refine k_iconst X2313 hx (hb hby at_268) (pc' := 269) rfl (z := (1 : Int32)) rfl ?_
   refine k_iaddL X2313 hx (hb hby at_269) (pc' := 270) rfl (z := (2 : Int32)) (by decide) ?_
   refine k_sipush X2313 hx (hb hby at_270) (pc' := 273) rfl (z := (128 : Int32)) rfl ?_
   refine k_iload X2313 hx (hb hby at_273) rfl (pc' := 275) rfl ?_
   refine k_bipush X2313 hx (hb hby at_275) (pc' := 277) rfl (z := (6 : Int32)) rfl ?_
   refine k_ishr X2313 hx (hb hby at_277) (pc' := 278) rfl (fun v2315 hv2315 => ?_)
   refine k_bipush X2313 hx (hb hby at_278) (pc' := 280) rfl (z := (63 : Int32)) rfl ?_
   refine k_iand X2313 hx (hb hby at_280) (pc' := 281) rfl (fun v2316 hv2316 => ?_)
   refine k_ior X2313 hx (hb hby at_281) (pc' := 282) rfl (fun v2317 hv2317 => ?_)
   refine k_i2b X2313 hx (hb hby at_282) (pc' := 283) rfl (fun v2318 hv2318 => ?_)
   refine k_bastore X2313 hx hZ e2313 Vw2313 ⟨by decide, by decide⟩ (i := 2) rfl (Nat.le_of_ble_eq_true rfl) (hb hby at_283) (pc' := 284) rfl (fun T2319 h2319 X2319 e2319 W2319 V2319 => ?_)
   have hb2320 : v2318.toInt8.toInt32 = v2318 := by rw [hv2318]; exact k_i2b2 _
   rw [hb2320] at V2319
   have Vw2319 : Arv Z h2319 b2277 k2277 .byte (8 : Int32) [(.int v2279), (.int v2312), (.int v2318), (.int v2291), (.int v2295), (.int v2299), (.int v2303), (.int v2307)] (.int (0 : Int32)) := V2319
   have N2319 := Fr.snoc X2319 N2313 g_b2277
   have Z2319 : n0 ≤ h2319.size := Nat.le_trans Z2313 (Nat.le_of_eq W2319.size.symm)
   refine k_aload X2319 hx (hb hby at_284) rfl rfl (pc' := 286) rfl ?_
   refine k_iload X2319 hx (hb hby at_286) rfl (pc' := 288) rfl ?_
   refine k_iconst X2319 hx (hb hby at_288) (pc' := 289) rfl (z := (2 : Int32)) rfl ?_
   refine k_iaddL X2319 hx (hb hby at_289) (pc' := 290) rfl (z := (3 : Int32)) (by decide) ?_
   refine k_sipush X2319 hx (hb hby at_290) (pc' := 293) rfl (z := (128 : Int32)) rfl ?_
   refine k_iload X2319 hx (hb hby at_293) rfl (pc' := 295) rfl ?_
   refine k_bipush X2319 hx (hb hby at_295) (pc' := 297) rfl (z := (63 : Int32)) rfl ?_
   refine k_iand X2319 hx (hb hby at_297) (pc' := 298) rfl (fun v2321 hv2321 => ?_)
   refine k_ior X2319 hx (hb hby at_298) (pc' := 299) rfl (fun v2322 hv2322 => ?_)
   refine k_i2b X2319 hx (hb hby at_299) (pc' := 300) rfl (fun v2323 hv2323 => ?_)
   refine k_bastore X2319 hx hZ e2319 Vw2319 ⟨by decide, by decide⟩ (i := 3) rfl (Nat.le_of_ble_eq_true rfl) (hb hby at_300) (pc' := 301) rfl (fun T2324 h2324 X2324 e2324 W2324 V2324 => ?_)
   have hb2325 : v2323.toInt8.toInt32 = v2323 := by rw [hv2323]; exact k_i2b2 _
   rw [hb2325] at V2324
   have Vw2324 : Arv Z h2324 b2277 k2277 .byte (8 : Int32) [(.int v2279), (.int v2312), (.int v2318), (.int v2323), (.int v2295), (.int v2299), (.int v2303), (.int v2307)] (.int (0 : Int32)) := V2324
   have N2324 := Fr.snoc X2324 N2319 g_b2277
   have Z2324 : n0 ≤ h2324.size := Nat.le_trans Z2319 (Nat.le_of_eq W2324.size.symm)
   refine k_goto X2324 hx (hb hby at_301) (pc' := 376) (by decide) ?_
   refine k_aload X2324 hx (hb hby at_376) rfl rfl (pc' := 378) rfl ?_
   refine k_iload X2324 hx (hb hby at_378) rfl (pc' := 380) rfl ?_
   refine k_callS X2324 hx hZ hown (hw _ (List.mem_of_getElem? (i := 7) rfl)) (hw _ (List.mem_of_getElem? (i := 8) rfl)) (hw _ (List.mem_of_getElem? (i := 9) rfl)) (hw _ (List.mem_of_getElem? (i := 10) rfl)) (by decide) (rm2_323 l Z a0 hw [] b2277 k2277 v2279 v2312 v2318 v2323 v2295 v2299 v2303 v2307 h2324 n0 Z2324 Vw2324) (by decide) (by decide) e2324 (by rw [hml]; rfl) (argsL := [(.ref b2277), (.int (1 : Int32))]) (rest := []) (lenOf pd_2 rfl) rfl (W := 0) (Nat.le_refl _) rfl (hb hby at_380) (by decide) (by decide) (pc' := 383) rfl (fun T2326 L2326 r2326 X2326 q2326 => ?_)
   obtain ⟨N2326, e2326, q2326⟩ := q2326
   have N2326' := Fr.app N2324 N2326
   rcases q2326 with ⟨v2327, v2328, v2329, v2330, v2331, v2332, v2333, v2334, v2335, v2336, v2337, h2338, h2339, h2340, h2341, h2342, h2343, h2344, h2345, h2346, h2347, h2348, hc2349, hc2350, hc2351, rfl⟩ | ⟨v2352, v2353, v2354, v2355, v2356, v2357, v2358, v2359, h2360, h2361, h2362, h2363, h2364, h2365, h2366, h2367, hc2368, hc2369, hc2370, rfl⟩ | ⟨v2371, v2372, v2373, v2374, v2375, h2376, h2377, h2378, h2379, h2380, hc2381, hc2382, rfl⟩ | ⟨v2383, h2384, hc2385, rfl⟩
   ·
    show KEnds p e below s _ _ _ T2326 (mkF m 383 #[.val (.int i0), .val (.int i1), .val (.int i2), .val (.long i3), .second, .val (.int v1), .val (.int (2 : Int32)), .val (.int v2040), .val (.int (1 : Int32)), .val (.ref b2277)] [(.int v2337)])
    exfalso
    have B2386 : (-2147483648 : Int) ≤ v2040.toInt ∧ v2040.toInt ≤ 2147483647 := ⟨(rng32 v2040).1, Int.le_of_lt_add_one (rng32 v2040).2⟩
    have B2389 : (2048 : Int) ≤ v2040.toInt ∧ v2040.toInt ≤ 2147483647 := ⟨k_ge hP2041.1 (by decide), B2386.2⟩
    have B2390 : (2048 : Int) ≤ v2040.toInt ∧ v2040.toInt ≤ 65535 := ⟨B2389.1, k_le hP2041.2 (by decide)⟩
    have B2391 : (2048 : Int) ≤ (2048 : Int32).toInt ∧ (2048 : Int32).toInt ≤ 2048 := (by decide)
    have q2392 := hP2041.1; rw [Int32.lt_iff_toInt_lt] at q2392
    have B2393 : (65535 : Int) ≤ (65535 : Int32).toInt ∧ (65535 : Int32).toInt ≤ 65535 := (by decide)
    have q2394 := hP2041.2; rw [Int32.lt_iff_toInt_lt] at q2394
    have q2402 : v2310.toInt = v2040.toInt / 4096 := (by rw [hv2310]; exact c_ishr _ _ 12 (by decide))
    have B2401 : (0 : Int) ≤ v2310.toInt ∧ v2310.toInt ≤ 15 := (by rw [q2402]; exact k_divB B2390 (by decide) (by decide) (by decide))
    have q2400 : v2311.toInt = 224 + v2310.toInt := k_orx (k := 5) hv2311 B2401 (by decide) (by decide) (by decide) (by decide) (by decide) (by decide)
    have B2399 : (224 : Int) ≤ v2311.toInt ∧ v2311.toInt ≤ 239 := k_caddB q2400 B2401
    have q2398 : v2312.toInt = v2311.toInt - 256 := k_i2by hv2312 B2399 (by decide) (by decide)
    have B2397 : (-32 : Int) ≤ v2312.toInt ∧ v2312.toInt ≤ -17 := k_subB q2398 B2399
    have q2396 : v2327.toInt = v2312.toInt - (-256) := (by rw [h2338, c_mask _ _ 8 (by decide) (by decide)]; exact k_modx B2397 (by decide) (by decide))
    have B2395 : (224 : Int) ≤ v2327.toInt ∧ v2327.toInt ≤ 239 := k_subB q2396 B2397
    have B2403 : (240 : Int) ≤ v2327.toInt ∧ v2327.toInt ≤ 239 := ⟨k_ge hc2351 (by decide), B2395.2⟩
    have B2404 : (128 : Int) ≤ (128 : Int32).toInt ∧ (128 : Int32).toInt ≤ 128 := (by decide)
    have q2405 := hc2349; rw [Int32.lt_iff_toInt_lt] at q2405
    have B2406 : (224 : Int) ≤ (224 : Int32).toInt ∧ (224 : Int32).toInt ≤ 224 := (by decide)
    have q2407 := hc2350; rw [Int32.lt_iff_toInt_lt] at q2407
    have B2408 : (240 : Int) ≤ (240 : Int32).toInt ∧ (240 : Int32).toInt ≤ 240 := (by decide)
    have q2409 := hc2351; rw [Int32.lt_iff_toInt_lt] at q2409
    omega
   ·
    show KEnds p e below s _ _ _ T2326 (mkF m 383 #[.val (.int i0), .val (.int i1), .val (.int i2), .val (.long i3), .second, .val (.int v1), .val (.int (2 : Int32)), .val (.int v2040), .val (.int (1 : Int32)), .val (.ref b2277)] [(.int v2359)])
    refine k_iload X2326 hx (hb hby at_383) rfl (pc' := 385) rfl ?_
    refine k_icmp_ne X2326 hx (hb hby at_385) (pn := 388) rfl (py := 392) (by decide) (fun hc2410 => ?_) (fun hc2410 => ?_)
    ·
     refine k_iconst X2326 hx (hb hby at_392) (pc' := 393) rfl (z := (0 : Int32)) rfl ?_
     exfalso
     have B2411 : (-2147483648 : Int) ≤ v2040.toInt ∧ v2040.toInt ≤ 2147483647 := ⟨(rng32 v2040).1, Int.le_of_lt_add_one (rng32 v2040).2⟩
     have B2414 : (2048 : Int) ≤ v2040.toInt ∧ v2040.toInt ≤ 2147483647 := ⟨k_ge hP2041.1 (by decide), B2411.2⟩
     have B2415 : (2048 : Int) ≤ v2040.toInt ∧ v2040.toInt ≤ 65535 := ⟨B2414.1, k_le hP2041.2 (by decide)⟩
     have B2416 : (2048 : Int) ≤ (2048 : Int32).toInt ∧ (2048 : Int32).toInt ≤ 2048 := (by decide)
     have q2417 := hP2041.1; rw [Int32.lt_iff_toInt_lt] at q2417
     have B2418 : (65535 : Int) ≤ (65535 : Int32).toInt ∧ (65535 : Int32).toInt ≤ 65535 := (by decide)
     have q2419 := hP2041.2; rw [Int32.lt_iff_toInt_lt] at q2419
     have q2427 : v2310.toInt = v2040.toInt / 4096 := (by rw [hv2310]; exact c_ishr _ _ 12 (by decide))
     have B2426 : (0 : Int) ≤ v2310.toInt ∧ v2310.toInt ≤ 15 := (by rw [q2427]; exact k_divB B2415 (by decide) (by decide) (by decide))
     have q2425 : v2311.toInt = 224 + v2310.toInt := k_orx (k := 5) hv2311 B2426 (by decide) (by decide) (by decide) (by decide) (by decide) (by decide)
     have B2424 : (224 : Int) ≤ v2311.toInt ∧ v2311.toInt ≤ 239 := k_caddB q2425 B2426
     have q2423 : v2312.toInt = v2311.toInt - 256 := k_i2by hv2312 B2424 (by decide) (by decide)
     have B2422 : (-32 : Int) ≤ v2312.toInt ∧ v2312.toInt ≤ -17 := k_subB q2423 B2424
     have q2421 : v2352.toInt = v2312.toInt - (-256) := (by rw [h2360, c_mask _ _ 8 (by decide) (by decide)]; exact k_modx B2422 (by decide) (by decide))
     have B2420 : (224 : Int) ≤ v2352.toInt ∧ v2352.toInt ≤ 239 := k_subB q2421 B2422
     have B2428 : (128 : Int) ≤ (128 : Int32).toInt ∧ (128 : Int32).toInt ≤ 128 := (by decide)
     have q2429 := hc2368; rw [Int32.lt_iff_toInt_lt] at q2429
     have B2430 : (224 : Int) ≤ (224 : Int32).toInt ∧ (224 : Int32).toInt ≤ 224 := (by decide)
     have q2431 := hc2369; rw [Int32.lt_iff_toInt_lt] at q2431
     have B2432 : (240 : Int) ≤ (240 : Int32).toInt ∧ (240 : Int32).toInt ≤ 240 := (by decide)
     have q2433 := hc2370; rw [Int32.lt_iff_toInt_lt] at q2433
     have q2443 : v2353.toInt = v2352.toInt - (224) := (by rw [h2361, c_mask _ _ 4 (by decide) (by decide)]; exact k_modx B2420 (by decide) (by decide))
     have B2442 : (0 : Int) ≤ v2353.toInt ∧ v2353.toInt ≤ 15 := k_subB q2443 B2420
     have q2441 : v2354.toInt = 64 * v2353.toInt := k_ishlx (k := 6) h2362 B2442 (by decide) (by decide) (by decide)
     have B2440 : (0 : Int) ≤ v2354.toInt ∧ v2354.toInt ≤ 960 := (by rw [q2441]; exact k_mulB B2442 (by decide))
     have q2453 : v2315.toInt = v2040.toInt / 64 := (by rw [hv2315]; exact c_ishr _ _ 6 (by decide))
     have B2452 : (32 : Int) ≤ v2315.toInt ∧ v2315.toInt ≤ 1023 := (by rw [q2453]; exact k_divB B2415 (by decide) (by decide) (by decide))
     have q2451 : v2316.toInt = v2315.toInt % 64 := (by rw [hv2316]; exact c_mask _ _ 6 (by decide) (by decide))
     have B2450 : (0 : Int) ≤ v2316.toInt ∧ v2316.toInt ≤ 63 := (by rw [q2451]; exact k_modB (by decide))
     have q2449 : v2317.toInt = 128 + v2316.toInt := k_orx (k := 7) hv2317 B2450 (by decide) (by decide) (by decide) (by decide) (by decide) (by decide)
     have B2448 : (128 : Int) ≤ v2317.toInt ∧ v2317.toInt ≤ 191 := k_caddB q2449 B2450
     have q2447 : v2318.toInt = v2317.toInt - 256 := k_i2by hv2318 B2448 (by decide) (by decide)
     have B2446 : (-128 : Int) ≤ v2318.toInt ∧ v2318.toInt ≤ -65 := k_subB q2447 B2448
     have q2445 : v2355.toInt = v2318.toInt - (-128) := (by rw [h2363, c_mask _ _ 6 (by decide) (by decide)]; exact k_modx B2446 (by decide) (by decide))
     have B2444 : (0 : Int) ≤ v2355.toInt ∧ v2355.toInt ≤ 63 := k_subB q2445 B2446
     have q2439 : v2356.toInt = v2354.toInt + v2355.toInt := k_orx2 (k := 6) h2364 B2440 B2444 (by decide) (by decide) (by decide) (by decide) (by omega)
     have B2438 : (0 : Int) ≤ v2356.toInt ∧ v2356.toInt ≤ 1023 := k_addB q2439 B2440 B2444
     have q2437 : v2357.toInt = 64 * v2356.toInt := k_ishlx (k := 6) h2365 B2438 (by decide) (by decide) (by decide)
     have B2436 : (0 : Int) ≤ v2357.toInt ∧ v2357.toInt ≤ 65472 := (by rw [q2437]; exact k_mulB B2438 (by decide))
     have q2461 : v2321.toInt = v2040.toInt % 64 := (by rw [hv2321]; exact c_mask _ _ 6 (by decide) (by decide))
     have B2460 : (0 : Int) ≤ v2321.toInt ∧ v2321.toInt ≤ 63 := (by rw [q2461]; exact k_modB (by decide))
     have q2459 : v2322.toInt = 128 + v2321.toInt := k_orx (k := 7) hv2322 B2460 (by decide) (by decide) (by decide) (by decide) (by decide) (by decide)
     have B2458 : (128 : Int) ≤ v2322.toInt ∧ v2322.toInt ≤ 191 := k_caddB q2459 B2460
     have q2457 : v2323.toInt = v2322.toInt - 256 := k_i2by hv2323 B2458 (by decide) (by decide)
     have B2456 : (-128 : Int) ≤ v2323.toInt ∧ v2323.toInt ≤ -65 := k_subB q2457 B2458
     have q2455 : v2358.toInt = v2323.toInt - (-128) := (by rw [h2366, c_mask _ _ 6 (by decide) (by decide)]; exact k_modx B2456 (by decide) (by decide))
     have B2454 : (0 : Int) ≤ v2358.toInt ∧ v2358.toInt ≤ 63 := k_subB q2455 B2456
     have q2435 : v2359.toInt = v2357.toInt + v2358.toInt := k_orx2 (k := 6) h2367 B2436 B2454 (by decide) (by decide) (by decide) (by decide) (by omega)
     have B2434 : (0 : Int) ≤ v2359.toInt ∧ v2359.toInt ≤ 65535 := k_addB q2435 B2436 B2454
     have q2462 : ¬ v2359.toInt = v2040.toInt := fun q => hc2410 (Int32.toInt_inj.mp q)
     omega
    ·
     refine k_iconst X2326 hx (hb hby at_388) (pc' := 389) rfl (z := (1 : Int32)) rfl ?_
     refine k_goto X2326 hx (hb hby at_389) (pc' := 393) (by decide) ?_
     exact k_retN X2326 hx (t := .boolean) Bd.returns (by simp) (hb hby at_393) hlk (by decide) (by decide) (z' := (1 : Int32)) rfl ⟨rfl, N2326'⟩
   ·
    show KEnds p e below s _ _ _ T2326 (mkF m 383 #[.val (.int i0), .val (.int i1), .val (.int i2), .val (.long i3), .second, .val (.int v1), .val (.int (2 : Int32)), .val (.int v2040), .val (.int (1 : Int32)), .val (.ref b2277)] [(.int v2375)])
    exfalso
    have B2463 : (-2147483648 : Int) ≤ v2040.toInt ∧ v2040.toInt ≤ 2147483647 := ⟨(rng32 v2040).1, Int.le_of_lt_add_one (rng32 v2040).2⟩
    have B2466 : (2048 : Int) ≤ v2040.toInt ∧ v2040.toInt ≤ 2147483647 := ⟨k_ge hP2041.1 (by decide), B2463.2⟩
    have B2467 : (2048 : Int) ≤ v2040.toInt ∧ v2040.toInt ≤ 65535 := ⟨B2466.1, k_le hP2041.2 (by decide)⟩
    have B2468 : (2048 : Int) ≤ (2048 : Int32).toInt ∧ (2048 : Int32).toInt ≤ 2048 := (by decide)
    have q2469 := hP2041.1; rw [Int32.lt_iff_toInt_lt] at q2469
    have B2470 : (65535 : Int) ≤ (65535 : Int32).toInt ∧ (65535 : Int32).toInt ≤ 65535 := (by decide)
    have q2471 := hP2041.2; rw [Int32.lt_iff_toInt_lt] at q2471
    have q2479 : v2310.toInt = v2040.toInt / 4096 := (by rw [hv2310]; exact c_ishr _ _ 12 (by decide))
    have B2478 : (0 : Int) ≤ v2310.toInt ∧ v2310.toInt ≤ 15 := (by rw [q2479]; exact k_divB B2467 (by decide) (by decide) (by decide))
    have q2477 : v2311.toInt = 224 + v2310.toInt := k_orx (k := 5) hv2311 B2478 (by decide) (by decide) (by decide) (by decide) (by decide) (by decide)
    have B2476 : (224 : Int) ≤ v2311.toInt ∧ v2311.toInt ≤ 239 := k_caddB q2477 B2478
    have q2475 : v2312.toInt = v2311.toInt - 256 := k_i2by hv2312 B2476 (by decide) (by decide)
    have B2474 : (-32 : Int) ≤ v2312.toInt ∧ v2312.toInt ≤ -17 := k_subB q2475 B2476
    have q2473 : v2371.toInt = v2312.toInt - (-256) := (by rw [h2376, c_mask _ _ 8 (by decide) (by decide)]; exact k_modx B2474 (by decide) (by decide))
    have B2472 : (224 : Int) ≤ v2371.toInt ∧ v2371.toInt ≤ 239 := k_subB q2473 B2474
    have B2480 : (224 : Int) ≤ v2371.toInt ∧ v2371.toInt ≤ 223 := ⟨B2472.1, k_lt hc2382 (by decide)⟩
    have B2481 : (128 : Int) ≤ (128 : Int32).toInt ∧ (128 : Int32).toInt ≤ 128 := (by decide)
    have q2482 := hc2381; rw [Int32.lt_iff_toInt_lt] at q2482
    have B2483 : (224 : Int) ≤ (224 : Int32).toInt ∧ (224 : Int32).toInt ≤ 224 := (by decide)
    have q2484 := hc2382; rw [Int32.lt_iff_toInt_lt] at q2484
    omega
   ·
    show KEnds p e below s _ _ _ T2326 (mkF m 383 #[.val (.int i0), .val (.int i1), .val (.int i2), .val (.long i3), .second, .val (.int v1), .val (.int (2 : Int32)), .val (.int v2040), .val (.int (1 : Int32)), .val (.ref b2277)] [(.int v2383)])
    exfalso
    have B2485 : (-2147483648 : Int) ≤ v2040.toInt ∧ v2040.toInt ≤ 2147483647 := ⟨(rng32 v2040).1, Int.le_of_lt_add_one (rng32 v2040).2⟩
    have B2488 : (2048 : Int) ≤ v2040.toInt ∧ v2040.toInt ≤ 2147483647 := ⟨k_ge hP2041.1 (by decide), B2485.2⟩
    have B2489 : (2048 : Int) ≤ v2040.toInt ∧ v2040.toInt ≤ 65535 := ⟨B2488.1, k_le hP2041.2 (by decide)⟩
    have B2490 : (2048 : Int) ≤ (2048 : Int32).toInt ∧ (2048 : Int32).toInt ≤ 2048 := (by decide)
    have q2491 := hP2041.1; rw [Int32.lt_iff_toInt_lt] at q2491
    have B2492 : (65535 : Int) ≤ (65535 : Int32).toInt ∧ (65535 : Int32).toInt ≤ 65535 := (by decide)
    have q2493 := hP2041.2; rw [Int32.lt_iff_toInt_lt] at q2493
    have q2501 : v2310.toInt = v2040.toInt / 4096 := (by rw [hv2310]; exact c_ishr _ _ 12 (by decide))
    have B2500 : (0 : Int) ≤ v2310.toInt ∧ v2310.toInt ≤ 15 := (by rw [q2501]; exact k_divB B2489 (by decide) (by decide) (by decide))
    have q2499 : v2311.toInt = 224 + v2310.toInt := k_orx (k := 5) hv2311 B2500 (by decide) (by decide) (by decide) (by decide) (by decide) (by decide)
    have B2498 : (224 : Int) ≤ v2311.toInt ∧ v2311.toInt ≤ 239 := k_caddB q2499 B2500
    have q2497 : v2312.toInt = v2311.toInt - 256 := k_i2by hv2312 B2498 (by decide) (by decide)
    have B2496 : (-32 : Int) ≤ v2312.toInt ∧ v2312.toInt ≤ -17 := k_subB q2497 B2498
    have q2495 : v2383.toInt = v2312.toInt - (-256) := (by rw [h2384, c_mask _ _ 8 (by decide) (by decide)]; exact k_modx B2496 (by decide) (by decide))
    have B2494 : (224 : Int) ≤ v2383.toInt ∧ v2383.toInt ≤ 239 := k_subB q2495 B2496
    have B2502 : (224 : Int) ≤ v2383.toInt ∧ v2383.toInt ≤ 127 := ⟨B2494.1, k_lt hc2385 (by decide)⟩
    have B2503 : (128 : Int) ≤ (128 : Int32).toInt ∧ (128 : Int32).toInt ≤ 128 := (by decide)
    have q2504 := hc2385; rw [Int32.lt_iff_toInt_lt] at q2504
    omega
  ·
   show KEnds p e below s _ _ _ s₁ (mkF m 102 #[.val (.int i0), .val (.int i1), .val (.int i2), .val (.long i3), .second, .val (.int v1), .val (.int (2 : Int32)), .val (.int v2040), .unset, .unset] [(.int (2 : Int32))])
   refine k_istore X0 hx (hb hby at_102) (Ls' := #[.val (.int i0), .val (.int i1), .val (.int i2), .val (.long i3), .second, .val (.int v1), .val (.int (2 : Int32)), .val (.int v2040), .val (.int (2 : Int32)), .unset]) rfl (pc' := 104) rfl ?_
   refine k_bipush X0 hx (hb hby at_104) (pc' := 106) rfl (z := (8 : Int32)) rfl ?_
   refine k_newA X0 hx hZ (hw _ (List.mem_of_getElem? (i := 1) rfl)) e0 (hb hby at_106) (by decide) (cap := 8) (by decide) (by decide) (by decide) (by decide) (pc' := 108) rfl (fun T2506 h2506 b2506 k2506 g2506 X2506 e2506 E2506 V2506 => ?_)
   have g_b2506 : n0 ≤ b2506 := Nat.le_trans Z0 (Nat.le_of_eq g2506.symm)
   have Z2506 : n0 ≤ h2506.size := Nat.le_trans Z0 E2506.1
   have Vw2506 : Arv Z h2506 b2506 k2506 .byte (8 : Int32) [(.int (0 : Int32)), (.int (0 : Int32)), (.int (0 : Int32)), (.int (0 : Int32)), (.int (0 : Int32)), (.int (0 : Int32)), (.int (0 : Int32)), (.int (0 : Int32))] (.int (0 : Int32)) := V2506
   refine k_astore X2506 hx (hb hby at_108) rfl (Ls' := #[.val (.int i0), .val (.int i1), .val (.int i2), .val (.long i3), .second, .val (.int v1), .val (.int (2 : Int32)), .val (.int v2040), .val (.int (2 : Int32)), .val (.ref b2506)]) rfl (pc' := 110) rfl ?_
   refine k_aload X2506 hx (hb hby at_110) rfl rfl (pc' := 112) rfl ?_
   refine k_iconst X2506 hx (hb hby at_112) (pc' := 113) rfl (z := (0 : Int32)) rfl ?_
   refine k_lloadN X2506 hx (hb hby at_113) rfl (pc' := 114) rfl ?_
   refine k_iconst X2506 hx (hb hby at_114) (pc' := 115) rfl (z := (0 : Int32)) rfl ?_
   refine k_callS X2506 hx hZ hown (hw _ (List.mem_of_getElem? (i := 2) rfl)) (hw _ (List.mem_of_getElem? (i := 3) rfl)) (hw _ (List.mem_of_getElem? (i := 4) rfl)) (hw _ (List.mem_of_getElem? (i := 5) rfl)) (by decide) (rm1_55 l Z a0 hw [] i3 h2506 n0 Z2506 ) (by decide) (by decide) e2506 (by rw [hml]; rfl) (argsL := [(.long i3), (.int (0 : Int32))]) (rest := [(.int (0 : Int32)), (.ref b2506)]) (lenOf pd_0 rfl) rfl (W := 2) (Nat.le_refl _) rfl (hb hby at_115) (by decide) (by decide) (pc' := 118) rfl (fun T2507 L2507 r2507 X2507 q2507 => ?_)
   obtain ⟨N2507, e2507, rfl⟩ := q2507
   have N2507' := Fr.app N0 N2507
   show KEnds p e below s _ _ _ T2507 (mkF m 118 #[.val (.int i0), .val (.int i1), .val (.int i2), .val (.long i3), .second, .val (.int v1), .val (.int (2 : Int32)), .val (.int v2040), .val (.int (2 : Int32)), .val (.ref b2506)] ((.int (f1_55 i3)) :: (.int (0 : Int32)) :: (.ref b2506) :: []))
   obtain ⟨v2508, hv2508⟩ : ∃ z, z = f1_55 i3 := ⟨_, rfl⟩
   rw [← hv2508]
   have hb2509 : v2508.toInt8.toInt32 = v2508 := by rw [hv2508]; exact f1_55_byte i3
   refine k_bastore X2507 hx hZ e2507 Vw2506 ⟨by decide, by decide⟩ (i := 0) rfl (Nat.le_of_ble_eq_true rfl) (hb hby at_118) (pc' := 119) rfl (fun T2510 h2510 X2510 e2510 W2510 V2510 => ?_)
   rw [hb2509] at V2510
   have Vw2510 : Arv Z h2510 b2506 k2506 .byte (8 : Int32) [(.int v2508), (.int (0 : Int32)), (.int (0 : Int32)), (.int (0 : Int32)), (.int (0 : Int32)), (.int (0 : Int32)), (.int (0 : Int32)), (.int (0 : Int32))] (.int (0 : Int32)) := V2510
   have N2510 := Fr.snoc X2510 N2507' g_b2506
   have Z2510 : n0 ≤ h2510.size := Nat.le_trans Z2506 (Nat.le_of_eq W2510.size.symm)
   refine k_aload X2510 hx (hb hby at_119) rfl rfl (pc' := 121) rfl ?_
   refine k_iconst X2510 hx (hb hby at_121) (pc' := 122) rfl (z := (1 : Int32)) rfl ?_
   refine k_lloadN X2510 hx (hb hby at_122) rfl (pc' := 123) rfl ?_
   refine k_iconst X2510 hx (hb hby at_123) (pc' := 124) rfl (z := (1 : Int32)) rfl ?_
   refine k_callS X2510 hx hZ hown (hw _ (List.mem_of_getElem? (i := 2) rfl)) (hw _ (List.mem_of_getElem? (i := 3) rfl)) (hw _ (List.mem_of_getElem? (i := 4) rfl)) (hw _ (List.mem_of_getElem? (i := 5) rfl)) (by decide) (rm1_60 l Z a0 hw [] i3 h2510 n0 Z2510 ) (by decide) (by decide) e2510 (by rw [hml]; rfl) (argsL := [(.long i3), (.int (1 : Int32))]) (rest := [(.int (1 : Int32)), (.ref b2506)]) (lenOf pd_0 rfl) rfl (W := 2) (Nat.le_refl _) rfl (hb hby at_124) (by decide) (by decide) (pc' := 127) rfl (fun T2511 L2511 r2511 X2511 q2511 => ?_)
   obtain ⟨N2511, e2511, rfl⟩ := q2511
   have N2511' := Fr.app N2510 N2511
   show KEnds p e below s _ _ _ T2511 (mkF m 127 #[.val (.int i0), .val (.int i1), .val (.int i2), .val (.long i3), .second, .val (.int v1), .val (.int (2 : Int32)), .val (.int v2040), .val (.int (2 : Int32)), .val (.ref b2506)] ((.int (f1_60 i3)) :: (.int (1 : Int32)) :: (.ref b2506) :: []))
   obtain ⟨v2512, hv2512⟩ : ∃ z, z = f1_60 i3 := ⟨_, rfl⟩
   rw [← hv2512]
   have hb2513 : v2512.toInt8.toInt32 = v2512 := by rw [hv2512]; exact f1_60_byte i3
   refine k_bastore X2511 hx hZ e2511 Vw2510 ⟨by decide, by decide⟩ (i := 1) rfl (Nat.le_of_ble_eq_true rfl) (hb hby at_127) (pc' := 128) rfl (fun T2514 h2514 X2514 e2514 W2514 V2514 => ?_)
   rw [hb2513] at V2514
   have Vw2514 : Arv Z h2514 b2506 k2506 .byte (8 : Int32) [(.int v2508), (.int v2512), (.int (0 : Int32)), (.int (0 : Int32)), (.int (0 : Int32)), (.int (0 : Int32)), (.int (0 : Int32)), (.int (0 : Int32))] (.int (0 : Int32)) := V2514
   have N2514 := Fr.snoc X2514 N2511' g_b2506
   have Z2514 : n0 ≤ h2514.size := Nat.le_trans Z2510 (Nat.le_of_eq W2514.size.symm)
   refine k_aload X2514 hx (hb hby at_128) rfl rfl (pc' := 130) rfl ?_
   refine k_iconst X2514 hx (hb hby at_130) (pc' := 131) rfl (z := (2 : Int32)) rfl ?_
   refine k_lloadN X2514 hx (hb hby at_131) rfl (pc' := 132) rfl ?_
   refine k_iconst X2514 hx (hb hby at_132) (pc' := 133) rfl (z := (2 : Int32)) rfl ?_
   refine k_callS X2514 hx hZ hown (hw _ (List.mem_of_getElem? (i := 2) rfl)) (hw _ (List.mem_of_getElem? (i := 3) rfl)) (hw _ (List.mem_of_getElem? (i := 4) rfl)) (hw _ (List.mem_of_getElem? (i := 5) rfl)) (by decide) (rm1_65 l Z a0 hw [] i3 h2514 n0 Z2514 ) (by decide) (by decide) e2514 (by rw [hml]; rfl) (argsL := [(.long i3), (.int (2 : Int32))]) (rest := [(.int (2 : Int32)), (.ref b2506)]) (lenOf pd_0 rfl) rfl (W := 2) (Nat.le_refl _) rfl (hb hby at_133) (by decide) (by decide) (pc' := 136) rfl (fun T2515 L2515 r2515 X2515 q2515 => ?_)
   obtain ⟨N2515, e2515, rfl⟩ := q2515
   have N2515' := Fr.app N2514 N2515
   show KEnds p e below s _ _ _ T2515 (mkF m 136 #[.val (.int i0), .val (.int i1), .val (.int i2), .val (.long i3), .second, .val (.int v1), .val (.int (2 : Int32)), .val (.int v2040), .val (.int (2 : Int32)), .val (.ref b2506)] ((.int (f1_65 i3)) :: (.int (2 : Int32)) :: (.ref b2506) :: []))
   obtain ⟨v2516, hv2516⟩ : ∃ z, z = f1_65 i3 := ⟨_, rfl⟩
   rw [← hv2516]
   have hb2517 : v2516.toInt8.toInt32 = v2516 := by rw [hv2516]; exact f1_65_byte i3
   refine k_bastore X2515 hx hZ e2515 Vw2514 ⟨by decide, by decide⟩ (i := 2) rfl (Nat.le_of_ble_eq_true rfl) (hb hby at_136) (pc' := 137) rfl (fun T2518 h2518 X2518 e2518 W2518 V2518 => ?_)
   rw [hb2517] at V2518
   have Vw2518 : Arv Z h2518 b2506 k2506 .byte (8 : Int32) [(.int v2508), (.int v2512), (.int v2516), (.int (0 : Int32)), (.int (0 : Int32)), (.int (0 : Int32)), (.int (0 : Int32)), (.int (0 : Int32))] (.int (0 : Int32)) := V2518
   have N2518 := Fr.snoc X2518 N2515' g_b2506
   have Z2518 : n0 ≤ h2518.size := Nat.le_trans Z2514 (Nat.le_of_eq W2518.size.symm)
   refine k_aload X2518 hx (hb hby at_137) rfl rfl (pc' := 139) rfl ?_
   refine k_iconst X2518 hx (hb hby at_139) (pc' := 140) rfl (z := (3 : Int32)) rfl ?_
   refine k_lloadN X2518 hx (hb hby at_140) rfl (pc' := 141) rfl ?_
   refine k_iconst X2518 hx (hb hby at_141) (pc' := 142) rfl (z := (3 : Int32)) rfl ?_
   refine k_callS X2518 hx hZ hown (hw _ (List.mem_of_getElem? (i := 2) rfl)) (hw _ (List.mem_of_getElem? (i := 3) rfl)) (hw _ (List.mem_of_getElem? (i := 4) rfl)) (hw _ (List.mem_of_getElem? (i := 5) rfl)) (by decide) (rm1_70 l Z a0 hw [] i3 h2518 n0 Z2518 ) (by decide) (by decide) e2518 (by rw [hml]; rfl) (argsL := [(.long i3), (.int (3 : Int32))]) (rest := [(.int (3 : Int32)), (.ref b2506)]) (lenOf pd_0 rfl) rfl (W := 2) (Nat.le_refl _) rfl (hb hby at_142) (by decide) (by decide) (pc' := 145) rfl (fun T2519 L2519 r2519 X2519 q2519 => ?_)
   obtain ⟨N2519, e2519, rfl⟩ := q2519
   have N2519' := Fr.app N2518 N2519
   show KEnds p e below s _ _ _ T2519 (mkF m 145 #[.val (.int i0), .val (.int i1), .val (.int i2), .val (.long i3), .second, .val (.int v1), .val (.int (2 : Int32)), .val (.int v2040), .val (.int (2 : Int32)), .val (.ref b2506)] ((.int (f1_70 i3)) :: (.int (3 : Int32)) :: (.ref b2506) :: []))
   obtain ⟨v2520, hv2520⟩ : ∃ z, z = f1_70 i3 := ⟨_, rfl⟩
   rw [← hv2520]
   have hb2521 : v2520.toInt8.toInt32 = v2520 := by rw [hv2520]; exact f1_70_byte i3
   refine k_bastore X2519 hx hZ e2519 Vw2518 ⟨by decide, by decide⟩ (i := 3) rfl (Nat.le_of_ble_eq_true rfl) (hb hby at_145) (pc' := 146) rfl (fun T2522 h2522 X2522 e2522 W2522 V2522 => ?_)
   rw [hb2521] at V2522
   have Vw2522 : Arv Z h2522 b2506 k2506 .byte (8 : Int32) [(.int v2508), (.int v2512), (.int v2516), (.int v2520), (.int (0 : Int32)), (.int (0 : Int32)), (.int (0 : Int32)), (.int (0 : Int32))] (.int (0 : Int32)) := V2522
   have N2522 := Fr.snoc X2522 N2519' g_b2506
   have Z2522 : n0 ≤ h2522.size := Nat.le_trans Z2518 (Nat.le_of_eq W2522.size.symm)
   refine k_aload X2522 hx (hb hby at_146) rfl rfl (pc' := 148) rfl ?_
   refine k_iconst X2522 hx (hb hby at_148) (pc' := 149) rfl (z := (4 : Int32)) rfl ?_
   refine k_lloadN X2522 hx (hb hby at_149) rfl (pc' := 150) rfl ?_
   refine k_iconst X2522 hx (hb hby at_150) (pc' := 151) rfl (z := (4 : Int32)) rfl ?_
   refine k_callS X2522 hx hZ hown (hw _ (List.mem_of_getElem? (i := 2) rfl)) (hw _ (List.mem_of_getElem? (i := 3) rfl)) (hw _ (List.mem_of_getElem? (i := 4) rfl)) (hw _ (List.mem_of_getElem? (i := 5) rfl)) (by decide) (rm1_75 l Z a0 hw [] i3 h2522 n0 Z2522 ) (by decide) (by decide) e2522 (by rw [hml]; rfl) (argsL := [(.long i3), (.int (4 : Int32))]) (rest := [(.int (4 : Int32)), (.ref b2506)]) (lenOf pd_0 rfl) rfl (W := 2) (Nat.le_refl _) rfl (hb hby at_151) (by decide) (by decide) (pc' := 154) rfl (fun T2523 L2523 r2523 X2523 q2523 => ?_)
   obtain ⟨N2523, e2523, rfl⟩ := q2523
   have N2523' := Fr.app N2522 N2523
   show KEnds p e below s _ _ _ T2523 (mkF m 154 #[.val (.int i0), .val (.int i1), .val (.int i2), .val (.long i3), .second, .val (.int v1), .val (.int (2 : Int32)), .val (.int v2040), .val (.int (2 : Int32)), .val (.ref b2506)] ((.int (f1_75 i3)) :: (.int (4 : Int32)) :: (.ref b2506) :: []))
   obtain ⟨v2524, hv2524⟩ : ∃ z, z = f1_75 i3 := ⟨_, rfl⟩
   rw [← hv2524]
   have hb2525 : v2524.toInt8.toInt32 = v2524 := by rw [hv2524]; exact f1_75_byte i3
   refine k_bastore X2523 hx hZ e2523 Vw2522 ⟨by decide, by decide⟩ (i := 4) rfl (Nat.le_of_ble_eq_true rfl) (hb hby at_154) (pc' := 155) rfl (fun T2526 h2526 X2526 e2526 W2526 V2526 => ?_)
   rw [hb2525] at V2526
   have Vw2526 : Arv Z h2526 b2506 k2506 .byte (8 : Int32) [(.int v2508), (.int v2512), (.int v2516), (.int v2520), (.int v2524), (.int (0 : Int32)), (.int (0 : Int32)), (.int (0 : Int32))] (.int (0 : Int32)) := V2526
   have N2526 := Fr.snoc X2526 N2523' g_b2506
   have Z2526 : n0 ≤ h2526.size := Nat.le_trans Z2522 (Nat.le_of_eq W2526.size.symm)
   refine k_aload X2526 hx (hb hby at_155) rfl rfl (pc' := 157) rfl ?_
   refine k_iconst X2526 hx (hb hby at_157) (pc' := 158) rfl (z := (5 : Int32)) rfl ?_
   refine k_lloadN X2526 hx (hb hby at_158) rfl (pc' := 159) rfl ?_
   refine k_iconst X2526 hx (hb hby at_159) (pc' := 160) rfl (z := (5 : Int32)) rfl ?_
   refine k_callS X2526 hx hZ hown (hw _ (List.mem_of_getElem? (i := 2) rfl)) (hw _ (List.mem_of_getElem? (i := 3) rfl)) (hw _ (List.mem_of_getElem? (i := 4) rfl)) (hw _ (List.mem_of_getElem? (i := 5) rfl)) (by decide) (rm1_80 l Z a0 hw [] i3 h2526 n0 Z2526 ) (by decide) (by decide) e2526 (by rw [hml]; rfl) (argsL := [(.long i3), (.int (5 : Int32))]) (rest := [(.int (5 : Int32)), (.ref b2506)]) (lenOf pd_0 rfl) rfl (W := 2) (Nat.le_refl _) rfl (hb hby at_160) (by decide) (by decide) (pc' := 163) rfl (fun T2527 L2527 r2527 X2527 q2527 => ?_)
   obtain ⟨N2527, e2527, rfl⟩ := q2527
   have N2527' := Fr.app N2526 N2527
   show KEnds p e below s _ _ _ T2527 (mkF m 163 #[.val (.int i0), .val (.int i1), .val (.int i2), .val (.long i3), .second, .val (.int v1), .val (.int (2 : Int32)), .val (.int v2040), .val (.int (2 : Int32)), .val (.ref b2506)] ((.int (f1_80 i3)) :: (.int (5 : Int32)) :: (.ref b2506) :: []))
   obtain ⟨v2528, hv2528⟩ : ∃ z, z = f1_80 i3 := ⟨_, rfl⟩
   rw [← hv2528]
   have hb2529 : v2528.toInt8.toInt32 = v2528 := by rw [hv2528]; exact f1_80_byte i3
   refine k_bastore X2527 hx hZ e2527 Vw2526 ⟨by decide, by decide⟩ (i := 5) rfl (Nat.le_of_ble_eq_true rfl) (hb hby at_163) (pc' := 164) rfl (fun T2530 h2530 X2530 e2530 W2530 V2530 => ?_)
   rw [hb2529] at V2530
   have Vw2530 : Arv Z h2530 b2506 k2506 .byte (8 : Int32) [(.int v2508), (.int v2512), (.int v2516), (.int v2520), (.int v2524), (.int v2528), (.int (0 : Int32)), (.int (0 : Int32))] (.int (0 : Int32)) := V2530
   have N2530 := Fr.snoc X2530 N2527' g_b2506
   have Z2530 : n0 ≤ h2530.size := Nat.le_trans Z2526 (Nat.le_of_eq W2530.size.symm)
   refine k_aload X2530 hx (hb hby at_164) rfl rfl (pc' := 166) rfl ?_
   refine k_bipush X2530 hx (hb hby at_166) (pc' := 168) rfl (z := (6 : Int32)) rfl ?_
   refine k_lloadN X2530 hx (hb hby at_168) rfl (pc' := 169) rfl ?_
   refine k_bipush X2530 hx (hb hby at_169) (pc' := 171) rfl (z := (6 : Int32)) rfl ?_
   refine k_callS X2530 hx hZ hown (hw _ (List.mem_of_getElem? (i := 2) rfl)) (hw _ (List.mem_of_getElem? (i := 3) rfl)) (hw _ (List.mem_of_getElem? (i := 4) rfl)) (hw _ (List.mem_of_getElem? (i := 5) rfl)) (by decide) (rm1_85 l Z a0 hw [] i3 h2530 n0 Z2530 ) (by decide) (by decide) e2530 (by rw [hml]; rfl) (argsL := [(.long i3), (.int (6 : Int32))]) (rest := [(.int (6 : Int32)), (.ref b2506)]) (lenOf pd_0 rfl) rfl (W := 2) (Nat.le_refl _) rfl (hb hby at_171) (by decide) (by decide) (pc' := 174) rfl (fun T2531 L2531 r2531 X2531 q2531 => ?_)
   obtain ⟨N2531, e2531, rfl⟩ := q2531
   have N2531' := Fr.app N2530 N2531
   show KEnds p e below s _ _ _ T2531 (mkF m 174 #[.val (.int i0), .val (.int i1), .val (.int i2), .val (.long i3), .second, .val (.int v1), .val (.int (2 : Int32)), .val (.int v2040), .val (.int (2 : Int32)), .val (.ref b2506)] ((.int (f1_85 i3)) :: (.int (6 : Int32)) :: (.ref b2506) :: []))
   obtain ⟨v2532, hv2532⟩ : ∃ z, z = f1_85 i3 := ⟨_, rfl⟩
   rw [← hv2532]
   have hb2533 : v2532.toInt8.toInt32 = v2532 := by rw [hv2532]; exact f1_85_byte i3
   refine k_bastore X2531 hx hZ e2531 Vw2530 ⟨by decide, by decide⟩ (i := 6) rfl (Nat.le_of_ble_eq_true rfl) (hb hby at_174) (pc' := 175) rfl (fun T2534 h2534 X2534 e2534 W2534 V2534 => ?_)
   rw [hb2533] at V2534
   have Vw2534 : Arv Z h2534 b2506 k2506 .byte (8 : Int32) [(.int v2508), (.int v2512), (.int v2516), (.int v2520), (.int v2524), (.int v2528), (.int v2532), (.int (0 : Int32))] (.int (0 : Int32)) := V2534
   have N2534 := Fr.snoc X2534 N2531' g_b2506
   have Z2534 : n0 ≤ h2534.size := Nat.le_trans Z2530 (Nat.le_of_eq W2534.size.symm)
   refine k_aload X2534 hx (hb hby at_175) rfl rfl (pc' := 177) rfl ?_
   refine k_bipush X2534 hx (hb hby at_177) (pc' := 179) rfl (z := (7 : Int32)) rfl ?_
   refine k_lloadN X2534 hx (hb hby at_179) rfl (pc' := 180) rfl ?_
   refine k_bipush X2534 hx (hb hby at_180) (pc' := 182) rfl (z := (7 : Int32)) rfl ?_
   refine k_callS X2534 hx hZ hown (hw _ (List.mem_of_getElem? (i := 2) rfl)) (hw _ (List.mem_of_getElem? (i := 3) rfl)) (hw _ (List.mem_of_getElem? (i := 4) rfl)) (hw _ (List.mem_of_getElem? (i := 5) rfl)) (by decide) (rm1_90 l Z a0 hw [] i3 h2534 n0 Z2534 ) (by decide) (by decide) e2534 (by rw [hml]; rfl) (argsL := [(.long i3), (.int (7 : Int32))]) (rest := [(.int (7 : Int32)), (.ref b2506)]) (lenOf pd_0 rfl) rfl (W := 2) (Nat.le_refl _) rfl (hb hby at_182) (by decide) (by decide) (pc' := 185) rfl (fun T2535 L2535 r2535 X2535 q2535 => ?_)
   obtain ⟨N2535, e2535, rfl⟩ := q2535
   have N2535' := Fr.app N2534 N2535
   show KEnds p e below s _ _ _ T2535 (mkF m 185 #[.val (.int i0), .val (.int i1), .val (.int i2), .val (.long i3), .second, .val (.int v1), .val (.int (2 : Int32)), .val (.int v2040), .val (.int (2 : Int32)), .val (.ref b2506)] ((.int (f1_90 i3)) :: (.int (7 : Int32)) :: (.ref b2506) :: []))
   obtain ⟨v2536, hv2536⟩ : ∃ z, z = f1_90 i3 := ⟨_, rfl⟩
   rw [← hv2536]
   have hb2537 : v2536.toInt8.toInt32 = v2536 := by rw [hv2536]; exact f1_90_byte i3
   refine k_bastore X2535 hx hZ e2535 Vw2534 ⟨by decide, by decide⟩ (i := 7) rfl (Nat.le_of_ble_eq_true rfl) (hb hby at_185) (pc' := 186) rfl (fun T2538 h2538 X2538 e2538 W2538 V2538 => ?_)
   rw [hb2537] at V2538
   have Vw2538 : Arv Z h2538 b2506 k2506 .byte (8 : Int32) [(.int v2508), (.int v2512), (.int v2516), (.int v2520), (.int v2524), (.int v2528), (.int v2532), (.int v2536)] (.int (0 : Int32)) := V2538
   have N2538 := Fr.snoc X2538 N2535' g_b2506
   have Z2538 : n0 ≤ h2538.size := Nat.le_trans Z2534 (Nat.le_of_eq W2538.size.symm)
   refine k_iload X2538 hx (hb hby at_186) rfl (pc' := 188) rfl ?_
   refine k_if_ne X2538 hx (hb hby at_188) (pn := 191) rfl (py := 202) (by decide) (fun _ => ?_) (fun hc => absurd hc (by decide))
   refine k_iload X2538 hx (hb hby at_202) rfl (pc' := 204) rfl ?_
   refine k_iconst X2538 hx (hb hby at_204) (pc' := 205) rfl (z := (1 : Int32)) rfl ?_
   refine k_icmp_ne X2538 hx (hb hby at_205) (pn := 208) rfl (py := 243) (by decide) (fun _ => ?_) (fun hc => absurd hc (by decide))
   refine k_iload X2538 hx (hb hby at_243) rfl (pc' := 245) rfl ?_
   refine k_iconst X2538 hx (hb hby at_245) (pc' := 246) rfl (z := (2 : Int32)) rfl ?_
   refine k_icmp_ne X2538 hx (hb hby at_246) (pn := 249) rfl (py := 304) (by decide) (fun hc => absurd (by decide) hc) (fun _ => ?_)
   refine k_aload X2538 hx (hb hby at_249) rfl rfl (pc' := 251) rfl ?_
   refine k_iload X2538 hx (hb hby at_251) rfl (pc' := 253) rfl ?_
   refine k_sipush X2538 hx (hb hby at_253) (pc' := 256) rfl (z := (224 : Int32)) rfl ?_
   refine k_iload X2538 hx (hb hby at_256) rfl (pc' := 258) rfl ?_
   refine k_bipush X2538 hx (hb hby at_258) (pc' := 260) rfl (z := (12 : Int32)) rfl ?_
   refine k_ishr X2538 hx (hb hby at_260) (pc' := 261) rfl (fun v2539 hv2539 => ?_)
   refine k_ior X2538 hx (hb hby at_261) (pc' := 262) rfl (fun v2540 hv2540 => ?_)
   refine k_i2b X2538 hx (hb hby at_262) (pc' := 263) rfl (fun v2541 hv2541 => ?_)
   refine k_bastore X2538 hx hZ e2538 Vw2538 ⟨by decide, by decide⟩ (i := 2) rfl (Nat.le_of_ble_eq_true rfl) (hb hby at_263) (pc' := 264) rfl (fun T2542 h2542 X2542 e2542 W2542 V2542 => ?_)
   have hb2543 : v2541.toInt8.toInt32 = v2541 := by rw [hv2541]; exact k_i2b2 _
   rw [hb2543] at V2542
   have Vw2542 : Arv Z h2542 b2506 k2506 .byte (8 : Int32) [(.int v2508), (.int v2512), (.int v2541), (.int v2520), (.int v2524), (.int v2528), (.int v2532), (.int v2536)] (.int (0 : Int32)) := V2542
   have N2542 := Fr.snoc X2542 N2538 g_b2506
   have Z2542 : n0 ≤ h2542.size := Nat.le_trans Z2538 (Nat.le_of_eq W2542.size.symm)
   refine k_aload X2542 hx (hb hby at_264) rfl rfl (pc' := 266) rfl ?_
   refine k_iload X2542 hx (hb hby at_266) rfl (pc' := 268) rfl ?_
   refine k_iconst X2542 hx (hb hby at_268) (pc' := 269) rfl (z := (1 : Int32)) rfl ?_
   refine k_iaddL X2542 hx (hb hby at_269) (pc' := 270) rfl (z := (3 : Int32)) (by decide) ?_
   refine k_sipush X2542 hx (hb hby at_270) (pc' := 273) rfl (z := (128 : Int32)) rfl ?_
   refine k_iload X2542 hx (hb hby at_273) rfl (pc' := 275) rfl ?_
   refine k_bipush X2542 hx (hb hby at_275) (pc' := 277) rfl (z := (6 : Int32)) rfl ?_
   refine k_ishr X2542 hx (hb hby at_277) (pc' := 278) rfl (fun v2544 hv2544 => ?_)
   refine k_bipush X2542 hx (hb hby at_278) (pc' := 280) rfl (z := (63 : Int32)) rfl ?_
   refine k_iand X2542 hx (hb hby at_280) (pc' := 281) rfl (fun v2545 hv2545 => ?_)
   refine k_ior X2542 hx (hb hby at_281) (pc' := 282) rfl (fun v2546 hv2546 => ?_)
   refine k_i2b X2542 hx (hb hby at_282) (pc' := 283) rfl (fun v2547 hv2547 => ?_)
   refine k_bastore X2542 hx hZ e2542 Vw2542 ⟨by decide, by decide⟩ (i := 3) rfl (Nat.le_of_ble_eq_true rfl) (hb hby at_283) (pc' := 284) rfl (fun T2548 h2548 X2548 e2548 W2548 V2548 => ?_)
   have hb2549 : v2547.toInt8.toInt32 = v2547 := by rw [hv2547]; exact k_i2b2 _
   rw [hb2549] at V2548
   have Vw2548 : Arv Z h2548 b2506 k2506 .byte (8 : Int32) [(.int v2508), (.int v2512), (.int v2541), (.int v2547), (.int v2524), (.int v2528), (.int v2532), (.int v2536)] (.int (0 : Int32)) := V2548
   have N2548 := Fr.snoc X2548 N2542 g_b2506
   have Z2548 : n0 ≤ h2548.size := Nat.le_trans Z2542 (Nat.le_of_eq W2548.size.symm)
   refine k_aload X2548 hx (hb hby at_284) rfl rfl (pc' := 286) rfl ?_
   refine k_iload X2548 hx (hb hby at_286) rfl (pc' := 288) rfl ?_
   refine k_iconst X2548 hx (hb hby at_288) (pc' := 289) rfl (z := (2 : Int32)) rfl ?_
   refine k_iaddL X2548 hx (hb hby at_289) (pc' := 290) rfl (z := (4 : Int32)) (by decide) ?_
   refine k_sipush X2548 hx (hb hby at_290) (pc' := 293) rfl (z := (128 : Int32)) rfl ?_
   refine k_iload X2548 hx (hb hby at_293) rfl (pc' := 295) rfl ?_
   refine k_bipush X2548 hx (hb hby at_295) (pc' := 297) rfl (z := (63 : Int32)) rfl ?_
   refine k_iand X2548 hx (hb hby at_297) (pc' := 298) rfl (fun v2550 hv2550 => ?_)
   refine k_ior X2548 hx (hb hby at_298) (pc' := 299) rfl (fun v2551 hv2551 => ?_)
   refine k_i2b X2548 hx (hb hby at_299) (pc' := 300) rfl (fun v2552 hv2552 => ?_)
   refine k_bastore X2548 hx hZ e2548 Vw2548 ⟨by decide, by decide⟩ (i := 4) rfl (Nat.le_of_ble_eq_true rfl) (hb hby at_300) (pc' := 301) rfl (fun T2553 h2553 X2553 e2553 W2553 V2553 => ?_)
   have hb2554 : v2552.toInt8.toInt32 = v2552 := by rw [hv2552]; exact k_i2b2 _
   rw [hb2554] at V2553
   have Vw2553 : Arv Z h2553 b2506 k2506 .byte (8 : Int32) [(.int v2508), (.int v2512), (.int v2541), (.int v2547), (.int v2552), (.int v2528), (.int v2532), (.int v2536)] (.int (0 : Int32)) := V2553
   have N2553 := Fr.snoc X2553 N2548 g_b2506
   have Z2553 : n0 ≤ h2553.size := Nat.le_trans Z2548 (Nat.le_of_eq W2553.size.symm)
   refine k_goto X2553 hx (hb hby at_301) (pc' := 376) (by decide) ?_
   refine k_aload X2553 hx (hb hby at_376) rfl rfl (pc' := 378) rfl ?_
   refine k_iload X2553 hx (hb hby at_378) rfl (pc' := 380) rfl ?_
   refine k_callS X2553 hx hZ hown (hw _ (List.mem_of_getElem? (i := 7) rfl)) (hw _ (List.mem_of_getElem? (i := 8) rfl)) (hw _ (List.mem_of_getElem? (i := 9) rfl)) (hw _ (List.mem_of_getElem? (i := 10) rfl)) (by decide) (rm2_543 l Z a0 hw [] b2506 k2506 v2508 v2512 v2541 v2547 v2552 v2528 v2532 v2536 h2553 n0 Z2553 Vw2553) (by decide) (by decide) e2553 (by rw [hml]; rfl) (argsL := [(.ref b2506), (.int (2 : Int32))]) (rest := []) (lenOf pd_2 rfl) rfl (W := 0) (Nat.le_refl _) rfl (hb hby at_380) (by decide) (by decide) (pc' := 383) rfl (fun T2555 L2555 r2555 X2555 q2555 => ?_)
   obtain ⟨N2555, e2555, q2555⟩ := q2555
   have N2555' := Fr.app N2553 N2555
   rcases q2555 with ⟨v2556, v2557, v2558, v2559, v2560, v2561, v2562, v2563, v2564, v2565, v2566, h2567, h2568, h2569, h2570, h2571, h2572, h2573, h2574, h2575, h2576, h2577, hc2578, hc2579, hc2580, rfl⟩ | ⟨v2581, v2582, v2583, v2584, v2585, v2586, v2587, v2588, h2589, h2590, h2591, h2592, h2593, h2594, h2595, h2596, hc2597, hc2598, hc2599, rfl⟩ | ⟨v2600, v2601, v2602, v2603, v2604, h2605, h2606, h2607, h2608, h2609, hc2610, hc2611, rfl⟩ | ⟨v2612, h2613, hc2614, rfl⟩
   ·
    show KEnds p e below s _ _ _ T2555 (mkF m 383 #[.val (.int i0), .val (.int i1), .val (.int i2), .val (.long i3), .second, .val (.int v1), .val (.int (2 : Int32)), .val (.int v2040), .val (.int (2 : Int32)), .val (.ref b2506)] [(.int v2566)])
    exfalso
    have B2615 : (-2147483648 : Int) ≤ v2040.toInt ∧ v2040.toInt ≤ 2147483647 := ⟨(rng32 v2040).1, Int.le_of_lt_add_one (rng32 v2040).2⟩
    have B2618 : (2048 : Int) ≤ v2040.toInt ∧ v2040.toInt ≤ 2147483647 := ⟨k_ge hP2041.1 (by decide), B2615.2⟩
    have B2619 : (2048 : Int) ≤ v2040.toInt ∧ v2040.toInt ≤ 65535 := ⟨B2618.1, k_le hP2041.2 (by decide)⟩
    have B2620 : (2048 : Int) ≤ (2048 : Int32).toInt ∧ (2048 : Int32).toInt ≤ 2048 := (by decide)
    have q2621 := hP2041.1; rw [Int32.lt_iff_toInt_lt] at q2621
    have B2622 : (65535 : Int) ≤ (65535 : Int32).toInt ∧ (65535 : Int32).toInt ≤ 65535 := (by decide)
    have q2623 := hP2041.2; rw [Int32.lt_iff_toInt_lt] at q2623
    have q2631 : v2539.toInt = v2040.toInt / 4096 := (by rw [hv2539]; exact c_ishr _ _ 12 (by decide))
    have B2630 : (0 : Int) ≤ v2539.toInt ∧ v2539.toInt ≤ 15 := (by rw [q2631]; exact k_divB B2619 (by decide) (by decide) (by decide))
    have q2629 : v2540.toInt = 224 + v2539.toInt := k_orx (k := 5) hv2540 B2630 (by decide) (by decide) (by decide) (by decide) (by decide) (by decide)
    have B2628 : (224 : Int) ≤ v2540.toInt ∧ v2540.toInt ≤ 239 := k_caddB q2629 B2630
    have q2627 : v2541.toInt = v2540.toInt - 256 := k_i2by hv2541 B2628 (by decide) (by decide)
    have B2626 : (-32 : Int) ≤ v2541.toInt ∧ v2541.toInt ≤ -17 := k_subB q2627 B2628
    have q2625 : v2556.toInt = v2541.toInt - (-256) := (by rw [h2567, c_mask _ _ 8 (by decide) (by decide)]; exact k_modx B2626 (by decide) (by decide))
    have B2624 : (224 : Int) ≤ v2556.toInt ∧ v2556.toInt ≤ 239 := k_subB q2625 B2626
    have B2632 : (240 : Int) ≤ v2556.toInt ∧ v2556.toInt ≤ 239 := ⟨k_ge hc2580 (by decide), B2624.2⟩
    have B2633 : (128 : Int) ≤ (128 : Int32).toInt ∧ (128 : Int32).toInt ≤ 128 := (by decide)
    have q2634 := hc2578; rw [Int32.lt_iff_toInt_lt] at q2634
    have B2635 : (224 : Int) ≤ (224 : Int32).toInt ∧ (224 : Int32).toInt ≤ 224 := (by decide)
    have q2636 := hc2579; rw [Int32.lt_iff_toInt_lt] at q2636
    have B2637 : (240 : Int) ≤ (240 : Int32).toInt ∧ (240 : Int32).toInt ≤ 240 := (by decide)
    have q2638 := hc2580; rw [Int32.lt_iff_toInt_lt] at q2638
    omega
   ·
    show KEnds p e below s _ _ _ T2555 (mkF m 383 #[.val (.int i0), .val (.int i1), .val (.int i2), .val (.long i3), .second, .val (.int v1), .val (.int (2 : Int32)), .val (.int v2040), .val (.int (2 : Int32)), .val (.ref b2506)] [(.int v2588)])
    refine k_iload X2555 hx (hb hby at_383) rfl (pc' := 385) rfl ?_
    refine k_icmp_ne X2555 hx (hb hby at_385) (pn := 388) rfl (py := 392) (by decide) (fun hc2639 => ?_) (fun hc2639 => ?_)
    ·
     refine k_iconst X2555 hx (hb hby at_392) (pc' := 393) rfl (z := (0 : Int32)) rfl ?_
     exfalso
     have B2640 : (-2147483648 : Int) ≤ v2040.toInt ∧ v2040.toInt ≤ 2147483647 := ⟨(rng32 v2040).1, Int.le_of_lt_add_one (rng32 v2040).2⟩
     have B2643 : (2048 : Int) ≤ v2040.toInt ∧ v2040.toInt ≤ 2147483647 := ⟨k_ge hP2041.1 (by decide), B2640.2⟩
     have B2644 : (2048 : Int) ≤ v2040.toInt ∧ v2040.toInt ≤ 65535 := ⟨B2643.1, k_le hP2041.2 (by decide)⟩
     have B2645 : (2048 : Int) ≤ (2048 : Int32).toInt ∧ (2048 : Int32).toInt ≤ 2048 := (by decide)
     have q2646 := hP2041.1; rw [Int32.lt_iff_toInt_lt] at q2646
     have B2647 : (65535 : Int) ≤ (65535 : Int32).toInt ∧ (65535 : Int32).toInt ≤ 65535 := (by decide)
     have q2648 := hP2041.2; rw [Int32.lt_iff_toInt_lt] at q2648
     have q2656 : v2539.toInt = v2040.toInt / 4096 := (by rw [hv2539]; exact c_ishr _ _ 12 (by decide))
     have B2655 : (0 : Int) ≤ v2539.toInt ∧ v2539.toInt ≤ 15 := (by rw [q2656]; exact k_divB B2644 (by decide) (by decide) (by decide))
     have q2654 : v2540.toInt = 224 + v2539.toInt := k_orx (k := 5) hv2540 B2655 (by decide) (by decide) (by decide) (by decide) (by decide) (by decide)
     have B2653 : (224 : Int) ≤ v2540.toInt ∧ v2540.toInt ≤ 239 := k_caddB q2654 B2655
     have q2652 : v2541.toInt = v2540.toInt - 256 := k_i2by hv2541 B2653 (by decide) (by decide)
     have B2651 : (-32 : Int) ≤ v2541.toInt ∧ v2541.toInt ≤ -17 := k_subB q2652 B2653
     have q2650 : v2581.toInt = v2541.toInt - (-256) := (by rw [h2589, c_mask _ _ 8 (by decide) (by decide)]; exact k_modx B2651 (by decide) (by decide))
     have B2649 : (224 : Int) ≤ v2581.toInt ∧ v2581.toInt ≤ 239 := k_subB q2650 B2651
     have B2657 : (128 : Int) ≤ (128 : Int32).toInt ∧ (128 : Int32).toInt ≤ 128 := (by decide)
     have q2658 := hc2597; rw [Int32.lt_iff_toInt_lt] at q2658
     have B2659 : (224 : Int) ≤ (224 : Int32).toInt ∧ (224 : Int32).toInt ≤ 224 := (by decide)
     have q2660 := hc2598; rw [Int32.lt_iff_toInt_lt] at q2660
     have B2661 : (240 : Int) ≤ (240 : Int32).toInt ∧ (240 : Int32).toInt ≤ 240 := (by decide)
     have q2662 := hc2599; rw [Int32.lt_iff_toInt_lt] at q2662
     have q2672 : v2582.toInt = v2581.toInt - (224) := (by rw [h2590, c_mask _ _ 4 (by decide) (by decide)]; exact k_modx B2649 (by decide) (by decide))
     have B2671 : (0 : Int) ≤ v2582.toInt ∧ v2582.toInt ≤ 15 := k_subB q2672 B2649
     have q2670 : v2583.toInt = 64 * v2582.toInt := k_ishlx (k := 6) h2591 B2671 (by decide) (by decide) (by decide)
     have B2669 : (0 : Int) ≤ v2583.toInt ∧ v2583.toInt ≤ 960 := (by rw [q2670]; exact k_mulB B2671 (by decide))
     have q2682 : v2544.toInt = v2040.toInt / 64 := (by rw [hv2544]; exact c_ishr _ _ 6 (by decide))
     have B2681 : (32 : Int) ≤ v2544.toInt ∧ v2544.toInt ≤ 1023 := (by rw [q2682]; exact k_divB B2644 (by decide) (by decide) (by decide))
     have q2680 : v2545.toInt = v2544.toInt % 64 := (by rw [hv2545]; exact c_mask _ _ 6 (by decide) (by decide))
     have B2679 : (0 : Int) ≤ v2545.toInt ∧ v2545.toInt ≤ 63 := (by rw [q2680]; exact k_modB (by decide))
     have q2678 : v2546.toInt = 128 + v2545.toInt := k_orx (k := 7) hv2546 B2679 (by decide) (by decide) (by decide) (by decide) (by decide) (by decide)
     have B2677 : (128 : Int) ≤ v2546.toInt ∧ v2546.toInt ≤ 191 := k_caddB q2678 B2679
     have q2676 : v2547.toInt = v2546.toInt - 256 := k_i2by hv2547 B2677 (by decide) (by decide)
     have B2675 : (-128 : Int) ≤ v2547.toInt ∧ v2547.toInt ≤ -65 := k_subB q2676 B2677
     have q2674 : v2584.toInt = v2547.toInt - (-128) := (by rw [h2592, c_mask _ _ 6 (by decide) (by decide)]; exact k_modx B2675 (by decide) (by decide))
     have B2673 : (0 : Int) ≤ v2584.toInt ∧ v2584.toInt ≤ 63 := k_subB q2674 B2675
     have q2668 : v2585.toInt = v2583.toInt + v2584.toInt := k_orx2 (k := 6) h2593 B2669 B2673 (by decide) (by decide) (by decide) (by decide) (by omega)
     have B2667 : (0 : Int) ≤ v2585.toInt ∧ v2585.toInt ≤ 1023 := k_addB q2668 B2669 B2673
     have q2666 : v2586.toInt = 64 * v2585.toInt := k_ishlx (k := 6) h2594 B2667 (by decide) (by decide) (by decide)
     have B2665 : (0 : Int) ≤ v2586.toInt ∧ v2586.toInt ≤ 65472 := (by rw [q2666]; exact k_mulB B2667 (by decide))
     have q2690 : v2550.toInt = v2040.toInt % 64 := (by rw [hv2550]; exact c_mask _ _ 6 (by decide) (by decide))
     have B2689 : (0 : Int) ≤ v2550.toInt ∧ v2550.toInt ≤ 63 := (by rw [q2690]; exact k_modB (by decide))
     have q2688 : v2551.toInt = 128 + v2550.toInt := k_orx (k := 7) hv2551 B2689 (by decide) (by decide) (by decide) (by decide) (by decide) (by decide)
     have B2687 : (128 : Int) ≤ v2551.toInt ∧ v2551.toInt ≤ 191 := k_caddB q2688 B2689
     have q2686 : v2552.toInt = v2551.toInt - 256 := k_i2by hv2552 B2687 (by decide) (by decide)
     have B2685 : (-128 : Int) ≤ v2552.toInt ∧ v2552.toInt ≤ -65 := k_subB q2686 B2687
     have q2684 : v2587.toInt = v2552.toInt - (-128) := (by rw [h2595, c_mask _ _ 6 (by decide) (by decide)]; exact k_modx B2685 (by decide) (by decide))
     have B2683 : (0 : Int) ≤ v2587.toInt ∧ v2587.toInt ≤ 63 := k_subB q2684 B2685
     have q2664 : v2588.toInt = v2586.toInt + v2587.toInt := k_orx2 (k := 6) h2596 B2665 B2683 (by decide) (by decide) (by decide) (by decide) (by omega)
     have B2663 : (0 : Int) ≤ v2588.toInt ∧ v2588.toInt ≤ 65535 := k_addB q2664 B2665 B2683
     have q2691 : ¬ v2588.toInt = v2040.toInt := fun q => hc2639 (Int32.toInt_inj.mp q)
     omega
    ·
     refine k_iconst X2555 hx (hb hby at_388) (pc' := 389) rfl (z := (1 : Int32)) rfl ?_
     refine k_goto X2555 hx (hb hby at_389) (pc' := 393) (by decide) ?_
     exact k_retN X2555 hx (t := .boolean) Bd.returns (by simp) (hb hby at_393) hlk (by decide) (by decide) (z' := (1 : Int32)) rfl ⟨rfl, N2555'⟩
   ·
    show KEnds p e below s _ _ _ T2555 (mkF m 383 #[.val (.int i0), .val (.int i1), .val (.int i2), .val (.long i3), .second, .val (.int v1), .val (.int (2 : Int32)), .val (.int v2040), .val (.int (2 : Int32)), .val (.ref b2506)] [(.int v2604)])
    exfalso
    have B2692 : (-2147483648 : Int) ≤ v2040.toInt ∧ v2040.toInt ≤ 2147483647 := ⟨(rng32 v2040).1, Int.le_of_lt_add_one (rng32 v2040).2⟩
    have B2695 : (2048 : Int) ≤ v2040.toInt ∧ v2040.toInt ≤ 2147483647 := ⟨k_ge hP2041.1 (by decide), B2692.2⟩
    have B2696 : (2048 : Int) ≤ v2040.toInt ∧ v2040.toInt ≤ 65535 := ⟨B2695.1, k_le hP2041.2 (by decide)⟩
    have B2697 : (2048 : Int) ≤ (2048 : Int32).toInt ∧ (2048 : Int32).toInt ≤ 2048 := (by decide)
    have q2698 := hP2041.1; rw [Int32.lt_iff_toInt_lt] at q2698
    have B2699 : (65535 : Int) ≤ (65535 : Int32).toInt ∧ (65535 : Int32).toInt ≤ 65535 := (by decide)
    have q2700 := hP2041.2; rw [Int32.lt_iff_toInt_lt] at q2700
    have q2708 : v2539.toInt = v2040.toInt / 4096 := (by rw [hv2539]; exact c_ishr _ _ 12 (by decide))
    have B2707 : (0 : Int) ≤ v2539.toInt ∧ v2539.toInt ≤ 15 := (by rw [q2708]; exact k_divB B2696 (by decide) (by decide) (by decide))
    have q2706 : v2540.toInt = 224 + v2539.toInt := k_orx (k := 5) hv2540 B2707 (by decide) (by decide) (by decide) (by decide) (by decide) (by decide)
    have B2705 : (224 : Int) ≤ v2540.toInt ∧ v2540.toInt ≤ 239 := k_caddB q2706 B2707
    have q2704 : v2541.toInt = v2540.toInt - 256 := k_i2by hv2541 B2705 (by decide) (by decide)
    have B2703 : (-32 : Int) ≤ v2541.toInt ∧ v2541.toInt ≤ -17 := k_subB q2704 B2705
    have q2702 : v2600.toInt = v2541.toInt - (-256) := (by rw [h2605, c_mask _ _ 8 (by decide) (by decide)]; exact k_modx B2703 (by decide) (by decide))
    have B2701 : (224 : Int) ≤ v2600.toInt ∧ v2600.toInt ≤ 239 := k_subB q2702 B2703
    have B2709 : (224 : Int) ≤ v2600.toInt ∧ v2600.toInt ≤ 223 := ⟨B2701.1, k_lt hc2611 (by decide)⟩
    have B2710 : (128 : Int) ≤ (128 : Int32).toInt ∧ (128 : Int32).toInt ≤ 128 := (by decide)
    have q2711 := hc2610; rw [Int32.lt_iff_toInt_lt] at q2711
    have B2712 : (224 : Int) ≤ (224 : Int32).toInt ∧ (224 : Int32).toInt ≤ 224 := (by decide)
    have q2713 := hc2611; rw [Int32.lt_iff_toInt_lt] at q2713
    omega
   ·
    show KEnds p e below s _ _ _ T2555 (mkF m 383 #[.val (.int i0), .val (.int i1), .val (.int i2), .val (.long i3), .second, .val (.int v1), .val (.int (2 : Int32)), .val (.int v2040), .val (.int (2 : Int32)), .val (.ref b2506)] [(.int v2612)])
    exfalso
    have B2714 : (-2147483648 : Int) ≤ v2040.toInt ∧ v2040.toInt ≤ 2147483647 := ⟨(rng32 v2040).1, Int.le_of_lt_add_one (rng32 v2040).2⟩
    have B2717 : (2048 : Int) ≤ v2040.toInt ∧ v2040.toInt ≤ 2147483647 := ⟨k_ge hP2041.1 (by decide), B2714.2⟩
    have B2718 : (2048 : Int) ≤ v2040.toInt ∧ v2040.toInt ≤ 65535 := ⟨B2717.1, k_le hP2041.2 (by decide)⟩
    have B2719 : (2048 : Int) ≤ (2048 : Int32).toInt ∧ (2048 : Int32).toInt ≤ 2048 := (by decide)
    have q2720 := hP2041.1; rw [Int32.lt_iff_toInt_lt] at q2720
    have B2721 : (65535 : Int) ≤ (65535 : Int32).toInt ∧ (65535 : Int32).toInt ≤ 65535 := (by decide)
    have q2722 := hP2041.2; rw [Int32.lt_iff_toInt_lt] at q2722
    have q2730 : v2539.toInt = v2040.toInt / 4096 := (by rw [hv2539]; exact c_ishr _ _ 12 (by decide))
    have B2729 : (0 : Int) ≤ v2539.toInt ∧ v2539.toInt ≤ 15 := (by rw [q2730]; exact k_divB B2718 (by decide) (by decide) (by decide))
    have q2728 : v2540.toInt = 224 + v2539.toInt := k_orx (k := 5) hv2540 B2729 (by decide) (by decide) (by decide) (by decide) (by decide) (by decide)
    have B2727 : (224 : Int) ≤ v2540.toInt ∧ v2540.toInt ≤ 239 := k_caddB q2728 B2729
    have q2726 : v2541.toInt = v2540.toInt - 256 := k_i2by hv2541 B2727 (by decide) (by decide)
    have B2725 : (-32 : Int) ≤ v2541.toInt ∧ v2541.toInt ≤ -17 := k_subB q2726 B2727
    have q2724 : v2612.toInt = v2541.toInt - (-256) := (by rw [h2613, c_mask _ _ 8 (by decide) (by decide)]; exact k_modx B2725 (by decide) (by decide))
    have B2723 : (224 : Int) ≤ v2612.toInt ∧ v2612.toInt ≤ 239 := k_subB q2724 B2725
    have B2731 : (224 : Int) ≤ v2612.toInt ∧ v2612.toInt ≤ 127 := ⟨B2723.1, k_lt hc2614 (by decide)⟩
    have B2732 : (128 : Int) ≤ (128 : Int32).toInt ∧ (128 : Int32).toInt ≤ 128 := (by decide)
    have q2733 := hc2614; rw [Int32.lt_iff_toInt_lt] at q2733
    omega
  ·
   show KEnds p e below s _ _ _ s₁ (mkF m 102 #[.val (.int i0), .val (.int i1), .val (.int i2), .val (.long i3), .second, .val (.int v1), .val (.int (2 : Int32)), .val (.int v2040), .unset, .unset] [(.int (3 : Int32))])
   refine k_istore X0 hx (hb hby at_102) (Ls' := #[.val (.int i0), .val (.int i1), .val (.int i2), .val (.long i3), .second, .val (.int v1), .val (.int (2 : Int32)), .val (.int v2040), .val (.int (3 : Int32)), .unset]) rfl (pc' := 104) rfl ?_
   refine k_bipush X0 hx (hb hby at_104) (pc' := 106) rfl (z := (8 : Int32)) rfl ?_
   refine k_newA X0 hx hZ (hw _ (List.mem_of_getElem? (i := 1) rfl)) e0 (hb hby at_106) (by decide) (cap := 8) (by decide) (by decide) (by decide) (by decide) (pc' := 108) rfl (fun T2735 h2735 b2735 k2735 g2735 X2735 e2735 E2735 V2735 => ?_)
   have g_b2735 : n0 ≤ b2735 := Nat.le_trans Z0 (Nat.le_of_eq g2735.symm)
   have Z2735 : n0 ≤ h2735.size := Nat.le_trans Z0 E2735.1
   have Vw2735 : Arv Z h2735 b2735 k2735 .byte (8 : Int32) [(.int (0 : Int32)), (.int (0 : Int32)), (.int (0 : Int32)), (.int (0 : Int32)), (.int (0 : Int32)), (.int (0 : Int32)), (.int (0 : Int32)), (.int (0 : Int32))] (.int (0 : Int32)) := V2735
   refine k_astore X2735 hx (hb hby at_108) rfl (Ls' := #[.val (.int i0), .val (.int i1), .val (.int i2), .val (.long i3), .second, .val (.int v1), .val (.int (2 : Int32)), .val (.int v2040), .val (.int (3 : Int32)), .val (.ref b2735)]) rfl (pc' := 110) rfl ?_
   refine k_aload X2735 hx (hb hby at_110) rfl rfl (pc' := 112) rfl ?_
   refine k_iconst X2735 hx (hb hby at_112) (pc' := 113) rfl (z := (0 : Int32)) rfl ?_
   refine k_lloadN X2735 hx (hb hby at_113) rfl (pc' := 114) rfl ?_
   refine k_iconst X2735 hx (hb hby at_114) (pc' := 115) rfl (z := (0 : Int32)) rfl ?_
   refine k_callS X2735 hx hZ hown (hw _ (List.mem_of_getElem? (i := 2) rfl)) (hw _ (List.mem_of_getElem? (i := 3) rfl)) (hw _ (List.mem_of_getElem? (i := 4) rfl)) (hw _ (List.mem_of_getElem? (i := 5) rfl)) (by decide) (rm1_55 l Z a0 hw [] i3 h2735 n0 Z2735 ) (by decide) (by decide) e2735 (by rw [hml]; rfl) (argsL := [(.long i3), (.int (0 : Int32))]) (rest := [(.int (0 : Int32)), (.ref b2735)]) (lenOf pd_0 rfl) rfl (W := 2) (Nat.le_refl _) rfl (hb hby at_115) (by decide) (by decide) (pc' := 118) rfl (fun T2736 L2736 r2736 X2736 q2736 => ?_)
   obtain ⟨N2736, e2736, rfl⟩ := q2736
   have N2736' := Fr.app N0 N2736
   show KEnds p e below s _ _ _ T2736 (mkF m 118 #[.val (.int i0), .val (.int i1), .val (.int i2), .val (.long i3), .second, .val (.int v1), .val (.int (2 : Int32)), .val (.int v2040), .val (.int (3 : Int32)), .val (.ref b2735)] ((.int (f1_55 i3)) :: (.int (0 : Int32)) :: (.ref b2735) :: []))
   obtain ⟨v2737, hv2737⟩ : ∃ z, z = f1_55 i3 := ⟨_, rfl⟩
   rw [← hv2737]
   have hb2738 : v2737.toInt8.toInt32 = v2737 := by rw [hv2737]; exact f1_55_byte i3
   refine k_bastore X2736 hx hZ e2736 Vw2735 ⟨by decide, by decide⟩ (i := 0) rfl (Nat.le_of_ble_eq_true rfl) (hb hby at_118) (pc' := 119) rfl (fun T2739 h2739 X2739 e2739 W2739 V2739 => ?_)
   rw [hb2738] at V2739
   have Vw2739 : Arv Z h2739 b2735 k2735 .byte (8 : Int32) [(.int v2737), (.int (0 : Int32)), (.int (0 : Int32)), (.int (0 : Int32)), (.int (0 : Int32)), (.int (0 : Int32)), (.int (0 : Int32)), (.int (0 : Int32))] (.int (0 : Int32)) := V2739
   have N2739 := Fr.snoc X2739 N2736' g_b2735
   have Z2739 : n0 ≤ h2739.size := Nat.le_trans Z2735 (Nat.le_of_eq W2739.size.symm)
   refine k_aload X2739 hx (hb hby at_119) rfl rfl (pc' := 121) rfl ?_
   refine k_iconst X2739 hx (hb hby at_121) (pc' := 122) rfl (z := (1 : Int32)) rfl ?_
   refine k_lloadN X2739 hx (hb hby at_122) rfl (pc' := 123) rfl ?_
   refine k_iconst X2739 hx (hb hby at_123) (pc' := 124) rfl (z := (1 : Int32)) rfl ?_
   refine k_callS X2739 hx hZ hown (hw _ (List.mem_of_getElem? (i := 2) rfl)) (hw _ (List.mem_of_getElem? (i := 3) rfl)) (hw _ (List.mem_of_getElem? (i := 4) rfl)) (hw _ (List.mem_of_getElem? (i := 5) rfl)) (by decide) (rm1_60 l Z a0 hw [] i3 h2739 n0 Z2739 ) (by decide) (by decide) e2739 (by rw [hml]; rfl) (argsL := [(.long i3), (.int (1 : Int32))]) (rest := [(.int (1 : Int32)), (.ref b2735)]) (lenOf pd_0 rfl) rfl (W := 2) (Nat.le_refl _) rfl (hb hby at_124) (by decide) (by decide) (pc' := 127) rfl (fun T2740 L2740 r2740 X2740 q2740 => ?_)
   obtain ⟨N2740, e2740, rfl⟩ := q2740
   have N2740' := Fr.app N2739 N2740
   show KEnds p e below s _ _ _ T2740 (mkF m 127 #[.val (.int i0), .val (.int i1), .val (.int i2), .val (.long i3), .second, .val (.int v1), .val (.int (2 : Int32)), .val (.int v2040), .val (.int (3 : Int32)), .val (.ref b2735)] ((.int (f1_60 i3)) :: (.int (1 : Int32)) :: (.ref b2735) :: []))
   obtain ⟨v2741, hv2741⟩ : ∃ z, z = f1_60 i3 := ⟨_, rfl⟩
   rw [← hv2741]
   have hb2742 : v2741.toInt8.toInt32 = v2741 := by rw [hv2741]; exact f1_60_byte i3
   refine k_bastore X2740 hx hZ e2740 Vw2739 ⟨by decide, by decide⟩ (i := 1) rfl (Nat.le_of_ble_eq_true rfl) (hb hby at_127) (pc' := 128) rfl (fun T2743 h2743 X2743 e2743 W2743 V2743 => ?_)
   rw [hb2742] at V2743
   have Vw2743 : Arv Z h2743 b2735 k2735 .byte (8 : Int32) [(.int v2737), (.int v2741), (.int (0 : Int32)), (.int (0 : Int32)), (.int (0 : Int32)), (.int (0 : Int32)), (.int (0 : Int32)), (.int (0 : Int32))] (.int (0 : Int32)) := V2743
   have N2743 := Fr.snoc X2743 N2740' g_b2735
   have Z2743 : n0 ≤ h2743.size := Nat.le_trans Z2739 (Nat.le_of_eq W2743.size.symm)
   refine k_aload X2743 hx (hb hby at_128) rfl rfl (pc' := 130) rfl ?_
   refine k_iconst X2743 hx (hb hby at_130) (pc' := 131) rfl (z := (2 : Int32)) rfl ?_
   refine k_lloadN X2743 hx (hb hby at_131) rfl (pc' := 132) rfl ?_
   refine k_iconst X2743 hx (hb hby at_132) (pc' := 133) rfl (z := (2 : Int32)) rfl ?_
   refine k_callS X2743 hx hZ hown (hw _ (List.mem_of_getElem? (i := 2) rfl)) (hw _ (List.mem_of_getElem? (i := 3) rfl)) (hw _ (List.mem_of_getElem? (i := 4) rfl)) (hw _ (List.mem_of_getElem? (i := 5) rfl)) (by decide) (rm1_65 l Z a0 hw [] i3 h2743 n0 Z2743 ) (by decide) (by decide) e2743 (by rw [hml]; rfl) (argsL := [(.long i3), (.int (2 : Int32))]) (rest := [(.int (2 : Int32)), (.ref b2735)]) (lenOf pd_0 rfl) rfl (W := 2) (Nat.le_refl _) rfl (hb hby at_133) (by decide) (by decide) (pc' := 136) rfl (fun T2744 L2744 r2744 X2744 q2744 => ?_)
   obtain ⟨N2744, e2744, rfl⟩ := q2744
   have N2744' := Fr.app N2743 N2744
   show KEnds p e below s _ _ _ T2744 (mkF m 136 #[.val (.int i0), .val (.int i1), .val (.int i2), .val (.long i3), .second, .val (.int v1), .val (.int (2 : Int32)), .val (.int v2040), .val (.int (3 : Int32)), .val (.ref b2735)] ((.int (f1_65 i3)) :: (.int (2 : Int32)) :: (.ref b2735) :: []))
   obtain ⟨v2745, hv2745⟩ : ∃ z, z = f1_65 i3 := ⟨_, rfl⟩
   rw [← hv2745]
   have hb2746 : v2745.toInt8.toInt32 = v2745 := by rw [hv2745]; exact f1_65_byte i3
   refine k_bastore X2744 hx hZ e2744 Vw2743 ⟨by decide, by decide⟩ (i := 2) rfl (Nat.le_of_ble_eq_true rfl) (hb hby at_136) (pc' := 137) rfl (fun T2747 h2747 X2747 e2747 W2747 V2747 => ?_)
   rw [hb2746] at V2747
   have Vw2747 : Arv Z h2747 b2735 k2735 .byte (8 : Int32) [(.int v2737), (.int v2741), (.int v2745), (.int (0 : Int32)), (.int (0 : Int32)), (.int (0 : Int32)), (.int (0 : Int32)), (.int (0 : Int32))] (.int (0 : Int32)) := V2747
   have N2747 := Fr.snoc X2747 N2744' g_b2735
   have Z2747 : n0 ≤ h2747.size := Nat.le_trans Z2743 (Nat.le_of_eq W2747.size.symm)
   refine k_aload X2747 hx (hb hby at_137) rfl rfl (pc' := 139) rfl ?_
   refine k_iconst X2747 hx (hb hby at_139) (pc' := 140) rfl (z := (3 : Int32)) rfl ?_
   refine k_lloadN X2747 hx (hb hby at_140) rfl (pc' := 141) rfl ?_
   refine k_iconst X2747 hx (hb hby at_141) (pc' := 142) rfl (z := (3 : Int32)) rfl ?_
   refine k_callS X2747 hx hZ hown (hw _ (List.mem_of_getElem? (i := 2) rfl)) (hw _ (List.mem_of_getElem? (i := 3) rfl)) (hw _ (List.mem_of_getElem? (i := 4) rfl)) (hw _ (List.mem_of_getElem? (i := 5) rfl)) (by decide) (rm1_70 l Z a0 hw [] i3 h2747 n0 Z2747 ) (by decide) (by decide) e2747 (by rw [hml]; rfl) (argsL := [(.long i3), (.int (3 : Int32))]) (rest := [(.int (3 : Int32)), (.ref b2735)]) (lenOf pd_0 rfl) rfl (W := 2) (Nat.le_refl _) rfl (hb hby at_142) (by decide) (by decide) (pc' := 145) rfl (fun T2748 L2748 r2748 X2748 q2748 => ?_)
   obtain ⟨N2748, e2748, rfl⟩ := q2748
   have N2748' := Fr.app N2747 N2748
   show KEnds p e below s _ _ _ T2748 (mkF m 145 #[.val (.int i0), .val (.int i1), .val (.int i2), .val (.long i3), .second, .val (.int v1), .val (.int (2 : Int32)), .val (.int v2040), .val (.int (3 : Int32)), .val (.ref b2735)] ((.int (f1_70 i3)) :: (.int (3 : Int32)) :: (.ref b2735) :: []))
   obtain ⟨v2749, hv2749⟩ : ∃ z, z = f1_70 i3 := ⟨_, rfl⟩
   rw [← hv2749]
   have hb2750 : v2749.toInt8.toInt32 = v2749 := by rw [hv2749]; exact f1_70_byte i3
   refine k_bastore X2748 hx hZ e2748 Vw2747 ⟨by decide, by decide⟩ (i := 3) rfl (Nat.le_of_ble_eq_true rfl) (hb hby at_145) (pc' := 146) rfl (fun T2751 h2751 X2751 e2751 W2751 V2751 => ?_)
   rw [hb2750] at V2751
   have Vw2751 : Arv Z h2751 b2735 k2735 .byte (8 : Int32) [(.int v2737), (.int v2741), (.int v2745), (.int v2749), (.int (0 : Int32)), (.int (0 : Int32)), (.int (0 : Int32)), (.int (0 : Int32))] (.int (0 : Int32)) := V2751
   have N2751 := Fr.snoc X2751 N2748' g_b2735
   have Z2751 : n0 ≤ h2751.size := Nat.le_trans Z2747 (Nat.le_of_eq W2751.size.symm)
   refine k_aload X2751 hx (hb hby at_146) rfl rfl (pc' := 148) rfl ?_
   refine k_iconst X2751 hx (hb hby at_148) (pc' := 149) rfl (z := (4 : Int32)) rfl ?_
   refine k_lloadN X2751 hx (hb hby at_149) rfl (pc' := 150) rfl ?_
   refine k_iconst X2751 hx (hb hby at_150) (pc' := 151) rfl (z := (4 : Int32)) rfl ?_
   refine k_callS X2751 hx hZ hown (hw _ (List.mem_of_getElem? (i := 2) rfl)) (hw _ (List.mem_of_getElem? (i := 3) rfl)) (hw _ (List.mem_of_getElem? (i := 4) rfl)) (hw _ (List.mem_of_getElem? (i := 5) rfl)) (by decide) (rm1_75 l Z a0 hw [] i3 h2751 n0 Z2751 ) (by decide) (by decide) e2751 (by rw [hml]; rfl) (argsL := [(.long i3), (.int (4 : Int32))]) (rest := [(.int (4 : Int32)), (.ref b2735)]) (lenOf pd_0 rfl) rfl (W := 2) (Nat.le_refl _) rfl (hb hby at_151) (by decide) (by decide) (pc' := 154) rfl (fun T2752 L2752 r2752 X2752 q2752 => ?_)
   obtain ⟨N2752, e2752, rfl⟩ := q2752
   have N2752' := Fr.app N2751 N2752
   show KEnds p e below s _ _ _ T2752 (mkF m 154 #[.val (.int i0), .val (.int i1), .val (.int i2), .val (.long i3), .second, .val (.int v1), .val (.int (2 : Int32)), .val (.int v2040), .val (.int (3 : Int32)), .val (.ref b2735)] ((.int (f1_75 i3)) :: (.int (4 : Int32)) :: (.ref b2735) :: []))
   obtain ⟨v2753, hv2753⟩ : ∃ z, z = f1_75 i3 := ⟨_, rfl⟩
   rw [← hv2753]
   have hb2754 : v2753.toInt8.toInt32 = v2753 := by rw [hv2753]; exact f1_75_byte i3
   refine k_bastore X2752 hx hZ e2752 Vw2751 ⟨by decide, by decide⟩ (i := 4) rfl (Nat.le_of_ble_eq_true rfl) (hb hby at_154) (pc' := 155) rfl (fun T2755 h2755 X2755 e2755 W2755 V2755 => ?_)
   rw [hb2754] at V2755
   have Vw2755 : Arv Z h2755 b2735 k2735 .byte (8 : Int32) [(.int v2737), (.int v2741), (.int v2745), (.int v2749), (.int v2753), (.int (0 : Int32)), (.int (0 : Int32)), (.int (0 : Int32))] (.int (0 : Int32)) := V2755
   have N2755 := Fr.snoc X2755 N2752' g_b2735
   have Z2755 : n0 ≤ h2755.size := Nat.le_trans Z2751 (Nat.le_of_eq W2755.size.symm)
   refine k_aload X2755 hx (hb hby at_155) rfl rfl (pc' := 157) rfl ?_
   refine k_iconst X2755 hx (hb hby at_157) (pc' := 158) rfl (z := (5 : Int32)) rfl ?_
   refine k_lloadN X2755 hx (hb hby at_158) rfl (pc' := 159) rfl ?_
   refine k_iconst X2755 hx (hb hby at_159) (pc' := 160) rfl (z := (5 : Int32)) rfl ?_
   refine k_callS X2755 hx hZ hown (hw _ (List.mem_of_getElem? (i := 2) rfl)) (hw _ (List.mem_of_getElem? (i := 3) rfl)) (hw _ (List.mem_of_getElem? (i := 4) rfl)) (hw _ (List.mem_of_getElem? (i := 5) rfl)) (by decide) (rm1_80 l Z a0 hw [] i3 h2755 n0 Z2755 ) (by decide) (by decide) e2755 (by rw [hml]; rfl) (argsL := [(.long i3), (.int (5 : Int32))]) (rest := [(.int (5 : Int32)), (.ref b2735)]) (lenOf pd_0 rfl) rfl (W := 2) (Nat.le_refl _) rfl (hb hby at_160) (by decide) (by decide) (pc' := 163) rfl (fun T2756 L2756 r2756 X2756 q2756 => ?_)
   obtain ⟨N2756, e2756, rfl⟩ := q2756
   have N2756' := Fr.app N2755 N2756
   show KEnds p e below s _ _ _ T2756 (mkF m 163 #[.val (.int i0), .val (.int i1), .val (.int i2), .val (.long i3), .second, .val (.int v1), .val (.int (2 : Int32)), .val (.int v2040), .val (.int (3 : Int32)), .val (.ref b2735)] ((.int (f1_80 i3)) :: (.int (5 : Int32)) :: (.ref b2735) :: []))
   obtain ⟨v2757, hv2757⟩ : ∃ z, z = f1_80 i3 := ⟨_, rfl⟩
   rw [← hv2757]
   have hb2758 : v2757.toInt8.toInt32 = v2757 := by rw [hv2757]; exact f1_80_byte i3
   refine k_bastore X2756 hx hZ e2756 Vw2755 ⟨by decide, by decide⟩ (i := 5) rfl (Nat.le_of_ble_eq_true rfl) (hb hby at_163) (pc' := 164) rfl (fun T2759 h2759 X2759 e2759 W2759 V2759 => ?_)
   rw [hb2758] at V2759
   have Vw2759 : Arv Z h2759 b2735 k2735 .byte (8 : Int32) [(.int v2737), (.int v2741), (.int v2745), (.int v2749), (.int v2753), (.int v2757), (.int (0 : Int32)), (.int (0 : Int32))] (.int (0 : Int32)) := V2759
   have N2759 := Fr.snoc X2759 N2756' g_b2735
   have Z2759 : n0 ≤ h2759.size := Nat.le_trans Z2755 (Nat.le_of_eq W2759.size.symm)
   refine k_aload X2759 hx (hb hby at_164) rfl rfl (pc' := 166) rfl ?_
   refine k_bipush X2759 hx (hb hby at_166) (pc' := 168) rfl (z := (6 : Int32)) rfl ?_
   refine k_lloadN X2759 hx (hb hby at_168) rfl (pc' := 169) rfl ?_
   refine k_bipush X2759 hx (hb hby at_169) (pc' := 171) rfl (z := (6 : Int32)) rfl ?_
   refine k_callS X2759 hx hZ hown (hw _ (List.mem_of_getElem? (i := 2) rfl)) (hw _ (List.mem_of_getElem? (i := 3) rfl)) (hw _ (List.mem_of_getElem? (i := 4) rfl)) (hw _ (List.mem_of_getElem? (i := 5) rfl)) (by decide) (rm1_85 l Z a0 hw [] i3 h2759 n0 Z2759 ) (by decide) (by decide) e2759 (by rw [hml]; rfl) (argsL := [(.long i3), (.int (6 : Int32))]) (rest := [(.int (6 : Int32)), (.ref b2735)]) (lenOf pd_0 rfl) rfl (W := 2) (Nat.le_refl _) rfl (hb hby at_171) (by decide) (by decide) (pc' := 174) rfl (fun T2760 L2760 r2760 X2760 q2760 => ?_)
   obtain ⟨N2760, e2760, rfl⟩ := q2760
   have N2760' := Fr.app N2759 N2760
   show KEnds p e below s _ _ _ T2760 (mkF m 174 #[.val (.int i0), .val (.int i1), .val (.int i2), .val (.long i3), .second, .val (.int v1), .val (.int (2 : Int32)), .val (.int v2040), .val (.int (3 : Int32)), .val (.ref b2735)] ((.int (f1_85 i3)) :: (.int (6 : Int32)) :: (.ref b2735) :: []))
   obtain ⟨v2761, hv2761⟩ : ∃ z, z = f1_85 i3 := ⟨_, rfl⟩
   rw [← hv2761]
   have hb2762 : v2761.toInt8.toInt32 = v2761 := by rw [hv2761]; exact f1_85_byte i3
   refine k_bastore X2760 hx hZ e2760 Vw2759 ⟨by decide, by decide⟩ (i := 6) rfl (Nat.le_of_ble_eq_true rfl) (hb hby at_174) (pc' := 175) rfl (fun T2763 h2763 X2763 e2763 W2763 V2763 => ?_)
   rw [hb2762] at V2763
   have Vw2763 : Arv Z h2763 b2735 k2735 .byte (8 : Int32) [(.int v2737), (.int v2741), (.int v2745), (.int v2749), (.int v2753), (.int v2757), (.int v2761), (.int (0 : Int32))] (.int (0 : Int32)) := V2763
   have N2763 := Fr.snoc X2763 N2760' g_b2735
   have Z2763 : n0 ≤ h2763.size := Nat.le_trans Z2759 (Nat.le_of_eq W2763.size.symm)
   refine k_aload X2763 hx (hb hby at_175) rfl rfl (pc' := 177) rfl ?_
   refine k_bipush X2763 hx (hb hby at_177) (pc' := 179) rfl (z := (7 : Int32)) rfl ?_
   refine k_lloadN X2763 hx (hb hby at_179) rfl (pc' := 180) rfl ?_
   refine k_bipush X2763 hx (hb hby at_180) (pc' := 182) rfl (z := (7 : Int32)) rfl ?_
   refine k_callS X2763 hx hZ hown (hw _ (List.mem_of_getElem? (i := 2) rfl)) (hw _ (List.mem_of_getElem? (i := 3) rfl)) (hw _ (List.mem_of_getElem? (i := 4) rfl)) (hw _ (List.mem_of_getElem? (i := 5) rfl)) (by decide) (rm1_90 l Z a0 hw [] i3 h2763 n0 Z2763 ) (by decide) (by decide) e2763 (by rw [hml]; rfl) (argsL := [(.long i3), (.int (7 : Int32))]) (rest := [(.int (7 : Int32)), (.ref b2735)]) (lenOf pd_0 rfl) rfl (W := 2) (Nat.le_refl _) rfl (hb hby at_182) (by decide) (by decide) (pc' := 185) rfl (fun T2764 L2764 r2764 X2764 q2764 => ?_)
   obtain ⟨N2764, e2764, rfl⟩ := q2764
   have N2764' := Fr.app N2763 N2764
   show KEnds p e below s _ _ _ T2764 (mkF m 185 #[.val (.int i0), .val (.int i1), .val (.int i2), .val (.long i3), .second, .val (.int v1), .val (.int (2 : Int32)), .val (.int v2040), .val (.int (3 : Int32)), .val (.ref b2735)] ((.int (f1_90 i3)) :: (.int (7 : Int32)) :: (.ref b2735) :: []))
   obtain ⟨v2765, hv2765⟩ : ∃ z, z = f1_90 i3 := ⟨_, rfl⟩
   rw [← hv2765]
   have hb2766 : v2765.toInt8.toInt32 = v2765 := by rw [hv2765]; exact f1_90_byte i3
   refine k_bastore X2764 hx hZ e2764 Vw2763 ⟨by decide, by decide⟩ (i := 7) rfl (Nat.le_of_ble_eq_true rfl) (hb hby at_185) (pc' := 186) rfl (fun T2767 h2767 X2767 e2767 W2767 V2767 => ?_)
   rw [hb2766] at V2767
   have Vw2767 : Arv Z h2767 b2735 k2735 .byte (8 : Int32) [(.int v2737), (.int v2741), (.int v2745), (.int v2749), (.int v2753), (.int v2757), (.int v2761), (.int v2765)] (.int (0 : Int32)) := V2767
   have N2767 := Fr.snoc X2767 N2764' g_b2735
   have Z2767 : n0 ≤ h2767.size := Nat.le_trans Z2763 (Nat.le_of_eq W2767.size.symm)
   refine k_iload X2767 hx (hb hby at_186) rfl (pc' := 188) rfl ?_
   refine k_if_ne X2767 hx (hb hby at_188) (pn := 191) rfl (py := 202) (by decide) (fun _ => ?_) (fun hc => absurd hc (by decide))
   refine k_iload X2767 hx (hb hby at_202) rfl (pc' := 204) rfl ?_
   refine k_iconst X2767 hx (hb hby at_204) (pc' := 205) rfl (z := (1 : Int32)) rfl ?_
   refine k_icmp_ne X2767 hx (hb hby at_205) (pn := 208) rfl (py := 243) (by decide) (fun _ => ?_) (fun hc => absurd hc (by decide))
   refine k_iload X2767 hx (hb hby at_243) rfl (pc' := 245) rfl ?_
   refine k_iconst X2767 hx (hb hby at_245) (pc' := 246) rfl (z := (2 : Int32)) rfl ?_
   refine k_icmp_ne X2767 hx (hb hby at_246) (pn := 249) rfl (py := 304) (by decide) (fun hc => absurd (by decide) hc) (fun _ => ?_)
   refine k_aload X2767 hx (hb hby at_249) rfl rfl (pc' := 251) rfl ?_
   refine k_iload X2767 hx (hb hby at_251) rfl (pc' := 253) rfl ?_
   refine k_sipush X2767 hx (hb hby at_253) (pc' := 256) rfl (z := (224 : Int32)) rfl ?_
   refine k_iload X2767 hx (hb hby at_256) rfl (pc' := 258) rfl ?_
   refine k_bipush X2767 hx (hb hby at_258) (pc' := 260) rfl (z := (12 : Int32)) rfl ?_
   refine k_ishr X2767 hx (hb hby at_260) (pc' := 261) rfl (fun v2768 hv2768 => ?_)
   refine k_ior X2767 hx (hb hby at_261) (pc' := 262) rfl (fun v2769 hv2769 => ?_)
   refine k_i2b X2767 hx (hb hby at_262) (pc' := 263) rfl (fun v2770 hv2770 => ?_)
   refine k_bastore X2767 hx hZ e2767 Vw2767 ⟨by decide, by decide⟩ (i := 3) rfl (Nat.le_of_ble_eq_true rfl) (hb hby at_263) (pc' := 264) rfl (fun T2771 h2771 X2771 e2771 W2771 V2771 => ?_)
   have hb2772 : v2770.toInt8.toInt32 = v2770 := by rw [hv2770]; exact k_i2b2 _
   rw [hb2772] at V2771
   have Vw2771 : Arv Z h2771 b2735 k2735 .byte (8 : Int32) [(.int v2737), (.int v2741), (.int v2745), (.int v2770), (.int v2753), (.int v2757), (.int v2761), (.int v2765)] (.int (0 : Int32)) := V2771
   have N2771 := Fr.snoc X2771 N2767 g_b2735
   have Z2771 : n0 ≤ h2771.size := Nat.le_trans Z2767 (Nat.le_of_eq W2771.size.symm)
   refine k_aload X2771 hx (hb hby at_264) rfl rfl (pc' := 266) rfl ?_
   refine k_iload X2771 hx (hb hby at_266) rfl (pc' := 268) rfl ?_
   refine k_iconst X2771 hx (hb hby at_268) (pc' := 269) rfl (z := (1 : Int32)) rfl ?_
   refine k_iaddL X2771 hx (hb hby at_269) (pc' := 270) rfl (z := (4 : Int32)) (by decide) ?_
   refine k_sipush X2771 hx (hb hby at_270) (pc' := 273) rfl (z := (128 : Int32)) rfl ?_
   refine k_iload X2771 hx (hb hby at_273) rfl (pc' := 275) rfl ?_
   refine k_bipush X2771 hx (hb hby at_275) (pc' := 277) rfl (z := (6 : Int32)) rfl ?_
   refine k_ishr X2771 hx (hb hby at_277) (pc' := 278) rfl (fun v2773 hv2773 => ?_)
   refine k_bipush X2771 hx (hb hby at_278) (pc' := 280) rfl (z := (63 : Int32)) rfl ?_
   refine k_iand X2771 hx (hb hby at_280) (pc' := 281) rfl (fun v2774 hv2774 => ?_)
   refine k_ior X2771 hx (hb hby at_281) (pc' := 282) rfl (fun v2775 hv2775 => ?_)
   refine k_i2b X2771 hx (hb hby at_282) (pc' := 283) rfl (fun v2776 hv2776 => ?_)
   refine k_bastore X2771 hx hZ e2771 Vw2771 ⟨by decide, by decide⟩ (i := 4) rfl (Nat.le_of_ble_eq_true rfl) (hb hby at_283) (pc' := 284) rfl (fun T2777 h2777 X2777 e2777 W2777 V2777 => ?_)
   have hb2778 : v2776.toInt8.toInt32 = v2776 := by rw [hv2776]; exact k_i2b2 _
   rw [hb2778] at V2777
   have Vw2777 : Arv Z h2777 b2735 k2735 .byte (8 : Int32) [(.int v2737), (.int v2741), (.int v2745), (.int v2770), (.int v2776), (.int v2757), (.int v2761), (.int v2765)] (.int (0 : Int32)) := V2777
   have N2777 := Fr.snoc X2777 N2771 g_b2735
   have Z2777 : n0 ≤ h2777.size := Nat.le_trans Z2771 (Nat.le_of_eq W2777.size.symm)
   refine k_aload X2777 hx (hb hby at_284) rfl rfl (pc' := 286) rfl ?_
   refine k_iload X2777 hx (hb hby at_286) rfl (pc' := 288) rfl ?_
   refine k_iconst X2777 hx (hb hby at_288) (pc' := 289) rfl (z := (2 : Int32)) rfl ?_
   refine k_iaddL X2777 hx (hb hby at_289) (pc' := 290) rfl (z := (5 : Int32)) (by decide) ?_
   refine k_sipush X2777 hx (hb hby at_290) (pc' := 293) rfl (z := (128 : Int32)) rfl ?_
   refine k_iload X2777 hx (hb hby at_293) rfl (pc' := 295) rfl ?_
   refine k_bipush X2777 hx (hb hby at_295) (pc' := 297) rfl (z := (63 : Int32)) rfl ?_
   refine k_iand X2777 hx (hb hby at_297) (pc' := 298) rfl (fun v2779 hv2779 => ?_)
   refine k_ior X2777 hx (hb hby at_298) (pc' := 299) rfl (fun v2780 hv2780 => ?_)
   refine k_i2b X2777 hx (hb hby at_299) (pc' := 300) rfl (fun v2781 hv2781 => ?_)
   refine k_bastore X2777 hx hZ e2777 Vw2777 ⟨by decide, by decide⟩ (i := 5) rfl (Nat.le_of_ble_eq_true rfl) (hb hby at_300) (pc' := 301) rfl (fun T2782 h2782 X2782 e2782 W2782 V2782 => ?_)
   have hb2783 : v2781.toInt8.toInt32 = v2781 := by rw [hv2781]; exact k_i2b2 _
   rw [hb2783] at V2782
   have Vw2782 : Arv Z h2782 b2735 k2735 .byte (8 : Int32) [(.int v2737), (.int v2741), (.int v2745), (.int v2770), (.int v2776), (.int v2781), (.int v2761), (.int v2765)] (.int (0 : Int32)) := V2782
   have N2782 := Fr.snoc X2782 N2777 g_b2735
   have Z2782 : n0 ≤ h2782.size := Nat.le_trans Z2777 (Nat.le_of_eq W2782.size.symm)
   refine k_goto X2782 hx (hb hby at_301) (pc' := 376) (by decide) ?_
   refine k_aload X2782 hx (hb hby at_376) rfl rfl (pc' := 378) rfl ?_
   refine k_iload X2782 hx (hb hby at_378) rfl (pc' := 380) rfl ?_
   refine k_callS X2782 hx hZ hown (hw _ (List.mem_of_getElem? (i := 7) rfl)) (hw _ (List.mem_of_getElem? (i := 8) rfl)) (hw _ (List.mem_of_getElem? (i := 9) rfl)) (hw _ (List.mem_of_getElem? (i := 10) rfl)) (by decide) (rm2_763 l Z a0 hw [] b2735 k2735 v2737 v2741 v2745 v2770 v2776 v2781 v2761 v2765 h2782 n0 Z2782 Vw2782) (by decide) (by decide) e2782 (by rw [hml]; rfl) (argsL := [(.ref b2735), (.int (3 : Int32))]) (rest := []) (lenOf pd_2 rfl) rfl (W := 0) (Nat.le_refl _) rfl (hb hby at_380) (by decide) (by decide) (pc' := 383) rfl (fun T2784 L2784 r2784 X2784 q2784 => ?_)
   obtain ⟨N2784, e2784, q2784⟩ := q2784
   have N2784' := Fr.app N2782 N2784
   rcases q2784 with ⟨v2785, v2786, v2787, v2788, v2789, v2790, v2791, v2792, v2793, v2794, v2795, h2796, h2797, h2798, h2799, h2800, h2801, h2802, h2803, h2804, h2805, h2806, hc2807, hc2808, hc2809, rfl⟩ | ⟨v2810, v2811, v2812, v2813, v2814, v2815, v2816, v2817, h2818, h2819, h2820, h2821, h2822, h2823, h2824, h2825, hc2826, hc2827, hc2828, rfl⟩ | ⟨v2829, v2830, v2831, v2832, v2833, h2834, h2835, h2836, h2837, h2838, hc2839, hc2840, rfl⟩ | ⟨v2841, h2842, hc2843, rfl⟩
   ·
    show KEnds p e below s _ _ _ T2784 (mkF m 383 #[.val (.int i0), .val (.int i1), .val (.int i2), .val (.long i3), .second, .val (.int v1), .val (.int (2 : Int32)), .val (.int v2040), .val (.int (3 : Int32)), .val (.ref b2735)] [(.int v2795)])
    exfalso
    have B2844 : (-2147483648 : Int) ≤ v2040.toInt ∧ v2040.toInt ≤ 2147483647 := ⟨(rng32 v2040).1, Int.le_of_lt_add_one (rng32 v2040).2⟩
    have B2847 : (2048 : Int) ≤ v2040.toInt ∧ v2040.toInt ≤ 2147483647 := ⟨k_ge hP2041.1 (by decide), B2844.2⟩
    have B2848 : (2048 : Int) ≤ v2040.toInt ∧ v2040.toInt ≤ 65535 := ⟨B2847.1, k_le hP2041.2 (by decide)⟩
    have B2849 : (2048 : Int) ≤ (2048 : Int32).toInt ∧ (2048 : Int32).toInt ≤ 2048 := (by decide)
    have q2850 := hP2041.1; rw [Int32.lt_iff_toInt_lt] at q2850
    have B2851 : (65535 : Int) ≤ (65535 : Int32).toInt ∧ (65535 : Int32).toInt ≤ 65535 := (by decide)
    have q2852 := hP2041.2; rw [Int32.lt_iff_toInt_lt] at q2852
    have q2860 : v2768.toInt = v2040.toInt / 4096 := (by rw [hv2768]; exact c_ishr _ _ 12 (by decide))
    have B2859 : (0 : Int) ≤ v2768.toInt ∧ v2768.toInt ≤ 15 := (by rw [q2860]; exact k_divB B2848 (by decide) (by decide) (by decide))
    have q2858 : v2769.toInt = 224 + v2768.toInt := k_orx (k := 5) hv2769 B2859 (by decide) (by decide) (by decide) (by decide) (by decide) (by decide)
    have B2857 : (224 : Int) ≤ v2769.toInt ∧ v2769.toInt ≤ 239 := k_caddB q2858 B2859
    have q2856 : v2770.toInt = v2769.toInt - 256 := k_i2by hv2770 B2857 (by decide) (by decide)
    have B2855 : (-32 : Int) ≤ v2770.toInt ∧ v2770.toInt ≤ -17 := k_subB q2856 B2857
    have q2854 : v2785.toInt = v2770.toInt - (-256) := (by rw [h2796, c_mask _ _ 8 (by decide) (by decide)]; exact k_modx B2855 (by decide) (by decide))
    have B2853 : (224 : Int) ≤ v2785.toInt ∧ v2785.toInt ≤ 239 := k_subB q2854 B2855
    have B2861 : (240 : Int) ≤ v2785.toInt ∧ v2785.toInt ≤ 239 := ⟨k_ge hc2809 (by decide), B2853.2⟩
    have B2862 : (128 : Int) ≤ (128 : Int32).toInt ∧ (128 : Int32).toInt ≤ 128 := (by decide)
    have q2863 := hc2807; rw [Int32.lt_iff_toInt_lt] at q2863
    have B2864 : (224 : Int) ≤ (224 : Int32).toInt ∧ (224 : Int32).toInt ≤ 224 := (by decide)
    have q2865 := hc2808; rw [Int32.lt_iff_toInt_lt] at q2865
    have B2866 : (240 : Int) ≤ (240 : Int32).toInt ∧ (240 : Int32).toInt ≤ 240 := (by decide)
    have q2867 := hc2809; rw [Int32.lt_iff_toInt_lt] at q2867
    omega
   ·
    show KEnds p e below s _ _ _ T2784 (mkF m 383 #[.val (.int i0), .val (.int i1), .val (.int i2), .val (.long i3), .second, .val (.int v1), .val (.int (2 : Int32)), .val (.int v2040), .val (.int (3 : Int32)), .val (.ref b2735)] [(.int v2817)])
    refine k_iload X2784 hx (hb hby at_383) rfl (pc' := 385) rfl ?_
    refine k_icmp_ne X2784 hx (hb hby at_385) (pn := 388) rfl (py := 392) (by decide) (fun hc2868 => ?_) (fun hc2868 => ?_)
    ·
     refine k_iconst X2784 hx (hb hby at_392) (pc' := 393) rfl (z := (0 : Int32)) rfl ?_
     exfalso
     have B2869 : (-2147483648 : Int) ≤ v2040.toInt ∧ v2040.toInt ≤ 2147483647 := ⟨(rng32 v2040).1, Int.le_of_lt_add_one (rng32 v2040).2⟩
     have B2872 : (2048 : Int) ≤ v2040.toInt ∧ v2040.toInt ≤ 2147483647 := ⟨k_ge hP2041.1 (by decide), B2869.2⟩
     have B2873 : (2048 : Int) ≤ v2040.toInt ∧ v2040.toInt ≤ 65535 := ⟨B2872.1, k_le hP2041.2 (by decide)⟩
     have B2874 : (2048 : Int) ≤ (2048 : Int32).toInt ∧ (2048 : Int32).toInt ≤ 2048 := (by decide)
     have q2875 := hP2041.1; rw [Int32.lt_iff_toInt_lt] at q2875
     have B2876 : (65535 : Int) ≤ (65535 : Int32).toInt ∧ (65535 : Int32).toInt ≤ 65535 := (by decide)
     have q2877 := hP2041.2; rw [Int32.lt_iff_toInt_lt] at q2877
     have q2885 : v2768.toInt = v2040.toInt / 4096 := (by rw [hv2768]; exact c_ishr _ _ 12 (by decide))
     have B2884 : (0 : Int) ≤ v2768.toInt ∧ v2768.toInt ≤ 15 := (by rw [q2885]; exact k_divB B2873 (by decide) (by decide) (by decide))
     have q2883 : v2769.toInt = 224 + v2768.toInt := k_orx (k := 5) hv2769 B2884 (by decide) (by decide) (by decide) (by decide) (by decide) (by decide)
     have B2882 : (224 : Int) ≤ v2769.toInt ∧ v2769.toInt ≤ 239 := k_caddB q2883 B2884
     have q2881 : v2770.toInt = v2769.toInt - 256 := k_i2by hv2770 B2882 (by decide) (by decide)
     have B2880 : (-32 : Int) ≤ v2770.toInt ∧ v2770.toInt ≤ -17 := k_subB q2881 B2882
     have q2879 : v2810.toInt = v2770.toInt - (-256) := (by rw [h2818, c_mask _ _ 8 (by decide) (by decide)]; exact k_modx B2880 (by decide) (by decide))
     have B2878 : (224 : Int) ≤ v2810.toInt ∧ v2810.toInt ≤ 239 := k_subB q2879 B2880
     have B2886 : (128 : Int) ≤ (128 : Int32).toInt ∧ (128 : Int32).toInt ≤ 128 := (by decide)
     have q2887 := hc2826; rw [Int32.lt_iff_toInt_lt] at q2887
     have B2888 : (224 : Int) ≤ (224 : Int32).toInt ∧ (224 : Int32).toInt ≤ 224 := (by decide)
     have q2889 := hc2827; rw [Int32.lt_iff_toInt_lt] at q2889
     have B2890 : (240 : Int) ≤ (240 : Int32).toInt ∧ (240 : Int32).toInt ≤ 240 := (by decide)
     have q2891 := hc2828; rw [Int32.lt_iff_toInt_lt] at q2891
     have q2901 : v2811.toInt = v2810.toInt - (224) := (by rw [h2819, c_mask _ _ 4 (by decide) (by decide)]; exact k_modx B2878 (by decide) (by decide))
     have B2900 : (0 : Int) ≤ v2811.toInt ∧ v2811.toInt ≤ 15 := k_subB q2901 B2878
     have q2899 : v2812.toInt = 64 * v2811.toInt := k_ishlx (k := 6) h2820 B2900 (by decide) (by decide) (by decide)
     have B2898 : (0 : Int) ≤ v2812.toInt ∧ v2812.toInt ≤ 960 := (by rw [q2899]; exact k_mulB B2900 (by decide))
     have q2911 : v2773.toInt = v2040.toInt / 64 := (by rw [hv2773]; exact c_ishr _ _ 6 (by decide))
     have B2910 : (32 : Int) ≤ v2773.toInt ∧ v2773.toInt ≤ 1023 := (by rw [q2911]; exact k_divB B2873 (by decide) (by decide) (by decide))
     have q2909 : v2774.toInt = v2773.toInt % 64 := (by rw [hv2774]; exact c_mask _ _ 6 (by decide) (by decide))
     have B2908 : (0 : Int) ≤ v2774.toInt ∧ v2774.toInt ≤ 63 := (by rw [q2909]; exact k_modB (by decide))
     have q2907 : v2775.toInt = 128 + v2774.toInt := k_orx (k := 7) hv2775 B2908 (by decide) (by decide) (by decide) (by decide) (by decide) (by decide)
     have B2906 : (128 : Int) ≤ v2775.toInt ∧ v2775.toInt ≤ 191 := k_caddB q2907 B2908
     have q2905 : v2776.toInt = v2775.toInt - 256 := k_i2by hv2776 B2906 (by decide) (by decide)
     have B2904 : (-128 : Int) ≤ v2776.toInt ∧ v2776.toInt ≤ -65 := k_subB q2905 B2906
     have q2903 : v2813.toInt = v2776.toInt - (-128) := (by rw [h2821, c_mask _ _ 6 (by decide) (by decide)]; exact k_modx B2904 (by decide) (by decide))
     have B2902 : (0 : Int) ≤ v2813.toInt ∧ v2813.toInt ≤ 63 := k_subB q2903 B2904
     have q2897 : v2814.toInt = v2812.toInt + v2813.toInt := k_orx2 (k := 6) h2822 B2898 B2902 (by decide) (by decide) (by decide) (by decide) (by omega)
     have B2896 : (0 : Int) ≤ v2814.toInt ∧ v2814.toInt ≤ 1023 := k_addB q2897 B2898 B2902
     have q2895 : v2815.toInt = 64 * v2814.toInt := k_ishlx (k := 6) h2823 B2896 (by decide) (by decide) (by decide)
     have B2894 : (0 : Int) ≤ v2815.toInt ∧ v2815.toInt ≤ 65472 := (by rw [q2895]; exact k_mulB B2896 (by decide))
     have q2919 : v2779.toInt = v2040.toInt % 64 := (by rw [hv2779]; exact c_mask _ _ 6 (by decide) (by decide))
     have B2918 : (0 : Int) ≤ v2779.toInt ∧ v2779.toInt ≤ 63 := (by rw [q2919]; exact k_modB (by decide))
     have q2917 : v2780.toInt = 128 + v2779.toInt := k_orx (k := 7) hv2780 B2918 (by decide) (by decide) (by decide) (by decide) (by decide) (by decide)
     have B2916 : (128 : Int) ≤ v2780.toInt ∧ v2780.toInt ≤ 191 := k_caddB q2917 B2918
     have q2915 : v2781.toInt = v2780.toInt - 256 := k_i2by hv2781 B2916 (by decide) (by decide)
     have B2914 : (-128 : Int) ≤ v2781.toInt ∧ v2781.toInt ≤ -65 := k_subB q2915 B2916
     have q2913 : v2816.toInt = v2781.toInt - (-128) := (by rw [h2824, c_mask _ _ 6 (by decide) (by decide)]; exact k_modx B2914 (by decide) (by decide))
     have B2912 : (0 : Int) ≤ v2816.toInt ∧ v2816.toInt ≤ 63 := k_subB q2913 B2914
     have q2893 : v2817.toInt = v2815.toInt + v2816.toInt := k_orx2 (k := 6) h2825 B2894 B2912 (by decide) (by decide) (by decide) (by decide) (by omega)
     have B2892 : (0 : Int) ≤ v2817.toInt ∧ v2817.toInt ≤ 65535 := k_addB q2893 B2894 B2912
     have q2920 : ¬ v2817.toInt = v2040.toInt := fun q => hc2868 (Int32.toInt_inj.mp q)
     omega
    ·
     refine k_iconst X2784 hx (hb hby at_388) (pc' := 389) rfl (z := (1 : Int32)) rfl ?_
     refine k_goto X2784 hx (hb hby at_389) (pc' := 393) (by decide) ?_
     exact k_retN X2784 hx (t := .boolean) Bd.returns (by simp) (hb hby at_393) hlk (by decide) (by decide) (z' := (1 : Int32)) rfl ⟨rfl, N2784'⟩
   ·
    show KEnds p e below s _ _ _ T2784 (mkF m 383 #[.val (.int i0), .val (.int i1), .val (.int i2), .val (.long i3), .second, .val (.int v1), .val (.int (2 : Int32)), .val (.int v2040), .val (.int (3 : Int32)), .val (.ref b2735)] [(.int v2833)])
    exfalso
    have B2921 : (-2147483648 : Int) ≤ v2040.toInt ∧ v2040.toInt ≤ 2147483647 := ⟨(rng32 v2040).1, Int.le_of_lt_add_one (rng32 v2040).2⟩
    have B2924 : (2048 : Int) ≤ v2040.toInt ∧ v2040.toInt ≤ 2147483647 := ⟨k_ge hP2041.1 (by decide), B2921.2⟩
    have B2925 : (2048 : Int) ≤ v2040.toInt ∧ v2040.toInt ≤ 65535 := ⟨B2924.1, k_le hP2041.2 (by decide)⟩
    have B2926 : (2048 : Int) ≤ (2048 : Int32).toInt ∧ (2048 : Int32).toInt ≤ 2048 := (by decide)
    have q2927 := hP2041.1; rw [Int32.lt_iff_toInt_lt] at q2927
    have B2928 : (65535 : Int) ≤ (65535 : Int32).toInt ∧ (65535 : Int32).toInt ≤ 65535 := (by decide)
    have q2929 := hP2041.2; rw [Int32.lt_iff_toInt_lt] at q2929
    have q2937 : v2768.toInt = v2040.toInt / 4096 := (by rw [hv2768]; exact c_ishr _ _ 12 (by decide))
    have B2936 : (0 : Int) ≤ v2768.toInt ∧ v2768.toInt ≤ 15 := (by rw [q2937]; exact k_divB B2925 (by decide) (by decide) (by decide))
    have q2935 : v2769.toInt = 224 + v2768.toInt := k_orx (k := 5) hv2769 B2936 (by decide) (by decide) (by decide) (by decide) (by decide) (by decide)
    have B2934 : (224 : Int) ≤ v2769.toInt ∧ v2769.toInt ≤ 239 := k_caddB q2935 B2936
    have q2933 : v2770.toInt = v2769.toInt - 256 := k_i2by hv2770 B2934 (by decide) (by decide)
    have B2932 : (-32 : Int) ≤ v2770.toInt ∧ v2770.toInt ≤ -17 := k_subB q2933 B2934
    have q2931 : v2829.toInt = v2770.toInt - (-256) := (by rw [h2834, c_mask _ _ 8 (by decide) (by decide)]; exact k_modx B2932 (by decide) (by decide))
    have B2930 : (224 : Int) ≤ v2829.toInt ∧ v2829.toInt ≤ 239 := k_subB q2931 B2932
    have B2938 : (224 : Int) ≤ v2829.toInt ∧ v2829.toInt ≤ 223 := ⟨B2930.1, k_lt hc2840 (by decide)⟩
    have B2939 : (128 : Int) ≤ (128 : Int32).toInt ∧ (128 : Int32).toInt ≤ 128 := (by decide)
    have q2940 := hc2839; rw [Int32.lt_iff_toInt_lt] at q2940
    have B2941 : (224 : Int) ≤ (224 : Int32).toInt ∧ (224 : Int32).toInt ≤ 224 := (by decide)
    have q2942 := hc2840; rw [Int32.lt_iff_toInt_lt] at q2942
    omega
   ·
    show KEnds p e below s _ _ _ T2784 (mkF m 383 #[.val (.int i0), .val (.int i1), .val (.int i2), .val (.long i3), .second, .val (.int v1), .val (.int (2 : Int32)), .val (.int v2040), .val (.int (3 : Int32)), .val (.ref b2735)] [(.int v2841)])
    exfalso
    have B2943 : (-2147483648 : Int) ≤ v2040.toInt ∧ v2040.toInt ≤ 2147483647 := ⟨(rng32 v2040).1, Int.le_of_lt_add_one (rng32 v2040).2⟩
    have B2946 : (2048 : Int) ≤ v2040.toInt ∧ v2040.toInt ≤ 2147483647 := ⟨k_ge hP2041.1 (by decide), B2943.2⟩
    have B2947 : (2048 : Int) ≤ v2040.toInt ∧ v2040.toInt ≤ 65535 := ⟨B2946.1, k_le hP2041.2 (by decide)⟩
    have B2948 : (2048 : Int) ≤ (2048 : Int32).toInt ∧ (2048 : Int32).toInt ≤ 2048 := (by decide)
    have q2949 := hP2041.1; rw [Int32.lt_iff_toInt_lt] at q2949
    have B2950 : (65535 : Int) ≤ (65535 : Int32).toInt ∧ (65535 : Int32).toInt ≤ 65535 := (by decide)
    have q2951 := hP2041.2; rw [Int32.lt_iff_toInt_lt] at q2951
    have q2959 : v2768.toInt = v2040.toInt / 4096 := (by rw [hv2768]; exact c_ishr _ _ 12 (by decide))
    have B2958 : (0 : Int) ≤ v2768.toInt ∧ v2768.toInt ≤ 15 := (by rw [q2959]; exact k_divB B2947 (by decide) (by decide) (by decide))
    have q2957 : v2769.toInt = 224 + v2768.toInt := k_orx (k := 5) hv2769 B2958 (by decide) (by decide) (by decide) (by decide) (by decide) (by decide)
    have B2956 : (224 : Int) ≤ v2769.toInt ∧ v2769.toInt ≤ 239 := k_caddB q2957 B2958
    have q2955 : v2770.toInt = v2769.toInt - 256 := k_i2by hv2770 B2956 (by decide) (by decide)
    have B2954 : (-32 : Int) ≤ v2770.toInt ∧ v2770.toInt ≤ -17 := k_subB q2955 B2956
    have q2953 : v2841.toInt = v2770.toInt - (-256) := (by rw [h2842, c_mask _ _ 8 (by decide) (by decide)]; exact k_modx B2954 (by decide) (by decide))
    have B2952 : (224 : Int) ≤ v2841.toInt ∧ v2841.toInt ≤ 239 := k_subB q2953 B2954
    have B2960 : (224 : Int) ≤ v2841.toInt ∧ v2841.toInt ≤ 127 := ⟨B2952.1, k_lt hc2843 (by decide)⟩
    have B2961 : (128 : Int) ≤ (128 : Int32).toInt ∧ (128 : Int32).toInt ≤ 128 := (by decide)
    have q2962 := hc2843; rw [Int32.lt_iff_toInt_lt] at q2962
    omega
 ·
  show KEnds p e below s _ _ _ s₁ (mkF m 9 #[.val (.int i0), .val (.int i1), .val (.int i2), .val (.long i3), .second, .val (.int v1), .unset, .unset, .unset, .unset] [(.int (3 : Int32))])
  refine k_istore X0 hx (hb hby at_9) (Ls' := #[.val (.int i0), .val (.int i1), .val (.int i2), .val (.long i3), .second, .val (.int v1), .val (.int (3 : Int32)), .unset, .unset, .unset]) rfl (pc' := 11) rfl ?_
  suffices key2964 : ∀ (v3013 : Int32), (¬ v3013 < (65536 : Int32) ∧ ¬ (1114111 : Int32) < v3013) → KEnds p e below s 16 128 (Q0 n0) s₁ (mkF m 99 #[.val (.int i0), .val (.int i1), .val (.int i2), .val (.long i3), .second, .val (.int v1), .val (.int (3 : Int32)), .val (.int v3013), .unset, .unset] []) by
   refine k_iload X0 hx (hb hby at_11) rfl (pc' := 13) rfl ?_
   refine k_if_ne X0 hx (hb hby at_13) (pn := 16) rfl (py := 26) (by decide) (fun _ => ?_) (fun hc => absurd hc (by decide))
   refine k_iload X0 hx (hb hby at_26) rfl (pc' := 28) rfl ?_
   refine k_iconst X0 hx (hb hby at_28) (pc' := 29) rfl (z := (1 : Int32)) rfl ?_
   refine k_icmp_ne X0 hx (hb hby at_29) (pn := 32) rfl (py := 47) (by decide) (fun _ => ?_) (fun hc => absurd hc (by decide))
   refine k_iload X0 hx (hb hby at_47) rfl (pc' := 49) rfl ?_
   refine k_iconst X0 hx (hb hby at_49) (pc' := 50) rfl (z := (2 : Int32)) rfl ?_
   refine k_icmp_ne X0 hx (hb hby at_50) (pn := 53) rfl (py := 89) (by decide) (fun _ => ?_) (fun hc => absurd hc (by decide))
   refine k_ldc X0 hx hZ hown (hw _ (List.mem_of_getElem? (i := 16) rfl)) (hb hby at_89) (pc' := 91) rfl ?_
   refine k_iload X0 hx (hb hby at_91) rfl (pc' := 93) rfl ?_
   refine k_ldc X0 hx hZ hown (hw _ (List.mem_of_getElem? (i := 17) rfl)) (hb hby at_93) (pc' := 95) rfl ?_
   refine k_irem X0 hx (hb hby at_95) (by decide) (pc' := 96) rfl (fun v2965 hv2965 => ?_)
   refine k_iadd X0 hx (hb hby at_96) (pc' := 97) rfl (fun v2966 hv2966 => ?_)
   refine k_istore X0 hx (hb hby at_97) (Ls' := #[.val (.int i0), .val (.int i1), .val (.int i2), .val (.long i3), .second, .val (.int v1), .val (.int (3 : Int32)), .val (.int v2966), .unset, .unset]) rfl (pc' := 99) rfl ?_
   refine key2964 v2966 ?_
   refine ⟨?_, ?_⟩
   · intro hq2990
     have B2993 : (65536 : Int) ≤ (65536 : Int32).toInt ∧ (65536 : Int32).toInt ≤ 65536 := (by decide)
     have B2998 : (-2147483648 : Int) ≤ i1.toInt ∧ i1.toInt ≤ 2147483647 := ⟨(rng32 i1).1, Int.le_of_lt_add_one (rng32 i1).2⟩
     have q2997 : v1.toInt = i1.toInt % 2147483648 := (by rw [hv1]; exact c_mask _ _ 31 (by decide) (by decide))
     have B2996 : (0 : Int) ≤ v1.toInt ∧ v1.toInt ≤ 2147483647 := (by rw [q2997]; exact k_modB (by decide))
     have q2995 : v2965.toInt = v1.toInt % 1048576 := (by rw [hv2965]; exact (c_irem _ _ 1048576 (by decide)).1 (Int.le_trans (by decide) B2996.1))
     have B2994 : (0 : Int) ≤ v2965.toInt ∧ v2965.toInt ≤ 1048575 := (by rw [q2995]; exact k_modB (by decide))
     have q2992 : v2966.toInt = (65536 : Int32).toInt + v2965.toInt := k_iaddx hv2966 B2993 B2994 (by decide) (by decide)
     have B2991 : (65536 : Int) ≤ v2966.toInt ∧ v2966.toInt ≤ 1114111 := k_addB q2992 B2993 B2994
     have B2999 : (65536 : Int) ≤ v2966.toInt ∧ v2966.toInt ≤ 65535 := ⟨B2991.1, k_lt hq2990 (by decide)⟩
     have q3000 := hq2990; rw [Int32.lt_iff_toInt_lt] at q3000
     omega
   · intro hq3001
     have B3002 : (1114111 : Int) ≤ (1114111 : Int32).toInt ∧ (1114111 : Int32).toInt ≤ 1114111 := (by decide)
     have B3005 : (65536 : Int) ≤ (65536 : Int32).toInt ∧ (65536 : Int32).toInt ≤ 65536 := (by decide)
     have B3010 : (-2147483648 : Int) ≤ i1.toInt ∧ i1.toInt ≤ 2147483647 := ⟨(rng32 i1).1, Int.le_of_lt_add_one (rng32 i1).2⟩
     have q3009 : v1.toInt = i1.toInt % 2147483648 := (by rw [hv1]; exact c_mask _ _ 31 (by decide) (by decide))
     have B3008 : (0 : Int) ≤ v1.toInt ∧ v1.toInt ≤ 2147483647 := (by rw [q3009]; exact k_modB (by decide))
     have q3007 : v2965.toInt = v1.toInt % 1048576 := (by rw [hv2965]; exact (c_irem _ _ 1048576 (by decide)).1 (Int.le_trans (by decide) B3008.1))
     have B3006 : (0 : Int) ≤ v2965.toInt ∧ v2965.toInt ≤ 1048575 := (by rw [q3007]; exact k_modB (by decide))
     have q3004 : v2966.toInt = (65536 : Int32).toInt + v2965.toInt := k_iaddx hv2966 B3005 B3006 (by decide) (by decide)
     have B3003 : (65536 : Int) ≤ v2966.toInt ∧ v2966.toInt ≤ 1114111 := k_addB q3004 B3005 B3006
     have B3011 : (1114112 : Int) ≤ v2966.toInt ∧ v2966.toInt ≤ 1114111 := ⟨k_gt hq3001 (by decide), B3003.2⟩
     have q3012 := hq3001; rw [Int32.lt_iff_toInt_lt] at q3012
     omega
  intro v3013 hP3014
  refine k_iloadN X0 hx (hb hby at_99) rfl (pc' := 100) rfl ?_
  refine k_iconst X0 hx (hb hby at_100) (pc' := 101) rfl (z := (3 : Int32)) rfl ?_
  refine k_iand X0 hx (hb hby at_101) (pc' := 102) rfl (fun v3015 hv3015 => ?_)
  have hs3016 : v3015 = (0 : Int32) ∨ v3015 = (1 : Int32) ∨ v3015 = (2 : Int32) ∨ v3015 = (3 : Int32) := by
   have B3019 : (-2147483648 : Int) ≤ i2.toInt ∧ i2.toInt ≤ 2147483647 := ⟨(rng32 i2).1, Int.le_of_lt_add_one (rng32 i2).2⟩
   have q3018 : v3015.toInt = i2.toInt % 4 := (by rw [hv3015]; exact c_mask _ _ 2 (by decide) (by decide))
   have B3017 : (0 : Int) ≤ v3015.toInt ∧ v3015.toInt ≤ 3 := (by rw [q3018]; exact k_modB (by decide))
   rcases (by omega : v3015.toInt = 0 ∨ v3015.toInt = 1 ∨ v3015.toInt = 2 ∨ v3015.toInt = 3) with hq | hq | hq | hq
   · exact Or.inl (Int32.toInt_inj.mp hq)
   · exact Or.inr (Or.inl (Int32.toInt_inj.mp hq))
   · exact Or.inr (Or.inr (Or.inl (Int32.toInt_inj.mp hq)))
   · exact Or.inr (Or.inr (Or.inr ((Int32.toInt_inj.mp hq))))
  rcases hs3016 with rfl | rfl | rfl | rfl
  ·
   show KEnds p e below s _ _ _ s₁ (mkF m 102 #[.val (.int i0), .val (.int i1), .val (.int i2), .val (.long i3), .second, .val (.int v1), .val (.int (3 : Int32)), .val (.int v3013), .unset, .unset] [(.int (0 : Int32))])
   refine k_istore X0 hx (hb hby at_102) (Ls' := #[.val (.int i0), .val (.int i1), .val (.int i2), .val (.long i3), .second, .val (.int v1), .val (.int (3 : Int32)), .val (.int v3013), .val (.int (0 : Int32)), .unset]) rfl (pc' := 104) rfl ?_
   refine k_bipush X0 hx (hb hby at_104) (pc' := 106) rfl (z := (8 : Int32)) rfl ?_
   refine k_newA X0 hx hZ (hw _ (List.mem_of_getElem? (i := 1) rfl)) e0 (hb hby at_106) (by decide) (cap := 8) (by decide) (by decide) (by decide) (by decide) (pc' := 108) rfl (fun T3021 h3021 b3021 k3021 g3021 X3021 e3021 E3021 V3021 => ?_)
   have g_b3021 : n0 ≤ b3021 := Nat.le_trans Z0 (Nat.le_of_eq g3021.symm)
   have Z3021 : n0 ≤ h3021.size := Nat.le_trans Z0 E3021.1
   have Vw3021 : Arv Z h3021 b3021 k3021 .byte (8 : Int32) [(.int (0 : Int32)), (.int (0 : Int32)), (.int (0 : Int32)), (.int (0 : Int32)), (.int (0 : Int32)), (.int (0 : Int32)), (.int (0 : Int32)), (.int (0 : Int32))] (.int (0 : Int32)) := V3021
   refine k_astore X3021 hx (hb hby at_108) rfl (Ls' := #[.val (.int i0), .val (.int i1), .val (.int i2), .val (.long i3), .second, .val (.int v1), .val (.int (3 : Int32)), .val (.int v3013), .val (.int (0 : Int32)), .val (.ref b3021)]) rfl (pc' := 110) rfl ?_
   refine k_aload X3021 hx (hb hby at_110) rfl rfl (pc' := 112) rfl ?_
   refine k_iconst X3021 hx (hb hby at_112) (pc' := 113) rfl (z := (0 : Int32)) rfl ?_
   refine k_lloadN X3021 hx (hb hby at_113) rfl (pc' := 114) rfl ?_
   refine k_iconst X3021 hx (hb hby at_114) (pc' := 115) rfl (z := (0 : Int32)) rfl ?_
   refine k_callS X3021 hx hZ hown (hw _ (List.mem_of_getElem? (i := 2) rfl)) (hw _ (List.mem_of_getElem? (i := 3) rfl)) (hw _ (List.mem_of_getElem? (i := 4) rfl)) (hw _ (List.mem_of_getElem? (i := 5) rfl)) (by decide) (rm1_55 l Z a0 hw [] i3 h3021 n0 Z3021 ) (by decide) (by decide) e3021 (by rw [hml]; rfl) (argsL := [(.long i3), (.int (0 : Int32))]) (rest := [(.int (0 : Int32)), (.ref b3021)]) (lenOf pd_0 rfl) rfl (W := 2) (Nat.le_refl _) rfl (hb hby at_115) (by decide) (by decide) (pc' := 118) rfl (fun T3022 L3022 r3022 X3022 q3022 => ?_)
   obtain ⟨N3022, e3022, rfl⟩ := q3022
   have N3022' := Fr.app N0 N3022
   show KEnds p e below s _ _ _ T3022 (mkF m 118 #[.val (.int i0), .val (.int i1), .val (.int i2), .val (.long i3), .second, .val (.int v1), .val (.int (3 : Int32)), .val (.int v3013), .val (.int (0 : Int32)), .val (.ref b3021)] ((.int (f1_55 i3)) :: (.int (0 : Int32)) :: (.ref b3021) :: []))
   obtain ⟨v3023, hv3023⟩ : ∃ z, z = f1_55 i3 := ⟨_, rfl⟩
   rw [← hv3023]
   have hb3024 : v3023.toInt8.toInt32 = v3023 := by rw [hv3023]; exact f1_55_byte i3
   refine k_bastore X3022 hx hZ e3022 Vw3021 ⟨by decide, by decide⟩ (i := 0) rfl (Nat.le_of_ble_eq_true rfl) (hb hby at_118) (pc' := 119) rfl (fun T3025 h3025 X3025 e3025 W3025 V3025 => ?_)
   rw [hb3024] at V3025
   have Vw3025 : Arv Z h3025 b3021 k3021 .byte (8 : Int32) [(.int v3023), (.int (0 : Int32)), (.int (0 : Int32)), (.int (0 : Int32)), (.int (0 : Int32)), (.int (0 : Int32)), (.int (0 : Int32)), (.int (0 : Int32))] (.int (0 : Int32)) := V3025
   have N3025 := Fr.snoc X3025 N3022' g_b3021
   have Z3025 : n0 ≤ h3025.size := Nat.le_trans Z3021 (Nat.le_of_eq W3025.size.symm)
   refine k_aload X3025 hx (hb hby at_119) rfl rfl (pc' := 121) rfl ?_
   refine k_iconst X3025 hx (hb hby at_121) (pc' := 122) rfl (z := (1 : Int32)) rfl ?_
   refine k_lloadN X3025 hx (hb hby at_122) rfl (pc' := 123) rfl ?_
   refine k_iconst X3025 hx (hb hby at_123) (pc' := 124) rfl (z := (1 : Int32)) rfl ?_
   refine k_callS X3025 hx hZ hown (hw _ (List.mem_of_getElem? (i := 2) rfl)) (hw _ (List.mem_of_getElem? (i := 3) rfl)) (hw _ (List.mem_of_getElem? (i := 4) rfl)) (hw _ (List.mem_of_getElem? (i := 5) rfl)) (by decide) (rm1_60 l Z a0 hw [] i3 h3025 n0 Z3025 ) (by decide) (by decide) e3025 (by rw [hml]; rfl) (argsL := [(.long i3), (.int (1 : Int32))]) (rest := [(.int (1 : Int32)), (.ref b3021)]) (lenOf pd_0 rfl) rfl (W := 2) (Nat.le_refl _) rfl (hb hby at_124) (by decide) (by decide) (pc' := 127) rfl (fun T3026 L3026 r3026 X3026 q3026 => ?_)
   obtain ⟨N3026, e3026, rfl⟩ := q3026
   have N3026' := Fr.app N3025 N3026
   show KEnds p e below s _ _ _ T3026 (mkF m 127 #[.val (.int i0), .val (.int i1), .val (.int i2), .val (.long i3), .second, .val (.int v1), .val (.int (3 : Int32)), .val (.int v3013), .val (.int (0 : Int32)), .val (.ref b3021)] ((.int (f1_60 i3)) :: (.int (1 : Int32)) :: (.ref b3021) :: []))
   obtain ⟨v3027, hv3027⟩ : ∃ z, z = f1_60 i3 := ⟨_, rfl⟩
   rw [← hv3027]
   have hb3028 : v3027.toInt8.toInt32 = v3027 := by rw [hv3027]; exact f1_60_byte i3
   refine k_bastore X3026 hx hZ e3026 Vw3025 ⟨by decide, by decide⟩ (i := 1) rfl (Nat.le_of_ble_eq_true rfl) (hb hby at_127) (pc' := 128) rfl (fun T3029 h3029 X3029 e3029 W3029 V3029 => ?_)
   rw [hb3028] at V3029
   have Vw3029 : Arv Z h3029 b3021 k3021 .byte (8 : Int32) [(.int v3023), (.int v3027), (.int (0 : Int32)), (.int (0 : Int32)), (.int (0 : Int32)), (.int (0 : Int32)), (.int (0 : Int32)), (.int (0 : Int32))] (.int (0 : Int32)) := V3029
   have N3029 := Fr.snoc X3029 N3026' g_b3021
   have Z3029 : n0 ≤ h3029.size := Nat.le_trans Z3025 (Nat.le_of_eq W3029.size.symm)
   refine k_aload X3029 hx (hb hby at_128) rfl rfl (pc' := 130) rfl ?_
   refine k_iconst X3029 hx (hb hby at_130) (pc' := 131) rfl (z := (2 : Int32)) rfl ?_
   refine k_lloadN X3029 hx (hb hby at_131) rfl (pc' := 132) rfl ?_
   refine k_iconst X3029 hx (hb hby at_132) (pc' := 133) rfl (z := (2 : Int32)) rfl ?_
   refine k_callS X3029 hx hZ hown (hw _ (List.mem_of_getElem? (i := 2) rfl)) (hw _ (List.mem_of_getElem? (i := 3) rfl)) (hw _ (List.mem_of_getElem? (i := 4) rfl)) (hw _ (List.mem_of_getElem? (i := 5) rfl)) (by decide) (rm1_65 l Z a0 hw [] i3 h3029 n0 Z3029 ) (by decide) (by decide) e3029 (by rw [hml]; rfl) (argsL := [(.long i3), (.int (2 : Int32))]) (rest := [(.int (2 : Int32)), (.ref b3021)]) (lenOf pd_0 rfl) rfl (W := 2) (Nat.le_refl _) rfl (hb hby at_133) (by decide) (by decide) (pc' := 136) rfl (fun T3030 L3030 r3030 X3030 q3030 => ?_)
   obtain ⟨N3030, e3030, rfl⟩ := q3030
   have N3030' := Fr.app N3029 N3030
   show KEnds p e below s _ _ _ T3030 (mkF m 136 #[.val (.int i0), .val (.int i1), .val (.int i2), .val (.long i3), .second, .val (.int v1), .val (.int (3 : Int32)), .val (.int v3013), .val (.int (0 : Int32)), .val (.ref b3021)] ((.int (f1_65 i3)) :: (.int (2 : Int32)) :: (.ref b3021) :: []))
   obtain ⟨v3031, hv3031⟩ : ∃ z, z = f1_65 i3 := ⟨_, rfl⟩
   rw [← hv3031]
   have hb3032 : v3031.toInt8.toInt32 = v3031 := by rw [hv3031]; exact f1_65_byte i3
   refine k_bastore X3030 hx hZ e3030 Vw3029 ⟨by decide, by decide⟩ (i := 2) rfl (Nat.le_of_ble_eq_true rfl) (hb hby at_136) (pc' := 137) rfl (fun T3033 h3033 X3033 e3033 W3033 V3033 => ?_)
   rw [hb3032] at V3033
   have Vw3033 : Arv Z h3033 b3021 k3021 .byte (8 : Int32) [(.int v3023), (.int v3027), (.int v3031), (.int (0 : Int32)), (.int (0 : Int32)), (.int (0 : Int32)), (.int (0 : Int32)), (.int (0 : Int32))] (.int (0 : Int32)) := V3033
   have N3033 := Fr.snoc X3033 N3030' g_b3021
   have Z3033 : n0 ≤ h3033.size := Nat.le_trans Z3029 (Nat.le_of_eq W3033.size.symm)
   refine k_aload X3033 hx (hb hby at_137) rfl rfl (pc' := 139) rfl ?_
   refine k_iconst X3033 hx (hb hby at_139) (pc' := 140) rfl (z := (3 : Int32)) rfl ?_
   refine k_lloadN X3033 hx (hb hby at_140) rfl (pc' := 141) rfl ?_
   refine k_iconst X3033 hx (hb hby at_141) (pc' := 142) rfl (z := (3 : Int32)) rfl ?_
   refine k_callS X3033 hx hZ hown (hw _ (List.mem_of_getElem? (i := 2) rfl)) (hw _ (List.mem_of_getElem? (i := 3) rfl)) (hw _ (List.mem_of_getElem? (i := 4) rfl)) (hw _ (List.mem_of_getElem? (i := 5) rfl)) (by decide) (rm1_70 l Z a0 hw [] i3 h3033 n0 Z3033 ) (by decide) (by decide) e3033 (by rw [hml]; rfl) (argsL := [(.long i3), (.int (3 : Int32))]) (rest := [(.int (3 : Int32)), (.ref b3021)]) (lenOf pd_0 rfl) rfl (W := 2) (Nat.le_refl _) rfl (hb hby at_142) (by decide) (by decide) (pc' := 145) rfl (fun T3034 L3034 r3034 X3034 q3034 => ?_)
   obtain ⟨N3034, e3034, rfl⟩ := q3034
   have N3034' := Fr.app N3033 N3034
   show KEnds p e below s _ _ _ T3034 (mkF m 145 #[.val (.int i0), .val (.int i1), .val (.int i2), .val (.long i3), .second, .val (.int v1), .val (.int (3 : Int32)), .val (.int v3013), .val (.int (0 : Int32)), .val (.ref b3021)] ((.int (f1_70 i3)) :: (.int (3 : Int32)) :: (.ref b3021) :: []))
   obtain ⟨v3035, hv3035⟩ : ∃ z, z = f1_70 i3 := ⟨_, rfl⟩
   rw [← hv3035]
   have hb3036 : v3035.toInt8.toInt32 = v3035 := by rw [hv3035]; exact f1_70_byte i3
   refine k_bastore X3034 hx hZ e3034 Vw3033 ⟨by decide, by decide⟩ (i := 3) rfl (Nat.le_of_ble_eq_true rfl) (hb hby at_145) (pc' := 146) rfl (fun T3037 h3037 X3037 e3037 W3037 V3037 => ?_)
   rw [hb3036] at V3037
   have Vw3037 : Arv Z h3037 b3021 k3021 .byte (8 : Int32) [(.int v3023), (.int v3027), (.int v3031), (.int v3035), (.int (0 : Int32)), (.int (0 : Int32)), (.int (0 : Int32)), (.int (0 : Int32))] (.int (0 : Int32)) := V3037
   have N3037 := Fr.snoc X3037 N3034' g_b3021
   have Z3037 : n0 ≤ h3037.size := Nat.le_trans Z3033 (Nat.le_of_eq W3037.size.symm)
   refine k_aload X3037 hx (hb hby at_146) rfl rfl (pc' := 148) rfl ?_
   refine k_iconst X3037 hx (hb hby at_148) (pc' := 149) rfl (z := (4 : Int32)) rfl ?_
   refine k_lloadN X3037 hx (hb hby at_149) rfl (pc' := 150) rfl ?_
   refine k_iconst X3037 hx (hb hby at_150) (pc' := 151) rfl (z := (4 : Int32)) rfl ?_
   refine k_callS X3037 hx hZ hown (hw _ (List.mem_of_getElem? (i := 2) rfl)) (hw _ (List.mem_of_getElem? (i := 3) rfl)) (hw _ (List.mem_of_getElem? (i := 4) rfl)) (hw _ (List.mem_of_getElem? (i := 5) rfl)) (by decide) (rm1_75 l Z a0 hw [] i3 h3037 n0 Z3037 ) (by decide) (by decide) e3037 (by rw [hml]; rfl) (argsL := [(.long i3), (.int (4 : Int32))]) (rest := [(.int (4 : Int32)), (.ref b3021)]) (lenOf pd_0 rfl) rfl (W := 2) (Nat.le_refl _) rfl (hb hby at_151) (by decide) (by decide) (pc' := 154) rfl (fun T3038 L3038 r3038 X3038 q3038 => ?_)
   obtain ⟨N3038, e3038, rfl⟩ := q3038
   have N3038' := Fr.app N3037 N3038
   show KEnds p e below s _ _ _ T3038 (mkF m 154 #[.val (.int i0), .val (.int i1), .val (.int i2), .val (.long i3), .second, .val (.int v1), .val (.int (3 : Int32)), .val (.int v3013), .val (.int (0 : Int32)), .val (.ref b3021)] ((.int (f1_75 i3)) :: (.int (4 : Int32)) :: (.ref b3021) :: []))
   obtain ⟨v3039, hv3039⟩ : ∃ z, z = f1_75 i3 := ⟨_, rfl⟩
   rw [← hv3039]
   have hb3040 : v3039.toInt8.toInt32 = v3039 := by rw [hv3039]; exact f1_75_byte i3
   refine k_bastore X3038 hx hZ e3038 Vw3037 ⟨by decide, by decide⟩ (i := 4) rfl (Nat.le_of_ble_eq_true rfl) (hb hby at_154) (pc' := 155) rfl (fun T3041 h3041 X3041 e3041 W3041 V3041 => ?_)
   rw [hb3040] at V3041
   have Vw3041 : Arv Z h3041 b3021 k3021 .byte (8 : Int32) [(.int v3023), (.int v3027), (.int v3031), (.int v3035), (.int v3039), (.int (0 : Int32)), (.int (0 : Int32)), (.int (0 : Int32))] (.int (0 : Int32)) := V3041
   have N3041 := Fr.snoc X3041 N3038' g_b3021
   have Z3041 : n0 ≤ h3041.size := Nat.le_trans Z3037 (Nat.le_of_eq W3041.size.symm)
   refine k_aload X3041 hx (hb hby at_155) rfl rfl (pc' := 157) rfl ?_
   refine k_iconst X3041 hx (hb hby at_157) (pc' := 158) rfl (z := (5 : Int32)) rfl ?_
   refine k_lloadN X3041 hx (hb hby at_158) rfl (pc' := 159) rfl ?_
   refine k_iconst X3041 hx (hb hby at_159) (pc' := 160) rfl (z := (5 : Int32)) rfl ?_
   refine k_callS X3041 hx hZ hown (hw _ (List.mem_of_getElem? (i := 2) rfl)) (hw _ (List.mem_of_getElem? (i := 3) rfl)) (hw _ (List.mem_of_getElem? (i := 4) rfl)) (hw _ (List.mem_of_getElem? (i := 5) rfl)) (by decide) (rm1_80 l Z a0 hw [] i3 h3041 n0 Z3041 ) (by decide) (by decide) e3041 (by rw [hml]; rfl) (argsL := [(.long i3), (.int (5 : Int32))]) (rest := [(.int (5 : Int32)), (.ref b3021)]) (lenOf pd_0 rfl) rfl (W := 2) (Nat.le_refl _) rfl (hb hby at_160) (by decide) (by decide) (pc' := 163) rfl (fun T3042 L3042 r3042 X3042 q3042 => ?_)
   obtain ⟨N3042, e3042, rfl⟩ := q3042
   have N3042' := Fr.app N3041 N3042
   show KEnds p e below s _ _ _ T3042 (mkF m 163 #[.val (.int i0), .val (.int i1), .val (.int i2), .val (.long i3), .second, .val (.int v1), .val (.int (3 : Int32)), .val (.int v3013), .val (.int (0 : Int32)), .val (.ref b3021)] ((.int (f1_80 i3)) :: (.int (5 : Int32)) :: (.ref b3021) :: []))
   obtain ⟨v3043, hv3043⟩ : ∃ z, z = f1_80 i3 := ⟨_, rfl⟩
   rw [← hv3043]
   have hb3044 : v3043.toInt8.toInt32 = v3043 := by rw [hv3043]; exact f1_80_byte i3
   refine k_bastore X3042 hx hZ e3042 Vw3041 ⟨by decide, by decide⟩ (i := 5) rfl (Nat.le_of_ble_eq_true rfl) (hb hby at_163) (pc' := 164) rfl (fun T3045 h3045 X3045 e3045 W3045 V3045 => ?_)
   rw [hb3044] at V3045
   have Vw3045 : Arv Z h3045 b3021 k3021 .byte (8 : Int32) [(.int v3023), (.int v3027), (.int v3031), (.int v3035), (.int v3039), (.int v3043), (.int (0 : Int32)), (.int (0 : Int32))] (.int (0 : Int32)) := V3045
   have N3045 := Fr.snoc X3045 N3042' g_b3021
   have Z3045 : n0 ≤ h3045.size := Nat.le_trans Z3041 (Nat.le_of_eq W3045.size.symm)
   refine k_aload X3045 hx (hb hby at_164) rfl rfl (pc' := 166) rfl ?_
   refine k_bipush X3045 hx (hb hby at_166) (pc' := 168) rfl (z := (6 : Int32)) rfl ?_
   refine k_lloadN X3045 hx (hb hby at_168) rfl (pc' := 169) rfl ?_
   refine k_bipush X3045 hx (hb hby at_169) (pc' := 171) rfl (z := (6 : Int32)) rfl ?_
   refine k_callS X3045 hx hZ hown (hw _ (List.mem_of_getElem? (i := 2) rfl)) (hw _ (List.mem_of_getElem? (i := 3) rfl)) (hw _ (List.mem_of_getElem? (i := 4) rfl)) (hw _ (List.mem_of_getElem? (i := 5) rfl)) (by decide) (rm1_85 l Z a0 hw [] i3 h3045 n0 Z3045 ) (by decide) (by decide) e3045 (by rw [hml]; rfl) (argsL := [(.long i3), (.int (6 : Int32))]) (rest := [(.int (6 : Int32)), (.ref b3021)]) (lenOf pd_0 rfl) rfl (W := 2) (Nat.le_refl _) rfl (hb hby at_171) (by decide) (by decide) (pc' := 174) rfl (fun T3046 L3046 r3046 X3046 q3046 => ?_)
   obtain ⟨N3046, e3046, rfl⟩ := q3046
   have N3046' := Fr.app N3045 N3046
   show KEnds p e below s _ _ _ T3046 (mkF m 174 #[.val (.int i0), .val (.int i1), .val (.int i2), .val (.long i3), .second, .val (.int v1), .val (.int (3 : Int32)), .val (.int v3013), .val (.int (0 : Int32)), .val (.ref b3021)] ((.int (f1_85 i3)) :: (.int (6 : Int32)) :: (.ref b3021) :: []))
   obtain ⟨v3047, hv3047⟩ : ∃ z, z = f1_85 i3 := ⟨_, rfl⟩
   rw [← hv3047]
   have hb3048 : v3047.toInt8.toInt32 = v3047 := by rw [hv3047]; exact f1_85_byte i3
   refine k_bastore X3046 hx hZ e3046 Vw3045 ⟨by decide, by decide⟩ (i := 6) rfl (Nat.le_of_ble_eq_true rfl) (hb hby at_174) (pc' := 175) rfl (fun T3049 h3049 X3049 e3049 W3049 V3049 => ?_)
   rw [hb3048] at V3049
   have Vw3049 : Arv Z h3049 b3021 k3021 .byte (8 : Int32) [(.int v3023), (.int v3027), (.int v3031), (.int v3035), (.int v3039), (.int v3043), (.int v3047), (.int (0 : Int32))] (.int (0 : Int32)) := V3049
   have N3049 := Fr.snoc X3049 N3046' g_b3021
   have Z3049 : n0 ≤ h3049.size := Nat.le_trans Z3045 (Nat.le_of_eq W3049.size.symm)
   refine k_aload X3049 hx (hb hby at_175) rfl rfl (pc' := 177) rfl ?_
   refine k_bipush X3049 hx (hb hby at_177) (pc' := 179) rfl (z := (7 : Int32)) rfl ?_
   refine k_lloadN X3049 hx (hb hby at_179) rfl (pc' := 180) rfl ?_
   refine k_bipush X3049 hx (hb hby at_180) (pc' := 182) rfl (z := (7 : Int32)) rfl ?_
   refine k_callS X3049 hx hZ hown (hw _ (List.mem_of_getElem? (i := 2) rfl)) (hw _ (List.mem_of_getElem? (i := 3) rfl)) (hw _ (List.mem_of_getElem? (i := 4) rfl)) (hw _ (List.mem_of_getElem? (i := 5) rfl)) (by decide) (rm1_90 l Z a0 hw [] i3 h3049 n0 Z3049 ) (by decide) (by decide) e3049 (by rw [hml]; rfl) (argsL := [(.long i3), (.int (7 : Int32))]) (rest := [(.int (7 : Int32)), (.ref b3021)]) (lenOf pd_0 rfl) rfl (W := 2) (Nat.le_refl _) rfl (hb hby at_182) (by decide) (by decide) (pc' := 185) rfl (fun T3050 L3050 r3050 X3050 q3050 => ?_)
   obtain ⟨N3050, e3050, rfl⟩ := q3050
   have N3050' := Fr.app N3049 N3050
   show KEnds p e below s _ _ _ T3050 (mkF m 185 #[.val (.int i0), .val (.int i1), .val (.int i2), .val (.long i3), .second, .val (.int v1), .val (.int (3 : Int32)), .val (.int v3013), .val (.int (0 : Int32)), .val (.ref b3021)] ((.int (f1_90 i3)) :: (.int (7 : Int32)) :: (.ref b3021) :: []))
   obtain ⟨v3051, hv3051⟩ : ∃ z, z = f1_90 i3 := ⟨_, rfl⟩
   rw [← hv3051]
   have hb3052 : v3051.toInt8.toInt32 = v3051 := by rw [hv3051]; exact f1_90_byte i3
   refine k_bastore X3050 hx hZ e3050 Vw3049 ⟨by decide, by decide⟩ (i := 7) rfl (Nat.le_of_ble_eq_true rfl) (hb hby at_185) (pc' := 186) rfl (fun T3053 h3053 X3053 e3053 W3053 V3053 => ?_)
   rw [hb3052] at V3053
   have Vw3053 : Arv Z h3053 b3021 k3021 .byte (8 : Int32) [(.int v3023), (.int v3027), (.int v3031), (.int v3035), (.int v3039), (.int v3043), (.int v3047), (.int v3051)] (.int (0 : Int32)) := V3053
   have N3053 := Fr.snoc X3053 N3050' g_b3021
   have Z3053 : n0 ≤ h3053.size := Nat.le_trans Z3049 (Nat.le_of_eq W3053.size.symm)
   refine k_iload X3053 hx (hb hby at_186) rfl (pc' := 188) rfl ?_
   refine k_if_ne X3053 hx (hb hby at_188) (pn := 191) rfl (py := 202) (by decide) (fun _ => ?_) (fun hc => absurd hc (by decide))
   refine k_iload X3053 hx (hb hby at_202) rfl (pc' := 204) rfl ?_
   refine k_iconst X3053 hx (hb hby at_204) (pc' := 205) rfl (z := (1 : Int32)) rfl ?_
   refine k_icmp_ne X3053 hx (hb hby at_205) (pn := 208) rfl (py := 243) (by decide) (fun _ => ?_) (fun hc => absurd hc (by decide))
   refine k_iload X3053 hx (hb hby at_243) rfl (pc' := 245) rfl ?_
   refine k_iconst X3053 hx (hb hby at_245) (pc' := 246) rfl (z := (2 : Int32)) rfl ?_
   refine k_icmp_ne X3053 hx (hb hby at_246) (pn := 249) rfl (py := 304) (by decide) (fun _ => ?_) (fun hc => absurd hc (by decide))
   refine k_aload X3053 hx (hb hby at_304) rfl rfl (pc' := 306) rfl ?_
   refine k_iload X3053 hx (hb hby at_306) rfl (pc' := 308) rfl ?_
   refine k_sipush X3053 hx (hb hby at_308) (pc' := 311) rfl (z := (240 : Int32)) rfl ?_
   refine k_iload X3053 hx (hb hby at_311) rfl (pc' := 313) rfl ?_
   refine k_bipush X3053 hx (hb hby at_313) (pc' := 315) rfl (z := (18 : Int32)) rfl ?_
   refine k_ishr X3053 hx (hb hby at_315) (pc' := 316) rfl (fun v3054 hv3054 => ?_)
   refine k_ior X3053 hx (hb hby at_316) (pc' := 317) rfl (fun v3055 hv3055 => ?_)
   refine k_i2b X3053 hx (hb hby at_317) (pc' := 318) rfl (fun v3056 hv3056 => ?_)
   refine k_bastore X3053 hx hZ e3053 Vw3053 ⟨by decide, by decide⟩ (i := 0) rfl (Nat.le_of_ble_eq_true rfl) (hb hby at_318) (pc' := 319) rfl (fun T3057 h3057 X3057 e3057 W3057 V3057 => ?_)
   have hb3058 : v3056.toInt8.toInt32 = v3056 := by rw [hv3056]; exact k_i2b2 _
   rw [hb3058] at V3057
   have Vw3057 : Arv Z h3057 b3021 k3021 .byte (8 : Int32) [(.int v3056), (.int v3027), (.int v3031), (.int v3035), (.int v3039), (.int v3043), (.int v3047), (.int v3051)] (.int (0 : Int32)) := V3057
   have N3057 := Fr.snoc X3057 N3053 g_b3021
   have Z3057 : n0 ≤ h3057.size := Nat.le_trans Z3053 (Nat.le_of_eq W3057.size.symm)
   refine k_aload X3057 hx (hb hby at_319) rfl rfl (pc' := 321) rfl ?_
   refine k_iload X3057 hx (hb hby at_321) rfl (pc' := 323) rfl ?_
   refine k_iconst X3057 hx (hb hby at_323) (pc' := 324) rfl (z := (1 : Int32)) rfl ?_
   refine k_iaddL X3057 hx (hb hby at_324) (pc' := 325) rfl (z := (1 : Int32)) (by decide) ?_
   refine k_sipush X3057 hx (hb hby at_325) (pc' := 328) rfl (z := (128 : Int32)) rfl ?_
   refine k_iload X3057 hx (hb hby at_328) rfl (pc' := 330) rfl ?_
   refine k_bipush X3057 hx (hb hby at_330) (pc' := 332) rfl (z := (12 : Int32)) rfl ?_
   refine k_ishr X3057 hx (hb hby at_332) (pc' := 333) rfl (fun v3059 hv3059 => ?_)
   refine k_bipush X3057 hx (hb hby at_333) (pc' := 335) rfl (z := (63 : Int32)) rfl ?_
   refine k_iand X3057 hx (hb hby at_335) (pc' := 336) rfl (fun v3060 hv3060 => ?_)
   refine k_ior X3057 hx (hb hby at_336) (pc' := 337) rfl (fun v3061 hv3061 => ?_)
   refine k_i2b X3057 hx (hb hby at_337) (pc' := 338) rfl (fun v3062 hv3062 => ?_)
   refine k_bastore X3057 hx hZ e3057 Vw3057 ⟨by decide, by decide⟩ (i := 1) rfl (Nat.le_of_ble_eq_true rfl) (hb hby at_338) (pc' := 339) rfl (fun T3063 h3063 X3063 e3063 W3063 V3063 => ?_)
   have hb3064 : v3062.toInt8.toInt32 = v3062 := by rw [hv3062]; exact k_i2b2 _
   rw [hb3064] at V3063
   have Vw3063 : Arv Z h3063 b3021 k3021 .byte (8 : Int32) [(.int v3056), (.int v3062), (.int v3031), (.int v3035), (.int v3039), (.int v3043), (.int v3047), (.int v3051)] (.int (0 : Int32)) := V3063
   have N3063 := Fr.snoc X3063 N3057 g_b3021
   have Z3063 : n0 ≤ h3063.size := Nat.le_trans Z3057 (Nat.le_of_eq W3063.size.symm)
   refine k_aload X3063 hx (hb hby at_339) rfl rfl (pc' := 341) rfl ?_
   refine k_iload X3063 hx (hb hby at_341) rfl (pc' := 343) rfl ?_
   refine k_iconst X3063 hx (hb hby at_343) (pc' := 344) rfl (z := (2 : Int32)) rfl ?_
   refine k_iaddL X3063 hx (hb hby at_344) (pc' := 345) rfl (z := (2 : Int32)) (by decide) ?_
   refine k_sipush X3063 hx (hb hby at_345) (pc' := 348) rfl (z := (128 : Int32)) rfl ?_
   refine k_iload X3063 hx (hb hby at_348) rfl (pc' := 350) rfl ?_
   refine k_bipush X3063 hx (hb hby at_350) (pc' := 352) rfl (z := (6 : Int32)) rfl ?_
   refine k_ishr X3063 hx (hb hby at_352) (pc' := 353) rfl (fun v3065 hv3065 => ?_)
   refine k_bipush X3063 hx (hb hby at_353) (pc' := 355) rfl (z := (63 : Int32)) rfl ?_
   refine k_iand X3063 hx (hb hby at_355) (pc' := 356) rfl (fun v3066 hv3066 => ?_)
   refine k_ior X3063 hx (hb hby at_356) (pc' := 357) rfl (fun v3067 hv3067 => ?_)
   refine k_i2b X3063 hx (hb hby at_357) (pc' := 358) rfl (fun v3068 hv3068 => ?_)
   refine k_bastore X3063 hx hZ e3063 Vw3063 ⟨by decide, by decide⟩ (i := 2) rfl (Nat.le_of_ble_eq_true rfl) (hb hby at_358) (pc' := 359) rfl (fun T3069 h3069 X3069 e3069 W3069 V3069 => ?_)
   have hb3070 : v3068.toInt8.toInt32 = v3068 := by rw [hv3068]; exact k_i2b2 _
   rw [hb3070] at V3069
   have Vw3069 : Arv Z h3069 b3021 k3021 .byte (8 : Int32) [(.int v3056), (.int v3062), (.int v3068), (.int v3035), (.int v3039), (.int v3043), (.int v3047), (.int v3051)] (.int (0 : Int32)) := V3069
   have N3069 := Fr.snoc X3069 N3063 g_b3021
   have Z3069 : n0 ≤ h3069.size := Nat.le_trans Z3063 (Nat.le_of_eq W3069.size.symm)
   refine k_aload X3069 hx (hb hby at_359) rfl rfl (pc' := 361) rfl ?_
   refine k_iload X3069 hx (hb hby at_361) rfl (pc' := 363) rfl ?_
   refine k_iconst X3069 hx (hb hby at_363) (pc' := 364) rfl (z := (3 : Int32)) rfl ?_
   refine k_iaddL X3069 hx (hb hby at_364) (pc' := 365) rfl (z := (3 : Int32)) (by decide) ?_
   refine k_sipush X3069 hx (hb hby at_365) (pc' := 368) rfl (z := (128 : Int32)) rfl ?_
   refine k_iload X3069 hx (hb hby at_368) rfl (pc' := 370) rfl ?_
   refine k_bipush X3069 hx (hb hby at_370) (pc' := 372) rfl (z := (63 : Int32)) rfl ?_
   refine k_iand X3069 hx (hb hby at_372) (pc' := 373) rfl (fun v3071 hv3071 => ?_)
   refine k_ior X3069 hx (hb hby at_373) (pc' := 374) rfl (fun v3072 hv3072 => ?_)
   refine k_i2b X3069 hx (hb hby at_374) (pc' := 375) rfl (fun v3073 hv3073 => ?_)
   refine k_bastore X3069 hx hZ e3069 Vw3069 ⟨by decide, by decide⟩ (i := 3) rfl (Nat.le_of_ble_eq_true rfl) (hb hby at_375) (pc' := 376) rfl (fun T3074 h3074 X3074 e3074 W3074 V3074 => ?_)
   have hb3075 : v3073.toInt8.toInt32 = v3073 := by rw [hv3073]; exact k_i2b2 _
   rw [hb3075] at V3074
   have Vw3074 : Arv Z h3074 b3021 k3021 .byte (8 : Int32) [(.int v3056), (.int v3062), (.int v3068), (.int v3073), (.int v3039), (.int v3043), (.int v3047), (.int v3051)] (.int (0 : Int32)) := V3074
   have N3074 := Fr.snoc X3074 N3069 g_b3021
   have Z3074 : n0 ≤ h3074.size := Nat.le_trans Z3069 (Nat.le_of_eq W3074.size.symm)
   refine k_aload X3074 hx (hb hby at_376) rfl rfl (pc' := 378) rfl ?_
   refine k_iload X3074 hx (hb hby at_378) rfl (pc' := 380) rfl ?_
   refine k_callS X3074 hx hZ hown (hw _ (List.mem_of_getElem? (i := 7) rfl)) (hw _ (List.mem_of_getElem? (i := 8) rfl)) (hw _ (List.mem_of_getElem? (i := 9) rfl)) (hw _ (List.mem_of_getElem? (i := 10) rfl)) (by decide) (rm2_98 l Z a0 hw [] b3021 k3021 v3056 v3062 v3068 v3073 v3039 v3043 v3047 v3051 h3074 n0 Z3074 Vw3074) (by decide) (by decide) e3074 (by rw [hml]; rfl) (argsL := [(.ref b3021), (.int (0 : Int32))]) (rest := []) (lenOf pd_2 rfl) rfl (W := 0) (Nat.le_refl _) rfl (hb hby at_380) (by decide) (by decide) (pc' := 383) rfl (fun T3076 L3076 r3076 X3076 q3076 => ?_)
   obtain ⟨N3076, e3076, q3076⟩ := q3076
   have N3076' := Fr.app N3074 N3076
   rcases q3076 with ⟨v3077, v3078, v3079, v3080, v3081, v3082, v3083, v3084, v3085, v3086, v3087, h3088, h3089, h3090, h3091, h3092, h3093, h3094, h3095, h3096, h3097, h3098, hc3099, hc3100, hc3101, rfl⟩ | ⟨v3102, v3103, v3104, v3105, v3106, v3107, v3108, v3109, h3110, h3111, h3112, h3113, h3114, h3115, h3116, h3117, hc3118, hc3119, hc3120, rfl⟩ | ⟨v3121, v3122, v3123, v3124, v3125, h3126, h3127, h3128, h3129, h3130, hc3131, hc3132, rfl⟩ | ⟨v3133, h3134, hc3135, rfl⟩
   ·
    show KEnds p e below s _ _ _ T3076 (mkF m 383 #[.val (.int i0), .val (.int i1), .val (.int i2), .val (.long i3), .second, .val (.int v1), .val (.int (3 : Int32)), .val (.int v3013), .val (.int (0 : Int32)), .val (.ref b3021)] [(.int v3087)])
    refine k_iload X3076 hx (hb hby at_383) rfl (pc' := 385) rfl ?_
    refine k_icmp_ne X3076 hx (hb hby at_385) (pn := 388) rfl (py := 392) (by decide) (fun hc3136 => ?_) (fun hc3136 => ?_)
    ·
     refine k_iconst X3076 hx (hb hby at_392) (pc' := 393) rfl (z := (0 : Int32)) rfl ?_
     exfalso
     have B3137 : (-2147483648 : Int) ≤ v3013.toInt ∧ v3013.toInt ≤ 2147483647 := ⟨(rng32 v3013).1, Int.le_of_lt_add_one (rng32 v3013).2⟩
     have B3140 : (65536 : Int) ≤ v3013.toInt ∧ v3013.toInt ≤ 2147483647 := ⟨k_ge hP3014.1 (by decide), B3137.2⟩
     have B3141 : (65536 : Int) ≤ v3013.toInt ∧ v3013.toInt ≤ 1114111 := ⟨B3140.1, k_le hP3014.2 (by decide)⟩
     have B3142 : (65536 : Int) ≤ (65536 : Int32).toInt ∧ (65536 : Int32).toInt ≤ 65536 := (by decide)
     have q3143 := hP3014.1; rw [Int32.lt_iff_toInt_lt] at q3143
     have B3144 : (1114111 : Int) ≤ (1114111 : Int32).toInt ∧ (1114111 : Int32).toInt ≤ 1114111 := (by decide)
     have q3145 := hP3014.2; rw [Int32.lt_iff_toInt_lt] at q3145
     have q3153 : v3054.toInt = v3013.toInt / 262144 := (by rw [hv3054]; exact c_ishr _ _ 18 (by decide))
     have B3152 : (0 : Int) ≤ v3054.toInt ∧ v3054.toInt ≤ 4 := (by rw [q3153]; exact k_divB B3141 (by decide) (by decide) (by decide))
     have q3151 : v3055.toInt = 240 + v3054.toInt := k_orx (k := 4) hv3055 B3152 (by decide) (by decide) (by decide) (by decide) (by decide) (by decide)
     have B3150 : (240 : Int) ≤ v3055.toInt ∧ v3055.toInt ≤ 244 := k_caddB q3151 B3152
     have q3149 : v3056.toInt = v3055.toInt - 256 := k_i2by hv3056 B3150 (by decide) (by decide)
     have B3148 : (-16 : Int) ≤ v3056.toInt ∧ v3056.toInt ≤ -12 := k_subB q3149 B3150
     have q3147 : v3077.toInt = v3056.toInt - (-256) := (by rw [h3088, c_mask _ _ 8 (by decide) (by decide)]; exact k_modx B3148 (by decide) (by decide))
     have B3146 : (240 : Int) ≤ v3077.toInt ∧ v3077.toInt ≤ 244 := k_subB q3147 B3148
     have B3154 : (128 : Int) ≤ (128 : Int32).toInt ∧ (128 : Int32).toInt ≤ 128 := (by decide)
     have q3155 := hc3099; rw [Int32.lt_iff_toInt_lt] at q3155
     have B3156 : (224 : Int) ≤ (224 : Int32).toInt ∧ (224 : Int32).toInt ≤ 224 := (by decide)
     have q3157 := hc3100; rw [Int32.lt_iff_toInt_lt] at q3157
     have B3158 : (240 : Int) ≤ (240 : Int32).toInt ∧ (240 : Int32).toInt ≤ 240 := (by decide)
     have q3159 := hc3101; rw [Int32.lt_iff_toInt_lt] at q3159
     have q3173 : v3078.toInt = v3077.toInt - (240) := (by rw [h3089, c_mask _ _ 3 (by decide) (by decide)]; exact k_modx B3146 (by decide) (by decide))
     have B3172 : (0 : Int) ≤ v3078.toInt ∧ v3078.toInt ≤ 4 := k_subB q3173 B3146
     have q3171 : v3079.toInt = 64 * v3078.toInt := k_ishlx (k := 6) h3090 B3172 (by decide) (by decide) (by decide)
     have B3170 : (0 : Int) ≤ v3079.toInt ∧ v3079.toInt ≤ 256 := (by rw [q3171]; exact k_mulB B3172 (by decide))
     have q3183 : v3059.toInt = v3013.toInt / 4096 := (by rw [hv3059]; exact c_ishr _ _ 12 (by decide))
     have B3182 : (16 : Int) ≤ v3059.toInt ∧ v3059.toInt ≤ 271 := (by rw [q3183]; exact k_divB B3141 (by decide) (by decide) (by decide))
     have q3181 : v3060.toInt = v3059.toInt % 64 := (by rw [hv3060]; exact c_mask _ _ 6 (by decide) (by decide))
     have B3180 : (0 : Int) ≤ v3060.toInt ∧ v3060.toInt ≤ 63 := (by rw [q3181]; exact k_modB (by decide))
     have q3179 : v3061.toInt = 128 + v3060.toInt := k_orx (k := 7) hv3061 B3180 (by decide) (by decide) (by decide) (by decide) (by decide) (by decide)
     have B3178 : (128 : Int) ≤ v3061.toInt ∧ v3061.toInt ≤ 191 := k_caddB q3179 B3180
     have q3177 : v3062.toInt = v3061.toInt - 256 := k_i2by hv3062 B3178 (by decide) (by decide)
     have B3176 : (-128 : Int) ≤ v3062.toInt ∧ v3062.toInt ≤ -65 := k_subB q3177 B3178
     have q3175 : v3080.toInt = v3062.toInt - (-128) := (by rw [h3091, c_mask _ _ 6 (by decide) (by decide)]; exact k_modx B3176 (by decide) (by decide))
     have B3174 : (0 : Int) ≤ v3080.toInt ∧ v3080.toInt ≤ 63 := k_subB q3175 B3176
     have q3169 : v3081.toInt = v3079.toInt + v3080.toInt := k_orx2 (k := 6) h3092 B3170 B3174 (by decide) (by decide) (by decide) (by decide) (by omega)
     have B3168 : (0 : Int) ≤ v3081.toInt ∧ v3081.toInt ≤ 319 := k_addB q3169 B3170 B3174
     have q3167 : v3082.toInt = 64 * v3081.toInt := k_ishlx (k := 6) h3093 B3168 (by decide) (by decide) (by decide)
     have B3166 : (0 : Int) ≤ v3082.toInt ∧ v3082.toInt ≤ 20416 := (by rw [q3167]; exact k_mulB B3168 (by decide))
     have q3193 : v3065.toInt = v3013.toInt / 64 := (by rw [hv3065]; exact c_ishr _ _ 6 (by decide))
     have B3192 : (1024 : Int) ≤ v3065.toInt ∧ v3065.toInt ≤ 17407 := (by rw [q3193]; exact k_divB B3141 (by decide) (by decide) (by decide))
     have q3191 : v3066.toInt = v3065.toInt % 64 := (by rw [hv3066]; exact c_mask _ _ 6 (by decide) (by decide))
     have B3190 : (0 : Int) ≤ v3066.toInt ∧ v3066.toInt ≤ 63 := (by rw [q3191]; exact k_modB (by decide))
     have q3189 : v3067.toInt = 128 + v3066.toInt := k_orx (k := 7) hv3067 B3190 (by decide) (by decide) (by decide) (by decide) (by decide) (by decide)
     have B3188 : (128 : Int) ≤ v3067.toInt ∧ v3067.toInt ≤ 191 := k_caddB q3189 B3190
     have q3187 : v3068.toInt = v3067.toInt - 256 := k_i2by hv3068 B3188 (by decide) (by decide)
     have B3186 : (-128 : Int) ≤ v3068.toInt ∧ v3068.toInt ≤ -65 := k_subB q3187 B3188
     have q3185 : v3083.toInt = v3068.toInt - (-128) := (by rw [h3094, c_mask _ _ 6 (by decide) (by decide)]; exact k_modx B3186 (by decide) (by decide))
     have B3184 : (0 : Int) ≤ v3083.toInt ∧ v3083.toInt ≤ 63 := k_subB q3185 B3186
     have q3165 : v3084.toInt = v3082.toInt + v3083.toInt := k_orx2 (k := 6) h3095 B3166 B3184 (by decide) (by decide) (by decide) (by decide) (by omega)
     have B3164 : (0 : Int) ≤ v3084.toInt ∧ v3084.toInt ≤ 20479 := k_addB q3165 B3166 B3184
     have q3163 : v3085.toInt = 64 * v3084.toInt := k_ishlx (k := 6) h3096 B3164 (by decide) (by decide) (by decide)
     have B3162 : (0 : Int) ≤ v3085.toInt ∧ v3085.toInt ≤ 1310656 := (by rw [q3163]; exact k_mulB B3164 (by decide))
     have q3201 : v3071.toInt = v3013.toInt % 64 := (by rw [hv3071]; exact c_mask _ _ 6 (by decide) (by decide))
     have B3200 : (0 : Int) ≤ v3071.toInt ∧ v3071.toInt ≤ 63 := (by rw [q3201]; exact k_modB (by decide))
     have q3199 : v3072.toInt = 128 + v3071.toInt := k_orx (k := 7) hv3072 B3200 (by decide) (by decide) (by decide) (by decide) (by decide) (by decide)
     have B3198 : (128 : Int) ≤ v3072.toInt ∧ v3072.toInt ≤ 191 := k_caddB q3199 B3200
     have q3197 : v3073.toInt = v3072.toInt - 256 := k_i2by hv3073 B3198 (by decide) (by decide)
     have B3196 : (-128 : Int) ≤ v3073.toInt ∧ v3073.toInt ≤ -65 := k_subB q3197 B3198
     have q3195 : v3086.toInt = v3073.toInt - (-128) := (by rw [h3097, c_mask _ _ 6 (by decide) (by decide)]; exact k_modx B3196 (by decide) (by decide))
     have B3194 : (0 : Int) ≤ v3086.toInt ∧ v3086.toInt ≤ 63 := k_subB q3195 B3196
     have q3161 : v3087.toInt = v3085.toInt + v3086.toInt := k_orx2 (k := 6) h3098 B3162 B3194 (by decide) (by decide) (by decide) (by decide) (by omega)
     have B3160 : (0 : Int) ≤ v3087.toInt ∧ v3087.toInt ≤ 1310719 := k_addB q3161 B3162 B3194
     have q3202 : ¬ v3087.toInt = v3013.toInt := fun q => hc3136 (Int32.toInt_inj.mp q)
     omega
    ·
     refine k_iconst X3076 hx (hb hby at_388) (pc' := 389) rfl (z := (1 : Int32)) rfl ?_
     refine k_goto X3076 hx (hb hby at_389) (pc' := 393) (by decide) ?_
     exact k_retN X3076 hx (t := .boolean) Bd.returns (by simp) (hb hby at_393) hlk (by decide) (by decide) (z' := (1 : Int32)) rfl ⟨rfl, N3076'⟩
   ·
    show KEnds p e below s _ _ _ T3076 (mkF m 383 #[.val (.int i0), .val (.int i1), .val (.int i2), .val (.long i3), .second, .val (.int v1), .val (.int (3 : Int32)), .val (.int v3013), .val (.int (0 : Int32)), .val (.ref b3021)] [(.int v3109)])
    exfalso
    have B3203 : (-2147483648 : Int) ≤ v3013.toInt ∧ v3013.toInt ≤ 2147483647 := ⟨(rng32 v3013).1, Int.le_of_lt_add_one (rng32 v3013).2⟩
    have B3206 : (65536 : Int) ≤ v3013.toInt ∧ v3013.toInt ≤ 2147483647 := ⟨k_ge hP3014.1 (by decide), B3203.2⟩
    have B3207 : (65536 : Int) ≤ v3013.toInt ∧ v3013.toInt ≤ 1114111 := ⟨B3206.1, k_le hP3014.2 (by decide)⟩
    have B3208 : (65536 : Int) ≤ (65536 : Int32).toInt ∧ (65536 : Int32).toInt ≤ 65536 := (by decide)
    have q3209 := hP3014.1; rw [Int32.lt_iff_toInt_lt] at q3209
    have B3210 : (1114111 : Int) ≤ (1114111 : Int32).toInt ∧ (1114111 : Int32).toInt ≤ 1114111 := (by decide)
    have q3211 := hP3014.2; rw [Int32.lt_iff_toInt_lt] at q3211
    have q3219 : v3054.toInt = v3013.toInt / 262144 := (by rw [hv3054]; exact c_ishr _ _ 18 (by decide))
    have B3218 : (0 : Int) ≤ v3054.toInt ∧ v3054.toInt ≤ 4 := (by rw [q3219]; exact k_divB B3207 (by decide) (by decide) (by decide))
    have q3217 : v3055.toInt = 240 + v3054.toInt := k_orx (k := 4) hv3055 B3218 (by decide) (by decide) (by decide) (by decide) (by decide) (by decide)
    have B3216 : (240 : Int) ≤ v3055.toInt ∧ v3055.toInt ≤ 244 := k_caddB q3217 B3218
    have q3215 : v3056.toInt = v3055.toInt - 256 := k_i2by hv3056 B3216 (by decide) (by decide)
    have B3214 : (-16 : Int) ≤ v3056.toInt ∧ v3056.toInt ≤ -12 := k_subB q3215 B3216
    have q3213 : v3102.toInt = v3056.toInt - (-256) := (by rw [h3110, c_mask _ _ 8 (by decide) (by decide)]; exact k_modx B3214 (by decide) (by decide))
    have B3212 : (240 : Int) ≤ v3102.toInt ∧ v3102.toInt ≤ 244 := k_subB q3213 B3214
    have B3220 : (240 : Int) ≤ v3102.toInt ∧ v3102.toInt ≤ 239 := ⟨B3212.1, k_lt hc3120 (by decide)⟩
    have B3221 : (128 : Int) ≤ (128 : Int32).toInt ∧ (128 : Int32).toInt ≤ 128 := (by decide)
    have q3222 := hc3118; rw [Int32.lt_iff_toInt_lt] at q3222
    have B3223 : (224 : Int) ≤ (224 : Int32).toInt ∧ (224 : Int32).toInt ≤ 224 := (by decide)
    have q3224 := hc3119; rw [Int32.lt_iff_toInt_lt] at q3224
    have B3225 : (240 : Int) ≤ (240 : Int32).toInt ∧ (240 : Int32).toInt ≤ 240 := (by decide)
    have q3226 := hc3120; rw [Int32.lt_iff_toInt_lt] at q3226
    omega
   ·
    show KEnds p e below s _ _ _ T3076 (mkF m 383 #[.val (.int i0), .val (.int i1), .val (.int i2), .val (.long i3), .second, .val (.int v1), .val (.int (3 : Int32)), .val (.int v3013), .val (.int (0 : Int32)), .val (.ref b3021)] [(.int v3125)])
    exfalso
    have B3227 : (-2147483648 : Int) ≤ v3013.toInt ∧ v3013.toInt ≤ 2147483647 := ⟨(rng32 v3013).1, Int.le_of_lt_add_one (rng32 v3013).2⟩
    have B3230 : (65536 : Int) ≤ v3013.toInt ∧ v3013.toInt ≤ 2147483647 := ⟨k_ge hP3014.1 (by decide), B3227.2⟩
    have B3231 : (65536 : Int) ≤ v3013.toInt ∧ v3013.toInt ≤ 1114111 := ⟨B3230.1, k_le hP3014.2 (by decide)⟩
    have B3232 : (65536 : Int) ≤ (65536 : Int32).toInt ∧ (65536 : Int32).toInt ≤ 65536 := (by decide)
    have q3233 := hP3014.1; rw [Int32.lt_iff_toInt_lt] at q3233
    have B3234 : (1114111 : Int) ≤ (1114111 : Int32).toInt ∧ (1114111 : Int32).toInt ≤ 1114111 := (by decide)
    have q3235 := hP3014.2; rw [Int32.lt_iff_toInt_lt] at q3235
    have q3243 : v3054.toInt = v3013.toInt / 262144 := (by rw [hv3054]; exact c_ishr _ _ 18 (by decide))
    have B3242 : (0 : Int) ≤ v3054.toInt ∧ v3054.toInt ≤ 4 := (by rw [q3243]; exact k_divB B3231 (by decide) (by decide) (by decide))
    have q3241 : v3055.toInt = 240 + v3054.toInt := k_orx (k := 4) hv3055 B3242 (by decide) (by decide) (by decide) (by decide) (by decide) (by decide)
    have B3240 : (240 : Int) ≤ v3055.toInt ∧ v3055.toInt ≤ 244 := k_caddB q3241 B3242
    have q3239 : v3056.toInt = v3055.toInt - 256 := k_i2by hv3056 B3240 (by decide) (by decide)
    have B3238 : (-16 : Int) ≤ v3056.toInt ∧ v3056.toInt ≤ -12 := k_subB q3239 B3240
    have q3237 : v3121.toInt = v3056.toInt - (-256) := (by rw [h3126, c_mask _ _ 8 (by decide) (by decide)]; exact k_modx B3238 (by decide) (by decide))
    have B3236 : (240 : Int) ≤ v3121.toInt ∧ v3121.toInt ≤ 244 := k_subB q3237 B3238
    have B3244 : (240 : Int) ≤ v3121.toInt ∧ v3121.toInt ≤ 223 := ⟨B3236.1, k_lt hc3132 (by decide)⟩
    have B3245 : (128 : Int) ≤ (128 : Int32).toInt ∧ (128 : Int32).toInt ≤ 128 := (by decide)
    have q3246 := hc3131; rw [Int32.lt_iff_toInt_lt] at q3246
    have B3247 : (224 : Int) ≤ (224 : Int32).toInt ∧ (224 : Int32).toInt ≤ 224 := (by decide)
    have q3248 := hc3132; rw [Int32.lt_iff_toInt_lt] at q3248
    omega
   ·
    show KEnds p e below s _ _ _ T3076 (mkF m 383 #[.val (.int i0), .val (.int i1), .val (.int i2), .val (.long i3), .second, .val (.int v1), .val (.int (3 : Int32)), .val (.int v3013), .val (.int (0 : Int32)), .val (.ref b3021)] [(.int v3133)])
    exfalso
    have B3249 : (-2147483648 : Int) ≤ v3013.toInt ∧ v3013.toInt ≤ 2147483647 := ⟨(rng32 v3013).1, Int.le_of_lt_add_one (rng32 v3013).2⟩
    have B3252 : (65536 : Int) ≤ v3013.toInt ∧ v3013.toInt ≤ 2147483647 := ⟨k_ge hP3014.1 (by decide), B3249.2⟩
    have B3253 : (65536 : Int) ≤ v3013.toInt ∧ v3013.toInt ≤ 1114111 := ⟨B3252.1, k_le hP3014.2 (by decide)⟩
    have B3254 : (65536 : Int) ≤ (65536 : Int32).toInt ∧ (65536 : Int32).toInt ≤ 65536 := (by decide)
    have q3255 := hP3014.1; rw [Int32.lt_iff_toInt_lt] at q3255
    have B3256 : (1114111 : Int) ≤ (1114111 : Int32).toInt ∧ (1114111 : Int32).toInt ≤ 1114111 := (by decide)
    have q3257 := hP3014.2; rw [Int32.lt_iff_toInt_lt] at q3257
    have q3265 : v3054.toInt = v3013.toInt / 262144 := (by rw [hv3054]; exact c_ishr _ _ 18 (by decide))
    have B3264 : (0 : Int) ≤ v3054.toInt ∧ v3054.toInt ≤ 4 := (by rw [q3265]; exact k_divB B3253 (by decide) (by decide) (by decide))
    have q3263 : v3055.toInt = 240 + v3054.toInt := k_orx (k := 4) hv3055 B3264 (by decide) (by decide) (by decide) (by decide) (by decide) (by decide)
    have B3262 : (240 : Int) ≤ v3055.toInt ∧ v3055.toInt ≤ 244 := k_caddB q3263 B3264
    have q3261 : v3056.toInt = v3055.toInt - 256 := k_i2by hv3056 B3262 (by decide) (by decide)
    have B3260 : (-16 : Int) ≤ v3056.toInt ∧ v3056.toInt ≤ -12 := k_subB q3261 B3262
    have q3259 : v3133.toInt = v3056.toInt - (-256) := (by rw [h3134, c_mask _ _ 8 (by decide) (by decide)]; exact k_modx B3260 (by decide) (by decide))
    have B3258 : (240 : Int) ≤ v3133.toInt ∧ v3133.toInt ≤ 244 := k_subB q3259 B3260
    have B3266 : (240 : Int) ≤ v3133.toInt ∧ v3133.toInt ≤ 127 := ⟨B3258.1, k_lt hc3135 (by decide)⟩
    have B3267 : (128 : Int) ≤ (128 : Int32).toInt ∧ (128 : Int32).toInt ≤ 128 := (by decide)
    have q3268 := hc3135; rw [Int32.lt_iff_toInt_lt] at q3268
    omega
  ·
   show KEnds p e below s _ _ _ s₁ (mkF m 102 #[.val (.int i0), .val (.int i1), .val (.int i2), .val (.long i3), .second, .val (.int v1), .val (.int (3 : Int32)), .val (.int v3013), .unset, .unset] [(.int (1 : Int32))])
   refine k_istore X0 hx (hb hby at_102) (Ls' := #[.val (.int i0), .val (.int i1), .val (.int i2), .val (.long i3), .second, .val (.int v1), .val (.int (3 : Int32)), .val (.int v3013), .val (.int (1 : Int32)), .unset]) rfl (pc' := 104) rfl ?_
   refine k_bipush X0 hx (hb hby at_104) (pc' := 106) rfl (z := (8 : Int32)) rfl ?_
   refine k_newA X0 hx hZ (hw _ (List.mem_of_getElem? (i := 1) rfl)) e0 (hb hby at_106) (by decide) (cap := 8) (by decide) (by decide) (by decide) (by decide) (pc' := 108) rfl (fun T3270 h3270 b3270 k3270 g3270 X3270 e3270 E3270 V3270 => ?_)
   have g_b3270 : n0 ≤ b3270 := Nat.le_trans Z0 (Nat.le_of_eq g3270.symm)
   have Z3270 : n0 ≤ h3270.size := Nat.le_trans Z0 E3270.1
   have Vw3270 : Arv Z h3270 b3270 k3270 .byte (8 : Int32) [(.int (0 : Int32)), (.int (0 : Int32)), (.int (0 : Int32)), (.int (0 : Int32)), (.int (0 : Int32)), (.int (0 : Int32)), (.int (0 : Int32)), (.int (0 : Int32))] (.int (0 : Int32)) := V3270
   refine k_astore X3270 hx (hb hby at_108) rfl (Ls' := #[.val (.int i0), .val (.int i1), .val (.int i2), .val (.long i3), .second, .val (.int v1), .val (.int (3 : Int32)), .val (.int v3013), .val (.int (1 : Int32)), .val (.ref b3270)]) rfl (pc' := 110) rfl ?_
   refine k_aload X3270 hx (hb hby at_110) rfl rfl (pc' := 112) rfl ?_
   refine k_iconst X3270 hx (hb hby at_112) (pc' := 113) rfl (z := (0 : Int32)) rfl ?_
   refine k_lloadN X3270 hx (hb hby at_113) rfl (pc' := 114) rfl ?_
   refine k_iconst X3270 hx (hb hby at_114) (pc' := 115) rfl (z := (0 : Int32)) rfl ?_
   refine k_callS X3270 hx hZ hown (hw _ (List.mem_of_getElem? (i := 2) rfl)) (hw _ (List.mem_of_getElem? (i := 3) rfl)) (hw _ (List.mem_of_getElem? (i := 4) rfl)) (hw _ (List.mem_of_getElem? (i := 5) rfl)) (by decide) (rm1_55 l Z a0 hw [] i3 h3270 n0 Z3270 ) (by decide) (by decide) e3270 (by rw [hml]; rfl) (argsL := [(.long i3), (.int (0 : Int32))]) (rest := [(.int (0 : Int32)), (.ref b3270)]) (lenOf pd_0 rfl) rfl (W := 2) (Nat.le_refl _) rfl (hb hby at_115) (by decide) (by decide) (pc' := 118) rfl (fun T3271 L3271 r3271 X3271 q3271 => ?_)
   obtain ⟨N3271, e3271, rfl⟩ := q3271
   have N3271' := Fr.app N0 N3271
   show KEnds p e below s _ _ _ T3271 (mkF m 118 #[.val (.int i0), .val (.int i1), .val (.int i2), .val (.long i3), .second, .val (.int v1), .val (.int (3 : Int32)), .val (.int v3013), .val (.int (1 : Int32)), .val (.ref b3270)] ((.int (f1_55 i3)) :: (.int (0 : Int32)) :: (.ref b3270) :: []))
   obtain ⟨v3272, hv3272⟩ : ∃ z, z = f1_55 i3 := ⟨_, rfl⟩
   rw [← hv3272]
   have hb3273 : v3272.toInt8.toInt32 = v3272 := by rw [hv3272]; exact f1_55_byte i3
   refine k_bastore X3271 hx hZ e3271 Vw3270 ⟨by decide, by decide⟩ (i := 0) rfl (Nat.le_of_ble_eq_true rfl) (hb hby at_118) (pc' := 119) rfl (fun T3274 h3274 X3274 e3274 W3274 V3274 => ?_)
   rw [hb3273] at V3274
   have Vw3274 : Arv Z h3274 b3270 k3270 .byte (8 : Int32) [(.int v3272), (.int (0 : Int32)), (.int (0 : Int32)), (.int (0 : Int32)), (.int (0 : Int32)), (.int (0 : Int32)), (.int (0 : Int32)), (.int (0 : Int32))] (.int (0 : Int32)) := V3274
   have N3274 := Fr.snoc X3274 N3271' g_b3270
   have Z3274 : n0 ≤ h3274.size := Nat.le_trans Z3270 (Nat.le_of_eq W3274.size.symm)
   refine k_aload X3274 hx (hb hby at_119) rfl rfl (pc' := 121) rfl ?_
   refine k_iconst X3274 hx (hb hby at_121) (pc' := 122) rfl (z := (1 : Int32)) rfl ?_
   refine k_lloadN X3274 hx (hb hby at_122) rfl (pc' := 123) rfl ?_
   refine k_iconst X3274 hx (hb hby at_123) (pc' := 124) rfl (z := (1 : Int32)) rfl ?_
   refine k_callS X3274 hx hZ hown (hw _ (List.mem_of_getElem? (i := 2) rfl)) (hw _ (List.mem_of_getElem? (i := 3) rfl)) (hw _ (List.mem_of_getElem? (i := 4) rfl)) (hw _ (List.mem_of_getElem? (i := 5) rfl)) (by decide) (rm1_60 l Z a0 hw [] i3 h3274 n0 Z3274 ) (by decide) (by decide) e3274 (by rw [hml]; rfl) (argsL := [(.long i3), (.int (1 : Int32))]) (rest := [(.int (1 : Int32)), (.ref b3270)]) (lenOf pd_0 rfl) rfl (W := 2) (Nat.le_refl _) rfl (hb hby at_124) (by decide) (by decide) (pc' := 127) rfl (fun T3275 L3275 r3275 X3275 q3275 => ?_)
   obtain ⟨N3275, e3275, rfl⟩ := q3275
   have N3275' := Fr.app N3274 N3275
   show KEnds p e below s _ _ _ T3275 (mkF m 127 #[.val (.int i0), .val (.int i1), .val (.int i2), .val (.long i3), .second, .val (.int v1), .val (.int (3 : Int32)), .val (.int v3013), .val (.int (1 : Int32)), .val (.ref b3270)] ((.int (f1_60 i3)) :: (.int (1 : Int32)) :: (.ref b3270) :: []))
   obtain ⟨v3276, hv3276⟩ : ∃ z, z = f1_60 i3 := ⟨_, rfl⟩
   rw [← hv3276]
   have hb3277 : v3276.toInt8.toInt32 = v3276 := by rw [hv3276]; exact f1_60_byte i3
   refine k_bastore X3275 hx hZ e3275 Vw3274 ⟨by decide, by decide⟩ (i := 1) rfl (Nat.le_of_ble_eq_true rfl) (hb hby at_127) (pc' := 128) rfl (fun T3278 h3278 X3278 e3278 W3278 V3278 => ?_)
   rw [hb3277] at V3278
   have Vw3278 : Arv Z h3278 b3270 k3270 .byte (8 : Int32) [(.int v3272), (.int v3276), (.int (0 : Int32)), (.int (0 : Int32)), (.int (0 : Int32)), (.int (0 : Int32)), (.int (0 : Int32)), (.int (0 : Int32))] (.int (0 : Int32)) := V3278
   have N3278 := Fr.snoc X3278 N3275' g_b3270
   have Z3278 : n0 ≤ h3278.size := Nat.le_trans Z3274 (Nat.le_of_eq W3278.size.symm)
   refine k_aload X3278 hx (hb hby at_128) rfl rfl (pc' := 130) rfl ?_
   refine k_iconst X3278 hx (hb hby at_130) (pc' := 131) rfl (z := (2 : Int32)) rfl ?_
   refine k_lloadN X3278 hx (hb hby at_131) rfl (pc' := 132) rfl ?_
   refine k_iconst X3278 hx (hb hby at_132) (pc' := 133) rfl (z := (2 : Int32)) rfl ?_
   refine k_callS X3278 hx hZ hown (hw _ (List.mem_of_getElem? (i := 2) rfl)) (hw _ (List.mem_of_getElem? (i := 3) rfl)) (hw _ (List.mem_of_getElem? (i := 4) rfl)) (hw _ (List.mem_of_getElem? (i := 5) rfl)) (by decide) (rm1_65 l Z a0 hw [] i3 h3278 n0 Z3278 ) (by decide) (by decide) e3278 (by rw [hml]; rfl) (argsL := [(.long i3), (.int (2 : Int32))]) (rest := [(.int (2 : Int32)), (.ref b3270)]) (lenOf pd_0 rfl) rfl (W := 2) (Nat.le_refl _) rfl (hb hby at_133) (by decide) (by decide) (pc' := 136) rfl (fun T3279 L3279 r3279 X3279 q3279 => ?_)
   obtain ⟨N3279, e3279, rfl⟩ := q3279
   have N3279' := Fr.app N3278 N3279
   show KEnds p e below s _ _ _ T3279 (mkF m 136 #[.val (.int i0), .val (.int i1), .val (.int i2), .val (.long i3), .second, .val (.int v1), .val (.int (3 : Int32)), .val (.int v3013), .val (.int (1 : Int32)), .val (.ref b3270)] ((.int (f1_65 i3)) :: (.int (2 : Int32)) :: (.ref b3270) :: []))
   obtain ⟨v3280, hv3280⟩ : ∃ z, z = f1_65 i3 := ⟨_, rfl⟩
   rw [← hv3280]
   have hb3281 : v3280.toInt8.toInt32 = v3280 := by rw [hv3280]; exact f1_65_byte i3
   refine k_bastore X3279 hx hZ e3279 Vw3278 ⟨by decide, by decide⟩ (i := 2) rfl (Nat.le_of_ble_eq_true rfl) (hb hby at_136) (pc' := 137) rfl (fun T3282 h3282 X3282 e3282 W3282 V3282 => ?_)
   rw [hb3281] at V3282
   have Vw3282 : Arv Z h3282 b3270 k3270 .byte (8 : Int32) [(.int v3272), (.int v3276), (.int v3280), (.int (0 : Int32)), (.int (0 : Int32)), (.int (0 : Int32)), (.int (0 : Int32)), (.int (0 : Int32))] (.int (0 : Int32)) := V3282
   have N3282 := Fr.snoc X3282 N3279' g_b3270
   have Z3282 : n0 ≤ h3282.size := Nat.le_trans Z3278 (Nat.le_of_eq W3282.size.symm)
   refine k_aload X3282 hx (hb hby at_137) rfl rfl (pc' := 139) rfl ?_
   refine k_iconst X3282 hx (hb hby at_139) (pc' := 140) rfl (z := (3 : Int32)) rfl ?_
   refine k_lloadN X3282 hx (hb hby at_140) rfl (pc' := 141) rfl ?_
   refine k_iconst X3282 hx (hb hby at_141) (pc' := 142) rfl (z := (3 : Int32)) rfl ?_
   refine k_callS X3282 hx hZ hown (hw _ (List.mem_of_getElem? (i := 2) rfl)) (hw _ (List.mem_of_getElem? (i := 3) rfl)) (hw _ (List.mem_of_getElem? (i := 4) rfl)) (hw _ (List.mem_of_getElem? (i := 5) rfl)) (by decide) (rm1_70 l Z a0 hw [] i3 h3282 n0 Z3282 ) (by decide) (by decide) e3282 (by rw [hml]; rfl) (argsL := [(.long i3), (.int (3 : Int32))]) (rest := [(.int (3 : Int32)), (.ref b3270)]) (lenOf pd_0 rfl) rfl (W := 2) (Nat.le_refl _) rfl (hb hby at_142) (by decide) (by decide) (pc' := 145) rfl (fun T3283 L3283 r3283 X3283 q3283 => ?_)
   obtain ⟨N3283, e3283, rfl⟩ := q3283
   have N3283' := Fr.app N3282 N3283
   show KEnds p e below s _ _ _ T3283 (mkF m 145 #[.val (.int i0), .val (.int i1), .val (.int i2), .val (.long i3), .second, .val (.int v1), .val (.int (3 : Int32)), .val (.int v3013), .val (.int (1 : Int32)), .val (.ref b3270)] ((.int (f1_70 i3)) :: (.int (3 : Int32)) :: (.ref b3270) :: []))
   obtain ⟨v3284, hv3284⟩ : ∃ z, z = f1_70 i3 := ⟨_, rfl⟩
   rw [← hv3284]
   have hb3285 : v3284.toInt8.toInt32 = v3284 := by rw [hv3284]; exact f1_70_byte i3
   refine k_bastore X3283 hx hZ e3283 Vw3282 ⟨by decide, by decide⟩ (i := 3) rfl (Nat.le_of_ble_eq_true rfl) (hb hby at_145) (pc' := 146) rfl (fun T3286 h3286 X3286 e3286 W3286 V3286 => ?_)
   rw [hb3285] at V3286
   have Vw3286 : Arv Z h3286 b3270 k3270 .byte (8 : Int32) [(.int v3272), (.int v3276), (.int v3280), (.int v3284), (.int (0 : Int32)), (.int (0 : Int32)), (.int (0 : Int32)), (.int (0 : Int32))] (.int (0 : Int32)) := V3286
   have N3286 := Fr.snoc X3286 N3283' g_b3270
   have Z3286 : n0 ≤ h3286.size := Nat.le_trans Z3282 (Nat.le_of_eq W3286.size.symm)
   refine k_aload X3286 hx (hb hby at_146) rfl rfl (pc' := 148) rfl ?_
   refine k_iconst X3286 hx (hb hby at_148) (pc' := 149) rfl (z := (4 : Int32)) rfl ?_
   refine k_lloadN X3286 hx (hb hby at_149) rfl (pc' := 150) rfl ?_
   refine k_iconst X3286 hx (hb hby at_150) (pc' := 151) rfl (z := (4 : Int32)) rfl ?_
   refine k_callS X3286 hx hZ hown (hw _ (List.mem_of_getElem? (i := 2) rfl)) (hw _ (List.mem_of_getElem? (i := 3) rfl)) (hw _ (List.mem_of_getElem? (i := 4) rfl)) (hw _ (List.mem_of_getElem? (i := 5) rfl)) (by decide) (rm1_75 l Z a0 hw [] i3 h3286 n0 Z3286 ) (by decide) (by decide) e3286 (by rw [hml]; rfl) (argsL := [(.long i3), (.int (4 : Int32))]) (rest := [(.int (4 : Int32)), (.ref b3270)]) (lenOf pd_0 rfl) rfl (W := 2) (Nat.le_refl _) rfl (hb hby at_151) (by decide) (by decide) (pc' := 154) rfl (fun T3287 L3287 r3287 X3287 q3287 => ?_)
   obtain ⟨N3287, e3287, rfl⟩ := q3287
   have N3287' := Fr.app N3286 N3287
   show KEnds p e below s _ _ _ T3287 (mkF m 154 #[.val (.int i0), .val (.int i1), .val (.int i2), .val (.long i3), .second, .val (.int v1), .val (.int (3 : Int32)), .val (.int v3013), .val (.int (1 : Int32)), .val (.ref b3270)] ((.int (f1_75 i3)) :: (.int (4 : Int32)) :: (.ref b3270) :: []))
   obtain ⟨v3288, hv3288⟩ : ∃ z, z = f1_75 i3 := ⟨_, rfl⟩
   rw [← hv3288]
   have hb3289 : v3288.toInt8.toInt32 = v3288 := by rw [hv3288]; exact f1_75_byte i3
   refine k_bastore X3287 hx hZ e3287 Vw3286 ⟨by decide, by decide⟩ (i := 4) rfl (Nat.le_of_ble_eq_true rfl) (hb hby at_154) (pc' := 155) rfl (fun T3290 h3290 X3290 e3290 W3290 V3290 => ?_)
   rw [hb3289] at V3290
   have Vw3290 : Arv Z h3290 b3270 k3270 .byte (8 : Int32) [(.int v3272), (.int v3276), (.int v3280), (.int v3284), (.int v3288), (.int (0 : Int32)), (.int (0 : Int32)), (.int (0 : Int32))] (.int (0 : Int32)) := V3290
   have N3290 := Fr.snoc X3290 N3287' g_b3270
   have Z3290 : n0 ≤ h3290.size := Nat.le_trans Z3286 (Nat.le_of_eq W3290.size.symm)
   refine k_aload X3290 hx (hb hby at_155) rfl rfl (pc' := 157) rfl ?_
   refine k_iconst X3290 hx (hb hby at_157) (pc' := 158) rfl (z := (5 : Int32)) rfl ?_
   refine k_lloadN X3290 hx (hb hby at_158) rfl (pc' := 159) rfl ?_
   refine k_iconst X3290 hx (hb hby at_159) (pc' := 160) rfl (z := (5 : Int32)) rfl ?_
   refine k_callS X3290 hx hZ hown (hw _ (List.mem_of_getElem? (i := 2) rfl)) (hw _ (List.mem_of_getElem? (i := 3) rfl)) (hw _ (List.mem_of_getElem? (i := 4) rfl)) (hw _ (List.mem_of_getElem? (i := 5) rfl)) (by decide) (rm1_80 l Z a0 hw [] i3 h3290 n0 Z3290 ) (by decide) (by decide) e3290 (by rw [hml]; rfl) (argsL := [(.long i3), (.int (5 : Int32))]) (rest := [(.int (5 : Int32)), (.ref b3270)]) (lenOf pd_0 rfl) rfl (W := 2) (Nat.le_refl _) rfl (hb hby at_160) (by decide) (by decide) (pc' := 163) rfl (fun T3291 L3291 r3291 X3291 q3291 => ?_)
   obtain ⟨N3291, e3291, rfl⟩ := q3291
   have N3291' := Fr.app N3290 N3291
   show KEnds p e below s _ _ _ T3291 (mkF m 163 #[.val (.int i0), .val (.int i1), .val (.int i2), .val (.long i3), .second, .val (.int v1), .val (.int (3 : Int32)), .val (.int v3013), .val (.int (1 : Int32)), .val (.ref b3270)] ((.int (f1_80 i3)) :: (.int (5 : Int32)) :: (.ref b3270) :: []))
   obtain ⟨v3292, hv3292⟩ : ∃ z, z = f1_80 i3 := ⟨_, rfl⟩
   rw [← hv3292]
   have hb3293 : v3292.toInt8.toInt32 = v3292 := by rw [hv3292]; exact f1_80_byte i3
   refine k_bastore X3291 hx hZ e3291 Vw3290 ⟨by decide, by decide⟩ (i := 5) rfl (Nat.le_of_ble_eq_true rfl) (hb hby at_163) (pc' := 164) rfl (fun T3294 h3294 X3294 e3294 W3294 V3294 => ?_)
   rw [hb3293] at V3294
   have Vw3294 : Arv Z h3294 b3270 k3270 .byte (8 : Int32) [(.int v3272), (.int v3276), (.int v3280), (.int v3284), (.int v3288), (.int v3292), (.int (0 : Int32)), (.int (0 : Int32))] (.int (0 : Int32)) := V3294
   have N3294 := Fr.snoc X3294 N3291' g_b3270
   have Z3294 : n0 ≤ h3294.size := Nat.le_trans Z3290 (Nat.le_of_eq W3294.size.symm)
   refine k_aload X3294 hx (hb hby at_164) rfl rfl (pc' := 166) rfl ?_
   refine k_bipush X3294 hx (hb hby at_166) (pc' := 168) rfl (z := (6 : Int32)) rfl ?_
   refine k_lloadN X3294 hx (hb hby at_168) rfl (pc' := 169) rfl ?_
   refine k_bipush X3294 hx (hb hby at_169) (pc' := 171) rfl (z := (6 : Int32)) rfl ?_
   refine k_callS X3294 hx hZ hown (hw _ (List.mem_of_getElem? (i := 2) rfl)) (hw _ (List.mem_of_getElem? (i := 3) rfl)) (hw _ (List.mem_of_getElem? (i := 4) rfl)) (hw _ (List.mem_of_getElem? (i := 5) rfl)) (by decide) (rm1_85 l Z a0 hw [] i3 h3294 n0 Z3294 ) (by decide) (by decide) e3294 (by rw [hml]; rfl) (argsL := [(.long i3), (.int (6 : Int32))]) (rest := [(.int (6 : Int32)), (.ref b3270)]) (lenOf pd_0 rfl) rfl (W := 2) (Nat.le_refl _) rfl (hb hby at_171) (by decide) (by decide) (pc' := 174) rfl (fun T3295 L3295 r3295 X3295 q3295 => ?_)
   obtain ⟨N3295, e3295, rfl⟩ := q3295
   have N3295' := Fr.app N3294 N3295
   show KEnds p e below s _ _ _ T3295 (mkF m 174 #[.val (.int i0), .val (.int i1), .val (.int i2), .val (.long i3), .second, .val (.int v1), .val (.int (3 : Int32)), .val (.int v3013), .val (.int (1 : Int32)), .val (.ref b3270)] ((.int (f1_85 i3)) :: (.int (6 : Int32)) :: (.ref b3270) :: []))
   obtain ⟨v3296, hv3296⟩ : ∃ z, z = f1_85 i3 := ⟨_, rfl⟩
   rw [← hv3296]
   have hb3297 : v3296.toInt8.toInt32 = v3296 := by rw [hv3296]; exact f1_85_byte i3
   refine k_bastore X3295 hx hZ e3295 Vw3294 ⟨by decide, by decide⟩ (i := 6) rfl (Nat.le_of_ble_eq_true rfl) (hb hby at_174) (pc' := 175) rfl (fun T3298 h3298 X3298 e3298 W3298 V3298 => ?_)
   rw [hb3297] at V3298
   have Vw3298 : Arv Z h3298 b3270 k3270 .byte (8 : Int32) [(.int v3272), (.int v3276), (.int v3280), (.int v3284), (.int v3288), (.int v3292), (.int v3296), (.int (0 : Int32))] (.int (0 : Int32)) := V3298
   have N3298 := Fr.snoc X3298 N3295' g_b3270
   have Z3298 : n0 ≤ h3298.size := Nat.le_trans Z3294 (Nat.le_of_eq W3298.size.symm)
   refine k_aload X3298 hx (hb hby at_175) rfl rfl (pc' := 177) rfl ?_
   refine k_bipush X3298 hx (hb hby at_177) (pc' := 179) rfl (z := (7 : Int32)) rfl ?_
   refine k_lloadN X3298 hx (hb hby at_179) rfl (pc' := 180) rfl ?_
   refine k_bipush X3298 hx (hb hby at_180) (pc' := 182) rfl (z := (7 : Int32)) rfl ?_
   refine k_callS X3298 hx hZ hown (hw _ (List.mem_of_getElem? (i := 2) rfl)) (hw _ (List.mem_of_getElem? (i := 3) rfl)) (hw _ (List.mem_of_getElem? (i := 4) rfl)) (hw _ (List.mem_of_getElem? (i := 5) rfl)) (by decide) (rm1_90 l Z a0 hw [] i3 h3298 n0 Z3298 ) (by decide) (by decide) e3298 (by rw [hml]; rfl) (argsL := [(.long i3), (.int (7 : Int32))]) (rest := [(.int (7 : Int32)), (.ref b3270)]) (lenOf pd_0 rfl) rfl (W := 2) (Nat.le_refl _) rfl (hb hby at_182) (by decide) (by decide) (pc' := 185) rfl (fun T3299 L3299 r3299 X3299 q3299 => ?_)
   obtain ⟨N3299, e3299, rfl⟩ := q3299
   have N3299' := Fr.app N3298 N3299
   show KEnds p e below s _ _ _ T3299 (mkF m 185 #[.val (.int i0), .val (.int i1), .val (.int i2), .val (.long i3), .second, .val (.int v1), .val (.int (3 : Int32)), .val (.int v3013), .val (.int (1 : Int32)), .val (.ref b3270)] ((.int (f1_90 i3)) :: (.int (7 : Int32)) :: (.ref b3270) :: []))
   obtain ⟨v3300, hv3300⟩ : ∃ z, z = f1_90 i3 := ⟨_, rfl⟩
   rw [← hv3300]
   have hb3301 : v3300.toInt8.toInt32 = v3300 := by rw [hv3300]; exact f1_90_byte i3
   refine k_bastore X3299 hx hZ e3299 Vw3298 ⟨by decide, by decide⟩ (i := 7) rfl (Nat.le_of_ble_eq_true rfl) (hb hby at_185) (pc' := 186) rfl (fun T3302 h3302 X3302 e3302 W3302 V3302 => ?_)
   rw [hb3301] at V3302
   have Vw3302 : Arv Z h3302 b3270 k3270 .byte (8 : Int32) [(.int v3272), (.int v3276), (.int v3280), (.int v3284), (.int v3288), (.int v3292), (.int v3296), (.int v3300)] (.int (0 : Int32)) := V3302
   have N3302 := Fr.snoc X3302 N3299' g_b3270
   have Z3302 : n0 ≤ h3302.size := Nat.le_trans Z3298 (Nat.le_of_eq W3302.size.symm)
   refine k_iload X3302 hx (hb hby at_186) rfl (pc' := 188) rfl ?_
   refine k_if_ne X3302 hx (hb hby at_188) (pn := 191) rfl (py := 202) (by decide) (fun _ => ?_) (fun hc => absurd hc (by decide))
   refine k_iload X3302 hx (hb hby at_202) rfl (pc' := 204) rfl ?_
   refine k_iconst X3302 hx (hb hby at_204) (pc' := 205) rfl (z := (1 : Int32)) rfl ?_
   refine k_icmp_ne X3302 hx (hb hby at_205) (pn := 208) rfl (py := 243) (by decide) (fun _ => ?_) (fun hc => absurd hc (by decide))
   refine k_iload X3302 hx (hb hby at_243) rfl (pc' := 245) rfl ?_
   refine k_iconst X3302 hx (hb hby at_245) (pc' := 246) rfl (z := (2 : Int32)) rfl ?_
   refine k_icmp_ne X3302 hx (hb hby at_246) (pn := 249) rfl (py := 304) (by decide) (fun _ => ?_) (fun hc => absurd hc (by decide))
   refine k_aload X3302 hx (hb hby at_304) rfl rfl (pc' := 306) rfl ?_
   refine k_iload X3302 hx (hb hby at_306) rfl (pc' := 308) rfl ?_
   refine k_sipush X3302 hx (hb hby at_308) (pc' := 311) rfl (z := (240 : Int32)) rfl ?_
   refine k_iload X3302 hx (hb hby at_311) rfl (pc' := 313) rfl ?_
   refine k_bipush X3302 hx (hb hby at_313) (pc' := 315) rfl (z := (18 : Int32)) rfl ?_
   refine k_ishr X3302 hx (hb hby at_315) (pc' := 316) rfl (fun v3303 hv3303 => ?_)
   refine k_ior X3302 hx (hb hby at_316) (pc' := 317) rfl (fun v3304 hv3304 => ?_)
   refine k_i2b X3302 hx (hb hby at_317) (pc' := 318) rfl (fun v3305 hv3305 => ?_)
   refine k_bastore X3302 hx hZ e3302 Vw3302 ⟨by decide, by decide⟩ (i := 1) rfl (Nat.le_of_ble_eq_true rfl) (hb hby at_318) (pc' := 319) rfl (fun T3306 h3306 X3306 e3306 W3306 V3306 => ?_)
   have hb3307 : v3305.toInt8.toInt32 = v3305 := by rw [hv3305]; exact k_i2b2 _
   rw [hb3307] at V3306
   have Vw3306 : Arv Z h3306 b3270 k3270 .byte (8 : Int32) [(.int v3272), (.int v3305), (.int v3280), (.int v3284), (.int v3288), (.int v3292), (.int v3296), (.int v3300)] (.int (0 : Int32)) := V3306
   have N3306 := Fr.snoc X3306 N3302 g_b3270
   have Z3306 : n0 ≤ h3306.size := Nat.le_trans Z3302 (Nat.le_of_eq W3306.size.symm)
   refine k_aload X3306 hx (hb hby at_319) rfl rfl (pc' := 321) rfl ?_
   refine k_iload X3306 hx (hb hby at_321) rfl (pc' := 323) rfl ?_
   refine k_iconst X3306 hx (hb hby at_323) (pc' := 324) rfl (z := (1 : Int32)) rfl ?_
   refine k_iaddL X3306 hx (hb hby at_324) (pc' := 325) rfl (z := (2 : Int32)) (by decide) ?_
   refine k_sipush X3306 hx (hb hby at_325) (pc' := 328) rfl (z := (128 : Int32)) rfl ?_
   refine k_iload X3306 hx (hb hby at_328) rfl (pc' := 330) rfl ?_
   refine k_bipush X3306 hx (hb hby at_330) (pc' := 332) rfl (z := (12 : Int32)) rfl ?_
   refine k_ishr X3306 hx (hb hby at_332) (pc' := 333) rfl (fun v3308 hv3308 => ?_)
   refine k_bipush X3306 hx (hb hby at_333) (pc' := 335) rfl (z := (63 : Int32)) rfl ?_
   refine k_iand X3306 hx (hb hby at_335) (pc' := 336) rfl (fun v3309 hv3309 => ?_)
   refine k_ior X3306 hx (hb hby at_336) (pc' := 337) rfl (fun v3310 hv3310 => ?_)
   refine k_i2b X3306 hx (hb hby at_337) (pc' := 338) rfl (fun v3311 hv3311 => ?_)
   refine k_bastore X3306 hx hZ e3306 Vw3306 ⟨by decide, by decide⟩ (i := 2) rfl (Nat.le_of_ble_eq_true rfl) (hb hby at_338) (pc' := 339) rfl (fun T3312 h3312 X3312 e3312 W3312 V3312 => ?_)
   have hb3313 : v3311.toInt8.toInt32 = v3311 := by rw [hv3311]; exact k_i2b2 _
   rw [hb3313] at V3312
   have Vw3312 : Arv Z h3312 b3270 k3270 .byte (8 : Int32) [(.int v3272), (.int v3305), (.int v3311), (.int v3284), (.int v3288), (.int v3292), (.int v3296), (.int v3300)] (.int (0 : Int32)) := V3312
   have N3312 := Fr.snoc X3312 N3306 g_b3270
   have Z3312 : n0 ≤ h3312.size := Nat.le_trans Z3306 (Nat.le_of_eq W3312.size.symm)
   refine k_aload X3312 hx (hb hby at_339) rfl rfl (pc' := 341) rfl ?_
   refine k_iload X3312 hx (hb hby at_341) rfl (pc' := 343) rfl ?_
   refine k_iconst X3312 hx (hb hby at_343) (pc' := 344) rfl (z := (2 : Int32)) rfl ?_
   refine k_iaddL X3312 hx (hb hby at_344) (pc' := 345) rfl (z := (3 : Int32)) (by decide) ?_
   refine k_sipush X3312 hx (hb hby at_345) (pc' := 348) rfl (z := (128 : Int32)) rfl ?_
   refine k_iload X3312 hx (hb hby at_348) rfl (pc' := 350) rfl ?_
   refine k_bipush X3312 hx (hb hby at_350) (pc' := 352) rfl (z := (6 : Int32)) rfl ?_
   refine k_ishr X3312 hx (hb hby at_352) (pc' := 353) rfl (fun v3314 hv3314 => ?_)
   refine k_bipush X3312 hx (hb hby at_353) (pc' := 355) rfl (z := (63 : Int32)) rfl ?_
   refine k_iand X3312 hx (hb hby at_355) (pc' := 356) rfl (fun v3315 hv3315 => ?_)
   refine k_ior X3312 hx (hb hby at_356) (pc' := 357) rfl (fun v3316 hv3316 => ?_)
   refine k_i2b X3312 hx (hb hby at_357) (pc' := 358) rfl (fun v3317 hv3317 => ?_)
   refine k_bastore X3312 hx hZ e3312 Vw3312 ⟨by decide, by decide⟩ (i := 3) rfl (Nat.le_of_ble_eq_true rfl) (hb hby at_358) (pc' := 359) rfl (fun T3318 h3318 X3318 e3318 W3318 V3318 => ?_)
   have hb3319 : v3317.toInt8.toInt32 = v3317 := by rw [hv3317]; exact k_i2b2 _
   rw [hb3319] at V3318
   have Vw3318 : Arv Z h3318 b3270 k3270 .byte (8 : Int32) [(.int v3272), (.int v3305), (.int v3311), (.int v3317), (.int v3288), (.int v3292), (.int v3296), (.int v3300)] (.int (0 : Int32)) := V3318
   have N3318 := Fr.snoc X3318 N3312 g_b3270
   have Z3318 : n0 ≤ h3318.size := Nat.le_trans Z3312 (Nat.le_of_eq W3318.size.symm)
   refine k_aload X3318 hx (hb hby at_359) rfl rfl (pc' := 361) rfl ?_
   refine k_iload X3318 hx (hb hby at_361) rfl (pc' := 363) rfl ?_
   refine k_iconst X3318 hx (hb hby at_363) (pc' := 364) rfl (z := (3 : Int32)) rfl ?_
   refine k_iaddL X3318 hx (hb hby at_364) (pc' := 365) rfl (z := (4 : Int32)) (by decide) ?_
   refine k_sipush X3318 hx (hb hby at_365) (pc' := 368) rfl (z := (128 : Int32)) rfl ?_
   refine k_iload X3318 hx (hb hby at_368) rfl (pc' := 370) rfl ?_
   refine k_bipush X3318 hx (hb hby at_370) (pc' := 372) rfl (z := (63 : Int32)) rfl ?_
   refine k_iand X3318 hx (hb hby at_372) (pc' := 373) rfl (fun v3320 hv3320 => ?_)
   refine k_ior X3318 hx (hb hby at_373) (pc' := 374) rfl (fun v3321 hv3321 => ?_)
   refine k_i2b X3318 hx (hb hby at_374) (pc' := 375) rfl (fun v3322 hv3322 => ?_)
   refine k_bastore X3318 hx hZ e3318 Vw3318 ⟨by decide, by decide⟩ (i := 4) rfl (Nat.le_of_ble_eq_true rfl) (hb hby at_375) (pc' := 376) rfl (fun T3323 h3323 X3323 e3323 W3323 V3323 => ?_)
   have hb3324 : v3322.toInt8.toInt32 = v3322 := by rw [hv3322]; exact k_i2b2 _
   rw [hb3324] at V3323
   have Vw3323 : Arv Z h3323 b3270 k3270 .byte (8 : Int32) [(.int v3272), (.int v3305), (.int v3311), (.int v3317), (.int v3322), (.int v3292), (.int v3296), (.int v3300)] (.int (0 : Int32)) := V3323
   have N3323 := Fr.snoc X3323 N3318 g_b3270
   have Z3323 : n0 ≤ h3323.size := Nat.le_trans Z3318 (Nat.le_of_eq W3323.size.symm)
   refine k_aload X3323 hx (hb hby at_376) rfl rfl (pc' := 378) rfl ?_
   refine k_iload X3323 hx (hb hby at_378) rfl (pc' := 380) rfl ?_
   refine k_callS X3323 hx hZ hown (hw _ (List.mem_of_getElem? (i := 7) rfl)) (hw _ (List.mem_of_getElem? (i := 8) rfl)) (hw _ (List.mem_of_getElem? (i := 9) rfl)) (hw _ (List.mem_of_getElem? (i := 10) rfl)) (by decide) (rm2_323 l Z a0 hw [] b3270 k3270 v3272 v3305 v3311 v3317 v3322 v3292 v3296 v3300 h3323 n0 Z3323 Vw3323) (by decide) (by decide) e3323 (by rw [hml]; rfl) (argsL := [(.ref b3270), (.int (1 : Int32))]) (rest := []) (lenOf pd_2 rfl) rfl (W := 0) (Nat.le_refl _) rfl (hb hby at_380) (by decide) (by decide) (pc' := 383) rfl (fun T3325 L3325 r3325 X3325 q3325 => ?_)
   obtain ⟨N3325, e3325, q3325⟩ := q3325
   have N3325' := Fr.app N3323 N3325
   rcases q3325 with ⟨v3326, v3327, v3328, v3329, v3330, v3331, v3332, v3333, v3334, v3335, v3336, h3337, h3338, h3339, h3340, h3341, h3342, h3343, h3344, h3345, h3346, h3347, hc3348, hc3349, hc3350, rfl⟩ | ⟨v3351, v3352, v3353, v3354, v3355, v3356, v3357, v3358, h3359, h3360, h3361, h3362, h3363, h3364, h3365, h3366, hc3367, hc3368, hc3369, rfl⟩ | ⟨v3370, v3371, v3372, v3373, v3374, h3375, h3376, h3377, h3378, h3379, hc3380, hc3381, rfl⟩ | ⟨v3382, h3383, hc3384, rfl⟩
   ·
    show KEnds p e below s _ _ _ T3325 (mkF m 383 #[.val (.int i0), .val (.int i1), .val (.int i2), .val (.long i3), .second, .val (.int v1), .val (.int (3 : Int32)), .val (.int v3013), .val (.int (1 : Int32)), .val (.ref b3270)] [(.int v3336)])
    refine k_iload X3325 hx (hb hby at_383) rfl (pc' := 385) rfl ?_
    refine k_icmp_ne X3325 hx (hb hby at_385) (pn := 388) rfl (py := 392) (by decide) (fun hc3385 => ?_) (fun hc3385 => ?_)
    ·
     refine k_iconst X3325 hx (hb hby at_392) (pc' := 393) rfl (z := (0 : Int32)) rfl ?_
     exfalso
     have B3386 : (-2147483648 : Int) ≤ v3013.toInt ∧ v3013.toInt ≤ 2147483647 := ⟨(rng32 v3013).1, Int.le_of_lt_add_one (rng32 v3013).2⟩
     have B3389 : (65536 : Int) ≤ v3013.toInt ∧ v3013.toInt ≤ 2147483647 := ⟨k_ge hP3014.1 (by decide), B3386.2⟩
     have B3390 : (65536 : Int) ≤ v3013.toInt ∧ v3013.toInt ≤ 1114111 := ⟨B3389.1, k_le hP3014.2 (by decide)⟩
     have B3391 : (65536 : Int) ≤ (65536 : Int32).toInt ∧ (65536 : Int32).toInt ≤ 65536 := (by decide)
     have q3392 := hP3014.1; rw [Int32.lt_iff_toInt_lt] at q3392
     have B3393 : (1114111 : Int) ≤ (1114111 : Int32).toInt ∧ (1114111 : Int32).toInt ≤ 1114111 := (by decide)
     have q3394 := hP3014.2; rw [Int32.lt_iff_toInt_lt] at q3394
     have q3402 : v3303.toInt = v3013.toInt / 262144 := (by rw [hv3303]; exact c_ishr _ _ 18 (by decide))
     have B3401 : (0 : Int) ≤ v3303.toInt ∧ v3303.toInt ≤ 4 := (by rw [q3402]; exact k_divB B3390 (by decide) (by decide) (by decide))
     have q3400 : v3304.toInt = 240 + v3303.toInt := k_orx (k := 4) hv3304 B3401 (by decide) (by decide) (by decide) (by decide) (by decide) (by decide)
     have B3399 : (240 : Int) ≤ v3304.toInt ∧ v3304.toInt ≤ 244 := k_caddB q3400 B3401
     have q3398 : v3305.toInt = v3304.toInt - 256 := k_i2by hv3305 B3399 (by decide) (by decide)
     have B3397 : (-16 : Int) ≤ v3305.toInt ∧ v3305.toInt ≤ -12 := k_subB q3398 B3399
     have q3396 : v3326.toInt = v3305.toInt - (-256) := (by rw [h3337, c_mask _ _ 8 (by decide) (by decide)]; exact k_modx B3397 (by decide) (by decide))
     have B3395 : (240 : Int) ≤ v3326.toInt ∧ v3326.toInt ≤ 244 := k_subB q3396 B3397
     have B3403 : (128 : Int) ≤ (128 : Int32).toInt ∧ (128 : Int32).toInt ≤ 128 := (by decide)
     have q3404 := hc3348; rw [Int32.lt_iff_toInt_lt] at q3404
     have B3405 : (224 : Int) ≤ (224 : Int32).toInt ∧ (224 : Int32).toInt ≤ 224 := (by decide)
     have q3406 := hc3349; rw [Int32.lt_iff_toInt_lt] at q3406
     have B3407 : (240 : Int) ≤ (240 : Int32).toInt ∧ (240 : Int32).toInt ≤ 240 := (by decide)
     have q3408 := hc3350; rw [Int32.lt_iff_toInt_lt] at q3408
     have q3422 : v3327.toInt = v3326.toInt - (240) := (by rw [h3338, c_mask _ _ 3 (by decide) (by decide)]; exact k_modx B3395 (by decide) (by decide))
     have B3421 : (0 : Int) ≤ v3327.toInt ∧ v3327.toInt ≤ 4 := k_subB q3422 B3395
     have q3420 : v3328.toInt = 64 * v3327.toInt := k_ishlx (k := 6) h3339 B3421 (by decide) (by decide) (by decide)
     have B3419 : (0 : Int) ≤ v3328.toInt ∧ v3328.toInt ≤ 256 := (by rw [q3420]; exact k_mulB B3421 (by decide))
     have q3432 : v3308.toInt = v3013.toInt / 4096 := (by rw [hv3308]; exact c_ishr _ _ 12 (by decide))
     have B3431 : (16 : Int) ≤ v3308.toInt ∧ v3308.toInt ≤ 271 := (by rw [q3432]; exact k_divB B3390 (by decide) (by decide) (by decide))
     have q3430 : v3309.toInt = v3308.toInt % 64 := (by rw [hv3309]; exact c_mask _ _ 6 (by decide) (by decide))
     have B3429 : (0 : Int) ≤ v3309.toInt ∧ v3309.toInt ≤ 63 := (by rw [q3430]; exact k_modB (by decide))
     have q3428 : v3310.toInt = 128 + v3309.toInt := k_orx (k := 7) hv3310 B3429 (by decide) (by decide) (by decide) (by decide) (by decide) (by decide)
     have B3427 : (128 : Int) ≤ v3310.toInt ∧ v3310.toInt ≤ 191 := k_caddB q3428 B3429
     have q3426 : v3311.toInt = v3310.toInt - 256 := k_i2by hv3311 B3427 (by decide) (by decide)
     have B3425 : (-128 : Int) ≤ v3311.toInt ∧ v3311.toInt ≤ -65 := k_subB q3426 B3427
     have q3424 : v3329.toInt = v3311.toInt - (-128) := (by rw [h3340, c_mask _ _ 6 (by decide) (by decide)]; exact k_modx B3425 (by decide) (by decide))
     have B3423 : (0 : Int) ≤ v3329.toInt ∧ v3329.toInt ≤ 63 := k_subB q3424 B3425
     have q3418 : v3330.toInt = v3328.toInt + v3329.toInt := k_orx2 (k := 6) h3341 B3419 B3423 (by decide) (by decide) (by decide) (by decide) (by omega)
     have B3417 : (0 : Int) ≤ v3330.toInt ∧ v3330.toInt ≤ 319 := k_addB q3418 B3419 B3423
     have q3416 : v3331.toInt = 64 * v3330.toInt := k_ishlx (k := 6) h3342 B3417 (by decide) (by decide) (by decide)
     have B3415 : (0 : Int) ≤ v3331.toInt ∧ v3331.toInt ≤ 20416 := (by rw [q3416]; exact k_mulB B3417 (by decide))
     have q3442 : v3314.toInt = v3013.toInt / 64 := (by rw [hv3314]; exact c_ishr _ _ 6 (by decide))
     have B3441 : (1024 : Int) ≤ v3314.toInt ∧ v3314.toInt ≤ 17407 := (by rw [q3442]; exact k_divB B3390 (by decide) (by decide) (by decide))
     have q3440 : v3315.toInt = v3314.toInt % 64 := (by rw [hv3315]; exact c_mask _ _ 6 (by decide) (by decide))
     have B3439 : (0 : Int) ≤ v3315.toInt ∧ v3315.toInt ≤ 63 := (by rw [q3440]; exact k_modB (by decide))
     have q3438 : v3316.toInt = 128 + v3315.toInt := k_orx (k := 7) hv3316 B3439 (by decide) (by decide) (by decide) (by decide) (by decide) (by decide)
     have B3437 : (128 : Int) ≤ v3316.toInt ∧ v3316.toInt ≤ 191 := k_caddB q3438 B3439
     have q3436 : v3317.toInt = v3316.toInt - 256 := k_i2by hv3317 B3437 (by decide) (by decide)
     have B3435 : (-128 : Int) ≤ v3317.toInt ∧ v3317.toInt ≤ -65 := k_subB q3436 B3437
     have q3434 : v3332.toInt = v3317.toInt - (-128) := (by rw [h3343, c_mask _ _ 6 (by decide) (by decide)]; exact k_modx B3435 (by decide) (by decide))
     have B3433 : (0 : Int) ≤ v3332.toInt ∧ v3332.toInt ≤ 63 := k_subB q3434 B3435
     have q3414 : v3333.toInt = v3331.toInt + v3332.toInt := k_orx2 (k := 6) h3344 B3415 B3433 (by decide) (by decide) (by decide) (by decide) (by omega)
     have B3413 : (0 : Int) ≤ v3333.toInt ∧ v3333.toInt ≤ 20479 := k_addB q3414 B3415 B3433
     have q3412 : v3334.toInt = 64 * v3333.toInt := k_ishlx (k := 6) h3345 B3413 (by decide) (by decide) (by decide)
     have B3411 : (0 : Int) ≤ v3334.toInt ∧ v3334.toInt ≤ 1310656 := (by rw [q3412]; exact k_mulB B3413 (by decide))
     have q3450 : v3320.toInt = v3013.toInt % 64 := (by rw [hv3320]; exact c_mask _ _ 6 (by decide) (by decide))
     have B3449 : (0 : Int) ≤ v3320.toInt ∧ v3320.toInt ≤ 63 := (by rw [q3450]; exact k_modB (by decide))
     have q3448 : v3321.toInt = 128 + v3320.toInt := k_orx (k := 7) hv3321 B3449 (by decide) (by decide) (by decide) (by decide) (by decide) (by decide)
     have B3447 : (128 : Int) ≤ v3321.toInt ∧ v3321.toInt ≤ 191 := k_caddB q3448 B3449
     have q3446 : v3322.toInt = v3321.toInt - 256 := k_i2by hv3322 B3447 (by decide) (by decide)
     have B3445 : (-128 : Int) ≤ v3322.toInt ∧ v3322.toInt ≤ -65 := k_subB q3446 B3447
     have q3444 : v3335.toInt = v3322.toInt - (-128) := (by rw [h3346, c_mask _ _ 6 (by decide) (by decide)]; exact k_modx B3445 (by decide) (by decide))
     have B3443 : (0 : Int) ≤ v3335.toInt ∧ v3335.toInt ≤ 63 := k_subB q3444 B3445
     have q3410 : v3336.toInt = v3334.toInt + v3335.toInt := k_orx2 (k := 6) h3347 B3411 B3443 (by decide) (by decide) (by decide) (by decide) (by omega)
     have B3409 : (0 : Int) ≤ v3336.toInt ∧ v3336.toInt ≤ 1310719 := k_addB q3410 B3411 B3443
     have q3451 : ¬ v3336.toInt = v3013.toInt := fun q => hc3385 (Int32.toInt_inj.mp q)
     omega
    ·
     refine k_iconst X3325 hx (hb hby at_388) (pc' := 389) rfl (z := (1 : Int32)) rfl ?_
     refine k_goto X3325 hx (hb hby at_389) (pc' := 393) (by decide) ?_
     exact k_retN X3325 hx (t := .boolean) Bd.returns (by simp) (hb hby at_393) hlk (by decide) (by decide) (z' := (1 : Int32)) rfl ⟨rfl, N3325'⟩
   ·
    show KEnds p e below s _ _ _ T3325 (mkF m 383 #[.val (.int i0), .val (.int i1), .val (.int i2), .val (.long i3), .second, .val (.int v1), .val (.int (3 : Int32)), .val (.int v3013), .val (.int (1 : Int32)), .val (.ref b3270)] [(.int v3358)])
    exfalso
    have B3452 : (-2147483648 : Int) ≤ v3013.toInt ∧ v3013.toInt ≤ 2147483647 := ⟨(rng32 v3013).1, Int.le_of_lt_add_one (rng32 v3013).2⟩
    have B3455 : (65536 : Int) ≤ v3013.toInt ∧ v3013.toInt ≤ 2147483647 := ⟨k_ge hP3014.1 (by decide), B3452.2⟩
    have B3456 : (65536 : Int) ≤ v3013.toInt ∧ v3013.toInt ≤ 1114111 := ⟨B3455.1, k_le hP3014.2 (by decide)⟩
    have B3457 : (65536 : Int) ≤ (65536 : Int32).toInt ∧ (65536 : Int32).toInt ≤ 65536 := (by decide)
    have q3458 := hP3014.1; rw [Int32.lt_iff_toInt_lt] at q3458
    have B3459 : (1114111 : Int) ≤ (1114111 : Int32).toInt ∧ (1114111 : Int32).toInt ≤ 1114111 := (by decide)
    have q3460 := hP3014.2; rw [Int32.lt_iff_toInt_lt] at q3460
    have q3468 : v3303.toInt = v3013.toInt / 262144 := (by rw [hv3303]; exact c_ishr _ _ 18 (by decide))
    have B3467 : (0 : Int) ≤ v3303.toInt ∧ v3303.toInt ≤ 4 := (by rw [q3468]; exact k_divB B3456 (by decide) (by decide) (by decide))
    have q3466 : v3304.toInt = 240 + v3303.toInt := k_orx (k := 4) hv3304 B3467 (by decide) (by decide) (by decide) (by decide) (by decide) (by decide)
    have B3465 : (240 : Int) ≤ v3304.toInt ∧ v3304.toInt ≤ 244 := k_caddB q3466 B3467
    have q3464 : v3305.toInt = v3304.toInt - 256 := k_i2by hv3305 B3465 (by decide) (by decide)
    have B3463 : (-16 : Int) ≤ v3305.toInt ∧ v3305.toInt ≤ -12 := k_subB q3464 B3465
    have q3462 : v3351.toInt = v3305.toInt - (-256) := (by rw [h3359, c_mask _ _ 8 (by decide) (by decide)]; exact k_modx B3463 (by decide) (by decide))
    have B3461 : (240 : Int) ≤ v3351.toInt ∧ v3351.toInt ≤ 244 := k_subB q3462 B3463
    have B3469 : (240 : Int) ≤ v3351.toInt ∧ v3351.toInt ≤ 239 := ⟨B3461.1, k_lt hc3369 (by decide)⟩
    have B3470 : (128 : Int) ≤ (128 : Int32).toInt ∧ (128 : Int32).toInt ≤ 128 := (by decide)
    have q3471 := hc3367; rw [Int32.lt_iff_toInt_lt] at q3471
    have B3472 : (224 : Int) ≤ (224 : Int32).toInt ∧ (224 : Int32).toInt ≤ 224 := (by decide)
    have q3473 := hc3368; rw [Int32.lt_iff_toInt_lt] at q3473
    have B3474 : (240 : Int) ≤ (240 : Int32).toInt ∧ (240 : Int32).toInt ≤ 240 := (by decide)
    have q3475 := hc3369; rw [Int32.lt_iff_toInt_lt] at q3475
    omega
   ·
    show KEnds p e below s _ _ _ T3325 (mkF m 383 #[.val (.int i0), .val (.int i1), .val (.int i2), .val (.long i3), .second, .val (.int v1), .val (.int (3 : Int32)), .val (.int v3013), .val (.int (1 : Int32)), .val (.ref b3270)] [(.int v3374)])
    exfalso
    have B3476 : (-2147483648 : Int) ≤ v3013.toInt ∧ v3013.toInt ≤ 2147483647 := ⟨(rng32 v3013).1, Int.le_of_lt_add_one (rng32 v3013).2⟩
    have B3479 : (65536 : Int) ≤ v3013.toInt ∧ v3013.toInt ≤ 2147483647 := ⟨k_ge hP3014.1 (by decide), B3476.2⟩
    have B3480 : (65536 : Int) ≤ v3013.toInt ∧ v3013.toInt ≤ 1114111 := ⟨B3479.1, k_le hP3014.2 (by decide)⟩
    have B3481 : (65536 : Int) ≤ (65536 : Int32).toInt ∧ (65536 : Int32).toInt ≤ 65536 := (by decide)
    have q3482 := hP3014.1; rw [Int32.lt_iff_toInt_lt] at q3482
    have B3483 : (1114111 : Int) ≤ (1114111 : Int32).toInt ∧ (1114111 : Int32).toInt ≤ 1114111 := (by decide)
    have q3484 := hP3014.2; rw [Int32.lt_iff_toInt_lt] at q3484
    have q3492 : v3303.toInt = v3013.toInt / 262144 := (by rw [hv3303]; exact c_ishr _ _ 18 (by decide))
    have B3491 : (0 : Int) ≤ v3303.toInt ∧ v3303.toInt ≤ 4 := (by rw [q3492]; exact k_divB B3480 (by decide) (by decide) (by decide))
    have q3490 : v3304.toInt = 240 + v3303.toInt := k_orx (k := 4) hv3304 B3491 (by decide) (by decide) (by decide) (by decide) (by decide) (by decide)
    have B3489 : (240 : Int) ≤ v3304.toInt ∧ v3304.toInt ≤ 244 := k_caddB q3490 B3491
    have q3488 : v3305.toInt = v3304.toInt - 256 := k_i2by hv3305 B3489 (by decide) (by decide)
    have B3487 : (-16 : Int) ≤ v3305.toInt ∧ v3305.toInt ≤ -12 := k_subB q3488 B3489
    have q3486 : v3370.toInt = v3305.toInt - (-256) := (by rw [h3375, c_mask _ _ 8 (by decide) (by decide)]; exact k_modx B3487 (by decide) (by decide))
    have B3485 : (240 : Int) ≤ v3370.toInt ∧ v3370.toInt ≤ 244 := k_subB q3486 B3487
    have B3493 : (240 : Int) ≤ v3370.toInt ∧ v3370.toInt ≤ 223 := ⟨B3485.1, k_lt hc3381 (by decide)⟩
    have B3494 : (128 : Int) ≤ (128 : Int32).toInt ∧ (128 : Int32).toInt ≤ 128 := (by decide)
    have q3495 := hc3380; rw [Int32.lt_iff_toInt_lt] at q3495
    have B3496 : (224 : Int) ≤ (224 : Int32).toInt ∧ (224 : Int32).toInt ≤ 224 := (by decide)
    have q3497 := hc3381; rw [Int32.lt_iff_toInt_lt] at q3497
    omega
   ·
    show KEnds p e below s _ _ _ T3325 (mkF m 383 #[.val (.int i0), .val (.int i1), .val (.int i2), .val (.long i3), .second, .val (.int v1), .val (.int (3 : Int32)), .val (.int v3013), .val (.int (1 : Int32)), .val (.ref b3270)] [(.int v3382)])
    exfalso
    have B3498 : (-2147483648 : Int) ≤ v3013.toInt ∧ v3013.toInt ≤ 2147483647 := ⟨(rng32 v3013).1, Int.le_of_lt_add_one (rng32 v3013).2⟩
    have B3501 : (65536 : Int) ≤ v3013.toInt ∧ v3013.toInt ≤ 2147483647 := ⟨k_ge hP3014.1 (by decide), B3498.2⟩
    have B3502 : (65536 : Int) ≤ v3013.toInt ∧ v3013.toInt ≤ 1114111 := ⟨B3501.1, k_le hP3014.2 (by decide)⟩
    have B3503 : (65536 : Int) ≤ (65536 : Int32).toInt ∧ (65536 : Int32).toInt ≤ 65536 := (by decide)
    have q3504 := hP3014.1; rw [Int32.lt_iff_toInt_lt] at q3504
    have B3505 : (1114111 : Int) ≤ (1114111 : Int32).toInt ∧ (1114111 : Int32).toInt ≤ 1114111 := (by decide)
    have q3506 := hP3014.2; rw [Int32.lt_iff_toInt_lt] at q3506
    have q3514 : v3303.toInt = v3013.toInt / 262144 := (by rw [hv3303]; exact c_ishr _ _ 18 (by decide))
    have B3513 : (0 : Int) ≤ v3303.toInt ∧ v3303.toInt ≤ 4 := (by rw [q3514]; exact k_divB B3502 (by decide) (by decide) (by decide))
    have q3512 : v3304.toInt = 240 + v3303.toInt := k_orx (k := 4) hv3304 B3513 (by decide) (by decide) (by decide) (by decide) (by decide) (by decide)
    have B3511 : (240 : Int) ≤ v3304.toInt ∧ v3304.toInt ≤ 244 := k_caddB q3512 B3513
    have q3510 : v3305.toInt = v3304.toInt - 256 := k_i2by hv3305 B3511 (by decide) (by decide)
    have B3509 : (-16 : Int) ≤ v3305.toInt ∧ v3305.toInt ≤ -12 := k_subB q3510 B3511
    have q3508 : v3382.toInt = v3305.toInt - (-256) := (by rw [h3383, c_mask _ _ 8 (by decide) (by decide)]; exact k_modx B3509 (by decide) (by decide))
    have B3507 : (240 : Int) ≤ v3382.toInt ∧ v3382.toInt ≤ 244 := k_subB q3508 B3509
    have B3515 : (240 : Int) ≤ v3382.toInt ∧ v3382.toInt ≤ 127 := ⟨B3507.1, k_lt hc3384 (by decide)⟩
    have B3516 : (128 : Int) ≤ (128 : Int32).toInt ∧ (128 : Int32).toInt ≤ 128 := (by decide)
    have q3517 := hc3384; rw [Int32.lt_iff_toInt_lt] at q3517
    omega
  ·
   show KEnds p e below s _ _ _ s₁ (mkF m 102 #[.val (.int i0), .val (.int i1), .val (.int i2), .val (.long i3), .second, .val (.int v1), .val (.int (3 : Int32)), .val (.int v3013), .unset, .unset] [(.int (2 : Int32))])
   refine k_istore X0 hx (hb hby at_102) (Ls' := #[.val (.int i0), .val (.int i1), .val (.int i2), .val (.long i3), .second, .val (.int v1), .val (.int (3 : Int32)), .val (.int v3013), .val (.int (2 : Int32)), .unset]) rfl (pc' := 104) rfl ?_
   refine k_bipush X0 hx (hb hby at_104) (pc' := 106) rfl (z := (8 : Int32)) rfl ?_
   refine k_newA X0 hx hZ (hw _ (List.mem_of_getElem? (i := 1) rfl)) e0 (hb hby at_106) (by decide) (cap := 8) (by decide) (by decide) (by decide) (by decide) (pc' := 108) rfl (fun T3519 h3519 b3519 k3519 g3519 X3519 e3519 E3519 V3519 => ?_)
   have g_b3519 : n0 ≤ b3519 := Nat.le_trans Z0 (Nat.le_of_eq g3519.symm)
   have Z3519 : n0 ≤ h3519.size := Nat.le_trans Z0 E3519.1
   have Vw3519 : Arv Z h3519 b3519 k3519 .byte (8 : Int32) [(.int (0 : Int32)), (.int (0 : Int32)), (.int (0 : Int32)), (.int (0 : Int32)), (.int (0 : Int32)), (.int (0 : Int32)), (.int (0 : Int32)), (.int (0 : Int32))] (.int (0 : Int32)) := V3519
   refine k_astore X3519 hx (hb hby at_108) rfl (Ls' := #[.val (.int i0), .val (.int i1), .val (.int i2), .val (.long i3), .second, .val (.int v1), .val (.int (3 : Int32)), .val (.int v3013), .val (.int (2 : Int32)), .val (.ref b3519)]) rfl (pc' := 110) rfl ?_
   refine k_aload X3519 hx (hb hby at_110) rfl rfl (pc' := 112) rfl ?_
   refine k_iconst X3519 hx (hb hby at_112) (pc' := 113) rfl (z := (0 : Int32)) rfl ?_
   refine k_lloadN X3519 hx (hb hby at_113) rfl (pc' := 114) rfl ?_
   refine k_iconst X3519 hx (hb hby at_114) (pc' := 115) rfl (z := (0 : Int32)) rfl ?_
   refine k_callS X3519 hx hZ hown (hw _ (List.mem_of_getElem? (i := 2) rfl)) (hw _ (List.mem_of_getElem? (i := 3) rfl)) (hw _ (List.mem_of_getElem? (i := 4) rfl)) (hw _ (List.mem_of_getElem? (i := 5) rfl)) (by decide) (rm1_55 l Z a0 hw [] i3 h3519 n0 Z3519 ) (by decide) (by decide) e3519 (by rw [hml]; rfl) (argsL := [(.long i3), (.int (0 : Int32))]) (rest := [(.int (0 : Int32)), (.ref b3519)]) (lenOf pd_0 rfl) rfl (W := 2) (Nat.le_refl _) rfl (hb hby at_115) (by decide) (by decide) (pc' := 118) rfl (fun T3520 L3520 r3520 X3520 q3520 => ?_)
   obtain ⟨N3520, e3520, rfl⟩ := q3520
   have N3520' := Fr.app N0 N3520
   show KEnds p e below s _ _ _ T3520 (mkF m 118 #[.val (.int i0), .val (.int i1), .val (.int i2), .val (.long i3), .second, .val (.int v1), .val (.int (3 : Int32)), .val (.int v3013), .val (.int (2 : Int32)), .val (.ref b3519)] ((.int (f1_55 i3)) :: (.int (0 : Int32)) :: (.ref b3519) :: []))
   obtain ⟨v3521, hv3521⟩ : ∃ z, z = f1_55 i3 := ⟨_, rfl⟩
   rw [← hv3521]
   have hb3522 : v3521.toInt8.toInt32 = v3521 := by rw [hv3521]; exact f1_55_byte i3
   refine k_bastore X3520 hx hZ e3520 Vw3519 ⟨by decide, by decide⟩ (i := 0) rfl (Nat.le_of_ble_eq_true rfl) (hb hby at_118) (pc' := 119) rfl (fun T3523 h3523 X3523 e3523 W3523 V3523 => ?_)
   rw [hb3522] at V3523
   have Vw3523 : Arv Z h3523 b3519 k3519 .byte (8 : Int32) [(.int v3521), (.int (0 : Int32)), (.int (0 : Int32)), (.int (0 : Int32)), (.int (0 : Int32)), (.int (0 : Int32)), (.int (0 : Int32)), (.int (0 : Int32))] (.int (0 : Int32)) := V3523
   have N3523 := Fr.snoc X3523 N3520' g_b3519
   have Z3523 : n0 ≤ h3523.size := Nat.le_trans Z3519 (Nat.le_of_eq W3523.size.symm)
   refine k_aload X3523 hx (hb hby at_119) rfl rfl (pc' := 121) rfl ?_
   refine k_iconst X3523 hx (hb hby at_121) (pc' := 122) rfl (z := (1 : Int32)) rfl ?_
   refine k_lloadN X3523 hx (hb hby at_122) rfl (pc' := 123) rfl ?_
   refine k_iconst X3523 hx (hb hby at_123) (pc' := 124) rfl (z := (1 : Int32)) rfl ?_
   refine k_callS X3523 hx hZ hown (hw _ (List.mem_of_getElem? (i := 2) rfl)) (hw _ (List.mem_of_getElem? (i := 3) rfl)) (hw _ (List.mem_of_getElem? (i := 4) rfl)) (hw _ (List.mem_of_getElem? (i := 5) rfl)) (by decide) (rm1_60 l Z a0 hw [] i3 h3523 n0 Z3523 ) (by decide) (by decide) e3523 (by rw [hml]; rfl) (argsL := [(.long i3), (.int (1 : Int32))]) (rest := [(.int (1 : Int32)), (.ref b3519)]) (lenOf pd_0 rfl) rfl (W := 2) (Nat.le_refl _) rfl (hb hby at_124) (by decide) (by decide) (pc' := 127) rfl (fun T3524 L3524 r3524 X3524 q3524 => ?_)
   obtain ⟨N3524, e3524, rfl⟩ := q3524
   have N3524' := Fr.app N3523 N3524
   show KEnds p e below s _ _ _ T3524 (mkF m 127 #[.val (.int i0), .val (.int i1), .val (.int i2), .val (.long i3), .second, .val (.int v1), .val (.int (3 : Int32)), .val (.int v3013), .val (.int (2 : Int32)), .val (.ref b3519)] ((.int (f1_60 i3)) :: (.int (1 : Int32)) :: (.ref b3519) :: []))
   obtain ⟨v3525, hv3525⟩ : ∃ z, z = f1_60 i3 := ⟨_, rfl⟩
   rw [← hv3525]
   have hb3526 : v3525.toInt8.toInt32 = v3525 := by rw [hv3525]; exact f1_60_byte i3
   refine k_bastore X3524 hx hZ e3524 Vw3523 ⟨by decide, by decide⟩ (i := 1) rfl (Nat.le_of_ble_eq_true rfl) (hb hby at_127) (pc' := 128) rfl (fun T3527 h3527 X3527 e3527 W3527 V3527 => ?_)
   rw [hb3526] at V3527
   have Vw3527 : Arv Z h3527 b3519 k3519 .byte (8 : Int32) [(.int v3521), (.int v3525), (.int (0 : Int32)), (.int (0 : Int32)), (.int (0 : Int32)), (.int (0 : Int32)), (.int (0 : Int32)), (.int (0 : Int32))] (.int (0 : Int32)) := V3527
   have N3527 := Fr.snoc X3527 N3524' g_b3519
   have Z3527 : n0 ≤ h3527.size := Nat.le_trans Z3523 (Nat.le_of_eq W3527.size.symm)
   refine k_aload X3527 hx (hb hby at_128) rfl rfl (pc' := 130) rfl ?_
   refine k_iconst X3527 hx (hb hby at_130) (pc' := 131) rfl (z := (2 : Int32)) rfl ?_
   refine k_lloadN X3527 hx (hb hby at_131) rfl (pc' := 132) rfl ?_
   refine k_iconst X3527 hx (hb hby at_132) (pc' := 133) rfl (z := (2 : Int32)) rfl ?_
   refine k_callS X3527 hx hZ hown (hw _ (List.mem_of_getElem? (i := 2) rfl)) (hw _ (List.mem_of_getElem? (i := 3) rfl)) (hw _ (List.mem_of_getElem? (i := 4) rfl)) (hw _ (List.mem_of_getElem? (i := 5) rfl)) (by decide) (rm1_65 l Z a0 hw [] i3 h3527 n0 Z3527 ) (by decide) (by decide) e3527 (by rw [hml]; rfl) (argsL := [(.long i3), (.int (2 : Int32))]) (rest := [(.int (2 : Int32)), (.ref b3519)]) (lenOf pd_0 rfl) rfl (W := 2) (Nat.le_refl _) rfl (hb hby at_133) (by decide) (by decide) (pc' := 136) rfl (fun T3528 L3528 r3528 X3528 q3528 => ?_)
   obtain ⟨N3528, e3528, rfl⟩ := q3528
   have N3528' := Fr.app N3527 N3528
   show KEnds p e below s _ _ _ T3528 (mkF m 136 #[.val (.int i0), .val (.int i1), .val (.int i2), .val (.long i3), .second, .val (.int v1), .val (.int (3 : Int32)), .val (.int v3013), .val (.int (2 : Int32)), .val (.ref b3519)] ((.int (f1_65 i3)) :: (.int (2 : Int32)) :: (.ref b3519) :: []))
   obtain ⟨v3529, hv3529⟩ : ∃ z, z = f1_65 i3 := ⟨_, rfl⟩
   rw [← hv3529]
   have hb3530 : v3529.toInt8.toInt32 = v3529 := by rw [hv3529]; exact f1_65_byte i3
   refine k_bastore X3528 hx hZ e3528 Vw3527 ⟨by decide, by decide⟩ (i := 2) rfl (Nat.le_of_ble_eq_true rfl) (hb hby at_136) (pc' := 137) rfl (fun T3531 h3531 X3531 e3531 W3531 V3531 => ?_)
   rw [hb3530] at V3531
   have Vw3531 : Arv Z h3531 b3519 k3519 .byte (8 : Int32) [(.int v3521), (.int v3525), (.int v3529), (.int (0 : Int32)), (.int (0 : Int32)), (.int (0 : Int32)), (.int (0 : Int32)), (.int (0 : Int32))] (.int (0 : Int32)) := V3531
   have N3531 := Fr.snoc X3531 N3528' g_b3519
   have Z3531 : n0 ≤ h3531.size := Nat.le_trans Z3527 (Nat.le_of_eq W3531.size.symm)
   refine k_aload X3531 hx (hb hby at_137) rfl rfl (pc' := 139) rfl ?_
   refine k_iconst X3531 hx (hb hby at_139) (pc' := 140) rfl (z := (3 : Int32)) rfl ?_
   refine k_lloadN X3531 hx (hb hby at_140) rfl (pc' := 141) rfl ?_
   refine k_iconst X3531 hx (hb hby at_141) (pc' := 142) rfl (z := (3 : Int32)) rfl ?_
   refine k_callS X3531 hx hZ hown (hw _ (List.mem_of_getElem? (i := 2) rfl)) (hw _ (List.mem_of_getElem? (i := 3) rfl)) (hw _ (List.mem_of_getElem? (i := 4) rfl)) (hw _ (List.mem_of_getElem? (i := 5) rfl)) (by decide) (rm1_70 l Z a0 hw [] i3 h3531 n0 Z3531 ) (by decide) (by decide) e3531 (by rw [hml]; rfl) (argsL := [(.long i3), (.int (3 : Int32))]) (rest := [(.int (3 : Int32)), (.ref b3519)]) (lenOf pd_0 rfl) rfl (W := 2) (Nat.le_refl _) rfl (hb hby at_142) (by decide) (by decide) (pc' := 145) rfl (fun T3532 L3532 r3532 X3532 q3532 => ?_)
   obtain ⟨N3532, e3532, rfl⟩ := q3532
   have N3532' := Fr.app N3531 N3532
   show KEnds p e below s _ _ _ T3532 (mkF m 145 #[.val (.int i0), .val (.int i1), .val (.int i2), .val (.long i3), .second, .val (.int v1), .val (.int (3 : Int32)), .val (.int v3013), .val (.int (2 : Int32)), .val (.ref b3519)] ((.int (f1_70 i3)) :: (.int (3 : Int32)) :: (.ref b3519) :: []))
   obtain ⟨v3533, hv3533⟩ : ∃ z, z = f1_70 i3 := ⟨_, rfl⟩
   rw [← hv3533]
   have hb3534 : v3533.toInt8.toInt32 = v3533 := by rw [hv3533]; exact f1_70_byte i3
   refine k_bastore X3532 hx hZ e3532 Vw3531 ⟨by decide, by decide⟩ (i := 3) rfl (Nat.le_of_ble_eq_true rfl) (hb hby at_145) (pc' := 146) rfl (fun T3535 h3535 X3535 e3535 W3535 V3535 => ?_)
   rw [hb3534] at V3535
   have Vw3535 : Arv Z h3535 b3519 k3519 .byte (8 : Int32) [(.int v3521), (.int v3525), (.int v3529), (.int v3533), (.int (0 : Int32)), (.int (0 : Int32)), (.int (0 : Int32)), (.int (0 : Int32))] (.int (0 : Int32)) := V3535
   have N3535 := Fr.snoc X3535 N3532' g_b3519
   have Z3535 : n0 ≤ h3535.size := Nat.le_trans Z3531 (Nat.le_of_eq W3535.size.symm)
   refine k_aload X3535 hx (hb hby at_146) rfl rfl (pc' := 148) rfl ?_
   refine k_iconst X3535 hx (hb hby at_148) (pc' := 149) rfl (z := (4 : Int32)) rfl ?_
   refine k_lloadN X3535 hx (hb hby at_149) rfl (pc' := 150) rfl ?_
   refine k_iconst X3535 hx (hb hby at_150) (pc' := 151) rfl (z := (4 : Int32)) rfl ?_
   refine k_callS X3535 hx hZ hown (hw _ (List.mem_of_getElem? (i := 2) rfl)) (hw _ (List.mem_of_getElem? (i := 3) rfl)) (hw _ (List.mem_of_getElem? (i := 4) rfl)) (hw _ (List.mem_of_getElem? (i := 5) rfl)) (by decide) (rm1_75 l Z a0 hw [] i3 h3535 n0 Z3535 ) (by decide) (by decide) e3535 (by rw [hml]; rfl) (argsL := [(.long i3), (.int (4 : Int32))]) (rest := [(.int (4 : Int32)), (.ref b3519)]) (lenOf pd_0 rfl) rfl (W := 2) (Nat.le_refl _) rfl (hb hby at_151) (by decide) (by decide) (pc' := 154) rfl (fun T3536 L3536 r3536 X3536 q3536 => ?_)
   obtain ⟨N3536, e3536, rfl⟩ := q3536
   have N3536' := Fr.app N3535 N3536
   show KEnds p e below s _ _ _ T3536 (mkF m 154 #[.val (.int i0), .val (.int i1), .val (.int i2), .val (.long i3), .second, .val (.int v1), .val (.int (3 : Int32)), .val (.int v3013), .val (.int (2 : Int32)), .val (.ref b3519)] ((.int (f1_75 i3)) :: (.int (4 : Int32)) :: (.ref b3519) :: []))
   obtain ⟨v3537, hv3537⟩ : ∃ z, z = f1_75 i3 := ⟨_, rfl⟩
   rw [← hv3537]
   have hb3538 : v3537.toInt8.toInt32 = v3537 := by rw [hv3537]; exact f1_75_byte i3
   refine k_bastore X3536 hx hZ e3536 Vw3535 ⟨by decide, by decide⟩ (i := 4) rfl (Nat.le_of_ble_eq_true rfl) (hb hby at_154) (pc' := 155) rfl (fun T3539 h3539 X3539 e3539 W3539 V3539 => ?_)
   rw [hb3538] at V3539
   have Vw3539 : Arv Z h3539 b3519 k3519 .byte (8 : Int32) [(.int v3521), (.int v3525), (.int v3529), (.int v3533), (.int v3537), (.int (0 : Int32)), (.int (0 : Int32)), (.int (0 : Int32))] (.int (0 : Int32)) := V3539
   have N3539 := Fr.snoc X3539 N3536' g_b3519
   have Z3539 : n0 ≤ h3539.size := Nat.le_trans Z3535 (Nat.le_of_eq W3539.size.symm)
   refine k_aload X3539 hx (hb hby at_155) rfl rfl (pc' := 157) rfl ?_
   refine k_iconst X3539 hx (hb hby at_157) (pc' := 158) rfl (z := (5 : Int32)) rfl ?_
   refine k_lloadN X3539 hx (hb hby at_158) rfl (pc' := 159) rfl ?_
   refine k_iconst X3539 hx (hb hby at_159) (pc' := 160) rfl (z := (5 : Int32)) rfl ?_
   refine k_callS X3539 hx hZ hown (hw _ (List.mem_of_getElem? (i := 2) rfl)) (hw _ (List.mem_of_getElem? (i := 3) rfl)) (hw _ (List.mem_of_getElem? (i := 4) rfl)) (hw _ (List.mem_of_getElem? (i := 5) rfl)) (by decide) (rm1_80 l Z a0 hw [] i3 h3539 n0 Z3539 ) (by decide) (by decide) e3539 (by rw [hml]; rfl) (argsL := [(.long i3), (.int (5 : Int32))]) (rest := [(.int (5 : Int32)), (.ref b3519)]) (lenOf pd_0 rfl) rfl (W := 2) (Nat.le_refl _) rfl (hb hby at_160) (by decide) (by decide) (pc' := 163) rfl (fun T3540 L3540 r3540 X3540 q3540 => ?_)
   obtain ⟨N3540, e3540, rfl⟩ := q3540
   have N3540' := Fr.app N3539 N3540
   show KEnds p e below s _ _ _ T3540 (mkF m 163 #[.val (.int i0), .val (.int i1), .val (.int i2), .val (.long i3), .second, .val (.int v1), .val (.int (3 : Int32)), .val (.int v3013), .val (.int (2 : Int32)), .val (.ref b3519)] ((.int (f1_80 i3)) :: (.int (5 : Int32)) :: (.ref b3519) :: []))
   obtain ⟨v3541, hv3541⟩ : ∃ z, z = f1_80 i3 := ⟨_, rfl⟩
   rw [← hv3541]
   have hb3542 : v3541.toInt8.toInt32 = v3541 := by rw [hv3541]; exact f1_80_byte i3
   refine k_bastore X3540 hx hZ e3540 Vw3539 ⟨by decide, by decide⟩ (i := 5) rfl (Nat.le_of_ble_eq_true rfl) (hb hby at_163) (pc' := 164) rfl (fun T3543 h3543 X3543 e3543 W3543 V3543 => ?_)
   rw [hb3542] at V3543
   have Vw3543 : Arv Z h3543 b3519 k3519 .byte (8 : Int32) [(.int v3521), (.int v3525), (.int v3529), (.int v3533), (.int v3537), (.int v3541), (.int (0 : Int32)), (.int (0 : Int32))] (.int (0 : Int32)) := V3543
   have N3543 := Fr.snoc X3543 N3540' g_b3519
   have Z3543 : n0 ≤ h3543.size := Nat.le_trans Z3539 (Nat.le_of_eq W3543.size.symm)
   refine k_aload X3543 hx (hb hby at_164) rfl rfl (pc' := 166) rfl ?_
   refine k_bipush X3543 hx (hb hby at_166) (pc' := 168) rfl (z := (6 : Int32)) rfl ?_
   refine k_lloadN X3543 hx (hb hby at_168) rfl (pc' := 169) rfl ?_
   refine k_bipush X3543 hx (hb hby at_169) (pc' := 171) rfl (z := (6 : Int32)) rfl ?_
   refine k_callS X3543 hx hZ hown (hw _ (List.mem_of_getElem? (i := 2) rfl)) (hw _ (List.mem_of_getElem? (i := 3) rfl)) (hw _ (List.mem_of_getElem? (i := 4) rfl)) (hw _ (List.mem_of_getElem? (i := 5) rfl)) (by decide) (rm1_85 l Z a0 hw [] i3 h3543 n0 Z3543 ) (by decide) (by decide) e3543 (by rw [hml]; rfl) (argsL := [(.long i3), (.int (6 : Int32))]) (rest := [(.int (6 : Int32)), (.ref b3519)]) (lenOf pd_0 rfl) rfl (W := 2) (Nat.le_refl _) rfl (hb hby at_171) (by decide) (by decide) (pc' := 174) rfl (fun T3544 L3544 r3544 X3544 q3544 => ?_)
   obtain ⟨N3544, e3544, rfl⟩ := q3544
   have N3544' := Fr.app N3543 N3544
   show KEnds p e below s _ _ _ T3544 (mkF m 174 #[.val (.int i0), .val (.int i1), .val (.int i2), .val (.long i3), .second, .val (.int v1), .val (.int (3 : Int32)), .val (.int v3013), .val (.int (2 : Int32)), .val (.ref b3519)] ((.int (f1_85 i3)) :: (.int (6 : Int32)) :: (.ref b3519) :: []))
   obtain ⟨v3545, hv3545⟩ : ∃ z, z = f1_85 i3 := ⟨_, rfl⟩
   rw [← hv3545]
   have hb3546 : v3545.toInt8.toInt32 = v3545 := by rw [hv3545]; exact f1_85_byte i3
   refine k_bastore X3544 hx hZ e3544 Vw3543 ⟨by decide, by decide⟩ (i := 6) rfl (Nat.le_of_ble_eq_true rfl) (hb hby at_174) (pc' := 175) rfl (fun T3547 h3547 X3547 e3547 W3547 V3547 => ?_)
   rw [hb3546] at V3547
   have Vw3547 : Arv Z h3547 b3519 k3519 .byte (8 : Int32) [(.int v3521), (.int v3525), (.int v3529), (.int v3533), (.int v3537), (.int v3541), (.int v3545), (.int (0 : Int32))] (.int (0 : Int32)) := V3547
   have N3547 := Fr.snoc X3547 N3544' g_b3519
   have Z3547 : n0 ≤ h3547.size := Nat.le_trans Z3543 (Nat.le_of_eq W3547.size.symm)
   refine k_aload X3547 hx (hb hby at_175) rfl rfl (pc' := 177) rfl ?_
   refine k_bipush X3547 hx (hb hby at_177) (pc' := 179) rfl (z := (7 : Int32)) rfl ?_
   refine k_lloadN X3547 hx (hb hby at_179) rfl (pc' := 180) rfl ?_
   refine k_bipush X3547 hx (hb hby at_180) (pc' := 182) rfl (z := (7 : Int32)) rfl ?_
   refine k_callS X3547 hx hZ hown (hw _ (List.mem_of_getElem? (i := 2) rfl)) (hw _ (List.mem_of_getElem? (i := 3) rfl)) (hw _ (List.mem_of_getElem? (i := 4) rfl)) (hw _ (List.mem_of_getElem? (i := 5) rfl)) (by decide) (rm1_90 l Z a0 hw [] i3 h3547 n0 Z3547 ) (by decide) (by decide) e3547 (by rw [hml]; rfl) (argsL := [(.long i3), (.int (7 : Int32))]) (rest := [(.int (7 : Int32)), (.ref b3519)]) (lenOf pd_0 rfl) rfl (W := 2) (Nat.le_refl _) rfl (hb hby at_182) (by decide) (by decide) (pc' := 185) rfl (fun T3548 L3548 r3548 X3548 q3548 => ?_)
   obtain ⟨N3548, e3548, rfl⟩ := q3548
   have N3548' := Fr.app N3547 N3548
   show KEnds p e below s _ _ _ T3548 (mkF m 185 #[.val (.int i0), .val (.int i1), .val (.int i2), .val (.long i3), .second, .val (.int v1), .val (.int (3 : Int32)), .val (.int v3013), .val (.int (2 : Int32)), .val (.ref b3519)] ((.int (f1_90 i3)) :: (.int (7 : Int32)) :: (.ref b3519) :: []))
   obtain ⟨v3549, hv3549⟩ : ∃ z, z = f1_90 i3 := ⟨_, rfl⟩
   rw [← hv3549]
   have hb3550 : v3549.toInt8.toInt32 = v3549 := by rw [hv3549]; exact f1_90_byte i3
   refine k_bastore X3548 hx hZ e3548 Vw3547 ⟨by decide, by decide⟩ (i := 7) rfl (Nat.le_of_ble_eq_true rfl) (hb hby at_185) (pc' := 186) rfl (fun T3551 h3551 X3551 e3551 W3551 V3551 => ?_)
   rw [hb3550] at V3551
   have Vw3551 : Arv Z h3551 b3519 k3519 .byte (8 : Int32) [(.int v3521), (.int v3525), (.int v3529), (.int v3533), (.int v3537), (.int v3541), (.int v3545), (.int v3549)] (.int (0 : Int32)) := V3551
   have N3551 := Fr.snoc X3551 N3548' g_b3519
   have Z3551 : n0 ≤ h3551.size := Nat.le_trans Z3547 (Nat.le_of_eq W3551.size.symm)
   refine k_iload X3551 hx (hb hby at_186) rfl (pc' := 188) rfl ?_
   refine k_if_ne X3551 hx (hb hby at_188) (pn := 191) rfl (py := 202) (by decide) (fun _ => ?_) (fun hc => absurd hc (by decide))
   refine k_iload X3551 hx (hb hby at_202) rfl (pc' := 204) rfl ?_
   refine k_iconst X3551 hx (hb hby at_204) (pc' := 205) rfl (z := (1 : Int32)) rfl ?_
   refine k_icmp_ne X3551 hx (hb hby at_205) (pn := 208) rfl (py := 243) (by decide) (fun _ => ?_) (fun hc => absurd hc (by decide))
   refine k_iload X3551 hx (hb hby at_243) rfl (pc' := 245) rfl ?_
   refine k_iconst X3551 hx (hb hby at_245) (pc' := 246) rfl (z := (2 : Int32)) rfl ?_
   refine k_icmp_ne X3551 hx (hb hby at_246) (pn := 249) rfl (py := 304) (by decide) (fun _ => ?_) (fun hc => absurd hc (by decide))
   refine k_aload X3551 hx (hb hby at_304) rfl rfl (pc' := 306) rfl ?_
   refine k_iload X3551 hx (hb hby at_306) rfl (pc' := 308) rfl ?_
   refine k_sipush X3551 hx (hb hby at_308) (pc' := 311) rfl (z := (240 : Int32)) rfl ?_
   refine k_iload X3551 hx (hb hby at_311) rfl (pc' := 313) rfl ?_
   refine k_bipush X3551 hx (hb hby at_313) (pc' := 315) rfl (z := (18 : Int32)) rfl ?_
   refine k_ishr X3551 hx (hb hby at_315) (pc' := 316) rfl (fun v3552 hv3552 => ?_)
   refine k_ior X3551 hx (hb hby at_316) (pc' := 317) rfl (fun v3553 hv3553 => ?_)
   refine k_i2b X3551 hx (hb hby at_317) (pc' := 318) rfl (fun v3554 hv3554 => ?_)
   refine k_bastore X3551 hx hZ e3551 Vw3551 ⟨by decide, by decide⟩ (i := 2) rfl (Nat.le_of_ble_eq_true rfl) (hb hby at_318) (pc' := 319) rfl (fun T3555 h3555 X3555 e3555 W3555 V3555 => ?_)
   have hb3556 : v3554.toInt8.toInt32 = v3554 := by rw [hv3554]; exact k_i2b2 _
   rw [hb3556] at V3555
   have Vw3555 : Arv Z h3555 b3519 k3519 .byte (8 : Int32) [(.int v3521), (.int v3525), (.int v3554), (.int v3533), (.int v3537), (.int v3541), (.int v3545), (.int v3549)] (.int (0 : Int32)) := V3555
   have N3555 := Fr.snoc X3555 N3551 g_b3519
   have Z3555 : n0 ≤ h3555.size := Nat.le_trans Z3551 (Nat.le_of_eq W3555.size.symm)
   refine k_aload X3555 hx (hb hby at_319) rfl rfl (pc' := 321) rfl ?_
   refine k_iload X3555 hx (hb hby at_321) rfl (pc' := 323) rfl ?_
   refine k_iconst X3555 hx (hb hby at_323) (pc' := 324) rfl (z := (1 : Int32)) rfl ?_
   refine k_iaddL X3555 hx (hb hby at_324) (pc' := 325) rfl (z := (3 : Int32)) (by decide) ?_
   refine k_sipush X3555 hx (hb hby at_325) (pc' := 328) rfl (z := (128 : Int32)) rfl ?_
   refine k_iload X3555 hx (hb hby at_328) rfl (pc' := 330) rfl ?_
   refine k_bipush X3555 hx (hb hby at_330) (pc' := 332) rfl (z := (12 : Int32)) rfl ?_
   refine k_ishr X3555 hx (hb hby at_332) (pc' := 333) rfl (fun v3557 hv3557 => ?_)
   refine k_bipush X3555 hx (hb hby at_333) (pc' := 335) rfl (z := (63 : Int32)) rfl ?_
   refine k_iand X3555 hx (hb hby at_335) (pc' := 336) rfl (fun v3558 hv3558 => ?_)
   refine k_ior X3555 hx (hb hby at_336) (pc' := 337) rfl (fun v3559 hv3559 => ?_)
   refine k_i2b X3555 hx (hb hby at_337) (pc' := 338) rfl (fun v3560 hv3560 => ?_)
   refine k_bastore X3555 hx hZ e3555 Vw3555 ⟨by decide, by decide⟩ (i := 3) rfl (Nat.le_of_ble_eq_true rfl) (hb hby at_338) (pc' := 339) rfl (fun T3561 h3561 X3561 e3561 W3561 V3561 => ?_)
   have hb3562 : v3560.toInt8.toInt32 = v3560 := by rw [hv3560]; exact k_i2b2 _
   rw [hb3562] at V3561
   have Vw3561 : Arv Z h3561 b3519 k3519 .byte (8 : Int32) [(.int v3521), (.int v3525), (.int v3554), (.int v3560), (.int v3537), (.int v3541), (.int v3545), (.int v3549)] (.int (0 : Int32)) := V3561
   have N3561 := Fr.snoc X3561 N3555 g_b3519
   have Z3561 : n0 ≤ h3561.size := Nat.le_trans Z3555 (Nat.le_of_eq W3561.size.symm)
   refine k_aload X3561 hx (hb hby at_339) rfl rfl (pc' := 341) rfl ?_
   refine k_iload X3561 hx (hb hby at_341) rfl (pc' := 343) rfl ?_
   refine k_iconst X3561 hx (hb hby at_343) (pc' := 344) rfl (z := (2 : Int32)) rfl ?_
   refine k_iaddL X3561 hx (hb hby at_344) (pc' := 345) rfl (z := (4 : Int32)) (by decide) ?_
   refine k_sipush X3561 hx (hb hby at_345) (pc' := 348) rfl (z := (128 : Int32)) rfl ?_
   refine k_iload X3561 hx (hb hby at_348) rfl (pc' := 350) rfl ?_
   refine k_bipush X3561 hx (hb hby at_350) (pc' := 352) rfl (z := (6 : Int32)) rfl ?_
   refine k_ishr X3561 hx (hb hby at_352) (pc' := 353) rfl (fun v3563 hv3563 => ?_)
   refine k_bipush X3561 hx (hb hby at_353) (pc' := 355) rfl (z := (63 : Int32)) rfl ?_
   refine k_iand X3561 hx (hb hby at_355) (pc' := 356) rfl (fun v3564 hv3564 => ?_)
   refine k_ior X3561 hx (hb hby at_356) (pc' := 357) rfl (fun v3565 hv3565 => ?_)
   refine k_i2b X3561 hx (hb hby at_357) (pc' := 358) rfl (fun v3566 hv3566 => ?_)
   refine k_bastore X3561 hx hZ e3561 Vw3561 ⟨by decide, by decide⟩ (i := 4) rfl (Nat.le_of_ble_eq_true rfl) (hb hby at_358) (pc' := 359) rfl (fun T3567 h3567 X3567 e3567 W3567 V3567 => ?_)
   have hb3568 : v3566.toInt8.toInt32 = v3566 := by rw [hv3566]; exact k_i2b2 _
   rw [hb3568] at V3567
   have Vw3567 : Arv Z h3567 b3519 k3519 .byte (8 : Int32) [(.int v3521), (.int v3525), (.int v3554), (.int v3560), (.int v3566), (.int v3541), (.int v3545), (.int v3549)] (.int (0 : Int32)) := V3567
   have N3567 := Fr.snoc X3567 N3561 g_b3519
   have Z3567 : n0 ≤ h3567.size := Nat.le_trans Z3561 (Nat.le_of_eq W3567.size.symm)
   refine k_aload X3567 hx (hb hby at_359) rfl rfl (pc' := 361) rfl ?_
   refine k_iload X3567 hx (hb hby at_361) rfl (pc' := 363) rfl ?_
   refine k_iconst X3567 hx (hb hby at_363) (pc' := 364) rfl (z := (3 : Int32)) rfl ?_
   refine k_iaddL X3567 hx (hb hby at_364) (pc' := 365) rfl (z := (5 : Int32)) (by decide) ?_
   refine k_sipush X3567 hx (hb hby at_365) (pc' := 368) rfl (z := (128 : Int32)) rfl ?_
   refine k_iload X3567 hx (hb hby at_368) rfl (pc' := 370) rfl ?_
   refine k_bipush X3567 hx (hb hby at_370) (pc' := 372) rfl (z := (63 : Int32)) rfl ?_
   refine k_iand X3567 hx (hb hby at_372) (pc' := 373) rfl (fun v3569 hv3569 => ?_)
   refine k_ior X3567 hx (hb hby at_373) (pc' := 374) rfl (fun v3570 hv3570 => ?_)
   refine k_i2b X3567 hx (hb hby at_374) (pc' := 375) rfl (fun v3571 hv3571 => ?_)
   refine k_bastore X3567 hx hZ e3567 Vw3567 ⟨by decide, by decide⟩ (i := 5) rfl (Nat.le_of_ble_eq_true rfl) (hb hby at_375) (pc' := 376) rfl (fun T3572 h3572 X3572 e3572 W3572 V3572 => ?_)
   have hb3573 : v3571.toInt8.toInt32 = v3571 := by rw [hv3571]; exact k_i2b2 _
   rw [hb3573] at V3572
   have Vw3572 : Arv Z h3572 b3519 k3519 .byte (8 : Int32) [(.int v3521), (.int v3525), (.int v3554), (.int v3560), (.int v3566), (.int v3571), (.int v3545), (.int v3549)] (.int (0 : Int32)) := V3572
   have N3572 := Fr.snoc X3572 N3567 g_b3519
   have Z3572 : n0 ≤ h3572.size := Nat.le_trans Z3567 (Nat.le_of_eq W3572.size.symm)
   refine k_aload X3572 hx (hb hby at_376) rfl rfl (pc' := 378) rfl ?_
   refine k_iload X3572 hx (hb hby at_378) rfl (pc' := 380) rfl ?_
   refine k_callS X3572 hx hZ hown (hw _ (List.mem_of_getElem? (i := 7) rfl)) (hw _ (List.mem_of_getElem? (i := 8) rfl)) (hw _ (List.mem_of_getElem? (i := 9) rfl)) (hw _ (List.mem_of_getElem? (i := 10) rfl)) (by decide) (rm2_543 l Z a0 hw [] b3519 k3519 v3521 v3525 v3554 v3560 v3566 v3571 v3545 v3549 h3572 n0 Z3572 Vw3572) (by decide) (by decide) e3572 (by rw [hml]; rfl) (argsL := [(.ref b3519), (.int (2 : Int32))]) (rest := []) (lenOf pd_2 rfl) rfl (W := 0) (Nat.le_refl _) rfl (hb hby at_380) (by decide) (by decide) (pc' := 383) rfl (fun T3574 L3574 r3574 X3574 q3574 => ?_)
   obtain ⟨N3574, e3574, q3574⟩ := q3574
   have N3574' := Fr.app N3572 N3574
   rcases q3574 with ⟨v3575, v3576, v3577, v3578, v3579, v3580, v3581, v3582, v3583, v3584, v3585, h3586, h3587, h3588, h3589, h3590, h3591, h3592, h3593, h3594, h3595, h3596, hc3597, hc3598, hc3599, rfl⟩ | ⟨v3600, v3601, v3602, v3603, v3604, v3605, v3606, v3607, h3608, h3609, h3610, h3611, h3612, h3613, h3614, h3615, hc3616, hc3617, hc3618, rfl⟩ | ⟨v3619, v3620, v3621, v3622, v3623, h3624, h3625, h3626, h3627, h3628, hc3629, hc3630, rfl⟩ | ⟨v3631, h3632, hc3633, rfl⟩
   ·
    show KEnds p e below s _ _ _ T3574 (mkF m 383 #[.val (.int i0), .val (.int i1), .val (.int i2), .val (.long i3), .second, .val (.int v1), .val (.int (3 : Int32)), .val (.int v3013), .val (.int (2 : Int32)), .val (.ref b3519)] [(.int v3585)])
    refine k_iload X3574 hx (hb hby at_383) rfl (pc' := 385) rfl ?_
    refine k_icmp_ne X3574 hx (hb hby at_385) (pn := 388) rfl (py := 392) (by decide) (fun hc3634 => ?_) (fun hc3634 => ?_)
    ·
     refine k_iconst X3574 hx (hb hby at_392) (pc' := 393) rfl (z := (0 : Int32)) rfl ?_
     exfalso
     have B3635 : (-2147483648 : Int) ≤ v3013.toInt ∧ v3013.toInt ≤ 2147483647 := ⟨(rng32 v3013).1, Int.le_of_lt_add_one (rng32 v3013).2⟩
     have B3638 : (65536 : Int) ≤ v3013.toInt ∧ v3013.toInt ≤ 2147483647 := ⟨k_ge hP3014.1 (by decide), B3635.2⟩
     have B3639 : (65536 : Int) ≤ v3013.toInt ∧ v3013.toInt ≤ 1114111 := ⟨B3638.1, k_le hP3014.2 (by decide)⟩
     have B3640 : (65536 : Int) ≤ (65536 : Int32).toInt ∧ (65536 : Int32).toInt ≤ 65536 := (by decide)
     have q3641 := hP3014.1; rw [Int32.lt_iff_toInt_lt] at q3641
     have B3642 : (1114111 : Int) ≤ (1114111 : Int32).toInt ∧ (1114111 : Int32).toInt ≤ 1114111 := (by decide)
     have q3643 := hP3014.2; rw [Int32.lt_iff_toInt_lt] at q3643
     have q3651 : v3552.toInt = v3013.toInt / 262144 := (by rw [hv3552]; exact c_ishr _ _ 18 (by decide))
     have B3650 : (0 : Int) ≤ v3552.toInt ∧ v3552.toInt ≤ 4 := (by rw [q3651]; exact k_divB B3639 (by decide) (by decide) (by decide))
     have q3649 : v3553.toInt = 240 + v3552.toInt := k_orx (k := 4) hv3553 B3650 (by decide) (by decide) (by decide) (by decide) (by decide) (by decide)
     have B3648 : (240 : Int) ≤ v3553.toInt ∧ v3553.toInt ≤ 244 := k_caddB q3649 B3650
     have q3647 : v3554.toInt = v3553.toInt - 256 := k_i2by hv3554 B3648 (by decide) (by decide)
     have B3646 : (-16 : Int) ≤ v3554.toInt ∧ v3554.toInt ≤ -12 := k_subB q3647 B3648
     have q3645 : v3575.toInt = v3554.toInt - (-256) := (by rw [h3586, c_mask _ _ 8 (by decide) (by decide)]; exact k_modx B3646 (by decide) (by decide))
     have B3644 : (240 : Int) ≤ v3575.toInt ∧ v3575.toInt ≤ 244 := k_subB q3645 B3646
     have B3652 : (128 : Int) ≤ (128 : Int32).toInt ∧ (128 : Int32).toInt ≤ 128 := (by decide)
     have q3653 := hc3597; rw [Int32.lt_iff_toInt_lt] at q3653
     have B3654 : (224 : Int) ≤ (224 : Int32).toInt ∧ (224 : Int32).toInt ≤ 224 := (by decide)
     have q3655 := hc3598; rw [Int32.lt_iff_toInt_lt] at q3655
     have B3656 : (240 : Int) ≤ (240 : Int32).toInt ∧ (240 : Int32).toInt ≤ 240 := (by decide)
     have q3657 := hc3599; rw [Int32.lt_iff_toInt_lt] at q3657
     have q3671 : v3576.toInt = v3575.toInt - (240) := (by rw [h3587, c_mask _ _ 3 (by decide) (by decide)]; exact k_modx B3644 (by decide) (by decide))
     have B3670 : (0 : Int) ≤ v3576.toInt ∧ v3576.toInt ≤ 4 := k_subB q3671 B3644
     have q3669 : v3577.toInt = 64 * v3576.toInt := k_ishlx (k := 6) h3588 B3670 (by decide) (by decide) (by decide)
     have B3668 : (0 : Int) ≤ v3577.toInt ∧ v3577.toInt ≤ 256 := (by rw [q3669]; exact k_mulB B3670 (by decide))
     have q3681 : v3557.toInt = v3013.toInt / 4096 := (by rw [hv3557]; exact c_ishr _ _ 12 (by decide))
     have B3680 : (16 : Int) ≤ v3557.toInt ∧ v3557.toInt ≤ 271 := (by rw [q3681]; exact k_divB B3639 (by decide) (by decide) (by decide))
     have q3679 : v3558.toInt = v3557.toInt % 64 := (by rw [hv3558]; exact c_mask _ _ 6 (by decide) (by decide))
     have B3678 : (0 : Int) ≤ v3558.toInt ∧ v3558.toInt ≤ 63 := (by rw [q3679]; exact k_modB (by decide))
     have q3677 : v3559.toInt = 128 + v3558.toInt := k_orx (k := 7) hv3559 B3678 (by decide) (by decide) (by decide) (by decide) (by decide) (by decide)
     have B3676 : (128 : Int) ≤ v3559.toInt ∧ v3559.toInt ≤ 191 := k_caddB q3677 B3678
     have q3675 : v3560.toInt = v3559.toInt - 256 := k_i2by hv3560 B3676 (by decide) (by decide)
     have B3674 : (-128 : Int) ≤ v3560.toInt ∧ v3560.toInt ≤ -65 := k_subB q3675 B3676
     have q3673 : v3578.toInt = v3560.toInt - (-128) := (by rw [h3589, c_mask _ _ 6 (by decide) (by decide)]; exact k_modx B3674 (by decide) (by decide))
     have B3672 : (0 : Int) ≤ v3578.toInt ∧ v3578.toInt ≤ 63 := k_subB q3673 B3674
     have q3667 : v3579.toInt = v3577.toInt + v3578.toInt := k_orx2 (k := 6) h3590 B3668 B3672 (by decide) (by decide) (by decide) (by decide) (by omega)
     have B3666 : (0 : Int) ≤ v3579.toInt ∧ v3579.toInt ≤ 319 := k_addB q3667 B3668 B3672
     have q3665 : v3580.toInt = 64 * v3579.toInt := k_ishlx (k := 6) h3591 B3666 (by decide) (by decide) (by decide)
     have B3664 : (0 : Int) ≤ v3580.toInt ∧ v3580.toInt ≤ 20416 := (by rw [q3665]; exact k_mulB B3666 (by decide))
     have q3691 : v3563.toInt = v3013.toInt / 64 := (by rw [hv3563]; exact c_ishr _ _ 6 (by decide))
     have B3690 : (1024 : Int) ≤ v3563.toInt ∧ v3563.toInt ≤ 17407 := (by rw [q3691]; exact k_divB B3639 (by decide) (by decide) (by decide))
     have q3689 : v3564.toInt = v3563.toInt % 64 := (by rw [hv3564]; exact c_mask _ _ 6 (by decide) (by decide))
     have B3688 : (0 : Int) ≤ v3564.toInt ∧ v3564.toInt ≤ 63 := (by rw [q3689]; exact k_modB (by decide))
     have q3687 : v3565.toInt = 128 + v3564.toInt := k_orx (k := 7) hv3565 B3688 (by decide) (by decide) (by decide) (by decide) (by decide) (by decide)
     have B3686 : (128 : Int) ≤ v3565.toInt ∧ v3565.toInt ≤ 191 := k_caddB q3687 B3688
     have q3685 : v3566.toInt = v3565.toInt - 256 := k_i2by hv3566 B3686 (by decide) (by decide)
     have B3684 : (-128 : Int) ≤ v3566.toInt ∧ v3566.toInt ≤ -65 := k_subB q3685 B3686
     have q3683 : v3581.toInt = v3566.toInt - (-128) := (by rw [h3592, c_mask _ _ 6 (by decide) (by decide)]; exact k_modx B3684 (by decide) (by decide))
     have B3682 : (0 : Int) ≤ v3581.toInt ∧ v3581.toInt ≤ 63 := k_subB q3683 B3684
     have q3663 : v3582.toInt = v3580.toInt + v3581.toInt := k_orx2 (k := 6) h3593 B3664 B3682 (by decide) (by decide) (by decide) (by decide) (by omega)
     have B3662 : (0 : Int) ≤ v3582.toInt ∧ v3582.toInt ≤ 20479 := k_addB q3663 B3664 B3682
     have q3661 : v3583.toInt = 64 * v3582.toInt := k_ishlx (k := 6) h3594 B3662 (by decide) (by decide) (by decide)
     have B3660 : (0 : Int) ≤ v3583.toInt ∧ v3583.toInt ≤ 1310656 := (by rw [q3661]; exact k_mulB B3662 (by decide))
     have q3699 : v3569.toInt = v3013.toInt % 64 := (by rw [hv3569]; exact c_mask _ _ 6 (by decide) (by decide))
     have B3698 : (0 : Int) ≤ v3569.toInt ∧ v3569.toInt ≤ 63 := (by rw [q3699]; exact k_modB (by decide))
     have q3697 : v3570.toInt = 128 + v3569.toInt := k_orx (k := 7) hv3570 B3698 (by decide) (by decide) (by decide) (by decide) (by decide) (by decide)
     have B3696 : (128 : Int) ≤ v3570.toInt ∧ v3570.toInt ≤ 191 := k_caddB q3697 B3698
     have q3695 : v3571.toInt = v3570.toInt - 256 := k_i2by hv3571 B3696 (by decide) (by decide)
     have B3694 : (-128 : Int) ≤ v3571.toInt ∧ v3571.toInt ≤ -65 := k_subB q3695 B3696
     have q3693 : v3584.toInt = v3571.toInt - (-128) := (by rw [h3595, c_mask _ _ 6 (by decide) (by decide)]; exact k_modx B3694 (by decide) (by decide))
     have B3692 : (0 : Int) ≤ v3584.toInt ∧ v3584.toInt ≤ 63 := k_subB q3693 B3694
     have q3659 : v3585.toInt = v3583.toInt + v3584.toInt := k_orx2 (k := 6) h3596 B3660 B3692 (by decide) (by decide) (by decide) (by decide) (by omega)
     have B3658 : (0 : Int) ≤ v3585.toInt ∧ v3585.toInt ≤ 1310719 := k_addB q3659 B3660 B3692
     have q3700 : ¬ v3585.toInt = v3013.toInt := fun q => hc3634 (Int32.toInt_inj.mp q)
     omega
    ·
     refine k_iconst X3574 hx (hb hby at_388) (pc' := 389) rfl (z := (1 : Int32)) rfl ?_
     refine k_goto X3574 hx (hb hby at_389) (pc' := 393) (by decide) ?_
     exact k_retN X3574 hx (t := .boolean) Bd.returns (by simp) (hb hby at_393) hlk (by decide) (by decide) (z' := (1 : Int32)) rfl ⟨rfl, N3574'⟩
   ·
    show KEnds p e below s _ _ _ T3574 (mkF m 383 #[.val (.int i0), .val (.int i1), .val (.int i2), .val (.long i3), .second, .val (.int v1), .val (.int (3 : Int32)), .val (.int v3013), .val (.int (2 : Int32)), .val (.ref b3519)] [(.int v3607)])
    exfalso
    have B3701 : (-2147483648 : Int) ≤ v3013.toInt ∧ v3013.toInt ≤ 2147483647 := ⟨(rng32 v3013).1, Int.le_of_lt_add_one (rng32 v3013).2⟩
    have B3704 : (65536 : Int) ≤ v3013.toInt ∧ v3013.toInt ≤ 2147483647 := ⟨k_ge hP3014.1 (by decide), B3701.2⟩
    have B3705 : (65536 : Int) ≤ v3013.toInt ∧ v3013.toInt ≤ 1114111 := ⟨B3704.1, k_le hP3014.2 (by decide)⟩
    have B3706 : (65536 : Int) ≤ (65536 : Int32).toInt ∧ (65536 : Int32).toInt ≤ 65536 := (by decide)
    have q3707 := hP3014.1; rw [Int32.lt_iff_toInt_lt] at q3707
    have B3708 : (1114111 : Int) ≤ (1114111 : Int32).toInt ∧ (1114111 : Int32).toInt ≤ 1114111 := (by decide)
    have q3709 := hP3014.2; rw [Int32.lt_iff_toInt_lt] at q3709
    have q3717 : v3552.toInt = v3013.toInt / 262144 := (by rw [hv3552]; exact c_ishr _ _ 18 (by decide))
    have B3716 : (0 : Int) ≤ v3552.toInt ∧ v3552.toInt ≤ 4 := (by rw [q3717]; exact k_divB B3705 (by decide) (by decide) (by decide))
    have q3715 : v3553.toInt = 240 + v3552.toInt := k_orx (k := 4) hv3553 B3716 (by decide) (by decide) (by decide) (by decide) (by decide) (by decide)
    have B3714 : (240 : Int) ≤ v3553.toInt ∧ v3553.toInt ≤ 244 := k_caddB q3715 B3716
    have q3713 : v3554.toInt = v3553.toInt - 256 := k_i2by hv3554 B3714 (by decide) (by decide)
    have B3712 : (-16 : Int) ≤ v3554.toInt ∧ v3554.toInt ≤ -12 := k_subB q3713 B3714
    have q3711 : v3600.toInt = v3554.toInt - (-256) := (by rw [h3608, c_mask _ _ 8 (by decide) (by decide)]; exact k_modx B3712 (by decide) (by decide))
    have B3710 : (240 : Int) ≤ v3600.toInt ∧ v3600.toInt ≤ 244 := k_subB q3711 B3712
    have B3718 : (240 : Int) ≤ v3600.toInt ∧ v3600.toInt ≤ 239 := ⟨B3710.1, k_lt hc3618 (by decide)⟩
    have B3719 : (128 : Int) ≤ (128 : Int32).toInt ∧ (128 : Int32).toInt ≤ 128 := (by decide)
    have q3720 := hc3616; rw [Int32.lt_iff_toInt_lt] at q3720
    have B3721 : (224 : Int) ≤ (224 : Int32).toInt ∧ (224 : Int32).toInt ≤ 224 := (by decide)
    have q3722 := hc3617; rw [Int32.lt_iff_toInt_lt] at q3722
    have B3723 : (240 : Int) ≤ (240 : Int32).toInt ∧ (240 : Int32).toInt ≤ 240 := (by decide)
    have q3724 := hc3618; rw [Int32.lt_iff_toInt_lt] at q3724
    omega
   ·
    show KEnds p e below s _ _ _ T3574 (mkF m 383 #[.val (.int i0), .val (.int i1), .val (.int i2), .val (.long i3), .second, .val (.int v1), .val (.int (3 : Int32)), .val (.int v3013), .val (.int (2 : Int32)), .val (.ref b3519)] [(.int v3623)])
    exfalso
    have B3725 : (-2147483648 : Int) ≤ v3013.toInt ∧ v3013.toInt ≤ 2147483647 := ⟨(rng32 v3013).1, Int.le_of_lt_add_one (rng32 v3013).2⟩
    have B3728 : (65536 : Int) ≤ v3013.toInt ∧ v3013.toInt ≤ 2147483647 := ⟨k_ge hP3014.1 (by decide), B3725.2⟩
    have B3729 : (65536 : Int) ≤ v3013.toInt ∧ v3013.toInt ≤ 1114111 := ⟨B3728.1, k_le hP3014.2 (by decide)⟩
    have B3730 : (65536 : Int) ≤ (65536 : Int32).toInt ∧ (65536 : Int32).toInt ≤ 65536 := (by decide)
    have q3731 := hP3014.1; rw [Int32.lt_iff_toInt_lt] at q3731
    have B3732 : (1114111 : Int) ≤ (1114111 : Int32).toInt ∧ (1114111 : Int32).toInt ≤ 1114111 := (by decide)
    have q3733 := hP3014.2; rw [Int32.lt_iff_toInt_lt] at q3733
    have q3741 : v3552.toInt = v3013.toInt / 262144 := (by rw [hv3552]; exact c_ishr _ _ 18 (by decide))
    have B3740 : (0 : Int) ≤ v3552.toInt ∧ v3552.toInt ≤ 4 := (by rw [q3741]; exact k_divB B3729 (by decide) (by decide) (by decide))
    have q3739 : v3553.toInt = 240 + v3552.toInt := k_orx (k := 4) hv3553 B3740 (by decide) (by decide) (by decide) (by decide) (by decide) (by decide)
    have B3738 : (240 : Int) ≤ v3553.toInt ∧ v3553.toInt ≤ 244 := k_caddB q3739 B3740
    have q3737 : v3554.toInt = v3553.toInt - 256 := k_i2by hv3554 B3738 (by decide) (by decide)
    have B3736 : (-16 : Int) ≤ v3554.toInt ∧ v3554.toInt ≤ -12 := k_subB q3737 B3738
    have q3735 : v3619.toInt = v3554.toInt - (-256) := (by rw [h3624, c_mask _ _ 8 (by decide) (by decide)]; exact k_modx B3736 (by decide) (by decide))
    have B3734 : (240 : Int) ≤ v3619.toInt ∧ v3619.toInt ≤ 244 := k_subB q3735 B3736
    have B3742 : (240 : Int) ≤ v3619.toInt ∧ v3619.toInt ≤ 223 := ⟨B3734.1, k_lt hc3630 (by decide)⟩
    have B3743 : (128 : Int) ≤ (128 : Int32).toInt ∧ (128 : Int32).toInt ≤ 128 := (by decide)
    have q3744 := hc3629; rw [Int32.lt_iff_toInt_lt] at q3744
    have B3745 : (224 : Int) ≤ (224 : Int32).toInt ∧ (224 : Int32).toInt ≤ 224 := (by decide)
    have q3746 := hc3630; rw [Int32.lt_iff_toInt_lt] at q3746
    omega
   ·
    show KEnds p e below s _ _ _ T3574 (mkF m 383 #[.val (.int i0), .val (.int i1), .val (.int i2), .val (.long i3), .second, .val (.int v1), .val (.int (3 : Int32)), .val (.int v3013), .val (.int (2 : Int32)), .val (.ref b3519)] [(.int v3631)])
    exfalso
    have B3747 : (-2147483648 : Int) ≤ v3013.toInt ∧ v3013.toInt ≤ 2147483647 := ⟨(rng32 v3013).1, Int.le_of_lt_add_one (rng32 v3013).2⟩
    have B3750 : (65536 : Int) ≤ v3013.toInt ∧ v3013.toInt ≤ 2147483647 := ⟨k_ge hP3014.1 (by decide), B3747.2⟩
    have B3751 : (65536 : Int) ≤ v3013.toInt ∧ v3013.toInt ≤ 1114111 := ⟨B3750.1, k_le hP3014.2 (by decide)⟩
    have B3752 : (65536 : Int) ≤ (65536 : Int32).toInt ∧ (65536 : Int32).toInt ≤ 65536 := (by decide)
    have q3753 := hP3014.1; rw [Int32.lt_iff_toInt_lt] at q3753
    have B3754 : (1114111 : Int) ≤ (1114111 : Int32).toInt ∧ (1114111 : Int32).toInt ≤ 1114111 := (by decide)
    have q3755 := hP3014.2; rw [Int32.lt_iff_toInt_lt] at q3755
    have q3763 : v3552.toInt = v3013.toInt / 262144 := (by rw [hv3552]; exact c_ishr _ _ 18 (by decide))
    have B3762 : (0 : Int) ≤ v3552.toInt ∧ v3552.toInt ≤ 4 := (by rw [q3763]; exact k_divB B3751 (by decide) (by decide) (by decide))
    have q3761 : v3553.toInt = 240 + v3552.toInt := k_orx (k := 4) hv3553 B3762 (by decide) (by decide) (by decide) (by decide) (by decide) (by decide)
    have B3760 : (240 : Int) ≤ v3553.toInt ∧ v3553.toInt ≤ 244 := k_caddB q3761 B3762
    have q3759 : v3554.toInt = v3553.toInt - 256 := k_i2by hv3554 B3760 (by decide) (by decide)
    have B3758 : (-16 : Int) ≤ v3554.toInt ∧ v3554.toInt ≤ -12 := k_subB q3759 B3760
    have q3757 : v3631.toInt = v3554.toInt - (-256) := (by rw [h3632, c_mask _ _ 8 (by decide) (by decide)]; exact k_modx B3758 (by decide) (by decide))
    have B3756 : (240 : Int) ≤ v3631.toInt ∧ v3631.toInt ≤ 244 := k_subB q3757 B3758
    have B3764 : (240 : Int) ≤ v3631.toInt ∧ v3631.toInt ≤ 127 := ⟨B3756.1, k_lt hc3633 (by decide)⟩
    have B3765 : (128 : Int) ≤ (128 : Int32).toInt ∧ (128 : Int32).toInt ≤ 128 := (by decide)
    have q3766 := hc3633; rw [Int32.lt_iff_toInt_lt] at q3766
    omega
  ·
   show KEnds p e below s _ _ _ s₁ (mkF m 102 #[.val (.int i0), .val (.int i1), .val (.int i2), .val (.long i3), .second, .val (.int v1), .val (.int (3 : Int32)), .val (.int v3013), .unset, .unset] [(.int (3 : Int32))])
   refine k_istore X0 hx (hb hby at_102) (Ls' := #[.val (.int i0), .val (.int i1), .val (.int i2), .val (.long i3), .second, .val (.int v1), .val (.int (3 : Int32)), .val (.int v3013), .val (.int (3 : Int32)), .unset]) rfl (pc' := 104) rfl ?_
   refine k_bipush X0 hx (hb hby at_104) (pc' := 106) rfl (z := (8 : Int32)) rfl ?_
   refine k_newA X0 hx hZ (hw _ (List.mem_of_getElem? (i := 1) rfl)) e0 (hb hby at_106) (by decide) (cap := 8) (by decide) (by decide) (by decide) (by decide) (pc' := 108) rfl (fun T3768 h3768 b3768 k3768 g3768 X3768 e3768 E3768 V3768 => ?_)
   have g_b3768 : n0 ≤ b3768 := Nat.le_trans Z0 (Nat.le_of_eq g3768.symm)
   have Z3768 : n0 ≤ h3768.size := Nat.le_trans Z0 E3768.1
   have Vw3768 : Arv Z h3768 b3768 k3768 .byte (8 : Int32) [(.int (0 : Int32)), (.int (0 : Int32)), (.int (0 : Int32)), (.int (0 : Int32)), (.int (0 : Int32)), (.int (0 : Int32)), (.int (0 : Int32)), (.int (0 : Int32))] (.int (0 : Int32)) := V3768
   refine k_astore X3768 hx (hb hby at_108) rfl (Ls' := #[.val (.int i0), .val (.int i1), .val (.int i2), .val (.long i3), .second, .val (.int v1), .val (.int (3 : Int32)), .val (.int v3013), .val (.int (3 : Int32)), .val (.ref b3768)]) rfl (pc' := 110) rfl ?_
   refine k_aload X3768 hx (hb hby at_110) rfl rfl (pc' := 112) rfl ?_
   refine k_iconst X3768 hx (hb hby at_112) (pc' := 113) rfl (z := (0 : Int32)) rfl ?_
   refine k_lloadN X3768 hx (hb hby at_113) rfl (pc' := 114) rfl ?_
   refine k_iconst X3768 hx (hb hby at_114) (pc' := 115) rfl (z := (0 : Int32)) rfl ?_
   refine k_callS X3768 hx hZ hown (hw _ (List.mem_of_getElem? (i := 2) rfl)) (hw _ (List.mem_of_getElem? (i := 3) rfl)) (hw _ (List.mem_of_getElem? (i := 4) rfl)) (hw _ (List.mem_of_getElem? (i := 5) rfl)) (by decide) (rm1_55 l Z a0 hw [] i3 h3768 n0 Z3768 ) (by decide) (by decide) e3768 (by rw [hml]; rfl) (argsL := [(.long i3), (.int (0 : Int32))]) (rest := [(.int (0 : Int32)), (.ref b3768)]) (lenOf pd_0 rfl) rfl (W := 2) (Nat.le_refl _) rfl (hb hby at_115) (by decide) (by decide) (pc' := 118) rfl (fun T3769 L3769 r3769 X3769 q3769 => ?_)
   obtain ⟨N3769, e3769, rfl⟩ := q3769
   have N3769' := Fr.app N0 N3769
   show KEnds p e below s _ _ _ T3769 (mkF m 118 #[.val (.int i0), .val (.int i1), .val (.int i2), .val (.long i3), .second, .val (.int v1), .val (.int (3 : Int32)), .val (.int v3013), .val (.int (3 : Int32)), .val (.ref b3768)] ((.int (f1_55 i3)) :: (.int (0 : Int32)) :: (.ref b3768) :: []))
   obtain ⟨v3770, hv3770⟩ : ∃ z, z = f1_55 i3 := ⟨_, rfl⟩
   rw [← hv3770]
   have hb3771 : v3770.toInt8.toInt32 = v3770 := by rw [hv3770]; exact f1_55_byte i3
   refine k_bastore X3769 hx hZ e3769 Vw3768 ⟨by decide, by decide⟩ (i := 0) rfl (Nat.le_of_ble_eq_true rfl) (hb hby at_118) (pc' := 119) rfl (fun T3772 h3772 X3772 e3772 W3772 V3772 => ?_)
   rw [hb3771] at V3772
   have Vw3772 : Arv Z h3772 b3768 k3768 .byte (8 : Int32) [(.int v3770), (.int (0 : Int32)), (.int (0 : Int32)), (.int (0 : Int32)), (.int (0 : Int32)), (.int (0 : Int32)), (.int (0 : Int32)), (.int (0 : Int32))] (.int (0 : Int32)) := V3772
   have N3772 := Fr.snoc X3772 N3769' g_b3768
   have Z3772 : n0 ≤ h3772.size := Nat.le_trans Z3768 (Nat.le_of_eq W3772.size.symm)
   refine k_aload X3772 hx (hb hby at_119) rfl rfl (pc' := 121) rfl ?_
   refine k_iconst X3772 hx (hb hby at_121) (pc' := 122) rfl (z := (1 : Int32)) rfl ?_
   refine k_lloadN X3772 hx (hb hby at_122) rfl (pc' := 123) rfl ?_
   refine k_iconst X3772 hx (hb hby at_123) (pc' := 124) rfl (z := (1 : Int32)) rfl ?_
   refine k_callS X3772 hx hZ hown (hw _ (List.mem_of_getElem? (i := 2) rfl)) (hw _ (List.mem_of_getElem? (i := 3) rfl)) (hw _ (List.mem_of_getElem? (i := 4) rfl)) (hw _ (List.mem_of_getElem? (i := 5) rfl)) (by decide) (rm1_60 l Z a0 hw [] i3 h3772 n0 Z3772 ) (by decide) (by decide) e3772 (by rw [hml]; rfl) (argsL := [(.long i3), (.int (1 : Int32))]) (rest := [(.int (1 : Int32)), (.ref b3768)]) (lenOf pd_0 rfl) rfl (W := 2) (Nat.le_refl _) rfl (hb hby at_124) (by decide) (by decide) (pc' := 127) rfl (fun T3773 L3773 r3773 X3773 q3773 => ?_)
   obtain ⟨N3773, e3773, rfl⟩ := q3773
   have N3773' := Fr.app N3772 N3773
   show KEnds p e below s _ _ _ T3773 (mkF m 127 #[.val (.int i0), .val (.int i1), .val (.int i2), .val (.long i3), .second, .val (.int v1), .val (.int (3 : Int32)), .val (.int v3013), .val (.int (3 : Int32)), .val (.ref b3768)] ((.int (f1_60 i3)) :: (.int (1 : Int32)) :: (.ref b3768) :: []))
   obtain ⟨v3774, hv3774⟩ : ∃ z, z = f1_60 i3 := ⟨_, rfl⟩
   rw [← hv3774]
   have hb3775 : v3774.toInt8.toInt32 = v3774 := by rw [hv3774]; exact f1_60_byte i3
   refine k_bastore X3773 hx hZ e3773 Vw3772 ⟨by decide, by decide⟩ (i := 1) rfl (Nat.le_of_ble_eq_true rfl) (hb hby at_127) (pc' := 128) rfl (fun T3776 h3776 X3776 e3776 W3776 V3776 => ?_)
   rw [hb3775] at V3776
   have Vw3776 : Arv Z h3776 b3768 k3768 .byte (8 : Int32) [(.int v3770), (.int v3774), (.int (0 : Int32)), (.int (0 : Int32)), (.int (0 : Int32)), (.int (0 : Int32)), (.int (0 : Int32)), (.int (0 : Int32))] (.int (0 : Int32)) := V3776
   have N3776 := Fr.snoc X3776 N3773' g_b3768
   have Z3776 : n0 ≤ h3776.size := Nat.le_trans Z3772 (Nat.le_of_eq W3776.size.symm)
   refine k_aload X3776 hx (hb hby at_128) rfl rfl (pc' := 130) rfl ?_
   refine k_iconst X3776 hx (hb hby at_130) (pc' := 131) rfl (z := (2 : Int32)) rfl ?_
   refine k_lloadN X3776 hx (hb hby at_131) rfl (pc' := 132) rfl ?_
   refine k_iconst X3776 hx (hb hby at_132) (pc' := 133) rfl (z := (2 : Int32)) rfl ?_
   refine k_callS X3776 hx hZ hown (hw _ (List.mem_of_getElem? (i := 2) rfl)) (hw _ (List.mem_of_getElem? (i := 3) rfl)) (hw _ (List.mem_of_getElem? (i := 4) rfl)) (hw _ (List.mem_of_getElem? (i := 5) rfl)) (by decide) (rm1_65 l Z a0 hw [] i3 h3776 n0 Z3776 ) (by decide) (by decide) e3776 (by rw [hml]; rfl) (argsL := [(.long i3), (.int (2 : Int32))]) (rest := [(.int (2 : Int32)), (.ref b3768)]) (lenOf pd_0 rfl) rfl (W := 2) (Nat.le_refl _) rfl (hb hby at_133) (by decide) (by decide) (pc' := 136) rfl (fun T3777 L3777 r3777 X3777 q3777 => ?_)
   obtain ⟨N3777, e3777, rfl⟩ := q3777
   have N3777' := Fr.app N3776 N3777
   show KEnds p e below s _ _ _ T3777 (mkF m 136 #[.val (.int i0), .val (.int i1), .val (.int i2), .val (.long i3), .second, .val (.int v1), .val (.int (3 : Int32)), .val (.int v3013), .val (.int (3 : Int32)), .val (.ref b3768)] ((.int (f1_65 i3)) :: (.int (2 : Int32)) :: (.ref b3768) :: []))
   obtain ⟨v3778, hv3778⟩ : ∃ z, z = f1_65 i3 := ⟨_, rfl⟩
   rw [← hv3778]
   have hb3779 : v3778.toInt8.toInt32 = v3778 := by rw [hv3778]; exact f1_65_byte i3
   refine k_bastore X3777 hx hZ e3777 Vw3776 ⟨by decide, by decide⟩ (i := 2) rfl (Nat.le_of_ble_eq_true rfl) (hb hby at_136) (pc' := 137) rfl (fun T3780 h3780 X3780 e3780 W3780 V3780 => ?_)
   rw [hb3779] at V3780
   have Vw3780 : Arv Z h3780 b3768 k3768 .byte (8 : Int32) [(.int v3770), (.int v3774), (.int v3778), (.int (0 : Int32)), (.int (0 : Int32)), (.int (0 : Int32)), (.int (0 : Int32)), (.int (0 : Int32))] (.int (0 : Int32)) := V3780
   have N3780 := Fr.snoc X3780 N3777' g_b3768
   have Z3780 : n0 ≤ h3780.size := Nat.le_trans Z3776 (Nat.le_of_eq W3780.size.symm)
   refine k_aload X3780 hx (hb hby at_137) rfl rfl (pc' := 139) rfl ?_
   refine k_iconst X3780 hx (hb hby at_139) (pc' := 140) rfl (z := (3 : Int32)) rfl ?_
   refine k_lloadN X3780 hx (hb hby at_140) rfl (pc' := 141) rfl ?_
   refine k_iconst X3780 hx (hb hby at_141) (pc' := 142) rfl (z := (3 : Int32)) rfl ?_
   refine k_callS X3780 hx hZ hown (hw _ (List.mem_of_getElem? (i := 2) rfl)) (hw _ (List.mem_of_getElem? (i := 3) rfl)) (hw _ (List.mem_of_getElem? (i := 4) rfl)) (hw _ (List.mem_of_getElem? (i := 5) rfl)) (by decide) (rm1_70 l Z a0 hw [] i3 h3780 n0 Z3780 ) (by decide) (by decide) e3780 (by rw [hml]; rfl) (argsL := [(.long i3), (.int (3 : Int32))]) (rest := [(.int (3 : Int32)), (.ref b3768)]) (lenOf pd_0 rfl) rfl (W := 2) (Nat.le_refl _) rfl (hb hby at_142) (by decide) (by decide) (pc' := 145) rfl (fun T3781 L3781 r3781 X3781 q3781 => ?_)
   obtain ⟨N3781, e3781, rfl⟩ := q3781
   have N3781' := Fr.app N3780 N3781
   show KEnds p e below s _ _ _ T3781 (mkF m 145 #[.val (.int i0), .val (.int i1), .val (.int i2), .val (.long i3), .second, .val (.int v1), .val (.int (3 : Int32)), .val (.int v3013), .val (.int (3 : Int32)), .val (.ref b3768)] ((.int (f1_70 i3)) :: (.int (3 : Int32)) :: (.ref b3768) :: []))
   obtain ⟨v3782, hv3782⟩ : ∃ z, z = f1_70 i3 := ⟨_, rfl⟩
   rw [← hv3782]
   have hb3783 : v3782.toInt8.toInt32 = v3782 := by rw [hv3782]; exact f1_70_byte i3
   refine k_bastore X3781 hx hZ e3781 Vw3780 ⟨by decide, by decide⟩ (i := 3) rfl (Nat.le_of_ble_eq_true rfl) (hb hby at_145) (pc' := 146) rfl (fun T3784 h3784 X3784 e3784 W3784 V3784 => ?_)
   rw [hb3783] at V3784
   have Vw3784 : Arv Z h3784 b3768 k3768 .byte (8 : Int32) [(.int v3770), (.int v3774), (.int v3778), (.int v3782), (.int (0 : Int32)), (.int (0 : Int32)), (.int (0 : Int32)), (.int (0 : Int32))] (.int (0 : Int32)) := V3784
   have N3784 := Fr.snoc X3784 N3781' g_b3768
   have Z3784 : n0 ≤ h3784.size := Nat.le_trans Z3780 (Nat.le_of_eq W3784.size.symm)
   refine k_aload X3784 hx (hb hby at_146) rfl rfl (pc' := 148) rfl ?_
   refine k_iconst X3784 hx (hb hby at_148) (pc' := 149) rfl (z := (4 : Int32)) rfl ?_
   refine k_lloadN X3784 hx (hb hby at_149) rfl (pc' := 150) rfl ?_
   refine k_iconst X3784 hx (hb hby at_150) (pc' := 151) rfl (z := (4 : Int32)) rfl ?_
   refine k_callS X3784 hx hZ hown (hw _ (List.mem_of_getElem? (i := 2) rfl)) (hw _ (List.mem_of_getElem? (i := 3) rfl)) (hw _ (List.mem_of_getElem? (i := 4) rfl)) (hw _ (List.mem_of_getElem? (i := 5) rfl)) (by decide) (rm1_75 l Z a0 hw [] i3 h3784 n0 Z3784 ) (by decide) (by decide) e3784 (by rw [hml]; rfl) (argsL := [(.long i3), (.int (4 : Int32))]) (rest := [(.int (4 : Int32)), (.ref b3768)]) (lenOf pd_0 rfl) rfl (W := 2) (Nat.le_refl _) rfl (hb hby at_151) (by decide) (by decide) (pc' := 154) rfl (fun T3785 L3785 r3785 X3785 q3785 => ?_)
   obtain ⟨N3785, e3785, rfl⟩ := q3785
   have N3785' := Fr.app N3784 N3785
   show KEnds p e below s _ _ _ T3785 (mkF m 154 #[.val (.int i0), .val (.int i1), .val (.int i2), .val (.long i3), .second, .val (.int v1), .val (.int (3 : Int32)), .val (.int v3013), .val (.int (3 : Int32)), .val (.ref b3768)] ((.int (f1_75 i3)) :: (.int (4 : Int32)) :: (.ref b3768) :: []))
   obtain ⟨v3786, hv3786⟩ : ∃ z, z = f1_75 i3 := ⟨_, rfl⟩
   rw [← hv3786]
   have hb3787 : v3786.toInt8.toInt32 = v3786 := by rw [hv3786]; exact f1_75_byte i3
   refine k_bastore X3785 hx hZ e3785 Vw3784 ⟨by decide, by decide⟩ (i := 4) rfl (Nat.le_of_ble_eq_true rfl) (hb hby at_154) (pc' := 155) rfl (fun T3788 h3788 X3788 e3788 W3788 V3788 => ?_)
   rw [hb3787] at V3788
   have Vw3788 : Arv Z h3788 b3768 k3768 .byte (8 : Int32) [(.int v3770), (.int v3774), (.int v3778), (.int v3782), (.int v3786), (.int (0 : Int32)), (.int (0 : Int32)), (.int (0 : Int32))] (.int (0 : Int32)) := V3788
   have N3788 := Fr.snoc X3788 N3785' g_b3768
   have Z3788 : n0 ≤ h3788.size := Nat.le_trans Z3784 (Nat.le_of_eq W3788.size.symm)
   refine k_aload X3788 hx (hb hby at_155) rfl rfl (pc' := 157) rfl ?_
   refine k_iconst X3788 hx (hb hby at_157) (pc' := 158) rfl (z := (5 : Int32)) rfl ?_
   refine k_lloadN X3788 hx (hb hby at_158) rfl (pc' := 159) rfl ?_
   refine k_iconst X3788 hx (hb hby at_159) (pc' := 160) rfl (z := (5 : Int32)) rfl ?_
   refine k_callS X3788 hx hZ hown (hw _ (List.mem_of_getElem? (i := 2) rfl)) (hw _ (List.mem_of_getElem? (i := 3) rfl)) (hw _ (List.mem_of_getElem? (i := 4) rfl)) (hw _ (List.mem_of_getElem? (i := 5) rfl)) (by decide) (rm1_80 l Z a0 hw [] i3 h3788 n0 Z3788 ) (by decide) (by decide) e3788 (by rw [hml]; rfl) (argsL := [(.long i3), (.int (5 : Int32))]) (rest := [(.int (5 : Int32)), (.ref b3768)]) (lenOf pd_0 rfl) rfl (W := 2) (Nat.le_refl _) rfl (hb hby at_160) (by decide) (by decide) (pc' := 163) rfl (fun T3789 L3789 r3789 X3789 q3789 => ?_)
   obtain ⟨N3789, e3789, rfl⟩ := q3789
   have N3789' := Fr.app N3788 N3789
   show KEnds p e below s _ _ _ T3789 (mkF m 163 #[.val (.int i0), .val (.int i1), .val (.int i2), .val (.long i3), .second, .val (.int v1), .val (.int (3 : Int32)), .val (.int v3013), .val (.int (3 : Int32)), .val (.ref b3768)] ((.int (f1_80 i3)) :: (.int (5 : Int32)) :: (.ref b3768) :: []))
   obtain ⟨v3790, hv3790⟩ : ∃ z, z = f1_80 i3 := ⟨_, rfl⟩
   rw [← hv3790]
   have hb3791 : v3790.toInt8.toInt32 = v3790 := by rw [hv3790]; exact f1_80_byte i3
   refine k_bastore X3789 hx hZ e3789 Vw3788 ⟨by decide, by decide⟩ (i := 5) rfl (Nat.le_of_ble_eq_true rfl) (hb hby at_163) (pc' := 164) rfl (fun T3792 h3792 X3792 e3792 W3792 V3792 => ?_)
   rw [hb3791] at V3792
   have Vw3792 : Arv Z h3792 b3768 k3768 .byte (8 : Int32) [(.int v3770), (.int v3774), (.int v3778), (.int v3782), (.int v3786), (.int v3790), (.int (0 : Int32)), (.int (0 : Int32))] (.int (0 : Int32)) := V3792
   have N3792 := Fr.snoc X3792 N3789' g_b3768
   have Z3792 : n0 ≤ h3792.size := Nat.le_trans Z3788 (Nat.le_of_eq W3792.size.symm)
   refine k_aload X3792 hx (hb hby at_164) rfl rfl (pc' := 166) rfl ?_
   refine k_bipush X3792 hx (hb hby at_166) (pc' := 168) rfl (z := (6 : Int32)) rfl ?_
   refine k_lloadN X3792 hx (hb hby at_168) rfl (pc' := 169) rfl ?_
   refine k_bipush X3792 hx (hb hby at_169) (pc' := 171) rfl (z := (6 : Int32)) rfl ?_
   refine k_callS X3792 hx hZ hown (hw _ (List.mem_of_getElem? (i := 2) rfl)) (hw _ (List.mem_of_getElem? (i := 3) rfl)) (hw _ (List.mem_of_getElem? (i := 4) rfl)) (hw _ (List.mem_of_getElem? (i := 5) rfl)) (by decide) (rm1_85 l Z a0 hw [] i3 h3792 n0 Z3792 ) (by decide) (by decide) e3792 (by rw [hml]; rfl) (argsL := [(.long i3), (.int (6 : Int32))]) (rest := [(.int (6 : Int32)), (.ref b3768)]) (lenOf pd_0 rfl) rfl (W := 2) (Nat.le_refl _) rfl (hb hby at_171) (by decide) (by decide) (pc' := 174) rfl (fun T3793 L3793 r3793 X3793 q3793 => ?_)
   obtain ⟨N3793, e3793, rfl⟩ := q3793
   have N3793' := Fr.app N3792 N3793
   show KEnds p e below s _ _ _ T3793 (mkF m 174 #[.val (.int i0), .val (.int i1), .val (.int i2), .val (.long i3), .second, .val (.int v1), .val (.int (3 : Int32)), .val (.int v3013), .val (.int (3 : Int32)), .val (.ref b3768)] ((.int (f1_85 i3)) :: (.int (6 : Int32)) :: (.ref b3768) :: []))
   obtain ⟨v3794, hv3794⟩ : ∃ z, z = f1_85 i3 := ⟨_, rfl⟩
   rw [← hv3794]
   have hb3795 : v3794.toInt8.toInt32 = v3794 := by rw [hv3794]; exact f1_85_byte i3
   refine k_bastore X3793 hx hZ e3793 Vw3792 ⟨by decide, by decide⟩ (i := 6) rfl (Nat.le_of_ble_eq_true rfl) (hb hby at_174) (pc' := 175) rfl (fun T3796 h3796 X3796 e3796 W3796 V3796 => ?_)
   rw [hb3795] at V3796
   have Vw3796 : Arv Z h3796 b3768 k3768 .byte (8 : Int32) [(.int v3770), (.int v3774), (.int v3778), (.int v3782), (.int v3786), (.int v3790), (.int v3794), (.int (0 : Int32))] (.int (0 : Int32)) := V3796
   have N3796 := Fr.snoc X3796 N3793' g_b3768
   have Z3796 : n0 ≤ h3796.size := Nat.le_trans Z3792 (Nat.le_of_eq W3796.size.symm)
   refine k_aload X3796 hx (hb hby at_175) rfl rfl (pc' := 177) rfl ?_
   refine k_bipush X3796 hx (hb hby at_177) (pc' := 179) rfl (z := (7 : Int32)) rfl ?_
   refine k_lloadN X3796 hx (hb hby at_179) rfl (pc' := 180) rfl ?_
   refine k_bipush X3796 hx (hb hby at_180) (pc' := 182) rfl (z := (7 : Int32)) rfl ?_
   refine k_callS X3796 hx hZ hown (hw _ (List.mem_of_getElem? (i := 2) rfl)) (hw _ (List.mem_of_getElem? (i := 3) rfl)) (hw _ (List.mem_of_getElem? (i := 4) rfl)) (hw _ (List.mem_of_getElem? (i := 5) rfl)) (by decide) (rm1_90 l Z a0 hw [] i3 h3796 n0 Z3796 ) (by decide) (by decide) e3796 (by rw [hml]; rfl) (argsL := [(.long i3), (.int (7 : Int32))]) (rest := [(.int (7 : Int32)), (.ref b3768)]) (lenOf pd_0 rfl) rfl (W := 2) (Nat.le_refl _) rfl (hb hby at_182) (by decide) (by decide) (pc' := 185) rfl (fun T3797 L3797 r3797 X3797 q3797 => ?_)
   obtain ⟨N3797, e3797, rfl⟩ := q3797
   have N3797' := Fr.app N3796 N3797
   show KEnds p e below s _ _ _ T3797 (mkF m 185 #[.val (.int i0), .val (.int i1), .val (.int i2), .val (.long i3), .second, .val (.int v1), .val (.int (3 : Int32)), .val (.int v3013), .val (.int (3 : Int32)), .val (.ref b3768)] ((.int (f1_90 i3)) :: (.int (7 : Int32)) :: (.ref b3768) :: []))
   obtain ⟨v3798, hv3798⟩ : ∃ z, z = f1_90 i3 := ⟨_, rfl⟩
   rw [← hv3798]
   have hb3799 : v3798.toInt8.toInt32 = v3798 := by rw [hv3798]; exact f1_90_byte i3
   refine k_bastore X3797 hx hZ e3797 Vw3796 ⟨by decide, by decide⟩ (i := 7) rfl (Nat.le_of_ble_eq_true rfl) (hb hby at_185) (pc' := 186) rfl (fun T3800 h3800 X3800 e3800 W3800 V3800 => ?_)
   rw [hb3799] at V3800
   have Vw3800 : Arv Z h3800 b3768 k3768 .byte (8 : Int32) [(.int v3770), (.int v3774), (.int v3778), (.int v3782), (.int v3786), (.int v3790), (.int v3794), (.int v3798)] (.int (0 : Int32)) := V3800
   have N3800 := Fr.snoc X3800 N3797' g_b3768
   have Z3800 : n0 ≤ h3800.size := Nat.le_trans Z3796 (Nat.le_of_eq W3800.size.symm)
   refine k_iload X3800 hx (hb hby at_186) rfl (pc' := 188) rfl ?_
   refine k_if_ne X3800 hx (hb hby at_188) (pn := 191) rfl (py := 202) (by decide) (fun _ => ?_) (fun hc => absurd hc (by decide))
   refine k_iload X3800 hx (hb hby at_202) rfl (pc' := 204) rfl ?_
   refine k_iconst X3800 hx (hb hby at_204) (pc' := 205) rfl (z := (1 : Int32)) rfl ?_
   refine k_icmp_ne X3800 hx (hb hby at_205) (pn := 208) rfl (py := 243) (by decide) (fun _ => ?_) (fun hc => absurd hc (by decide))
   refine k_iload X3800 hx (hb hby at_243) rfl (pc' := 245) rfl ?_
   refine k_iconst X3800 hx (hb hby at_245) (pc' := 246) rfl (z := (2 : Int32)) rfl ?_
   refine k_icmp_ne X3800 hx (hb hby at_246) (pn := 249) rfl (py := 304) (by decide) (fun _ => ?_) (fun hc => absurd hc (by decide))
   refine k_aload X3800 hx (hb hby at_304) rfl rfl (pc' := 306) rfl ?_
   refine k_iload X3800 hx (hb hby at_306) rfl (pc' := 308) rfl ?_
   refine k_sipush X3800 hx (hb hby at_308) (pc' := 311) rfl (z := (240 : Int32)) rfl ?_
   refine k_iload X3800 hx (hb hby at_311) rfl (pc' := 313) rfl ?_
   refine k_bipush X3800 hx (hb hby at_313) (pc' := 315) rfl (z := (18 : Int32)) rfl ?_
   refine k_ishr X3800 hx (hb hby at_315) (pc' := 316) rfl (fun v3801 hv3801 => ?_)
   refine k_ior X3800 hx (hb hby at_316) (pc' := 317) rfl (fun v3802 hv3802 => ?_)
   refine k_i2b X3800 hx (hb hby at_317) (pc' := 318) rfl (fun v3803 hv3803 => ?_)
   refine k_bastore X3800 hx hZ e3800 Vw3800 ⟨by decide, by decide⟩ (i := 3) rfl (Nat.le_of_ble_eq_true rfl) (hb hby at_318) (pc' := 319) rfl (fun T3804 h3804 X3804 e3804 W3804 V3804 => ?_)
   have hb3805 : v3803.toInt8.toInt32 = v3803 := by rw [hv3803]; exact k_i2b2 _
   rw [hb3805] at V3804
   have Vw3804 : Arv Z h3804 b3768 k3768 .byte (8 : Int32) [(.int v3770), (.int v3774), (.int v3778), (.int v3803), (.int v3786), (.int v3790), (.int v3794), (.int v3798)] (.int (0 : Int32)) := V3804
   have N3804 := Fr.snoc X3804 N3800 g_b3768
   have Z3804 : n0 ≤ h3804.size := Nat.le_trans Z3800 (Nat.le_of_eq W3804.size.symm)
   refine k_aload X3804 hx (hb hby at_319) rfl rfl (pc' := 321) rfl ?_
   refine k_iload X3804 hx (hb hby at_321) rfl (pc' := 323) rfl ?_
   refine k_iconst X3804 hx (hb hby at_323) (pc' := 324) rfl (z := (1 : Int32)) rfl ?_
   refine k_iaddL X3804 hx (hb hby at_324) (pc' := 325) rfl (z := (4 : Int32)) (by decide) ?_
   refine k_sipush X3804 hx (hb hby at_325) (pc' := 328) rfl (z := (128 : Int32)) rfl ?_
   refine k_iload X3804 hx (hb hby at_328) rfl (pc' := 330) rfl ?_
   refine k_bipush X3804 hx (hb hby at_330) (pc' := 332) rfl (z := (12 : Int32)) rfl ?_
   refine k_ishr X3804 hx (hb hby at_332) (pc' := 333) rfl (fun v3806 hv3806 => ?_)
   refine k_bipush X3804 hx (hb hby at_333) (pc' := 335) rfl (z := (63 : Int32)) rfl ?_
   refine k_iand X3804 hx (hb hby at_335) (pc' := 336) rfl (fun v3807 hv3807 => ?_)
   refine k_ior X3804 hx (hb hby at_336) (pc' := 337) rfl (fun v3808 hv3808 => ?_)
   refine k_i2b X3804 hx (hb hby at_337) (pc' := 338) rfl (fun v3809 hv3809 => ?_)
   refine k_bastore X3804 hx hZ e3804 Vw3804 ⟨by decide, by decide⟩ (i := 4) rfl (Nat.le_of_ble_eq_true rfl) (hb hby at_338) (pc' := 339) rfl (fun T3810 h3810 X3810 e3810 W3810 V3810 => ?_)
   have hb3811 : v3809.toInt8.toInt32 = v3809 := by rw [hv3809]; exact k_i2b2 _
   rw [hb3811] at V3810
   have Vw3810 : Arv Z h3810 b3768 k3768 .byte (8 : Int32) [(.int v3770), (.int v3774), (.int v3778), (.int v3803), (.int v3809), (.int v3790), (.int v3794), (.int v3798)] (.int (0 : Int32)) := V3810
   have N3810 := Fr.snoc X3810 N3804 g_b3768
   have Z3810 : n0 ≤ h3810.size := Nat.le_trans Z3804 (Nat.le_of_eq W3810.size.symm)
   refine k_aload X3810 hx (hb hby at_339) rfl rfl (pc' := 341) rfl ?_
   refine k_iload X3810 hx (hb hby at_341) rfl (pc' := 343) rfl ?_
   refine k_iconst X3810 hx (hb hby at_343) (pc' := 344) rfl (z := (2 : Int32)) rfl ?_
   refine k_iaddL X3810 hx (hb hby at_344) (pc' := 345) rfl (z := (5 : Int32)) (by decide) ?_
   refine k_sipush X3810 hx (hb hby at_345) (pc' := 348) rfl (z := (128 : Int32)) rfl ?_
   refine k_iload X3810 hx (hb hby at_348) rfl (pc' := 350) rfl ?_
   refine k_bipush X3810 hx (hb hby at_350) (pc' := 352) rfl (z := (6 : Int32)) rfl ?_
   refine k_ishr X3810 hx (hb hby at_352) (pc' := 353) rfl (fun v3812 hv3812 => ?_)
   refine k_bipush X3810 hx (hb hby at_353) (pc' := 355) rfl (z := (63 : Int32)) rfl ?_
   refine k_iand X3810 hx (hb hby at_355) (pc' := 356) rfl (fun v3813 hv3813 => ?_)
   refine k_ior X3810 hx (hb hby at_356) (pc' := 357) rfl (fun v3814 hv3814 => ?_)
   refine k_i2b X3810 hx (hb hby at_357) (pc' := 358) rfl (fun v3815 hv3815 => ?_)
   refine k_bastore X3810 hx hZ e3810 Vw3810 ⟨by decide, by decide⟩ (i := 5) rfl (Nat.le_of_ble_eq_true rfl) (hb hby at_358) (pc' := 359) rfl (fun T3816 h3816 X3816 e3816 W3816 V3816 => ?_)
   have hb3817 : v3815.toInt8.toInt32 = v3815 := by rw [hv3815]; exact k_i2b2 _
   rw [hb3817] at V3816
   have Vw3816 : Arv Z h3816 b3768 k3768 .byte (8 : Int32) [(.int v3770), (.int v3774), (.int v3778), (.int v3803), (.int v3809), (.int v3815), (.int v3794), (.int v3798)] (.int (0 : Int32)) := V3816
   have N3816 := Fr.snoc X3816 N3810 g_b3768
   have Z3816 : n0 ≤ h3816.size := Nat.le_trans Z3810 (Nat.le_of_eq W3816.size.symm)
   refine k_aload X3816 hx (hb hby at_359) rfl rfl (pc' := 361) rfl ?_
   refine k_iload X3816 hx (hb hby at_361) rfl (pc' := 363) rfl ?_
   refine k_iconst X3816 hx (hb hby at_363) (pc' := 364) rfl (z := (3 : Int32)) rfl ?_
   refine k_iaddL X3816 hx (hb hby at_364) (pc' := 365) rfl (z := (6 : Int32)) (by decide) ?_
   refine k_sipush X3816 hx (hb hby at_365) (pc' := 368) rfl (z := (128 : Int32)) rfl ?_
   refine k_iload X3816 hx (hb hby at_368) rfl (pc' := 370) rfl ?_
   refine k_bipush X3816 hx (hb hby at_370) (pc' := 372) rfl (z := (63 : Int32)) rfl ?_
   refine k_iand X3816 hx (hb hby at_372) (pc' := 373) rfl (fun v3818 hv3818 => ?_)
   refine k_ior X3816 hx (hb hby at_373) (pc' := 374) rfl (fun v3819 hv3819 => ?_)
   refine k_i2b X3816 hx (hb hby at_374) (pc' := 375) rfl (fun v3820 hv3820 => ?_)
   refine k_bastore X3816 hx hZ e3816 Vw3816 ⟨by decide, by decide⟩ (i := 6) rfl (Nat.le_of_ble_eq_true rfl) (hb hby at_375) (pc' := 376) rfl (fun T3821 h3821 X3821 e3821 W3821 V3821 => ?_)
   have hb3822 : v3820.toInt8.toInt32 = v3820 := by rw [hv3820]; exact k_i2b2 _
   rw [hb3822] at V3821
   have Vw3821 : Arv Z h3821 b3768 k3768 .byte (8 : Int32) [(.int v3770), (.int v3774), (.int v3778), (.int v3803), (.int v3809), (.int v3815), (.int v3820), (.int v3798)] (.int (0 : Int32)) := V3821
   have N3821 := Fr.snoc X3821 N3816 g_b3768
   have Z3821 : n0 ≤ h3821.size := Nat.le_trans Z3816 (Nat.le_of_eq W3821.size.symm)
   refine k_aload X3821 hx (hb hby at_376) rfl rfl (pc' := 378) rfl ?_
   refine k_iload X3821 hx (hb hby at_378) rfl (pc' := 380) rfl ?_
   refine k_callS X3821 hx hZ hown (hw _ (List.mem_of_getElem? (i := 7) rfl)) (hw _ (List.mem_of_getElem? (i := 8) rfl)) (hw _ (List.mem_of_getElem? (i := 9) rfl)) (hw _ (List.mem_of_getElem? (i := 10) rfl)) (by decide) (rm2_763 l Z a0 hw [] b3768 k3768 v3770 v3774 v3778 v3803 v3809 v3815 v3820 v3798 h3821 n0 Z3821 Vw3821) (by decide) (by decide) e3821 (by rw [hml]; rfl) (argsL := [(.ref b3768), (.int (3 : Int32))]) (rest := []) (lenOf pd_2 rfl) rfl (W := 0) (Nat.le_refl _) rfl (hb hby at_380) (by decide) (by decide) (pc' := 383) rfl (fun T3823 L3823 r3823 X3823 q3823 => ?_)
   obtain ⟨N3823, e3823, q3823⟩ := q3823
   have N3823' := Fr.app N3821 N3823
   rcases q3823 with ⟨v3824, v3825, v3826, v3827, v3828, v3829, v3830, v3831, v3832, v3833, v3834, h3835, h3836, h3837, h3838, h3839, h3840, h3841, h3842, h3843, h3844, h3845, hc3846, hc3847, hc3848, rfl⟩ | ⟨v3849, v3850, v3851, v3852, v3853, v3854, v3855, v3856, h3857, h3858, h3859, h3860, h3861, h3862, h3863, h3864, hc3865, hc3866, hc3867, rfl⟩ | ⟨v3868, v3869, v3870, v3871, v3872, h3873, h3874, h3875, h3876, h3877, hc3878, hc3879, rfl⟩ | ⟨v3880, h3881, hc3882, rfl⟩
   ·
    show KEnds p e below s _ _ _ T3823 (mkF m 383 #[.val (.int i0), .val (.int i1), .val (.int i2), .val (.long i3), .second, .val (.int v1), .val (.int (3 : Int32)), .val (.int v3013), .val (.int (3 : Int32)), .val (.ref b3768)] [(.int v3834)])
    refine k_iload X3823 hx (hb hby at_383) rfl (pc' := 385) rfl ?_
    refine k_icmp_ne X3823 hx (hb hby at_385) (pn := 388) rfl (py := 392) (by decide) (fun hc3883 => ?_) (fun hc3883 => ?_)
    ·
     refine k_iconst X3823 hx (hb hby at_392) (pc' := 393) rfl (z := (0 : Int32)) rfl ?_
     exfalso
     have B3884 : (-2147483648 : Int) ≤ v3013.toInt ∧ v3013.toInt ≤ 2147483647 := ⟨(rng32 v3013).1, Int.le_of_lt_add_one (rng32 v3013).2⟩
     have B3887 : (65536 : Int) ≤ v3013.toInt ∧ v3013.toInt ≤ 2147483647 := ⟨k_ge hP3014.1 (by decide), B3884.2⟩
     have B3888 : (65536 : Int) ≤ v3013.toInt ∧ v3013.toInt ≤ 1114111 := ⟨B3887.1, k_le hP3014.2 (by decide)⟩
     have B3889 : (65536 : Int) ≤ (65536 : Int32).toInt ∧ (65536 : Int32).toInt ≤ 65536 := (by decide)
     have q3890 := hP3014.1; rw [Int32.lt_iff_toInt_lt] at q3890
     have B3891 : (1114111 : Int) ≤ (1114111 : Int32).toInt ∧ (1114111 : Int32).toInt ≤ 1114111 := (by decide)
     have q3892 := hP3014.2; rw [Int32.lt_iff_toInt_lt] at q3892
     have q3900 : v3801.toInt = v3013.toInt / 262144 := (by rw [hv3801]; exact c_ishr _ _ 18 (by decide))
     have B3899 : (0 : Int) ≤ v3801.toInt ∧ v3801.toInt ≤ 4 := (by rw [q3900]; exact k_divB B3888 (by decide) (by decide) (by decide))
     have q3898 : v3802.toInt = 240 + v3801.toInt := k_orx (k := 4) hv3802 B3899 (by decide) (by decide) (by decide) (by decide) (by decide) (by decide)
     have B3897 : (240 : Int) ≤ v3802.toInt ∧ v3802.toInt ≤ 244 := k_caddB q3898 B3899
     have q3896 : v3803.toInt = v3802.toInt - 256 := k_i2by hv3803 B3897 (by decide) (by decide)
     have B3895 : (-16 : Int) ≤ v3803.toInt ∧ v3803.toInt ≤ -12 := k_subB q3896 B3897
     have q3894 : v3824.toInt = v3803.toInt - (-256) := (by rw [h3835, c_mask _ _ 8 (by decide) (by decide)]; exact k_modx B3895 (by decide) (by decide))
     have B3893 : (240 : Int) ≤ v3824.toInt ∧ v3824.toInt ≤ 244 := k_subB q3894 B3895
     have B3901 : (128 : Int) ≤ (128 : Int32).toInt ∧ (128 : Int32).toInt ≤ 128 := (by decide)
     have q3902 := hc3846; rw [Int32.lt_iff_toInt_lt] at q3902
     have B3903 : (224 : Int) ≤ (224 : Int32).toInt ∧ (224 : Int32).toInt ≤ 224 := (by decide)
     have q3904 := hc3847; rw [Int32.lt_iff_toInt_lt] at q3904
     have B3905 : (240 : Int) ≤ (240 : Int32).toInt ∧ (240 : Int32).toInt ≤ 240 := (by decide)
     have q3906 := hc3848; rw [Int32.lt_iff_toInt_lt] at q3906
     have q3920 : v3825.toInt = v3824.toInt - (240) := (by rw [h3836, c_mask _ _ 3 (by decide) (by decide)]; exact k_modx B3893 (by decide) (by decide))
     have B3919 : (0 : Int) ≤ v3825.toInt ∧ v3825.toInt ≤ 4 := k_subB q3920 B3893
     have q3918 : v3826.toInt = 64 * v3825.toInt := k_ishlx (k := 6) h3837 B3919 (by decide) (by decide) (by decide)
     have B3917 : (0 : Int) ≤ v3826.toInt ∧ v3826.toInt ≤ 256 := (by rw [q3918]; exact k_mulB B3919 (by decide))
     have q3930 : v3806.toInt = v3013.toInt / 4096 := (by rw [hv3806]; exact c_ishr _ _ 12 (by decide))
     have B3929 : (16 : Int) ≤ v3806.toInt ∧ v3806.toInt ≤ 271 := (by rw [q3930]; exact k_divB B3888 (by decide) (by decide) (by decide))
     have q3928 : v3807.toInt = v3806.toInt % 64 := (by rw [hv3807]; exact c_mask _ _ 6 (by decide) (by decide))
     have B3927 : (0 : Int) ≤ v3807.toInt ∧ v3807.toInt ≤ 63 := (by rw [q3928]; exact k_modB (by decide))
     have q3926 : v3808.toInt = 128 + v3807.toInt := k_orx (k := 7) hv3808 B3927 (by decide) (by decide) (by decide) (by decide) (by decide) (by decide)
     have B3925 : (128 : Int) ≤ v3808.toInt ∧ v3808.toInt ≤ 191 := k_caddB q3926 B3927
     have q3924 : v3809.toInt = v3808.toInt - 256 := k_i2by hv3809 B3925 (by decide) (by decide)
     have B3923 : (-128 : Int) ≤ v3809.toInt ∧ v3809.toInt ≤ -65 := k_subB q3924 B3925
     have q3922 : v3827.toInt = v3809.toInt - (-128) := (by rw [h3838, c_mask _ _ 6 (by decide) (by decide)]; exact k_modx B3923 (by decide) (by decide))
     have B3921 : (0 : Int) ≤ v3827.toInt ∧ v3827.toInt ≤ 63 := k_subB q3922 B3923
     have q3916 : v3828.toInt = v3826.toInt + v3827.toInt := k_orx2 (k := 6) h3839 B3917 B3921 (by decide) (by decide) (by decide) (by decide) (by omega)
     have B3915 : (0 : Int) ≤ v3828.toInt ∧ v3828.toInt ≤ 319 := k_addB q3916 B3917 B3921
     have q3914 : v3829.toInt = 64 * v3828.toInt := k_ishlx (k := 6) h3840 B3915 (by decide) (by decide) (by decide)
     have B3913 : (0 : Int) ≤ v3829.toInt ∧ v3829.toInt ≤ 20416 := (by rw [q3914]; exact k_mulB B3915 (by decide))
     have q3940 : v3812.toInt = v3013.toInt / 64 := (by rw [hv3812]; exact c_ishr _ _ 6 (by decide))
     have B3939 : (1024 : Int) ≤ v3812.toInt ∧ v3812.toInt ≤ 17407 := (by rw [q3940]; exact k_divB B3888 (by decide) (by decide) (by decide))
     have q3938 : v3813.toInt = v3812.toInt % 64 := (by rw [hv3813]; exact c_mask _ _ 6 (by decide) (by decide))
     have B3937 : (0 : Int) ≤ v3813.toInt ∧ v3813.toInt ≤ 63 := (by rw [q3938]; exact k_modB (by decide))
     have q3936 : v3814.toInt = 128 + v3813.toInt := k_orx (k := 7) hv3814 B3937 (by decide) (by decide) (by decide) (by decide) (by decide) (by decide)
     have B3935 : (128 : Int) ≤ v3814.toInt ∧ v3814.toInt ≤ 191 := k_caddB q3936 B3937
     have q3934 : v3815.toInt = v3814.toInt - 256 := k_i2by hv3815 B3935 (by decide) (by decide)
     have B3933 : (-128 : Int) ≤ v3815.toInt ∧ v3815.toInt ≤ -65 := k_subB q3934 B3935
     have q3932 : v3830.toInt = v3815.toInt - (-128) := (by rw [h3841, c_mask _ _ 6 (by decide) (by decide)]; exact k_modx B3933 (by decide) (by decide))
     have B3931 : (0 : Int) ≤ v3830.toInt ∧ v3830.toInt ≤ 63 := k_subB q3932 B3933
     have q3912 : v3831.toInt = v3829.toInt + v3830.toInt := k_orx2 (k := 6) h3842 B3913 B3931 (by decide) (by decide) (by decide) (by decide) (by omega)
     have B3911 : (0 : Int) ≤ v3831.toInt ∧ v3831.toInt ≤ 20479 := k_addB q3912 B3913 B3931
     have q3910 : v3832.toInt = 64 * v3831.toInt := k_ishlx (k := 6) h3843 B3911 (by decide) (by decide) (by decide)
     have B3909 : (0 : Int) ≤ v3832.toInt ∧ v3832.toInt ≤ 1310656 := (by rw [q3910]; exact k_mulB B3911 (by decide))
     have q3948 : v3818.toInt = v3013.toInt % 64 := (by rw [hv3818]; exact c_mask _ _ 6 (by decide) (by decide))
     have B3947 : (0 : Int) ≤ v3818.toInt ∧ v3818.toInt ≤ 63 := (by rw [q3948]; exact k_modB (by decide))
     have q3946 : v3819.toInt = 128 + v3818.toInt := k_orx (k := 7) hv3819 B3947 (by decide) (by decide) (by decide) (by decide) (by decide) (by decide)
     have B3945 : (128 : Int) ≤ v3819.toInt ∧ v3819.toInt ≤ 191 := k_caddB q3946 B3947
     have q3944 : v3820.toInt = v3819.toInt - 256 := k_i2by hv3820 B3945 (by decide) (by decide)
     have B3943 : (-128 : Int) ≤ v3820.toInt ∧ v3820.toInt ≤ -65 := k_subB q3944 B3945
     have q3942 : v3833.toInt = v3820.toInt - (-128) := (by rw [h3844, c_mask _ _ 6 (by decide) (by decide)]; exact k_modx B3943 (by decide) (by decide))
     have B3941 : (0 : Int) ≤ v3833.toInt ∧ v3833.toInt ≤ 63 := k_subB q3942 B3943
     have q3908 : v3834.toInt = v3832.toInt + v3833.toInt := k_orx2 (k := 6) h3845 B3909 B3941 (by decide) (by decide) (by decide) (by decide) (by omega)
     have B3907 : (0 : Int) ≤ v3834.toInt ∧ v3834.toInt ≤ 1310719 := k_addB q3908 B3909 B3941
     have q3949 : ¬ v3834.toInt = v3013.toInt := fun q => hc3883 (Int32.toInt_inj.mp q)
     omega
    ·
     refine k_iconst X3823 hx (hb hby at_388) (pc' := 389) rfl (z := (1 : Int32)) rfl ?_
     refine k_goto X3823 hx (hb hby at_389) (pc' := 393) (by decide) ?_
     exact k_retN X3823 hx (t := .boolean) Bd.returns (by simp) (hb hby at_393) hlk (by decide) (by decide) (z' := (1 : Int32)) rfl ⟨rfl, N3823'⟩
   ·
    show KEnds p e below s _ _ _ T3823 (mkF m 383 #[.val (.int i0), .val (.int i1), .val (.int i2), .val (.long i3), .second, .val (.int v1), .val (.int (3 : Int32)), .val (.int v3013), .val (.int (3 : Int32)), .val (.ref b3768)] [(.int v3856)])
    exfalso
    have B3950 : (-2147483648 : Int) ≤ v3013.toInt ∧ v3013.toInt ≤ 2147483647 := ⟨(rng32 v3013).1, Int.le_of_lt_add_one (rng32 v3013).2⟩
    have B3953 : (65536 : Int) ≤ v3013.toInt ∧ v3013.toInt ≤ 2147483647 := ⟨k_ge hP3014.1 (by decide), B3950.2⟩
    have B3954 : (65536 : Int) ≤ v3013.toInt ∧ v3013.toInt ≤ 1114111 := ⟨B3953.1, k_le hP3014.2 (by decide)⟩
    have B3955 : (65536 : Int) ≤ (65536 : Int32).toInt ∧ (65536 : Int32).toInt ≤ 65536 := (by decide)
    have q3956 := hP3014.1; rw [Int32.lt_iff_toInt_lt] at q3956
    have B3957 : (1114111 : Int) ≤ (1114111 : Int32).toInt ∧ (1114111 : Int32).toInt ≤ 1114111 := (by decide)
    have q3958 := hP3014.2; rw [Int32.lt_iff_toInt_lt] at q3958
    have q3966 : v3801.toInt = v3013.toInt / 262144 := (by rw [hv3801]; exact c_ishr _ _ 18 (by decide))
    have B3965 : (0 : Int) ≤ v3801.toInt ∧ v3801.toInt ≤ 4 := (by rw [q3966]; exact k_divB B3954 (by decide) (by decide) (by decide))
    have q3964 : v3802.toInt = 240 + v3801.toInt := k_orx (k := 4) hv3802 B3965 (by decide) (by decide) (by decide) (by decide) (by decide) (by decide)
    have B3963 : (240 : Int) ≤ v3802.toInt ∧ v3802.toInt ≤ 244 := k_caddB q3964 B3965
    have q3962 : v3803.toInt = v3802.toInt - 256 := k_i2by hv3803 B3963 (by decide) (by decide)
    have B3961 : (-16 : Int) ≤ v3803.toInt ∧ v3803.toInt ≤ -12 := k_subB q3962 B3963
    have q3960 : v3849.toInt = v3803.toInt - (-256) := (by rw [h3857, c_mask _ _ 8 (by decide) (by decide)]; exact k_modx B3961 (by decide) (by decide))
    have B3959 : (240 : Int) ≤ v3849.toInt ∧ v3849.toInt ≤ 244 := k_subB q3960 B3961
    have B3967 : (240 : Int) ≤ v3849.toInt ∧ v3849.toInt ≤ 239 := ⟨B3959.1, k_lt hc3867 (by decide)⟩
    have B3968 : (128 : Int) ≤ (128 : Int32).toInt ∧ (128 : Int32).toInt ≤ 128 := (by decide)
    have q3969 := hc3865; rw [Int32.lt_iff_toInt_lt] at q3969
    have B3970 : (224 : Int) ≤ (224 : Int32).toInt ∧ (224 : Int32).toInt ≤ 224 := (by decide)
    have q3971 := hc3866; rw [Int32.lt_iff_toInt_lt] at q3971
    have B3972 : (240 : Int) ≤ (240 : Int32).toInt ∧ (240 : Int32).toInt ≤ 240 := (by decide)
    have q3973 := hc3867; rw [Int32.lt_iff_toInt_lt] at q3973
    omega
   ·
    show KEnds p e below s _ _ _ T3823 (mkF m 383 #[.val (.int i0), .val (.int i1), .val (.int i2), .val (.long i3), .second, .val (.int v1), .val (.int (3 : Int32)), .val (.int v3013), .val (.int (3 : Int32)), .val (.ref b3768)] [(.int v3872)])
    exfalso
    have B3974 : (-2147483648 : Int) ≤ v3013.toInt ∧ v3013.toInt ≤ 2147483647 := ⟨(rng32 v3013).1, Int.le_of_lt_add_one (rng32 v3013).2⟩
    have B3977 : (65536 : Int) ≤ v3013.toInt ∧ v3013.toInt ≤ 2147483647 := ⟨k_ge hP3014.1 (by decide), B3974.2⟩
    have B3978 : (65536 : Int) ≤ v3013.toInt ∧ v3013.toInt ≤ 1114111 := ⟨B3977.1, k_le hP3014.2 (by decide)⟩
    have B3979 : (65536 : Int) ≤ (65536 : Int32).toInt ∧ (65536 : Int32).toInt ≤ 65536 := (by decide)
    have q3980 := hP3014.1; rw [Int32.lt_iff_toInt_lt] at q3980
    have B3981 : (1114111 : Int) ≤ (1114111 : Int32).toInt ∧ (1114111 : Int32).toInt ≤ 1114111 := (by decide)
    have q3982 := hP3014.2; rw [Int32.lt_iff_toInt_lt] at q3982
    have q3990 : v3801.toInt = v3013.toInt / 262144 := (by rw [hv3801]; exact c_ishr _ _ 18 (by decide))
    have B3989 : (0 : Int) ≤ v3801.toInt ∧ v3801.toInt ≤ 4 := (by rw [q3990]; exact k_divB B3978 (by decide) (by decide) (by decide))
    have q3988 : v3802.toInt = 240 + v3801.toInt := k_orx (k := 4) hv3802 B3989 (by decide) (by decide) (by decide) (by decide) (by decide) (by decide)
    have B3987 : (240 : Int) ≤ v3802.toInt ∧ v3802.toInt ≤ 244 := k_caddB q3988 B3989
    have q3986 : v3803.toInt = v3802.toInt - 256 := k_i2by hv3803 B3987 (by decide) (by decide)
    have B3985 : (-16 : Int) ≤ v3803.toInt ∧ v3803.toInt ≤ -12 := k_subB q3986 B3987
    have q3984 : v3868.toInt = v3803.toInt - (-256) := (by rw [h3873, c_mask _ _ 8 (by decide) (by decide)]; exact k_modx B3985 (by decide) (by decide))
    have B3983 : (240 : Int) ≤ v3868.toInt ∧ v3868.toInt ≤ 244 := k_subB q3984 B3985
    have B3991 : (240 : Int) ≤ v3868.toInt ∧ v3868.toInt ≤ 223 := ⟨B3983.1, k_lt hc3879 (by decide)⟩
    have B3992 : (128 : Int) ≤ (128 : Int32).toInt ∧ (128 : Int32).toInt ≤ 128 := (by decide)
    have q3993 := hc3878; rw [Int32.lt_iff_toInt_lt] at q3993
    have B3994 : (224 : Int) ≤ (224 : Int32).toInt ∧ (224 : Int32).toInt ≤ 224 := (by decide)
    have q3995 := hc3879; rw [Int32.lt_iff_toInt_lt] at q3995
    omega
   ·
    show KEnds p e below s _ _ _ T3823 (mkF m 383 #[.val (.int i0), .val (.int i1), .val (.int i2), .val (.long i3), .second, .val (.int v1), .val (.int (3 : Int32)), .val (.int v3013), .val (.int (3 : Int32)), .val (.ref b3768)] [(.int v3880)])
    exfalso
    have B3996 : (-2147483648 : Int) ≤ v3013.toInt ∧ v3013.toInt ≤ 2147483647 := ⟨(rng32 v3013).1, Int.le_of_lt_add_one (rng32 v3013).2⟩
    have B3999 : (65536 : Int) ≤ v3013.toInt ∧ v3013.toInt ≤ 2147483647 := ⟨k_ge hP3014.1 (by decide), B3996.2⟩
    have B4000 : (65536 : Int) ≤ v3013.toInt ∧ v3013.toInt ≤ 1114111 := ⟨B3999.1, k_le hP3014.2 (by decide)⟩
    have B4001 : (65536 : Int) ≤ (65536 : Int32).toInt ∧ (65536 : Int32).toInt ≤ 65536 := (by decide)
    have q4002 := hP3014.1; rw [Int32.lt_iff_toInt_lt] at q4002
    have B4003 : (1114111 : Int) ≤ (1114111 : Int32).toInt ∧ (1114111 : Int32).toInt ≤ 1114111 := (by decide)
    have q4004 := hP3014.2; rw [Int32.lt_iff_toInt_lt] at q4004
    have q4012 : v3801.toInt = v3013.toInt / 262144 := (by rw [hv3801]; exact c_ishr _ _ 18 (by decide))
    have B4011 : (0 : Int) ≤ v3801.toInt ∧ v3801.toInt ≤ 4 := (by rw [q4012]; exact k_divB B4000 (by decide) (by decide) (by decide))
    have q4010 : v3802.toInt = 240 + v3801.toInt := k_orx (k := 4) hv3802 B4011 (by decide) (by decide) (by decide) (by decide) (by decide) (by decide)
    have B4009 : (240 : Int) ≤ v3802.toInt ∧ v3802.toInt ≤ 244 := k_caddB q4010 B4011
    have q4008 : v3803.toInt = v3802.toInt - 256 := k_i2by hv3803 B4009 (by decide) (by decide)
    have B4007 : (-16 : Int) ≤ v3803.toInt ∧ v3803.toInt ≤ -12 := k_subB q4008 B4009
    have q4006 : v3880.toInt = v3803.toInt - (-256) := (by rw [h3881, c_mask _ _ 8 (by decide) (by decide)]; exact k_modx B4007 (by decide) (by decide))
    have B4005 : (240 : Int) ≤ v3880.toInt ∧ v3880.toInt ≤ 244 := k_subB q4006 B4007
    have B4013 : (240 : Int) ≤ v3880.toInt ∧ v3880.toInt ≤ 127 := ⟨B4005.1, k_lt hc3882 (by decide)⟩
    have B4014 : (128 : Int) ≤ (128 : Int32).toInt ∧ (128 : Int32).toInt ≤ 128 := (by decide)
    have q4015 := hc3882; rw [Int32.lt_iff_toInt_lt] at q4015
    omega
set_option maxRecDepth 65536 in
set_option maxHeartbeats 40000000 in
theorem comes_1 {Post : Tables → Env → Array Value → State → Outcome → State → Prop} (hpost : ∀ tb e args s v u, (limb_1_1.after args s (.returned v) u = true ∧ limb_1_2.after args s (.returned v) u = true ∧ True) → FrameEnd s (.returned v) u (Jvm.fieldLocs frame_1_writes args s ++ Jvm.arrayLocs frame_1_arrays args s ++ Jvm.staticLocs frame_1_statics s) 16 128 → Post tb e args s (.returned v) u) :
    ArmFor flags0 classFile x code maxLocals ret World_1 tables_1 room_1 Calls_1 rest_1 Pre_1 Post := by
  intro l hfl _ _ p e ha hc hk s m args below hf hA hF happ hP
  obtain ⟨hcalls, hrest, hpre⟩ := hP
  obtain ⟨-, -, -, hnamed, -, -, -, hat⟩ := (Spec.applies_iff hf).mp happ
  obtain ⟨hg, hn⟩ := and_e (Cond.before_iff.mp (show (Jvm.Cond.and given_1 narrow_1).before args s = true from hpre))
  obtain ⟨g4016, g4017⟩ := and_e hg
  obtain ⟨g4018, g4019⟩ := and_e g4017
  obtain ⟨g4020, g4021⟩ := and_e g4019
  obtain ⟨g4022, g4023⟩ := and_e g4021
  obtain ⟨w0, w1, w2, w3, rfl⟩ : ∃ w0 w1 w2 w3 : Value, args = #[w0, w1, w2, w3] := by
    have hs : args.size = 4 := by simpa [Cond.value, given_1] using g4016
    obtain ⟨L⟩ := args
    match L, hs with
    | [w0, w1, w2, w3], _ => exact ⟨w0, w1, w2, w3, rfl⟩
  have hw := fun d (hd : d ∈ tables_1) => atoms_spec (ws := Jvm.Cond.code x code maxLocals ret :: tables_1) hat d (List.mem_cons_of_mem _ hd)
  obtain ⟨i0, ei0⟩ := is_v g4018
  obtain rfl : w0 = (.int i0) := Option.some.inj ei0
  obtain ⟨i1, ei1⟩ := is_v g4020
  obtain rfl : w1 = (.int i1) := Option.some.inj ei1
  obtain ⟨i2, ei2⟩ := is_v g4022
  obtain rfl : w2 = (.int i2) := Option.some.inj ei2
  obtain ⟨i3, ei3⟩ := isL_v g4023
  obtain rfl : w3 = (.long i3) := Option.some.inj ei3
  obtain ⟨n, o, h1, h2, h3, _, L, rfl, ⟨rfl, N⟩, hq⟩ := rm0 l s _ hw tables_1 i0 i1 i2 i3 s.heap s.heap.size (Nat.le_refl _) p e ha hc hk s m _ below hf ((Spec.applies_iff_loose hf).mp happ).1 ⟨rfl, State.Warmed39.refl s, rfl⟩ trivial
  refine ⟨n, _, h1, h2, h3, hpost _ _ _ _ _ _ ⟨Cond.after_iff.mpr rfl, Cond.after_iff.mpr (eq_i res_at (Term.int_eval (1)) rfl), trivial⟩ ⟨hq.1, hq.2.1, (hq.2.2.sift fun y hy => Or.inr (N y hy)).mono (by decide) (by decide)⟩⟩
theorem main_1_1 : Claimed_1_1 := comes_1 fun _ _ _ _ _ _ h hF => ⟨h.1, hF⟩
theorem main_1_2 : Claimed_1_2 := comes_1 fun _ _ _ _ _ _ h hF => ⟨h.2.1, hF⟩
end Jvm.Pilot.@@N@@
namespace Jvm.Pilot.@@N@@
open Jvm Jvm.ClassFile Sem Op Lib Jvm.Free Jvm.Stand Jvm.Pilot.@@N@@.Jvm.D
/-! MADE BY PROGRAM (witnessworld.py) out of the Statement's table words and the real class files: 9 classes; the members and pool entries that the words name. The judged class is class 1, her method 1. -/
namespace start1
open Jvm.ClassFile
def u (s : String) : CpInfo := .utf8 (stringToUtf16 s)
/-- a pool by its gaps: so many unusable entries, then the entry; so many at the end -/
def gap : Nat → List CpInfo → List CpInfo
  | 0, r => r
  | n + 1, r => .unusable :: gap n r
def poolList (es : List (Nat × CpInfo)) (last : Nat) : List CpInfo := es.foldr (fun e r => gap e.1 (e.2 :: r)) (gap last [])
def pool (es : List (Nat × CpInfo)) (last : Nat) : Array CpInfo := ⟨poolList es last⟩
def fileOf (pool : Array CpInfo) (this : Nat) (attrs : Array Attribute := #[]) (ms : Array MethodInfo := #[]) (fl : Nat := 33) (sup : Nat := 0) (ifs : Array Nat := #[]) (fds : Array FieldInfo := #[]) : ClassFile where
  minorVersion := 0
  majorVersion := 65
  constantPool := pool
  accessFlags := fl
  thisClass := this
  superClass := sup
  interfaces := ifs
  fields := fds
  methods := ms
  attributes := attrs
def plain (name : String) (sup : Option ClassId) : Class where
  name := name
  kind := .ordinary
  loader := none
  accessFlags := 33
  super := sup
  interfaces := #[]
  cf := none
  fields := #[]
  methods := #[]
  instanceTypes := #[]
  staticTypes := #[]
  resolved := #[]
  callSites := []
  init := .initialized
  statics := none
  mirror := none

def pool0 : Array CpInfo := pool [(5, u "<init>"), (0, u "()V"), (1, .class_ 10), (1, u "java/lang/Object")] 113

def k0m0 : Method := { name := "<init>", desc := "()V", sig := { parameters := [], returnType := none }, accessFlags := 1, code := none }
/-- java/lang/Object -/
def k0 : Class := { plain "java/lang/Object" none with
  accessFlags := 33
  interfaces := #[]
  cf := some (fileOf pool0 8 #[] #[{ accessFlags := 1, nameIndex := 5, descriptorIndex := 6, attributes := #[] }] 33 0 #[] #[])
  fields := #[]
  methods := #[k0m0]
  instanceTypes := #[]
  staticTypes := #[]
  resolved := Array.replicate 124 none
  statics := none }

def pool1 : Array CpInfo := pool [(2, .class_ 4), (1, u "java/lang/Object"), (0, u "<init>"), (0, u "()V"), (0, .integer 2147483647), (0, .integer 63488), (0, .integer 55296), (0, .integer 57344), (0, .integer 65536), (0, .integer 1048576), (0, .methodref 14 15), (0, .class_ 16), (0, .nameAndType 17 18), (0, u "com/example/parlance/parlance/MessageBytesCodePointAtPinLaw"), (0, u "fill"), (0, u "(JI)B"), (0, .methodref 20 21), (0, .class_ 22), (0, .nameAndType 23 24), (0, u "com/example/parlance/parlance/MessageBytes"), (0, u "codePointAt"), (0, u "([BI)I"), (0, .long 127), (3, u "law"), (0, u "(IIIJ)Z")] 5

def k1m0 : Method := { name := "<init>", desc := "()V", sig := { parameters := [], returnType := none }, accessFlags := 2, code := none }
def k1c1 : Code := { maxStack := 5, maxLocals := 10, code := code, exceptionTable := #[], attributes := #[] }
def k1m1 : Method := { name := "law", desc := "(IIIJ)Z", sig := { parameters := [.int, .int, .int, .long], returnType := some .boolean }, accessFlags := 9, code := some k1c1 }
def k1c2 : Code := { maxStack := 4, maxLocals := 3, code := method_3_code, exceptionTable := #[], attributes := #[] }
def k1m2 : Method := { name := "fill", desc := "(JI)B", sig := { parameters := [.long, .int], returnType := some .byte }, accessFlags := 10, code := some k1c2 }
/-- com/example/parlance/parlance/MessageBytesCodePointAtPinLaw -/
def k1 : Class := { plain "com/example/parlance/parlance/MessageBytesCodePointAtPinLaw" (some 0) with
  accessFlags := 49
  interfaces := #[]
  cf := some (fileOf pool1 14 #[] #[{ accessFlags := 2, nameIndex := 5, descriptorIndex := 6, attributes := #[] }, { accessFlags := 9, nameIndex := 29, descriptorIndex := 30, attributes := #[] }, { accessFlags := 10, nameIndex := 17, descriptorIndex := 18, attributes := #[] }] 49 2 #[] #[])
  fields := #[]
  methods := #[k1m0, k1m1, k1m2]
  instanceTypes := #[]
  staticTypes := #[]
  resolved := Array.replicate 36 none
  statics := none }

def pool2 : Array CpInfo := pool [(2, .class_ 4), (1, u "java/lang/Object"), (0, u "<init>"), (0, u "()V"), (0, .class_ 8), (0, u "com/example/parlance/parlance/MessageBytes"), (44, .class_ 55), (1, u "com/example/parlance/parlance/MessageBytes$Pass"), (2, .class_ 59), (0, u "com/example/parlance/parlance/MessageBytes$Utf8Check"), (18, .methodref 7 79), (0, .nameAndType 80 81), (0, u "sequenceLength"), (0, u "(B)I"), (0, u "LIMIT"), (0, u "I"), (1, u "ONE_PASS"), (0, u "DECODE_CHUNK"), (18, u "codePointAt"), (0, u "([BI)I")] 6

def k2m0 : Method := { name := "<init>", desc := "()V", sig := { parameters := [], returnType := none }, accessFlags := 2, code := none }
def k2c1 : Code := { maxStack := 2, maxLocals := 3, code := prog_4_method_7_code, exceptionTable := #[], attributes := #[] }
def k2m1 : Method := { name := "sequenceLength", desc := "(B)I", sig := { parameters := [.byte], returnType := some .int }, accessFlags := 9, code := some k2c1 }
def k2c2 : Code := { maxStack := 3, maxLocals := 6, code := prog_4_method_8_code, exceptionTable := #[], attributes := #[] }
def k2m2 : Method := { name := "codePointAt", desc := "([BI)I", sig := { parameters := [(.array .byte), .int], returnType := some .int }, accessFlags := 9, code := some k2c2 }
/-- com/example/parlance/parlance/MessageBytes -/
def k2 : Class := { plain "com/example/parlance/parlance/MessageBytes" (some 0) with
  accessFlags := 49
  interfaces := #[]
  cf := some (fileOf pool2 7 #[.nestMembers #[58, 53]] #[{ accessFlags := 2, nameIndex := 5, descriptorIndex := 6, attributes := #[] }, { accessFlags := 9, nameIndex := 80, descriptorIndex := 81, attributes := #[] }, { accessFlags := 9, nameIndex := 105, descriptorIndex := 106, attributes := #[] }] 49 2 #[] #[{ accessFlags := 25, nameIndex := 82, descriptorIndex := 83, attributes := #[] }, { accessFlags := 25, nameIndex := 85, descriptorIndex := 83, attributes := #[] }, { accessFlags := 26, nameIndex := 86, descriptorIndex := 83, attributes := #[] }])
  fields := #[{ name := "LIMIT", type := .int, accessFlags := 25, slot := 0, constantValue := 0 }, { name := "ONE_PASS", type := .int, accessFlags := 25, slot := 1, constantValue := 0 }, { name := "DECODE_CHUNK", type := .int, accessFlags := 26, slot := 2, constantValue := 0 }]
  methods := #[k2m0, k2m1, k2m2]
  instanceTypes := #[]
  staticTypes := #[.int, .int, .int]
  resolved := Array.replicate 113 none
  statics := none }

def pool3 : Array CpInfo := pool [(1, u "java/lang/Cloneable"), (0, .class_ 1), (0, u "java/lang/Object"), (0, .class_ 3)] 3

/-- java/lang/Cloneable -/
def k3 : Class := { plain "java/lang/Cloneable" (some 0) with
  accessFlags := 1537
  interfaces := #[]
  cf := some (fileOf pool3 2 #[] #[] 1537 4 #[] #[])
  fields := #[]
  methods := #[]
  instanceTypes := #[]
  staticTypes := #[]
  resolved := Array.replicate 8 none
  statics := none }

def pool4 : Array CpInfo := pool [(1, u "java/io/Serializable"), (0, .class_ 1), (0, u "java/lang/Object"), (0, .class_ 3)] 3

/-- java/io/Serializable -/
def k4 : Class := { plain "java/io/Serializable" (some 0) with
  accessFlags := 1537
  interfaces := #[]
  cf := some (fileOf pool4 2 #[] #[] 1537 4 #[] #[])
  fields := #[]
  methods := #[]
  instanceTypes := #[]
  staticTypes := #[]
  resolved := Array.replicate 8 none
  statics := none }

/-- the primitive byte -/
def k5 : Class := { plain "byte" none with kind := .primitive 'B', accessFlags := 0x411 }
/-- [B -/
def k6 : Class := { plain "[B" (some 0) with kind := .array 5 .byte, interfaces := #[3, 4], accessFlags := 1041 }

/-- the primitive int -/
def k7 : Class := { plain "int" none with kind := .primitive 'I', accessFlags := 0x411 }
/-- [I -/
def k8 : Class := { plain "[I" (some 0) with kind := .array 7 .int, interfaces := #[3, 4], accessFlags := 1041 }

def heap : Heap := #[]
def classes : Array Class := #[k0, k1, k2, k3, k4, k5, k6, k7, k8]
def interned : List (Array UInt16 × Addr) := []
def slotsUsed : Nat := 0
def theMethod : MethodId := ⟨1, 1⟩
def args0 : Array Value := #[.int 5, .int 7, .int 1, .long 3]
def aboutOver (below : List Frame) : State where
  vm := { classes := classes, interned := interned.toArray }
  heap := heap
  slotsUsed := slotsUsed
  threads := #[{ frames := .invoking theMethod args0 :: below }]
def below0 : List Frame := [.native { method := ⟨0, 0⟩, args := #[] }]
def about1 : State := aboutOver below0
def p0 : Program := .bare "" "" ""
def e0 : Env := launch0.env 0 0 0
theorem w_frames : about1.frames = Frame.invoking theMethod args0 :: below0 := rfl
set_option maxRecDepth 65536 in
theorem w_args : argsFit about1.vm theMethod args0 = true := by decide +kernel
set_option maxRecDepth 65536 in
theorem w_heap : heapFits about1 = true := by decide +kernel
set_option maxRecDepth 65536 in
theorem w_runnable : about1.curStatus? = some .runnable := by decide +kernel
set_option maxRecDepth 65536 in
theorem w_alone : about1.alone = true := by decide +kernel
set_option maxRecDepth 65536 in
theorem w_named : about1.methodNamed? x = some theMethod := by decide +kernel
set_option maxRecDepth 65536 in
theorem w_hears : about1.hears theMethod below0 = true := by decide +kernel
set_option maxRecDepth 65536 in
theorem w_ripe : about1.ripe theMethod args0 below0 = true := by decide +kernel
theorem w_running : about1.status = .running := rfl
set_option maxRecDepth 65536 in
theorem w_room : about1.hasRoom e0.platform room_1 = true :=
  launch0.hasRoom_least _ room_1 (by decide +kernel) (by decide +kernel) (by decide +kernel) (by decide +kernel) (by decide +kernel) (by decide +kernel)
theorem allAtoms_all (ts : List Jvm.Cond) (a : Array Jvm.Value) (st : Jvm.State) : (allAtoms ts).before a st = ts.all (fun c => c.before a st) := by
  induction ts with
  | nil => rfl
  | cons c t ih =>
    show (Jvm.Cond.and c (allAtoms t)).before a st = _
    rw [Jvm.Cond.before_and, ih, List.all_cons]
def words1 : List Jvm.Cond := Jvm.Cond.code x code maxLocals ret :: tables_1
/-- a 'code' word, met by the world's own term for the bytes: nothing is compared byte by byte -/
theorem code_word {y : MethodName} {bytes : ByteArray} {mx : Nat} {rt : Option FieldType} {a : Array Value} {s : State} {m : MethodId} {meth : Method} {c : Code} (h1 : s.methodNamed? y = some m) (h2 : s.vm.method? m = some meth) (h3 : meth.code = some c) (h4 : c.code = bytes)
    (h5 : (c.maxLocals == mx && c.exceptionTable.isEmpty && decide (c.maxStack ≤ mostOperands) && decide (meth.sig.returnType = rt) && !meth.locks && decide (parseMethodDescriptor y.desc = some meth.sig)) = true) : (Jvm.Cond.code y bytes mx rt).before a s = true := by
  simp only [Bool.and_eq_true, beq_iff_eq, Bool.not_eq_true', decide_eq_true_eq] at h5
  obtain ⟨⟨⟨⟨⟨g1, g2⟩, g3⟩, g4⟩, g5⟩, g6⟩ := h5
  simp [Cond.before, Cond.holds, Cond.value, h1, h2, h3, h4, g1, g2, g3, g4, g5, g6]
def isCode : Jvm.Cond → Bool
  | .code _ _ _ _ => true
  | _ => false
theorem all_split {L : List Jvm.Cond} {P : Jvm.Cond → Bool} (h1 : L.all (fun c => isCode c || P c) = true) (h2 : ∀ c ∈ L.filter isCode, P c = true) : L.all P = true := by
  refine List.all_eq_true.mpr fun c hc => ?_
  have h := List.all_eq_true.mp h1 c hc
  rcases Bool.eq_false_or_eq_true (isCode c) with hi | hi
  · exact h2 c (List.mem_filter.mpr ⟨hc, hi⟩)
  · simpa [hi] using h
set_option maxRecDepth 65536 in
theorem w_c0 : (Jvm.Cond.code x code maxLocals ret).before args0 about1 = true := code_word (m := ⟨1, 1⟩) (meth := k1m1) (c := k1c1) (by decide +kernel) rfl rfl rfl (by decide +kernel)
set_option maxRecDepth 65536 in
theorem w_c1 : (Jvm.Cond.code ({ cls := "com/example/parlance/parlance/MessageBytesCodePointAtPinLaw", name := "fill", desc := "(JI)B" } : Jvm.MethodName) method_3_code (3 : Nat) (Option.some Jvm.ClassFile.FieldType.byte)).before args0 about1 = true := code_word (m := ⟨1, 2⟩) (meth := k1m2) (c := k1c2) (by decide +kernel) rfl rfl rfl (by decide +kernel)
set_option maxRecDepth 65536 in
theorem w_c2 : (Jvm.Cond.code ({ cls := "com/example/parlance/parlance/MessageBytes", name := "codePointAt", desc := "([BI)I" } : Jvm.MethodName) prog_4_method_8_code (6 : Nat) (Option.some Jvm.ClassFile.FieldType.int)).before args0 about1 = true := code_word (m := ⟨2, 2⟩) (meth := k2m2) (c := k2c2) (by decide +kernel) rfl rfl rfl (by decide +kernel)
set_option maxRecDepth 65536 in
theorem w_c3 : (Jvm.Cond.code ({ cls := "com/example/parlance/parlance/MessageBytes", name := "sequenceLength", desc := "(B)I" } : Jvm.MethodName) prog_4_method_7_code (3 : Nat) (Option.some Jvm.ClassFile.FieldType.int)).before args0 about1 = true := code_word (m := ⟨2, 1⟩) (meth := k2m1) (c := k2c1) (by decide +kernel) rfl rfl rfl (by decide +kernel)
def codes1 : List Jvm.Cond := [Jvm.Cond.code x code maxLocals ret, Jvm.Cond.code ({ cls := "com/example/parlance/parlance/MessageBytesCodePointAtPinLaw", name := "fill", desc := "(JI)B" } : Jvm.MethodName) method_3_code (3 : Nat) (Option.some Jvm.ClassFile.FieldType.byte), Jvm.Cond.code ({ cls := "com/example/parlance/parlance/MessageBytes", name := "codePointAt", desc := "([BI)I" } : Jvm.MethodName) prog_4_method_8_code (6 : Nat) (Option.some Jvm.ClassFile.FieldType.int), Jvm.Cond.code ({ cls := "com/example/parlance/parlance/MessageBytes", name := "sequenceLength", desc := "(B)I" } : Jvm.MethodName) prog_4_method_7_code (3 : Nat) (Option.some Jvm.ClassFile.FieldType.int)]
set_option maxRecDepth 65536 in
theorem codes_eq : words1.filter isCode = codes1 := rfl
theorem w_codes : ∀ c ∈ words1.filter isCode, c.before args0 about1 = true := by
  rw [codes_eq]
  intro c hc
  simp only [codes1, List.mem_cons, List.not_mem_nil, or_false] at hc
  rcases hc with rfl | rfl | rfl | rfl
  · exact w_c0
  · exact w_c1
  · exact w_c2
  · exact w_c3
set_option maxRecDepth 65536 in
theorem w_t1 : words1.all (fun c => isCode c || c.before args0 about1) = true := by decide +kernel
theorem w_tables : (allAtoms (Jvm.Cond.code x code maxLocals ret :: tables_1)).before args0 about1 = true := by
  rw [allAtoms_all]
  show words1.all (fun c => c.before args0 about1) = true
  refine all_split ?_ w_codes
  rw [w_t1]
set_option maxRecDepth 65536 in
theorem w_case : (Jvm.Cond.and given_1 narrow_1).before args0 about1 = true := by decide +kernel
theorem w_applies : (headSpec (Jvm.Cond.code x code maxLocals ret :: tables_1) room_1).applies x e0.platform about1 = true :=
  (Spec.applies_iff w_frames).mpr ⟨w_running, w_runnable, w_alone, w_named, w_hears, w_ripe, w_room, w_tables⟩
theorem atStart : AtStart classFile x code maxLocals ret World_1 tables_1 room_1 Calls_1 rest_1 Pre_1 launch0 p0 e0 about1 theMethod args0 below0 :=
  ⟨lists_1, trivial, launch0.admits_env _ _ _, launch0.least_env, fairChoices_fair.cas, fairChoices_fair.clock, w_frames, w_args, w_heap, w_applies, trivial, trivial, w_case⟩
end start1
theorem witness_1 : WitnessClaimed_1 := ⟨start1.p0, start1.e0, start1.about1, start1.theMethod, start1.args0, start1.below0, start1.atStart⟩
end Jvm.Pilot.@@N@@
