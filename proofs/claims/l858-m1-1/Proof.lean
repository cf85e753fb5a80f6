import JvmDerived
import JvmDerived.Pilot.@@N@@Statement
import JvmDerived.Pilot.@@N@@Code
set_option linter.unusedVariables false
set_option linter.unusedSimpArgs false
namespace Jvm.OwnK
open Sem ClassFile Op Lib Jvm.Stand Jvm.Free Jvm.LawKit Jvm.RoadKit
section
variable {p : Program} {l : Launch} {e : Env} {R : Room} {s : State} {m : MethodId} {args : Array Value} {below : List Frame} {meth : Method} {c : Code} {T : State} {locs : List Loc} {cells slots : Nat} {Cn Sn : Nat} {Q : Option Value → Heap → List Loc → Prop}
/-- from the frame f the run comes to an end that Q takes -/
def KEnds (p : Program) (e : Env) (below : List Frame) (s : State) (Cn Sn : Nat) (Q : Option Value → Heap → List Loc → Prop) (T : State) (f : JFrame) : Prop :=
  ∃ s₂ o, Steps p.tables e below (T.setTop f) s₂ ∧ s₂.status = .running ∧ Ended s₂ below o ∧ ∃ v L, o = .returned v ∧ Q v s₂.heap L ∧ FrameEnd s o s₂ L Cn Sn
theorem k_via {T' : State} {f f' : JFrame} (st : ∀ t, Steps p.tables e below (T'.setTop f') t → Steps p.tables e below (T.setTop f) t) (k : KEnds p e below s Cn Sn Q T' f') : KEnds p e below s Cn Sn Q T f := by
  obtain ⟨s₂, o, h, r⟩ := k
  exact ⟨s₂, o, st _ h, r⟩
theorem k_iloadN (X : Stand p l e R s m args below meth c T locs cells slots) (hx : p.tables.exec = Jvm.exec) {pc pc' : Nat} {Ls : Array Slot} {St : List Value} {i : Fin 4} {v : Int32} (hd : decode c.code pc = .ok (.iload_n i, 1)) (hl : Ls[i.val]? = some (.val (.int v))) (hpc : pc + 1 = pc') (k : KEnds p e below s Cn Sn Q T (mkF m pc' Ls (.int v :: St))) : KEnds p e below s Cn Sn Q T (mkF m pc Ls (St)) := by
  subst hpc; exact k_via (fun t h => XS.iloadN X.here hx rfl hd hl h) k
theorem k_iload (X : Stand p l e R s m args below meth c T locs cells slots) (hx : p.tables.exec = Jvm.exec) {pc pc' : Nat} {Ls : Array Slot} {St : List Value} {i : Nat} {v : Int32} (hd : decode c.code pc = .ok (.iload i, 2)) (hl : Ls[i]? = some (.val (.int v))) (hpc : pc + 2 = pc') (k : KEnds p e below s Cn Sn Q T (mkF m pc' Ls (.int v :: St))) : KEnds p e below s Cn Sn Q T (mkF m pc Ls (St)) := by
  subst hpc; exact k_via (fun t h => XS.iload X.here hx rfl hd hl h) k
theorem k_istoreN (X : Stand p l e R s m args below meth c T locs cells slots) (hx : p.tables.exec = Jvm.exec) {pc pc' : Nat} {Ls : Array Slot} {St : List Value} {i : Fin 4} {v : Int32} {Ls' : Array Slot} (hd : decode c.code pc = .ok (.istore_n i, 1)) (hl : storeLocals Ls i.val (.int v) = some Ls') (hpc : pc + 1 = pc') (k : KEnds p e below s Cn Sn Q T (mkF m pc' Ls' (St))) : KEnds p e below s Cn Sn Q T (mkF m pc Ls (.int v :: St)) := by
  subst hpc; exact k_via (fun t h => XS.istoreN X.here hx rfl hd rfl hl h) k
theorem k_istore (X : Stand p l e R s m args below meth c T locs cells slots) (hx : p.tables.exec = Jvm.exec) {pc pc' : Nat} {Ls : Array Slot} {St : List Value} {i : Nat} {v : Int32} {Ls' : Array Slot} (hd : decode c.code pc = .ok (.istore i, 2)) (hl : storeLocals Ls i (.int v) = some Ls') (hpc : pc + 2 = pc') (k : KEnds p e below s Cn Sn Q T (mkF m pc' Ls' (St))) : KEnds p e below s Cn Sn Q T (mkF m pc Ls (.int v :: St)) := by
  subst hpc; exact k_via (fun t h => XS.istore X.here hx rfl hd rfl hl h) k
theorem k_lloadN (X : Stand p l e R s m args below meth c T locs cells slots) (hx : p.tables.exec = Jvm.exec) {pc pc' : Nat} {Ls : Array Slot} {St : List Value} {i : Fin 4} {v : Int64} (hd : decode c.code pc = .ok (.lload_n i, 1)) (hl : Ls[i.val]? = some (.val (.long v))) (hpc : pc + 1 = pc') (k : KEnds p e below s Cn Sn Q T (mkF m pc' Ls (.long v :: St))) : KEnds p e below s Cn Sn Q T (mkF m pc Ls (St)) := by
  subst hpc; exact k_via (fun t h => XS.lloadN X.here hx rfl hd hl h) k
theorem k_lload (X : Stand p l e R s m args below meth c T locs cells slots) (hx : p.tables.exec = Jvm.exec) {pc pc' : Nat} {Ls : Array Slot} {St : List Value} {i : Nat} {v : Int64} (hd : decode c.code pc = .ok (.lload i, 2)) (hl : Ls[i]? = some (.val (.long v))) (hpc : pc + 2 = pc') (k : KEnds p e below s Cn Sn Q T (mkF m pc' Ls (.long v :: St))) : KEnds p e below s Cn Sn Q T (mkF m pc Ls (St)) := by
  subst hpc; exact k_via (fun t h => XS.lload X.here hx rfl hd hl h) k
theorem k_lstoreN (X : Stand p l e R s m args below meth c T locs cells slots) (hx : p.tables.exec = Jvm.exec) {pc pc' : Nat} {Ls : Array Slot} {St : List Value} {i : Fin 4} {v : Int64} {Ls' : Array Slot} (hd : decode c.code pc = .ok (.lstore_n i, 1)) (hl : storeLocals Ls i.val (.long v) = some Ls') (hpc : pc + 1 = pc') (k : KEnds p e below s Cn Sn Q T (mkF m pc' Ls' (St))) : KEnds p e below s Cn Sn Q T (mkF m pc Ls (.long v :: St)) := by
  subst hpc; exact k_via (fun t h => XS.lstoreN X.here hx rfl hd rfl hl h) k
theorem k_lstore (X : Stand p l e R s m args below meth c T locs cells slots) (hx : p.tables.exec = Jvm.exec) {pc pc' : Nat} {Ls : Array Slot} {St : List Value} {i : Nat} {v : Int64} {Ls' : Array Slot} (hd : decode c.code pc = .ok (.lstore i, 2)) (hl : storeLocals Ls i (.long v) = some Ls') (hpc : pc + 2 = pc') (k : KEnds p e below s Cn Sn Q T (mkF m pc' Ls' (St))) : KEnds p e below s Cn Sn Q T (mkF m pc Ls (.long v :: St)) := by
  subst hpc; exact k_via (fun t h => XS.lstore X.here hx rfl hd rfl hl h) k
theorem k_aloadN (X : Stand p l e R s m args below meth c T locs cells slots) (hx : p.tables.exec = Jvm.exec) {pc pc' : Nat} {Ls : Array Slot} {St : List Value} {i : Fin 4} {v : Value} (hd : decode c.code pc = .ok (.aload_n i, 1)) (hl : Ls[i.val]? = some (.val v)) (hv : v.isRef = true) (hpc : pc + 1 = pc') (k : KEnds p e below s Cn Sn Q T (mkF m pc' Ls (v :: St))) : KEnds p e below s Cn Sn Q T (mkF m pc Ls (St)) := by
  subst hpc; exact k_via (fun t h => XS.aloadN X.here hx rfl hd hl hv h) k
theorem k_aload (X : Stand p l e R s m args below meth c T locs cells slots) (hx : p.tables.exec = Jvm.exec) {pc pc' : Nat} {Ls : Array Slot} {St : List Value} {i : Nat} {v : Value} (hd : decode c.code pc = .ok (.aload i, 2)) (hl : Ls[i]? = some (.val v)) (hv : v.isRef = true) (hpc : pc + 2 = pc') (k : KEnds p e below s Cn Sn Q T (mkF m pc' Ls (v :: St))) : KEnds p e below s Cn Sn Q T (mkF m pc Ls (St)) := by
  subst hpc; exact k_via (fun t h => XS.aload X.here hx rfl hd hl hv h) k
theorem k_astoreN (X : Stand p l e R s m args below meth c T locs cells slots) (hx : p.tables.exec = Jvm.exec) {pc pc' : Nat} {Ls : Array Slot} {St : List Value} {i : Fin 4} {v : Value} {Ls' : Array Slot} (hd : decode c.code pc = .ok (.astore_n i, 1)) (hv : v.isRef = true) (hl : storeLocals Ls i.val v = some Ls') (hpc : pc + 1 = pc') (k : KEnds p e below s Cn Sn Q T (mkF m pc' Ls' (St))) : KEnds p e below s Cn Sn Q T (mkF m pc Ls (v :: St)) := by
  subst hpc; exact k_via (fun t h => XS.astoreN X.here hx rfl hd rfl hv hl h) k
theorem k_astore (X : Stand p l e R s m args below meth c T locs cells slots) (hx : p.tables.exec = Jvm.exec) {pc pc' : Nat} {Ls : Array Slot} {St : List Value} {i : Nat} {v : Value} {Ls' : Array Slot} (hd : decode c.code pc = .ok (.astore i, 2)) (hv : v.isRef = true) (hl : storeLocals Ls i v = some Ls') (hpc : pc + 2 = pc') (k : KEnds p e below s Cn Sn Q T (mkF m pc' Ls' (St))) : KEnds p e below s Cn Sn Q T (mkF m pc Ls (v :: St)) := by
  subst hpc; exact k_via (fun t h => XS.astore X.here hx rfl hd rfl hv hl h) k
theorem k_iconst (X : Stand p l e R s m args below meth c T locs cells slots) (hx : p.tables.exec = Jvm.exec) {pc pc' : Nat} {Ls : Array Slot} {St : List Value} {i : Int} {z : Int32} (hd : decode c.code pc = .ok (.iconst i, 1)) (hpc : pc + 1 = pc') (hz : Int32.ofInt i = z) (k : KEnds p e below s Cn Sn Q T (mkF m pc' Ls (.int z :: St))) : KEnds p e below s Cn Sn Q T (mkF m pc Ls St) := by
  subst hpc hz; exact k_via (fun t h => XS.iconst X.here hx rfl hd h) k
theorem k_bipush (X : Stand p l e R s m args below meth c T locs cells slots) (hx : p.tables.exec = Jvm.exec) {pc pc' : Nat} {Ls : Array Slot} {St : List Value} {i : Int} {z : Int32} (hd : decode c.code pc = .ok (.bipush i, 2)) (hpc : pc + 2 = pc') (hz : (Int8.ofInt i).toInt32 = z) (k : KEnds p e below s Cn Sn Q T (mkF m pc' Ls (.int z :: St))) : KEnds p e below s Cn Sn Q T (mkF m pc Ls St) := by
  subst hpc hz; exact k_via (fun t h => XS.bipush X.here hx rfl hd h) k
theorem k_lconst (X : Stand p l e R s m args below meth c T locs cells slots) (hx : p.tables.exec = Jvm.exec) {pc pc' : Nat} {Ls : Array Slot} {St : List Value} {i : Fin 2} {z : Int64} (hd : decode c.code pc = .ok (.lconst i, 1)) (hpc : pc + 1 = pc') (hz : Int64.ofNat i = z) (k : KEnds p e below s Cn Sn Q T (mkF m pc' Ls (.long z :: St))) : KEnds p e below s Cn Sn Q T (mkF m pc Ls St) := by
  subst hpc hz; exact k_via (fun t h => XS.lconst X.here hx rfl hd h) k
theorem k_iaddL (X : Stand p l e R s m args below meth c T locs cells slots) (hx : p.tables.exec = Jvm.exec) {pc pc' : Nat} {Ls : Array Slot} {St : List Value} {x y : Int32} {z : Int32} (hd : decode c.code pc = .ok (.iadd, 1))  (hpc : pc + 1 = pc') (hz : x + y = z) (k : KEnds p e below s Cn Sn Q T (mkF m pc' Ls (.int z :: St))) : KEnds p e below s Cn Sn Q T (mkF m pc Ls (.int y :: .int x :: St)) := by
  subst hpc hz; exact k_via (fun t h => XS.iadd X.here hx rfl hd rfl h) k
theorem k_isubL (X : Stand p l e R s m args below meth c T locs cells slots) (hx : p.tables.exec = Jvm.exec) {pc pc' : Nat} {Ls : Array Slot} {St : List Value} {x y : Int32} {z : Int32} (hd : decode c.code pc = .ok (.isub, 1))  (hpc : pc + 1 = pc') (hz : x - y = z) (k : KEnds p e below s Cn Sn Q T (mkF m pc' Ls (.int z :: St))) : KEnds p e below s Cn Sn Q T (mkF m pc Ls (.int y :: .int x :: St)) := by
  subst hpc hz; exact k_via (fun t h => XS.isub X.here hx rfl hd rfl h) k
theorem k_iand (X : Stand p l e R s m args below meth c T locs cells slots) (hx : p.tables.exec = Jvm.exec) {pc pc' : Nat} {Ls : Array Slot} {St : List Value} {x y : Int32} (hd : decode c.code pc = .ok (.iand, 1))  (hpc : pc + 1 = pc') (k : ∀ z : Int32, z = x &&& y → KEnds p e below s Cn Sn Q T (mkF m pc' Ls (.int z :: St))) : KEnds p e below s Cn Sn Q T (mkF m pc Ls (.int y :: .int x :: St)) := by
  subst hpc; exact k_via (fun t h => XS.iand X.here hx rfl hd rfl h) (k _ rfl)
theorem k_laddL (X : Stand p l e R s m args below meth c T locs cells slots) (hx : p.tables.exec = Jvm.exec) {pc pc' : Nat} {Ls : Array Slot} {St : List Value} {x y : Int64} {z : Int64} (hd : decode c.code pc = .ok (.ladd, 1))  (hpc : pc + 1 = pc') (hz : x + y = z) (k : KEnds p e below s Cn Sn Q T (mkF m pc' Ls (.long z :: St))) : KEnds p e below s Cn Sn Q T (mkF m pc Ls (.long y :: .long x :: St)) := by
  subst hpc hz; exact k_via (fun t h => XS.ladd X.here hx rfl hd rfl h) k
theorem k_ladd (X : Stand p l e R s m args below meth c T locs cells slots) (hx : p.tables.exec = Jvm.exec) {pc pc' : Nat} {Ls : Array Slot} {St : List Value} {x y : Int64} (hd : decode c.code pc = .ok (.ladd, 1))  (hpc : pc + 1 = pc') (k : ∀ z : Int64, z = x + y → KEnds p e below s Cn Sn Q T (mkF m pc' Ls (.long z :: St))) : KEnds p e below s Cn Sn Q T (mkF m pc Ls (.long y :: .long x :: St)) := by
  subst hpc; exact k_via (fun t h => XS.ladd X.here hx rfl hd rfl h) (k _ rfl)
theorem k_lsubL (X : Stand p l e R s m args below meth c T locs cells slots) (hx : p.tables.exec = Jvm.exec) {pc pc' : Nat} {Ls : Array Slot} {St : List Value} {x y : Int64} {z : Int64} (hd : decode c.code pc = .ok (.lsub, 1))  (hpc : pc + 1 = pc') (hz : x - y = z) (k : KEnds p e below s Cn Sn Q T (mkF m pc' Ls (.long z :: St))) : KEnds p e below s Cn Sn Q T (mkF m pc Ls (.long y :: .long x :: St)) := by
  subst hpc hz; exact k_via (fun t h => XS.lsub X.here hx rfl hd rfl h) k
theorem k_lsub (X : Stand p l e R s m args below meth c T locs cells slots) (hx : p.tables.exec = Jvm.exec) {pc pc' : Nat} {Ls : Array Slot} {St : List Value} {x y : Int64} (hd : decode c.code pc = .ok (.lsub, 1))  (hpc : pc + 1 = pc') (k : ∀ z : Int64, z = x - y → KEnds p e below s Cn Sn Q T (mkF m pc' Ls (.long z :: St))) : KEnds p e below s Cn Sn Q T (mkF m pc Ls (.long y :: .long x :: St)) := by
  subst hpc; exact k_via (fun t h => XS.lsub X.here hx rfl hd rfl h) (k _ rfl)
theorem k_lmulL (X : Stand p l e R s m args below meth c T locs cells slots) (hx : p.tables.exec = Jvm.exec) {pc pc' : Nat} {Ls : Array Slot} {St : List Value} {x y : Int64} {z : Int64} (hd : decode c.code pc = .ok (.lmul, 1))  (hpc : pc + 1 = pc') (hz : x * y = z) (k : KEnds p e below s Cn Sn Q T (mkF m pc' Ls (.long z :: St))) : KEnds p e below s Cn Sn Q T (mkF m pc Ls (.long y :: .long x :: St)) := by
  subst hpc hz; exact k_via (fun t h => XS.lmul X.here hx rfl hd rfl h) k
theorem k_iushr (X : Stand p l e R s m args below meth c T locs cells slots) (hx : p.tables.exec = Jvm.exec) {pc pc' : Nat} {Ls : Array Slot} {St : List Value} {x y : Int32} (hd : decode c.code pc = .ok (.iushr, 1))  (hpc : pc + 1 = pc') (k : ∀ z : Int32, z = ((x.toUInt32 >>> (y &&& 31).toUInt32).toInt32) → KEnds p e below s Cn Sn Q T (mkF m pc' Ls (.int z :: St))) : KEnds p e below s Cn Sn Q T (mkF m pc Ls (.int y :: .int x :: St)) := by
  subst hpc; exact k_via (fun t h => XS.iushr X.here hx rfl hd rfl h) (k _ rfl)
theorem k_i2lL (X : Stand p l e R s m args below meth c T locs cells slots) (hx : p.tables.exec = Jvm.exec) {pc pc' : Nat} {Ls : Array Slot} {St : List Value} {x : Int32} {z : Int64} (hd : decode c.code pc = .ok (.i2l, 1))  (hpc : pc + 1 = pc') (hz : x.toInt64 = z) (k : KEnds p e below s Cn Sn Q T (mkF m pc' Ls (.long z :: St))) : KEnds p e below s Cn Sn Q T (mkF m pc Ls (.int x :: St)) := by
  subst hpc hz; exact k_via (fun t h => XS.i2l X.here hx rfl hd rfl h) k
theorem k_i2l (X : Stand p l e R s m args below meth c T locs cells slots) (hx : p.tables.exec = Jvm.exec) {pc pc' : Nat} {Ls : Array Slot} {St : List Value} {x : Int32} (hd : decode c.code pc = .ok (.i2l, 1))  (hpc : pc + 1 = pc') (k : ∀ z : Int64, z = x.toInt64 → KEnds p e below s Cn Sn Q T (mkF m pc' Ls (.long z :: St))) : KEnds p e below s Cn Sn Q T (mkF m pc Ls (.int x :: St)) := by
  subst hpc; exact k_via (fun t h => XS.i2l X.here hx rfl hd rfl h) (k _ rfl)
theorem k_l2iL (X : Stand p l e R s m args below meth c T locs cells slots) (hx : p.tables.exec = Jvm.exec) {pc pc' : Nat} {Ls : Array Slot} {St : List Value} {x : Int64} {z : Int32} (hd : decode c.code pc = .ok (.l2i, 1))  (hpc : pc + 1 = pc') (hz : x.toInt32 = z) (k : KEnds p e below s Cn Sn Q T (mkF m pc' Ls (.int z :: St))) : KEnds p e below s Cn Sn Q T (mkF m pc Ls (.long x :: St)) := by
  subst hpc hz; exact k_via (fun t h => XS.l2i X.here hx rfl hd rfl h) k
theorem k_dup (X : Stand p l e R s m args below meth c T locs cells slots) (hx : p.tables.exec = Jvm.exec) {pc pc' : Nat} {Ls : Array Slot} {St : List Value} {v : Value} (hd : decode c.code pc = .ok (.dup, 1)) (hv : v.category = 1) (hpc : pc + 1 = pc') (k : KEnds p e below s Cn Sn Q T (mkF m pc' Ls (v :: v :: St))) : KEnds p e below s Cn Sn Q T (mkF m pc Ls (v :: St)) := by
  subst hpc; exact k_via (fun t h => XS.dup X.here hx rfl hd rfl hv h) k
theorem k_dup2 (X : Stand p l e R s m args below meth c T locs cells slots) (hx : p.tables.exec = Jvm.exec) {pc pc' : Nat} {Ls : Array Slot} {St : List Value} {v w : Value} (hd : decode c.code pc = .ok (.dup2, 1)) (hv : v.category = 1) (hw : w.category = 1) (hpc : pc + 1 = pc') (k : KEnds p e below s Cn Sn Q T (mkF m pc' Ls (v :: w :: v :: w :: St))) : KEnds p e below s Cn Sn Q T (mkF m pc Ls (v :: w :: St)) := by
  subst hpc; exact k_via (fun t h => XT.dup2 X.here hx rfl hd rfl hv hw h) k
theorem k_pop2L (X : Stand p l e R s m args below meth c T locs cells slots) (hx : p.tables.exec = Jvm.exec) {pc pc' : Nat} {Ls : Array Slot} {St : List Value} {x : Int64} (hd : decode c.code pc = .ok (.pop2, 1)) (hpc : pc + 1 = pc') (k : KEnds p e below s Cn Sn Q T (mkF m pc' Ls St)) : KEnds p e below s Cn Sn Q T (mkF m pc Ls (.long x :: St)) := by
  subst hpc
  refine k_via (fun t h => ?_) k
  jvm_step X.here [X.here.top, hx, hd, Value.category]
  exact h
theorem k_goto (X : Stand p l e R s m args below meth c T locs cells slots) (hx : p.tables.exec = Jvm.exec) {pc pc' : Nat} {Ls : Array Slot} {St : List Value} {o : Int} (hd : decode c.code pc = .ok (.goto o, 3)) (hp : (pc : Int) + o = (pc' : Int)) (k : KEnds p e below s Cn Sn Q T (mkF m pc' Ls St)) : KEnds p e below s Cn Sn Q T (mkF m pc Ls St) :=
  k_via (fun t h => XS.goto X.here hx rfl (pc0 := pc) rfl hd (by omega) (by omega) h) k
theorem k_icmp_lt (X : Stand p l e R s m args below meth c T locs cells slots) (hx : p.tables.exec = Jvm.exec) {pc pn py : Nat} {Ls : Array Slot} {St : List Value} {x y : Int32} {o : Int} (hd : decode c.code pc = .ok (.if_icmp .lt o, 3)) (hn : pc + 3 = pn) (hp : (pc : Int) + o = (py : Int)) (ky : x < y → KEnds p e below s Cn Sn Q T (mkF m py Ls St)) (kn : ¬ x < y → KEnds p e below s Cn Sn Q T (mkF m pn Ls St)) : KEnds p e below s Cn Sn Q T (mkF m pc Ls (.int y :: .int x :: St)) := by
  subst hn
  by_cases hc : x < y
  · exact k_via (fun t h => XS.icmpYes X.here hx rfl (pc0 := pc) rfl hd rfl (tlt hc).1 (by omega) (by omega) h) (ky hc)
  · exact k_via (fun t h => XS.icmpNo X.here hx rfl hd rfl (flt hc).1 h) (kn hc)
theorem k_if_lt (X : Stand p l e R s m args below meth c T locs cells slots) (hx : p.tables.exec = Jvm.exec) {pc pn py : Nat} {Ls : Array Slot} {St : List Value} {x : Int32} {o : Int} (hd : decode c.code pc = .ok (.ifCond .lt o, 3)) (hn : pc + 3 = pn) (hp : (pc : Int) + o = (py : Int)) (ky : x < (0 : Int32) → KEnds p e below s Cn Sn Q T (mkF m py Ls St)) (kn : ¬ x < (0 : Int32) → KEnds p e below s Cn Sn Q T (mkF m pn Ls St)) : KEnds p e below s Cn Sn Q T (mkF m pc Ls (.int x :: St)) := by
  subst hn
  by_cases hc : x < (0 : Int32)
  · exact k_via (fun t h => XS.ifYes X.here hx rfl (pc0 := pc) rfl hd rfl ((if0 _ _).trans (tlt hc).1) (by omega) (by omega) h) (ky hc)
  · exact k_via (fun t h => XS.ifNo X.here hx rfl hd rfl ((if0 _ _).trans (flt hc).1) h) (kn hc)
theorem k_lcif_lt (X : Stand p l e R s m args below meth c T locs cells slots) (hx : p.tables.exec = Jvm.exec) {pc pn py : Nat} {Ls : Array Slot} {St : List Value} {x y : Int64} {o : Int} {pm : Nat} (hd0 : decode c.code pc = .ok (.lcmp, 1)) (hm : pc + 1 = pm) (hd : decode c.code pm = .ok (.ifCond .lt o, 3)) (hn : pm + 3 = pn) (hp : (pm : Int) + o = (py : Int)) (ky : x < y → KEnds p e below s Cn Sn Q T (mkF m py Ls St)) (kn : ¬ x < y → KEnds p e below s Cn Sn Q T (mkF m pn Ls St)) : KEnds p e below s Cn Sn Q T (mkF m pc Ls (.long y :: .long x :: St)) := by
  subst hm
  have F := k_if_lt (Q := Q) (Cn := Cn) (Sn := Sn) (Ls := Ls) (St := St) (x := lcmpW x y) X hx hd hn hp (fun hc => ky ((lw_lt x y).mp hc)) (fun hc => kn (fun q => hc ((lw_lt x y).mpr q)))
  exact k_via (fun t h => XS.lcmp X.here hx rfl hd0 rfl h) F
theorem k_icmp_ge (X : Stand p l e R s m args below meth c T locs cells slots) (hx : p.tables.exec = Jvm.exec) {pc pn py : Nat} {Ls : Array Slot} {St : List Value} {x y : Int32} {o : Int} (hd : decode c.code pc = .ok (.if_icmp .ge o, 3)) (hn : pc + 3 = pn) (hp : (pc : Int) + o = (py : Int)) (ky : ¬ x < y → KEnds p e below s Cn Sn Q T (mkF m py Ls St)) (kn : x < y → KEnds p e below s Cn Sn Q T (mkF m pn Ls St)) : KEnds p e below s Cn Sn Q T (mkF m pc Ls (.int y :: .int x :: St)) := by
  subst hn
  by_cases hc : x < y
  · exact k_via (fun t h => XS.icmpNo X.here hx rfl hd rfl (tlt hc).2.1 h) (kn hc)
  · exact k_via (fun t h => XS.icmpYes X.here hx rfl (pc0 := pc) rfl hd rfl (flt hc).2.1 (by omega) (by omega) h) (ky hc)
theorem k_if_ge (X : Stand p l e R s m args below meth c T locs cells slots) (hx : p.tables.exec = Jvm.exec) {pc pn py : Nat} {Ls : Array Slot} {St : List Value} {x : Int32} {o : Int} (hd : decode c.code pc = .ok (.ifCond .ge o, 3)) (hn : pc + 3 = pn) (hp : (pc : Int) + o = (py : Int)) (ky : ¬ x < (0 : Int32) → KEnds p e below s Cn Sn Q T (mkF m py Ls St)) (kn : x < (0 : Int32) → KEnds p e below s Cn Sn Q T (mkF m pn Ls St)) : KEnds p e below s Cn Sn Q T (mkF m pc Ls (.int x :: St)) := by
  subst hn
  by_cases hc : x < (0 : Int32)
  · exact k_via (fun t h => XS.ifNo X.here hx rfl hd rfl ((if0 _ _).trans (tlt hc).2.1) h) (kn hc)
  · exact k_via (fun t h => XS.ifYes X.here hx rfl (pc0 := pc) rfl hd rfl ((if0 _ _).trans (flt hc).2.1) (by omega) (by omega) h) (ky hc)
theorem k_lcif_ge (X : Stand p l e R s m args below meth c T locs cells slots) (hx : p.tables.exec = Jvm.exec) {pc pn py : Nat} {Ls : Array Slot} {St : List Value} {x y : Int64} {o : Int} {pm : Nat} (hd0 : decode c.code pc = .ok (.lcmp, 1)) (hm : pc + 1 = pm) (hd : decode c.code pm = .ok (.ifCond .ge o, 3)) (hn : pm + 3 = pn) (hp : (pm : Int) + o = (py : Int)) (ky : ¬ x < y → KEnds p e below s Cn Sn Q T (mkF m py Ls St)) (kn : x < y → KEnds p e below s Cn Sn Q T (mkF m pn Ls St)) : KEnds p e below s Cn Sn Q T (mkF m pc Ls (.long y :: .long x :: St)) := by
  subst hm
  have F := k_if_ge (Q := Q) (Cn := Cn) (Sn := Sn) (Ls := Ls) (St := St) (x := lcmpW x y) X hx hd hn hp (fun hc => ky (fun q => hc ((lw_lt x y).mpr q))) (fun hc => kn ((lw_lt x y).mp hc))
  exact k_via (fun t h => XS.lcmp X.here hx rfl hd0 rfl h) F
theorem k_if_gt (X : Stand p l e R s m args below meth c T locs cells slots) (hx : p.tables.exec = Jvm.exec) {pc pn py : Nat} {Ls : Array Slot} {St : List Value} {x : Int32} {o : Int} (hd : decode c.code pc = .ok (.ifCond .gt o, 3)) (hn : pc + 3 = pn) (hp : (pc : Int) + o = (py : Int)) (ky : (0 : Int32) < x → KEnds p e below s Cn Sn Q T (mkF m py Ls St)) (kn : ¬ (0 : Int32) < x → KEnds p e below s Cn Sn Q T (mkF m pn Ls St)) : KEnds p e below s Cn Sn Q T (mkF m pc Ls (.int x :: St)) := by
  subst hn
  by_cases hc : (0 : Int32) < x
  · exact k_via (fun t h => XS.ifYes X.here hx rfl (pc0 := pc) rfl hd rfl ((if0 _ _).trans (tlt hc).2.2.1) (by omega) (by omega) h) (ky hc)
  · exact k_via (fun t h => XS.ifNo X.here hx rfl hd rfl ((if0 _ _).trans (flt hc).2.2.1) h) (kn hc)
theorem k_lcif_gt (X : Stand p l e R s m args below meth c T locs cells slots) (hx : p.tables.exec = Jvm.exec) {pc pn py : Nat} {Ls : Array Slot} {St : List Value} {x y : Int64} {o : Int} {pm : Nat} (hd0 : decode c.code pc = .ok (.lcmp, 1)) (hm : pc + 1 = pm) (hd : decode c.code pm = .ok (.ifCond .gt o, 3)) (hn : pm + 3 = pn) (hp : (pm : Int) + o = (py : Int)) (ky : y < x → KEnds p e below s Cn Sn Q T (mkF m py Ls St)) (kn : ¬ y < x → KEnds p e below s Cn Sn Q T (mkF m pn Ls St)) : KEnds p e below s Cn Sn Q T (mkF m pc Ls (.long y :: .long x :: St)) := by
  subst hm
  have F := k_if_gt (Q := Q) (Cn := Cn) (Sn := Sn) (Ls := Ls) (St := St) (x := lcmpW x y) X hx hd hn hp (fun hc => ky ((lw_gt x y).mp hc)) (fun hc => kn (fun q => hc ((lw_gt x y).mpr q)))
  exact k_via (fun t h => XS.lcmp X.here hx rfl hd0 rfl h) F
theorem k_icmp_le (X : Stand p l e R s m args below meth c T locs cells slots) (hx : p.tables.exec = Jvm.exec) {pc pn py : Nat} {Ls : Array Slot} {St : List Value} {x y : Int32} {o : Int} (hd : decode c.code pc = .ok (.if_icmp .le o, 3)) (hn : pc + 3 = pn) (hp : (pc : Int) + o = (py : Int)) (ky : ¬ y < x → KEnds p e below s Cn Sn Q T (mkF m py Ls St)) (kn : y < x → KEnds p e below s Cn Sn Q T (mkF m pn Ls St)) : KEnds p e below s Cn Sn Q T (mkF m pc Ls (.int y :: .int x :: St)) := by
  subst hn
  by_cases hc : y < x
  · exact k_via (fun t h => XS.icmpNo X.here hx rfl hd rfl (tlt hc).2.2.2 h) (kn hc)
  · exact k_via (fun t h => XS.icmpYes X.here hx rfl (pc0 := pc) rfl hd rfl (flt hc).2.2.2 (by omega) (by omega) h) (ky hc)
theorem k_if_le (X : Stand p l e R s m args below meth c T locs cells slots) (hx : p.tables.exec = Jvm.exec) {pc pn py : Nat} {Ls : Array Slot} {St : List Value} {x : Int32} {o : Int} (hd : decode c.code pc = .ok (.ifCond .le o, 3)) (hn : pc + 3 = pn) (hp : (pc : Int) + o = (py : Int)) (ky : ¬ (0 : Int32) < x → KEnds p e below s Cn Sn Q T (mkF m py Ls St)) (kn : (0 : Int32) < x → KEnds p e below s Cn Sn Q T (mkF m pn Ls St)) : KEnds p e below s Cn Sn Q T (mkF m pc Ls (.int x :: St)) := by
  subst hn
  by_cases hc : (0 : Int32) < x
  · exact k_via (fun t h => XS.ifNo X.here hx rfl hd rfl ((if0 _ _).trans (tlt hc).2.2.2) h) (kn hc)
  · exact k_via (fun t h => XS.ifYes X.here hx rfl (pc0 := pc) rfl hd rfl ((if0 _ _).trans (flt hc).2.2.2) (by omega) (by omega) h) (ky hc)
theorem k_lcif_le (X : Stand p l e R s m args below meth c T locs cells slots) (hx : p.tables.exec = Jvm.exec) {pc pn py : Nat} {Ls : Array Slot} {St : List Value} {x y : Int64} {o : Int} {pm : Nat} (hd0 : decode c.code pc = .ok (.lcmp, 1)) (hm : pc + 1 = pm) (hd : decode c.code pm = .ok (.ifCond .le o, 3)) (hn : pm + 3 = pn) (hp : (pm : Int) + o = (py : Int)) (ky : ¬ y < x → KEnds p e below s Cn Sn Q T (mkF m py Ls St)) (kn : y < x → KEnds p e below s Cn Sn Q T (mkF m pn Ls St)) : KEnds p e below s Cn Sn Q T (mkF m pc Ls (.long y :: .long x :: St)) := by
  subst hm
  have F := k_if_le (Q := Q) (Cn := Cn) (Sn := Sn) (Ls := Ls) (St := St) (x := lcmpW x y) X hx hd hn hp (fun hc => ky (fun q => hc ((lw_gt x y).mpr q))) (fun hc => kn ((lw_gt x y).mp hc))
  exact k_via (fun t h => XS.lcmp X.here hx rfl hd0 rfl h) F
theorem k_icmp_eq (X : Stand p l e R s m args below meth c T locs cells slots) (hx : p.tables.exec = Jvm.exec) {pc pn py : Nat} {Ls : Array Slot} {St : List Value} {x y : Int32} {o : Int} (hd : decode c.code pc = .ok (.if_icmp .eq o, 3)) (hn : pc + 3 = pn) (hp : (pc : Int) + o = (py : Int)) (ky : x = y → KEnds p e below s Cn Sn Q T (mkF m py Ls St)) (kn : ¬ x = y → KEnds p e below s Cn Sn Q T (mkF m pn Ls St)) : KEnds p e below s Cn Sn Q T (mkF m pc Ls (.int y :: .int x :: St)) := by
  subst hn
  by_cases hc : x = y
  · exact k_via (fun t h => XS.icmpYes X.here hx rfl (pc0 := pc) rfl hd rfl (teq hc).1 (by omega) (by omega) h) (ky hc)
  · exact k_via (fun t h => XS.icmpNo X.here hx rfl hd rfl (feq hc).1 h) (kn hc)
theorem k_if_eq (X : Stand p l e R s m args below meth c T locs cells slots) (hx : p.tables.exec = Jvm.exec) {pc pn py : Nat} {Ls : Array Slot} {St : List Value} {x : Int32} {o : Int} (hd : decode c.code pc = .ok (.ifCond .eq o, 3)) (hn : pc + 3 = pn) (hp : (pc : Int) + o = (py : Int)) (ky : x = (0 : Int32) → KEnds p e below s Cn Sn Q T (mkF m py Ls St)) (kn : ¬ x = (0 : Int32) → KEnds p e below s Cn Sn Q T (mkF m pn Ls St)) : KEnds p e below s Cn Sn Q T (mkF m pc Ls (.int x :: St)) := by
  subst hn
  by_cases hc : x = (0 : Int32)
  · exact k_via (fun t h => XS.ifYes X.here hx rfl (pc0 := pc) rfl hd rfl ((if0 _ _).trans (teq hc).1) (by omega) (by omega) h) (ky hc)
  · exact k_via (fun t h => XS.ifNo X.here hx rfl hd rfl ((if0 _ _).trans (feq hc).1) h) (kn hc)
theorem k_icmp_ne (X : Stand p l e R s m args below meth c T locs cells slots) (hx : p.tables.exec = Jvm.exec) {pc pn py : Nat} {Ls : Array Slot} {St : List Value} {x y : Int32} {o : Int} (hd : decode c.code pc = .ok (.if_icmp .ne o, 3)) (hn : pc + 3 = pn) (hp : (pc : Int) + o = (py : Int)) (ky : ¬ x = y → KEnds p e below s Cn Sn Q T (mkF m py Ls St)) (kn : x = y → KEnds p e below s Cn Sn Q T (mkF m pn Ls St)) : KEnds p e below s Cn Sn Q T (mkF m pc Ls (.int y :: .int x :: St)) := by
  subst hn
  by_cases hc : x = y
  · exact k_via (fun t h => XS.icmpNo X.here hx rfl hd rfl (teq hc).2 h) (kn hc)
  · exact k_via (fun t h => XS.icmpYes X.here hx rfl (pc0 := pc) rfl hd rfl (feq hc).2 (by omega) (by omega) h) (ky hc)
theorem k_if_ne (X : Stand p l e R s m args below meth c T locs cells slots) (hx : p.tables.exec = Jvm.exec) {pc pn py : Nat} {Ls : Array Slot} {St : List Value} {x : Int32} {o : Int} (hd : decode c.code pc = .ok (.ifCond .ne o, 3)) (hn : pc + 3 = pn) (hp : (pc : Int) + o = (py : Int)) (ky : ¬ x = (0 : Int32) → KEnds p e below s Cn Sn Q T (mkF m py Ls St)) (kn : x = (0 : Int32) → KEnds p e below s Cn Sn Q T (mkF m pn Ls St)) : KEnds p e below s Cn Sn Q T (mkF m pc Ls (.int x :: St)) := by
  subst hn
  by_cases hc : x = (0 : Int32)
  · exact k_via (fun t h => XS.ifNo X.here hx rfl hd rfl ((if0 _ _).trans (teq hc).2) h) (kn hc)
  · exact k_via (fun t h => XS.ifYes X.here hx rfl (pc0 := pc) rfl hd rfl ((if0 _ _).trans (feq hc).2) (by omega) (by omega) h) (ky hc)
theorem k_lcif_ne (X : Stand p l e R s m args below meth c T locs cells slots) (hx : p.tables.exec = Jvm.exec) {pc pn py : Nat} {Ls : Array Slot} {St : List Value} {x y : Int64} {o : Int} {pm : Nat} (hd0 : decode c.code pc = .ok (.lcmp, 1)) (hm : pc + 1 = pm) (hd : decode c.code pm = .ok (.ifCond .ne o, 3)) (hn : pm + 3 = pn) (hp : (pm : Int) + o = (py : Int)) (ky : ¬ x = y → KEnds p e below s Cn Sn Q T (mkF m py Ls St)) (kn : x = y → KEnds p e below s Cn Sn Q T (mkF m pn Ls St)) : KEnds p e below s Cn Sn Q T (mkF m pc Ls (.long y :: .long x :: St)) := by
  subst hm
  have F := k_if_ne (Q := Q) (Cn := Cn) (Sn := Sn) (Ls := Ls) (St := St) (x := lcmpW x y) X hx hd hn hp (fun hc => ky (fun q => hc ((lw_eq x y).mpr q))) (fun hc => kn ((lw_eq x y).mp hc))
  exact k_via (fun t h => XS.lcmp X.here hx rfl hd0 rfl h) F
theorem k_retN (X : Stand p l e R s m args below meth c T locs cells slots) (hx : p.tables.exec = Jvm.exec) {pc : Nat} {Ls : Array Slot} {St : List Value} {t : FieldType} {z z' : Int32} (hret : meth.sig.returnType = some t) (ht : t = .boolean ∨ t = .byte ∨ t = .char ∨ t = .short) (hd : decode c.code pc = .ok (.ireturn, 1)) (hlk : meth.locks = false) (hC : cells ≤ Cn) (hS : slots ≤ Sn) (hz : nar t z = z') (q : Q (some (.int z')) T.heap locs) : KEnds p e below s Cn Sn Q T (mkF m pc Ls (.int z :: St)) := by
  subst hz
  obtain ⟨fs, hr, hrun, hended, hW, hsame⟩ := X.leave (v := some (.int (nar t z))) (fun h => by rw [hret] at h; cases h) hlk
  exact ⟨_, _, retN X hx hret ht hd hr, hrun, hended, _, _, rfl, q, ⟨_, rfl⟩, hW, hsame.mono hC hS⟩
theorem k_retI (X : Stand p l e R s m args below meth c T locs cells slots) (hx : p.tables.exec = Jvm.exec) {pc : Nat} {Ls : Array Slot} {St : List Value} {z : Int32} (hret : meth.sig.returnType = some .int) (hd : decode c.code pc = .ok (.ireturn, 1)) (hlk : meth.locks = false) (hC : cells ≤ Cn) (hS : slots ≤ Sn) (q : Q (some (.int z)) T.heap locs) : KEnds p e below s Cn Sn Q T (mkF m pc Ls (.int z :: St)) := by
  obtain ⟨fs, hr, hrun, hended, hW, hsame⟩ := X.leave (v := some (.int z)) (fun h => by rw [hret] at h; cases h) hlk
  exact ⟨_, _, retOut X hx hret rfl (Or.inl ⟨rfl, Or.inl rfl, _, rfl⟩) hd hr, hrun, hended, _, _, rfl, q, ⟨_, rfl⟩, hW, hsame.mono hC hS⟩
theorem k_retL (X : Stand p l e R s m args below meth c T locs cells slots) (hx : p.tables.exec = Jvm.exec) {pc : Nat} {Ls : Array Slot} {St : List Value} {z : Int64} (hret : meth.sig.returnType = some .long) (hd : decode c.code pc = .ok (.lreturn, 1)) (hlk : meth.locks = false) (hC : cells ≤ Cn) (hS : slots ≤ Sn) (q : Q (some (.long z)) T.heap locs) : KEnds p e below s Cn Sn Q T (mkF m pc Ls (.long z :: St)) := by
  obtain ⟨fs, hr, hrun, hended, hW, hsame⟩ := X.leave (v := some (.long z)) (fun h => by rw [hret] at h; cases h) hlk
  exact ⟨_, _, retOut X hx hret rfl (Or.inr (Or.inl ⟨rfl, rfl, _, rfl⟩)) hd hr, hrun, hended, _, _, rfl, q, ⟨_, rfl⟩, hW, hsame.mono hC hS⟩
theorem k_ret (X : Stand p l e R s m args below meth c T locs cells slots) (hx : p.tables.exec = Jvm.exec) {pc : Nat} {Ls : Array Slot} (hret : meth.sig.returnType = none) (hd : decode c.code pc = .ok (.return_, 1)) (hlk : meth.locks = false) (hC : cells ≤ Cn) (hS : slots ≤ Sn) (q : Q none T.heap locs) : KEnds p e below s Cn Sn Q T (mkF m pc Ls []) := by
  obtain ⟨fs, hr, hrun, hended, hW, hsame⟩ := X.leave (v := none) (fun _ => rfl) hlk
  exact ⟨_, _, X.returnOut hx hret hd hr, hrun, hended, _, _, rfl, q, ⟨_, rfl⟩, hW, hsame.mono hC hS⟩
variable {Z : State} {a0 : Array Value} {h : Heap} {own : String}
theorem k_ldc (X : Stand p l e R s m args below meth c T locs cells slots) (hx : p.tables.exec = Jvm.exec) (hZ : Z.Warmed39 s.vm) (hown : s.vm.findClass own = some m.cls) {pc pc' : Nat} {Ls : Array Slot} {St : List Value} {index : Nat} {v : Int32} (w : (Cond.constant own index v).before a0 Z = true) (hd : decode c.code pc = .ok (.ldc index, 2)) (hpc : pc + 2 = pc') (k : KEnds p e below s Cn Sn Q T (mkF m pc' Ls (.int v :: St))) : KEnds p e below s Cn Sn Q T (mkF m pc Ls St) := by
  subst hpc; exact k_via (X.ldcInt hx hown (mvT hZ w) (g := mkF m pc Ls St) rfl hd) k
theorem k_ldcL (X : Stand p l e R s m args below meth c T locs cells slots) (hx : p.tables.exec = Jvm.exec) (hZ : Z.Warmed39 s.vm) (hown : s.vm.findClass own = some m.cls) {pc pc' : Nat} {Ls : Array Slot} {St : List Value} {index : Nat} {v : Int64} (w : (Cond.constantLong own index v).before a0 Z = true) (hd : decode c.code pc = .ok (.ldc2_w index, 3)) (hpc : pc + 3 = pc') (k : KEnds p e below s Cn Sn Q T (mkF m pc' Ls (.long v :: St))) : KEnds p e below s Cn Sn Q T (mkF m pc Ls St) := by
  subst hpc; exact k_via (X.ldc2Long hx hown (mvT hZ w) (g := mkF m pc Ls St) rfl hd) k
theorem k_getF (X : Stand p l e R s m args below meth c T locs cells slots) (hx : p.tables.exec = Jvm.exec) (hZ : Z.Warmed39 s.vm) (hown : s.vm.findClass own = some m.cls) {pc pc' : Nat} {Ls : Array Slot} {St : List Value} {R0 O n d host : String} {index : Nat} (w : (Cond.fieldLink own index R0 n d).before a0 Z = true ∨ (Cond.fieldLinkNest own index R0 n d host).before a0 Z = true) (via : Via Z R0 O n d) (eT : T.heap = h) {a : Addr} {v : Value} (F : Fld Z h a O n d v) (hd : decode c.code pc = .ok (.getfield index, 3)) (hpc : pc + 3 = pc') (k : ∀ T', Stand p l e R s m args below meth c T' locs cells slots → T'.heap = h → KEnds p e below s Cn Sn Q T' (mkF m pc' Ls (v :: St))) : KEnds p e below s Cn Sn Q T (mkF m pc Ls (.ref a :: St)) := by
  subst hpc
  obtain ⟨T', X', e', st⟩ := getF X hx hZ hown w via eT F (g := mkF m pc Ls (.ref a :: St)) rfl rfl hd
  exact k_via st (k T' X' e')
theorem k_putF (X : Stand p l e R s m args below meth c T locs cells slots) (hx : p.tables.exec = Jvm.exec) (hZ : Z.Warmed39 s.vm) (hown : s.vm.findClass own = some m.cls) {pc pc' : Nat} {Ls : Array Slot} {St : List Value} {R0 O n d host C : String} {index kk : Nat} {ty : FieldType} (w : (Cond.fieldLink own index R0 n d).before a0 Z = true ∨ (Cond.fieldLinkNest own index R0 n d host).before a0 Z = true) (via : Via Z R0 O n d) (eT : T.heap = h) {a : Addr} {v old : Value} (F : Fld Z h a O n d old) (Ex : Exa Z h a C) (L : (Cond.lays C O n d).before a0 Z = true ∨ ((Cond.laysFinal C O n d).before a0 Z = true ∧ own = O ∧ meth.name = "<init>")) (wi : (Cond.instantiable C kk).before a0 Z = true) (hty : parseFieldDescriptor d = some ty) (hn : narrow ty v = v) (hf : fits ty v = true) (hd : decode c.code pc = .ok (.putfield index, 3)) (hpc : pc + 3 = pc') (k : ∀ T' h', Stand p l e R s m args below meth c T' (locs ++ [⟨a, Jvm.RoadKit.slotOf Z O n d⟩]) cells slots → T'.heap = h' → Wr h h' a (Jvm.RoadKit.slotOf Z O n d) v → KEnds p e below s Cn Sn Q T' (mkF m pc' Ls St)) : KEnds p e below s Cn Sn Q T (mkF m pc Ls (v :: .ref a :: St)) := by
  subst hpc
  obtain ⟨T', h', X', e', W', st⟩ := putF X hx hZ hown w via eT F Ex L wi hty hn hf (g := mkF m pc Ls (v :: .ref a :: St)) rfl rfl hd
  exact k_via st (k T' h' X' e' W')
theorem k_newO (X : Stand p l e R s m args below meth c T locs cells slots) (hx : p.tables.exec = Jvm.exec) (hZ : Z.Warmed39 s.vm) (hown : s.vm.findClass own = some m.cls) {pc pc' : Nat} {Ls : Array Slot} {St : List Value} {C : String} {index n : Nat} (w : (Cond.classLink own index C).before a0 Z = true) (wi : (Cond.instantiable C n).before a0 Z = true) (wz : (Cond.initialized C).before a0 Z = true) (eT : T.heap = h) (hd : decode c.code pc = .ok (.new index, 3)) (hc : cells + 1 ≤ R.cells) (hl : slots + n ≤ R.slots) (hpc : pc + 3 = pc') (k : ∀ T' h' a, a = h.size → Stand p l e R s m args below meth c T' locs (cells + 1) (slots + n) → T'.heap = h' → Ext h h' → Exa Z h' a C → (∀ {O nm d : String} {ty : FieldType}, Laid Z a0 C O nm d → parseFieldDescriptor d = some ty → Fld Z h' a O nm d (defaultValue ty)) → KEnds p e below s Cn Sn Q T' (mkF m pc' Ls (.ref a :: St))) : KEnds p e below s Cn Sn Q T (mkF m pc Ls St) := by
  subst hpc
  obtain ⟨T', h', X', e', E', A', D', -, st⟩ := newO X hx hZ hown w wi wz eT (g := mkF m pc Ls St) rfl hd hc hl
  exact k_via st (k T' h' _ rfl X' e' E' A' D')
theorem k_initO (X : Stand p l e R s m args below meth c T locs cells slots) (hx : p.tables.exec = Jvm.exec) (hZ : Z.Warmed39 s.vm) (hown : s.vm.findClass own = some m.cls) {pc pc' : Nat} {Ls : Array Slot} {St : List Value} {idx : Nat} (w1 : (Cond.methodLink own idx Lib.objectInit).before a0 Z = true) (w2 : (Cond.instanceMethod Lib.objectInit).before a0 Z = true) (w3 : (Cond.code Lib.objectInit ⟨#[0xb1]⟩ 1 none).before a0 Z = true) (eT : T.heap = h) (hsize : Ls.size = c.maxLocals) {a : Addr} (hd : decode c.code pc = .ok (.invokespecial idx, 3)) (hf : 1 ≤ R.frames) {W : Nat} (hW : (St.map fun v => v.category).sum ≤ W) (hl : W + 12 ≤ R.locals) (hpc : pc + 3 = pc') (k : ∀ T', Stand p l e R s m args below meth c T' locs cells slots → T'.heap = h → KEnds p e below s Cn Sn Q T' (mkF m pc' Ls St)) : KEnds p e below s Cn Sn Q T (mkF m pc Ls (.ref a :: St)) := by
  subst hpc
  obtain ⟨T', X', e', st⟩ := initO X hx hZ hown w1 w2 w3 eT (g := mkF m pc Ls (.ref a :: St)) rfl hsize rfl hd hf (W := W) (by show 2 * 0 + _ ≤ _; omega) hl
  exact k_via st (k T' X' e')
theorem k_newA (X : Stand p l e R s m args below meth c T locs cells slots) (hx : p.tables.exec = Jvm.exec) (hZ : Z.Warmed39 s.vm) {pc pc' : Nat} {Ls : Array Slot} {St : List Value} {aty : ArrayType} (w : (Cond.arrayClass (newarray.typeOf aty)).before a0 Z = true) (eT : T.heap = h) (hd : decode c.code pc = .ok (.newarray aty, 2)) {n : Int32} (hn : ¬ n < 0) {cap : Nat} (hcap : n.toNatClampNeg ≤ cap) (hb : cap * 8 ≤ 536870912) (hc : cells + 1 ≤ R.cells) (hl : slots + cap ≤ R.slots) (hpc : pc + 2 = pc') (k : ∀ T' h' a cA, a = h.size → Stand p l e R s m args below meth c T' locs (cells + 1) (slots + cap) → T'.heap = h' → Ext h h' → Arv Z h' a cA (newarray.typeOf aty) n (List.replicate cap (defaultValue (newarray.typeOf aty))) (defaultValue (newarray.typeOf aty)) → KEnds p e below s Cn Sn Q T' (mkF m pc' Ls (.ref a :: St))) : KEnds p e below s Cn Sn Q T (mkF m pc Ls (.int n :: St)) := by
  subst hpc
  obtain ⟨T', h', cA, X', e', E', A', st⟩ := newP X hx hZ w eT (g := mkF m pc Ls (.int n :: St)) rfl hd rfl hn hcap hb hc hl
  exact k_via st (k T' h' _ cA rfl X' e' E' ((Arv.new A' hn).pad (pad_rep [] _ cap)))
theorem k_lastore (X : Stand p l e R s m args below meth c T locs cells slots) (hx : p.tables.exec = Jvm.exec) (hZ : Z.Warmed39 s.vm) {pc pc' : Nat} {Ls : Array Slot} {St : List Value} (eT : T.heap = h) {a : Addr} {kA : ClassId} {z j : Int32} {x : Int64} {vs : List Value} {dv : Value} (F : Arv Z h a kA .long z vs dv) (hj : ¬ j < 0 ∧ j < z) {i : Nat} (hi : j.toNatClampNeg = i) (hil : i < vs.length) (hd : decode c.code pc = .ok (.lastore, 1)) (hpc : pc + 1 = pc') (k : ∀ T' h', Stand p l e R s m args below meth c T' (locs ++ [⟨a, j.toNatClampNeg⟩]) cells slots → T'.heap = h' → Wr h h' a j.toNatClampNeg (.long (x)) → Arv Z h' a kA .long z (vs.set i (.long (x))) dv → KEnds p e below s Cn Sn Q T' (mkF m pc' Ls St)) : KEnds p e below s Cn Sn Q T (mkF m pc Ls (.long x :: .int j :: .ref a :: St)) := by
  subst hpc
  obtain ⟨cl, A, q1, S, N, H, G⟩ := F
  obtain ⟨T', h', X', e', W', st⟩ := stJ X hx hZ eT A (inb_of S hj) (g := mkF m pc Ls (.long x :: .int j :: .ref a :: St)) rfl rfl hd
  exact k_via st (k T' h' X' e' W' (Arv.set A q1 S N H G rfl W' i hi hil))
theorem k_laload (X : Stand p l e R s m args below meth c T locs cells slots) (hx : p.tables.exec = Jvm.exec) (hZ : Z.Warmed39 s.vm) {pc pc' : Nat} {Ls : Array Slot} {St : List Value} (eT : T.heap = h) {a : Addr} {kA : ClassId} {z j : Int32} {v : Value} {vs : List Value} {dv : Value} (F : Arv Z h a kA .long z vs dv) (hj : ¬ j < 0 ∧ j < z) (hv : vs.getD j.toNatClampNeg dv = v) (hd : decode c.code pc = .ok (.laload, 1)) (hpc : pc + 1 = pc') (k : KEnds p e below s Cn Sn Q T (mkF m pc' Ls (v :: St))) : KEnds p e below s Cn Sn Q T (mkF m pc Ls (.int j :: .ref a :: St)) := by
  subst hpc
  obtain ⟨cl, A, q1, S, N, H, G⟩ := F
  exact k_via (fun t hs => X.laload hx (by rw [eT]; exact A.1) (State.isArrayOf_alike hZ.alike A.2.1) A.2.2 (inb_of S hj) (H.at (inb_of S hj) hv) (g := mkF m pc Ls (.int j :: .ref a :: St)) rfl rfl hd t hs) k
theorem k_alen (X : Stand p l e R s m args below meth c T locs cells slots) (hx : p.tables.exec = Jvm.exec) (hZ : Z.Warmed39 s.vm) {pc pc' : Nat} {Ls : Array Slot} {St : List Value} (eT : T.heap = h) {a : Addr} {kA : ClassId} {ty : FieldType} {z : Int32} {vs : List Value} {dv : Value} (F : Arv Z h a kA ty z vs dv) (hd : decode c.code pc = .ok (.arraylength, 1)) (hpc : pc + 1 = pc') (k : KEnds p e below s Cn Sn Q T (mkF m pc' Ls (.int z :: St))) : KEnds p e below s Cn Sn Q T (mkF m pc Ls (.ref a :: St)) := by
  subst hpc
  obtain ⟨cl, A, q1, S, N, H, G⟩ := F
  refine k_via (fun t hs => X.arraylength hx (by rw [eT]; exact A.1) (State.isArrayOf_alike hZ.alike A.2.1) (g := mkF m pc Ls (.ref a :: St)) rfl rfl hd t ?_) k
  rw [len_of S N]; exact hs
theorem k_callS (X : Stand p l e R s m args below meth c T locs cells slots) (hx : p.tables.exec = Jvm.exec) (hZ : Z.Warmed39 s.vm) (hown : s.vm.findClass own = some m.cls) {pc pc' : Nat} {Ls : Array Slot} {St : List Value} {y : MethodName} {bytes : ByteArray} {maxL : Nat} {ret : Option FieldType} {rm : Room} {index W : Nat} {as' : Array Value} {Q' : Option Value → Heap → List Loc → Prop} (w1 : (Cond.methodLink own index y).before a0 Z = true) (w2 : (Cond.static y).before a0 Z = true) (w3 : (Cond.initialized y.cls).before a0 Z = true) (w4 : (Cond.code y bytes maxL ret).before a0 Z = true) (hy : y.cls ≠ "java/lang/invoke/MethodHandle" ∧ y.cls ≠ "java/lang/invoke/VarHandle") (hM : MetFree l y (head1 [Cond.code y bytes maxL ret] rm) (fun a U => a = as' ∧ Z.Warmed39 U.vm ∧ U.heap = h) (fun _ _ _ _ _ => True) (fun _ U o U' => ∃ v L, o = .returned v ∧ Q' v U'.heap L ∧ FrameEnd U o U' L rm.cells rm.slots)) (hf : rm.frames + 1 ≤ R.frames) (hl : W + (maxL + 11) + rm.locals ≤ R.locals) (eT : T.heap = h) (hsize : Ls.size = c.maxLocals) {argsL rest : List Value} (hlen : ∀ sig, parseMethodDescriptor y.desc = some sig → argsL.length = sig.parameters.length) (hst : St = argsL.reverse ++ rest) (hW : (rest.map fun v => v.category).sum ≤ W) (has : argsL.toArray = as') (hd : decode c.code pc = .ok (.invokestatic index, 3)) (hce : cells + rm.cells ≤ R.cells) (hsl : slots + rm.slots ≤ R.slots) (hpc : pc + 3 = pc') (k : ∀ T' L v, Stand p l e R s m args below meth c T' (locs ++ L) (cells + rm.cells) (slots + rm.slots) → Q' v T'.heap L → KEnds p e below s Cn Sn Q T' (mkF m pc' Ls (v.toList ++ rest))) : KEnds p e below s Cn Sn Q T (mkF m pc Ls St) := by
  subst hpc
  obtain ⟨v, _, ⟨T', L', k', n'⟩, -, X', ⟨Lc, hQ, l', y', z'⟩, st⟩ := Jvm.LawKit.callS X hx (y := y) hown (mvT hZ w1) (mvT hZ w2) (mvT hZ w3) (mvT hZ w4) hy (backOf (W := W) hM hZ w4 w3 hf hl) (g := mkF m pc Ls St) rfl hsize hlen hst (by show 2 * 0 + _ ≤ _; omega) hd (fun _ _ => ⟨has, eT, hce, hsl⟩)
  dsimp only [Pt.U, Pt.locs, Pt.cells, Pt.slots] at X' l' y' z' st hQ
  subst l' y' z'
  exact k_via st (k T' Lc v X' hQ)
theorem k_callV (X : Stand p l e R s m args below meth c T locs cells slots) (hx : p.tables.exec = Jvm.exec) (hZ : Z.Warmed39 s.vm) (hown : s.vm.findClass own = some m.cls) {pc pc' : Nat} {Ls : Array Slot} {St : List Value} {y : MethodName} {bytes : ByteArray} {maxL : Nat} {ret : Option FieldType} {rm : Room} {index W : Nat} {as' : Array Value} {Q' : Option Value → Heap → List Loc → Prop} {C : String} {a : Addr} (w1 : (Cond.methodLink own index y).before a0 Z = true) (w2 : (Cond.declares y).before a0 Z = true) (w3 : (Cond.selects C y y).before a0 Z = true) (w5 : (Cond.instanceMethod y).before a0 Z = true) (w6 : (Cond.initialized y.cls).before a0 Z = true) (w4 : (Cond.code y bytes maxL ret).before a0 Z = true) (hy : y.cls ≠ "java/lang/invoke/MethodHandle" ∧ y.cls ≠ "java/lang/invoke/VarHandle") (Ex : Exa Z h a C) (hM : MetFree l y (head1 [Cond.code y bytes maxL ret] rm) (fun a U => a = as' ∧ Z.Warmed39 U.vm ∧ U.heap = h) (fun _ _ _ _ _ => True) (fun _ U o U' => ∃ v L, o = .returned v ∧ Q' v U'.heap L ∧ FrameEnd U o U' L rm.cells rm.slots)) (hf : rm.frames + 1 ≤ R.frames) (hl : W + (maxL + 11) + rm.locals ≤ R.locals) (eT : T.heap = h) (hsize : Ls.size = c.maxLocals) {argsL rest : List Value} (hlen : ∀ sig, parseMethodDescriptor y.desc = some sig → argsL.length = sig.parameters.length) (hst : St = argsL.reverse ++ .ref a :: rest) (hW : (rest.map fun v => v.category).sum ≤ W) (has : (.ref a :: argsL).toArray = as') (hd : decode c.code pc = .ok (.invokevirtual index, 3)) (hce : cells + rm.cells ≤ R.cells) (hsl : slots + rm.slots ≤ R.slots) (hpc : pc + 3 = pc') (k : ∀ T' L v, Stand p l e R s m args below meth c T' (locs ++ L) (cells + rm.cells) (slots + rm.slots) → Q' v T'.heap L → KEnds p e below s Cn Sn Q T' (mkF m pc' Ls (v.toList ++ rest))) : KEnds p e below s Cn Sn Q T (mkF m pc Ls St) := by
  subst hpc
  obtain ⟨cq, kq, qa, qb, qc⟩ := isOf hZ eT Ex
  obtain ⟨v, _, ⟨T', L', k', n'⟩, -, X', ⟨Lc, hQ, l', y', z'⟩, st⟩ := X.virtualBack hx (y := y) (z := y) hown (mvT hZ w1) (mvT hZ w2) (notFace_of_selects (args := #[]) (mvT hZ w3)) (mvT hZ w3) (mvT hZ w5) hy (backOf (W := W) hM hZ w4 w6 hf hl) qa qc (g := mkF m pc Ls St) rfl hsize (Steps.refl _) hlen hst (by show 2 * 0 + _ ≤ _; omega) hd (fun _ _ => ⟨has, eT, hce, hsl⟩)
  dsimp only [Pt.U, Pt.locs, Pt.cells, Pt.slots] at X' l' y' z' st hQ
  subst l' y' z'
  exact k_via (fun t h => st.trans h) (k T' Lc v X' hQ)
theorem k_callI (X : Stand p l e R s m args below meth c T locs cells slots) (hx : p.tables.exec = Jvm.exec) (hZ : Z.Warmed39 s.vm) (hown : s.vm.findClass own = some m.cls) {pc pc' : Nat} {Ls : Array Slot} {St : List Value} {y : MethodName} {bytes : ByteArray} {maxL : Nat} {ret : Option FieldType} {rm : Room} {index W : Nat} {as' : Array Value} {Q' : Option Value → Heap → List Loc → Prop} {a : Addr} (hin : y.name = "<init>") (w1 : (Cond.methodLink own index y).before a0 Z = true) (w5 : (Cond.instanceMethod y).before a0 Z = true) (w6 : (Cond.initialized y.cls).before a0 Z = true) (w4 : (Cond.code y bytes maxL none).before a0 Z = true) (hr : ret = none) (hy : y.cls ≠ "java/lang/invoke/MethodHandle" ∧ y.cls ≠ "java/lang/invoke/VarHandle") (hM : MetFree l y (head1 [Cond.code y bytes maxL ret] rm) (fun a U => a = as' ∧ Z.Warmed39 U.vm ∧ U.heap = h) (fun _ _ _ _ _ => True) (fun _ U o U' => ∃ v L, o = .returned v ∧ Q' v U'.heap L ∧ FrameEnd U o U' L rm.cells rm.slots)) (hf : rm.frames + 1 ≤ R.frames) (hl : W + (maxL + 11) + rm.locals ≤ R.locals) (eT : T.heap = h) (hsize : Ls.size = c.maxLocals) {argsL rest : List Value} (hlen : ∀ sig, parseMethodDescriptor y.desc = some sig → argsL.length = sig.parameters.length) (hst : St = argsL.reverse ++ .ref a :: rest) (hW : (rest.map fun v => v.category).sum ≤ W) (has : (.ref a :: argsL).toArray = as') (hd : decode c.code pc = .ok (.invokespecial index, 3)) (hce : cells + rm.cells ≤ R.cells) (hsl : slots + rm.slots ≤ R.slots) (hpc : pc + 3 = pc') (k : ∀ T' L v, Stand p l e R s m args below meth c T' (locs ++ L) (cells + rm.cells) (slots + rm.slots) → Q' v T'.heap L → KEnds p e below s Cn Sn Q T' (mkF m pc' Ls (v.toList ++ rest))) : KEnds p e below s Cn Sn Q T (mkF m pc Ls St) := by
  subst hpc hr
  obtain ⟨v, _, ⟨T', L', k', n'⟩, -, X', ⟨Lc, hQ, l', y', z'⟩, st⟩ := X.specialBack hx (y := y) hin hown (mvT hZ w1) (mvT hZ w5) (mvT hZ w4) hy (backOf (W := W) hM hZ w4 w6 hf hl) (g := mkF m pc Ls St) rfl hsize (Steps.refl _) (a := a) hlen hst (by show 2 * 0 + _ ≤ _; omega) hd (fun _ _ => ⟨has, eT, hce, hsl⟩)
  dsimp only [Pt.U, Pt.locs, Pt.cells, Pt.slots] at X' l' y' z' st hQ
  subst l' y' z'
  exact k_via (fun t h => st.trans h) (k T' Lc v X' hQ)
theorem k_callP (X : Stand p l e R s m args below meth c T locs cells slots) (hx : p.tables.exec = Jvm.exec) (hZ : Z.Warmed39 s.vm) (hown : s.vm.findClass own = some m.cls) {pc pc' : Nat} {Ls : Array Slot} {St : List Value} {y : MethodName} {bytes : ByteArray} {maxL : Nat} {ret : Option FieldType} {rm : Room} {index W : Nat} {as' : Array Value} {Q' : Option Value → Heap → List Loc → Prop} {C : String} {a : Addr} {nn : Nat} (w1 : (Cond.methodLink own index y).before a0 Z = true) (w5 : (Cond.instanceMethod y).before a0 Z = true) (wp : (Cond.privateMethod y).before a0 Z = true) (wi : (Cond.instantiable y.cls nn).before a0 Z = true) (w6 : (Cond.initialized y.cls).before a0 Z = true) (w4 : (Cond.code y bytes maxL ret).before a0 Z = true) (hy : y.cls ≠ "java/lang/invoke/MethodHandle" ∧ y.cls ≠ "java/lang/invoke/VarHandle") (Ex : Exa Z h a C) (hM : MetFree l y (head1 [Cond.code y bytes maxL ret] rm) (fun a U => a = as' ∧ Z.Warmed39 U.vm ∧ U.heap = h) (fun _ _ _ _ _ => True) (fun _ U o U' => ∃ v L, o = .returned v ∧ Q' v U'.heap L ∧ FrameEnd U o U' L rm.cells rm.slots)) (hf : rm.frames + 1 ≤ R.frames) (hl : W + (maxL + 11) + rm.locals ≤ R.locals) (eT : T.heap = h) (hsize : Ls.size = c.maxLocals) {argsL rest : List Value} (hlen : ∀ sig, parseMethodDescriptor y.desc = some sig → argsL.length = sig.parameters.length) (hst : St = argsL.reverse ++ .ref a :: rest) (hW : (rest.map fun v => v.category).sum ≤ W) (has : (.ref a :: argsL).toArray = as') (hd : decode c.code pc = .ok (.invokevirtual index, 3)) (hce : cells + rm.cells ≤ R.cells) (hsl : slots + rm.slots ≤ R.slots) (hpc : pc + 3 = pc') (k : ∀ T' L v, Stand p l e R s m args below meth c T' (locs ++ L) (cells + rm.cells) (slots + rm.slots) → Q' v T'.heap L → KEnds p e below s Cn Sn Q T' (mkF m pc' Ls (v.toList ++ rest))) : KEnds p e below s Cn Sn Q T (mkF m pc Ls St) := by
  subst hpc
  have hpriv : s.PrivateAt y := Cond.privateMethod_at (mvP hZ wp (args := args))
  obtain ⟨cc, kk, hc, hk, -, hni, -⟩ := Cond.instantiable_spec ((mvT hZ wi (args := args) : (Cond.instantiable y.cls nn).before args s = true))
  have hsel := selects_self_of_private hc hk (by cases q : kk.isInterface <;> simp_all) hpriv (mvT hZ w5 (args := args)) hy
  obtain ⟨cq, q1, q2⟩ := Ex.cell
  obtain ⟨v, _, ⟨T', L', k', n'⟩, -, X', ⟨Lc, hQ, l', y', z'⟩, st⟩ := X.privateBack hx (y := y) hown (mvT hZ w1) (mvT hZ w5) hsel hpriv (mvT hZ w4) hy (backOf (W := W) hM hZ w4 w6 hf hl) (g := mkF m pc Ls St) rfl hsize (Steps.refl _) (a := a) (by rw [eT]; exact q1) q2 hlen hst (by show 2 * 0 + _ ≤ _; omega) hd (fun _ _ => ⟨has, eT, hce, hsl⟩)
  dsimp only [Pt.U, Pt.locs, Pt.cells, Pt.slots] at X' l' y' z' st hQ
  subst l' y' z'
  exact k_via (fun t h => st.trans h) (k T' Lc v X' hQ)
end
end Jvm.OwnK
namespace Jvm.Pilot.@@N@@
open Jvm Jvm.ClassFile Sem Op Lib Jvm.Free Jvm.Stand Jvm.LawKit Jvm.RoadKit Jvm.OwnK Bundle Jvm.Pilot.@@N@@.Jvm.D
theorem d1_0 : decode prog_19_method_1_code 0 = .ok (.aload_n 0, 1) := by decide +kernel
theorem d1_1 : decode prog_19_method_1_code 1 = .ok (.invokespecial 1, 3) := by decide +kernel
theorem d1_4 : decode prog_19_method_1_code 4 = .ok (.aload_n 0, 1) := by decide +kernel
theorem d1_5 : decode prog_19_method_1_code 5 = .ok (.iconst 0, 1) := by decide +kernel
theorem d1_6 : decode prog_19_method_1_code 6 = .ok (.newarray .long, 2) := by decide +kernel
theorem d1_8 : decode prog_19_method_1_code 8 = .ok (.putfield 7, 3) := by decide +kernel
theorem d1_11 : decode prog_19_method_1_code 11 = .ok (.aload_n 0, 1) := by decide +kernel
theorem d1_12 : decode prog_19_method_1_code 12 = .ok (.iconst 0, 1) := by decide +kernel
theorem d1_13 : decode prog_19_method_1_code 13 = .ok (.newarray .long, 2) := by decide +kernel
theorem d1_15 : decode prog_19_method_1_code 15 = .ok (.putfield 13, 3) := by decide +kernel
theorem d1_18 : decode prog_19_method_1_code 18 = .ok (.lload_n 1, 1) := by decide +kernel
theorem d1_19 : decode prog_19_method_1_code 19 = .ok (.lconst 1, 1) := by decide +kernel
theorem d1_20 : decode prog_19_method_1_code 20 = .ok (.lcmp, 1) := by decide +kernel
theorem d1_21 : decode prog_19_method_1_code 21 = .ok (.ifCond .lt 9, 3) := by decide +kernel
theorem d1_24 : decode prog_19_method_1_code 24 = .ok (.lload_n 3, 1) := by decide +kernel
theorem d1_25 : decode prog_19_method_1_code 25 = .ok (.lconst 1, 1) := by decide +kernel
theorem d1_26 : decode prog_19_method_1_code 26 = .ok (.lcmp, 1) := by decide +kernel
theorem d1_27 : decode prog_19_method_1_code 27 = .ok (.ifCond .ge 18, 3) := by decide +kernel
theorem d1_45 : decode prog_19_method_1_code 45 = .ok (.aload_n 0, 1) := by decide +kernel
theorem d1_46 : decode prog_19_method_1_code 46 = .ok (.lload_n 1, 1) := by decide +kernel
theorem d1_47 : decode prog_19_method_1_code 47 = .ok (.putfield 25, 3) := by decide +kernel
theorem d1_50 : decode prog_19_method_1_code 50 = .ok (.aload_n 0, 1) := by decide +kernel
theorem d1_51 : decode prog_19_method_1_code 51 = .ok (.lload_n 3, 1) := by decide +kernel
theorem d1_52 : decode prog_19_method_1_code 52 = .ok (.putfield 29, 3) := by decide +kernel
theorem d1_55 : decode prog_19_method_1_code 55 = .ok (.return_, 1) := by decide +kernel
abbrev R1_22 : Room := { frames := 1, cells := 2, slots := 0, locals := 12 }
def Q1_22 (Z : State) (a1 : Addr) (p2 : Int64) (h0 : Heap) (n0 : Nat) (v : Option Value) (h : Heap) (L : List Loc) : Prop := Fr n0 L ∧ ((∃ (b24 : Addr) (k24 : ClassId) (b28 : Addr) (k28 : ClassId), v = none ∧ Exa Z h a1 "com/example/halter/halter/SlidingSum" ∧ Fld Z h a1 "com/example/halter/halter/SlidingSum" "times" "[J" (.ref b24) ∧ Fld Z h a1 "com/example/halter/halter/SlidingSum" "costs" "[J" (.ref b28) ∧ Fld Z h a1 "com/example/halter/halter/SlidingSum" "most" "J" (.long (9223372036854775807 : Int64)) ∧ Fld Z h a1 "com/example/halter/halter/SlidingSum" "length" "J" (.long p2) ∧ Fld Z h a1 "com/example/halter/halter/SlidingSum" "started" "Z" (.int (0 : Int32)) ∧ Fld Z h a1 "com/example/halter/halter/SlidingSum" "latest" "J" (.long (0 : Int64)) ∧ Fld Z h a1 "com/example/halter/halter/SlidingSum" "size" "I" (.int (0 : Int32)) ∧ Fld Z h a1 "com/example/halter/halter/SlidingSum" "sum" "J" (.long (0 : Int64)) ∧ Fld Z h a1 "com/example/halter/halter/SlidingSum" "head" "I" (.int (0 : Int32)) ∧ Arv Z h b24 k24 .long (0 : Int32) [] (.long (0 : Int64)) ∧ Arv Z h b28 k28 .long (0 : Int32) [] (.long (0 : Int64)) ∧ n0 ≤ b24 ∧ a1 < b24 ∧ n0 ≤ b28 ∧ b24 < b28 ∧ n0 ≤ h.size))
theorem ef1_22 (m : MethodId) (x0 : Addr) (x2 : Int64) : entryFrame m #[(.ref x0), (.long (9223372036854775807 : Int64)), (.long x2)] 5 = mkF m 0 #[.val (.ref x0), .val (.long (9223372036854775807 : Int64)), .second, .val (.long x2), .second] [] := by first | (simp [entryFrame, mkF, argsToLocals, Value.category]; done) | rfl
theorem pn_0 : plainName "com/example/halter/halter/SlidingSum" = true := by first | (simp [plainName, overriddenIn]; done) | decide +kernel
set_option maxRecDepth 65536 in
set_option maxHeartbeats 40000000 in
theorem rm1_22 (l : Launch) (Z : State) (a0 : Array Value) (hw : ∀ d ∈ tables_1, d.before a0 Z = true) (ws : List Jvm.Cond) (a1 : Addr) (p2 : Int64) (h0 : Heap) (n0 : Nat) (Z0 : n0 ≤ h0.size) (F0_0 : Exa Z h0 a1 "com/example/halter/halter/SlidingSum") (F0_1 : Fld Z h0 a1 "com/example/halter/halter/SlidingSum" "times" "[J" .null) (F0_2 : Fld Z h0 a1 "com/example/halter/halter/SlidingSum" "costs" "[J" .null) (F0_3 : Fld Z h0 a1 "com/example/halter/halter/SlidingSum" "most" "J" (.long (0 : Int64))) (F0_4 : Fld Z h0 a1 "com/example/halter/halter/SlidingSum" "length" "J" (.long (0 : Int64))) (F0_5 : Fld Z h0 a1 "com/example/halter/halter/SlidingSum" "started" "Z" (.int (0 : Int32))) (F0_6 : Fld Z h0 a1 "com/example/halter/halter/SlidingSum" "latest" "J" (.long (0 : Int64))) (F0_7 : Fld Z h0 a1 "com/example/halter/halter/SlidingSum" "size" "I" (.int (0 : Int32))) (F0_8 : Fld Z h0 a1 "com/example/halter/halter/SlidingSum" "sum" "J" (.long (0 : Int64))) (F0_9 : Fld Z h0 a1 "com/example/halter/halter/SlidingSum" "head" "I" (.int (0 : Int32))) (g_a1 : n0 ≤ a1) (hp0 : ¬ p2 < (1 : Int64)) :
    MetFree l (⟨"com/example/halter/halter/SlidingSum", "<init>", "(JJ)V"⟩ : MethodName) (head1 (Jvm.Cond.code (⟨"com/example/halter/halter/SlidingSum", "<init>", "(JJ)V"⟩ : MethodName) prog_19_method_1_code 5 none :: ws) R1_22) (fun a U => a = #[(.ref a1), (.long (9223372036854775807 : Int64)), (.long p2)] ∧ Z.Warmed39 U.vm ∧ U.heap = h0) (fun _ _ _ _ _ => True) (fun _ U o U' => ∃ v L, o = .returned v ∧ Q1_22 Z a1 p2 h0 n0 v U'.heap L ∧ FrameEnd U o U' L R1_22.cells R1_22.slots) := by
 refine MetFree.of_bodySF (plainFor_of_name pn_0) hisR ?_
 intro p e s m args below meth c s₁ Bd hml0 hP hK
 obtain ⟨rfl, hZ, hh⟩ := hP
 have hx := Bd.exec
 have hby := Bd.bytes
 have hml : c.maxLocals = 5 := hml0
 have hlk : meth.locks = false := Bd.notSynchronized
 have hown : s.vm.findClass "com/example/halter/halter/SlidingSum" = some m.cls := findClass_of_methodNamed Bd.named
 have hnm := (name_of_methodNamed Bd.named Bd.method).1
 have X0 : Stand p l e R1_22 s m #[(.ref a1), (.long (9223372036854775807 : Int64)), (.long p2)] below meth c s₁ [] 0 0 := Stand.of_body Bd
 have e0 : s₁.heap = h0 := by rw [← hh, Bd.state]; rfl
 have N0 := Fr.nil n0
 rw [ef1_22 m a1 p2]
 show KEnds p e below s R1_22.cells R1_22.slots (Q1_22 Z a1 p2 h0 n0) s₁ (mkF m 0 #[.val (.ref a1), .val (.long (9223372036854775807 : Int64)), .second, .val (.long p2), .second] [])
 refine k_aloadN X0 hx (hb hby d1_0) rfl rfl (pc' := 1) rfl ?_
 refine k_initO X0 hx hZ hown (hw _ (List.mem_of_getElem? (i := 7) rfl)) (hw _ (List.mem_of_getElem? (i := 8) rfl)) (hw _ (List.mem_of_getElem? (i := 9) rfl)) e0 (by rw [hml]; rfl) (hb hby d1_1) (by decide) (W := 0) (by decide) (by decide) (pc' := 4) rfl (fun T23 X23 e23 => ?_)
 refine k_aloadN X23 hx (hb hby d1_4) rfl rfl (pc' := 5) rfl ?_
 refine k_iconst X23 hx (hb hby d1_5) (pc' := 6) rfl (z := (0 : Int32)) rfl ?_
 refine k_newA X23 hx hZ (hw _ (List.mem_of_getElem? (i := 10) rfl)) e23 (hb hby d1_6) (by decide) (cap := 0) (by decide) (by decide) (by decide) (by decide) (pc' := 8) rfl (fun T24 h24 b24 k24 g24 X24 e24 E24 V24 => ?_)
 have g_b24 : n0 ≤ b24 := Nat.le_trans Z0 (Nat.le_of_eq g24.symm)
 have lt_b24 : a1 < b24 := Nat.lt_of_lt_of_le F0_0.lt (Nat.le_of_eq g24.symm)
 have Z24 : n0 ≤ h24.size := Nat.le_trans Z0 E24.1
 have Vw24 : Arv Z h24 b24 k24 .long (0 : Int32) [] (.long (0 : Int64)) := V24
 have F25 := (F0_1.ext E24)
 have F26 := (F0_0.ext E24)
 refine k_putF X24 hx hZ hown (host := "") (Or.inl (hw _ (List.mem_of_getElem? (i := 11) rfl))) Via.refl e24 F25 F26 (Or.inl (hw _ (List.mem_of_getElem? (i := 12) rfl))) (hw _ (List.mem_of_getElem? (i := 1) rfl)) (ty := (.array .long)) (by decide) rfl rfl (hb hby d1_8) (pc' := 11) rfl (fun T27 h27 X27 e27 W27 => ?_)
 have Fw27 : Fld Z h27 a1 "com/example/halter/halter/SlidingSum" "times" "[J" (.ref b24) := F25.same W27
 have N27 := Fr.snoc X27 N0 g_a1
 have Z27 : n0 ≤ h27.size := Nat.le_trans Z24 (Nat.le_of_eq W27.size.symm)
 refine k_aloadN X27 hx (hb hby d1_11) rfl rfl (pc' := 12) rfl ?_
 refine k_iconst X27 hx (hb hby d1_12) (pc' := 13) rfl (z := (0 : Int32)) rfl ?_
 refine k_newA X27 hx hZ (hw _ (List.mem_of_getElem? (i := 10) rfl)) e27 (hb hby d1_13) (by decide) (cap := 0) (by decide) (by decide) (by decide) (by decide) (pc' := 15) rfl (fun T28 h28 b28 k28 g28 X28 e28 E28 V28 => ?_)
 have F29 := (Vw24.other W27 (Ne.symm (Nat.ne_of_lt lt_b24)))
 have g_b28 : n0 ≤ b28 := Nat.le_trans Z27 (Nat.le_of_eq g28.symm)
 have lt_b28 : b24 < b28 := Nat.lt_of_lt_of_le F29.lt (Nat.le_of_eq g28.symm)
 have Z28 : n0 ≤ h28.size := Nat.le_trans Z27 E28.1
 have Vw28 : Arv Z h28 b28 k28 .long (0 : Int32) [] (.long (0 : Int64)) := V28
 have F30 := (((F0_2.ext E24).other W27 (Or.inr (slot_ne (Or.inl (hw _ (List.mem_of_getElem? (i := 14) rfl))) (Or.inl (hw _ (List.mem_of_getElem? (i := 12) rfl))) (by decide) (t := (.array .long)) (t' := (.array .long)) (by decide) (by decide)))).ext E28)
 have F31 := ((F26.wr W27).ext E28)
 refine k_putF X28 hx hZ hown (host := "") (Or.inl (hw _ (List.mem_of_getElem? (i := 13) rfl))) Via.refl e28 F30 F31 (Or.inl (hw _ (List.mem_of_getElem? (i := 14) rfl))) (hw _ (List.mem_of_getElem? (i := 1) rfl)) (ty := (.array .long)) (by decide) rfl rfl (hb hby d1_15) (pc' := 18) rfl (fun T32 h32 X32 e32 W32 => ?_)
 have Fw32 : Fld Z h32 a1 "com/example/halter/halter/SlidingSum" "costs" "[J" (.ref b28) := F30.same W32
 have N32 := Fr.snoc X32 N27 g_a1
 have Z32 : n0 ≤ h32.size := Nat.le_trans Z28 (Nat.le_of_eq W32.size.symm)
 refine k_lloadN X32 hx (hb hby d1_18) rfl (pc' := 19) rfl ?_
 refine k_lconst X32 hx (hb hby d1_19) (pc' := 20) rfl (z := (1 : Int64)) rfl ?_
 refine k_lcif_lt X32 hx (hb hby d1_20) (pm := 21) rfl (hb hby d1_21) (pn := 24) rfl (py := 30) (by decide) (fun hc => absurd hc (by decide)) (fun _ => ?_)
 refine k_lloadN X32 hx (hb hby d1_24) rfl (pc' := 25) rfl ?_
 refine k_lconst X32 hx (hb hby d1_25) (pc' := 26) rfl (z := (1 : Int64)) rfl ?_
 refine k_lcif_ge X32 hx (hb hby d1_26) (pm := 27) rfl (hb hby d1_27) (pn := 30) rfl (py := 45) (by decide) (fun _ => ?_) (fun hc => absurd hc hp0)
 refine k_aloadN X32 hx (hb hby d1_45) rfl rfl (pc' := 46) rfl ?_
 refine k_lloadN X32 hx (hb hby d1_46) rfl (pc' := 47) rfl ?_
 have F33 := ((((F0_3.ext E24).other W27 (Or.inr (slot_ne (Or.inr (hw _ (List.mem_of_getElem? (i := 16) rfl))) (Or.inl (hw _ (List.mem_of_getElem? (i := 12) rfl))) (by decide) (t := .long) (t' := (.array .long)) (by decide) (by decide)))).ext E28).other W32 (Or.inr (slot_ne (Or.inr (hw _ (List.mem_of_getElem? (i := 16) rfl))) (Or.inl (hw _ (List.mem_of_getElem? (i := 14) rfl))) (by decide) (t := .long) (t' := (.array .long)) (by decide) (by decide))))
 have F34 := (F31.wr W32)
 refine k_putF X32 hx hZ hown (host := "") (Or.inl (hw _ (List.mem_of_getElem? (i := 15) rfl))) Via.refl e32 F33 F34 (Or.inr ⟨(hw _ (List.mem_of_getElem? (i := 16) rfl)), rfl, hnm⟩) (hw _ (List.mem_of_getElem? (i := 1) rfl)) (ty := .long) (by decide) rfl rfl (hb hby d1_47) (pc' := 50) rfl (fun T35 h35 X35 e35 W35 => ?_)
 have Fw35 : Fld Z h35 a1 "com/example/halter/halter/SlidingSum" "most" "J" (.long (9223372036854775807 : Int64)) := F33.same W35
 have N35 := Fr.snoc X35 N32 g_a1
 have Z35 : n0 ≤ h35.size := Nat.le_trans Z32 (Nat.le_of_eq W35.size.symm)
 refine k_aloadN X35 hx (hb hby d1_50) rfl rfl (pc' := 51) rfl ?_
 refine k_lloadN X35 hx (hb hby d1_51) rfl (pc' := 52) rfl ?_
 have F36 := (((((F0_4.ext E24).other W27 (Or.inr (slot_ne (Or.inr (hw _ (List.mem_of_getElem? (i := 18) rfl))) (Or.inl (hw _ (List.mem_of_getElem? (i := 12) rfl))) (by decide) (t := .long) (t' := (.array .long)) (by decide) (by decide)))).ext E28).other W32 (Or.inr (slot_ne (Or.inr (hw _ (List.mem_of_getElem? (i := 18) rfl))) (Or.inl (hw _ (List.mem_of_getElem? (i := 14) rfl))) (by decide) (t := .long) (t' := (.array .long)) (by decide) (by decide)))).other W35 (Or.inr (slot_ne (Or.inr (hw _ (List.mem_of_getElem? (i := 18) rfl))) (Or.inr (hw _ (List.mem_of_getElem? (i := 16) rfl))) (by decide) (t := .long) (t' := .long) (by decide) (by decide))))
 have F37 := (F34.wr W35)
 refine k_putF X35 hx hZ hown (host := "") (Or.inl (hw _ (List.mem_of_getElem? (i := 17) rfl))) Via.refl e35 F36 F37 (Or.inr ⟨(hw _ (List.mem_of_getElem? (i := 18) rfl)), rfl, hnm⟩) (hw _ (List.mem_of_getElem? (i := 1) rfl)) (ty := .long) (by decide) rfl rfl (hb hby d1_52) (pc' := 55) rfl (fun T38 h38 X38 e38 W38 => ?_)
 have Fw38 : Fld Z h38 a1 "com/example/halter/halter/SlidingSum" "length" "J" (.long p2) := F36.same W38
 have N38 := Fr.snoc X38 N35 g_a1
 have Z38 : n0 ≤ h38.size := Nat.le_trans Z35 (Nat.le_of_eq W38.size.symm)
 have F39 := (F37.wr W38)
 have F40 := ((((Fw27.ext E28).other W32 (Or.inr (slot_ne (Or.inl (hw _ (List.mem_of_getElem? (i := 12) rfl))) (Or.inl (hw _ (List.mem_of_getElem? (i := 14) rfl))) (by decide) (t := (.array .long)) (t' := (.array .long)) (by decide) (by decide)))).other W35 (Or.inr (slot_ne (Or.inl (hw _ (List.mem_of_getElem? (i := 12) rfl))) (Or.inr (hw _ (List.mem_of_getElem? (i := 16) rfl))) (by decide) (t := (.array .long)) (t' := .long) (by decide) (by decide)))).other W38 (Or.inr (slot_ne (Or.inl (hw _ (List.mem_of_getElem? (i := 12) rfl))) (Or.inr (hw _ (List.mem_of_getElem? (i := 18) rfl))) (by decide) (t := (.array .long)) (t' := .long) (by decide) (by decide))))
 have F41 := ((Fw32.other W35 (Or.inr (slot_ne (Or.inl (hw _ (List.mem_of_getElem? (i := 14) rfl))) (Or.inr (hw _ (List.mem_of_getElem? (i := 16) rfl))) (by decide) (t := (.array .long)) (t' := .long) (by decide) (by decide)))).other W38 (Or.inr (slot_ne (Or.inl (hw _ (List.mem_of_getElem? (i := 14) rfl))) (Or.inr (hw _ (List.mem_of_getElem? (i := 18) rfl))) (by decide) (t := (.array .long)) (t' := .long) (by decide) (by decide))))
 have F42 := (Fw35.other W38 (Or.inr (slot_ne (Or.inr (hw _ (List.mem_of_getElem? (i := 16) rfl))) (Or.inr (hw _ (List.mem_of_getElem? (i := 18) rfl))) (by decide) (t := .long) (t' := .long) (by decide) (by decide))))
 have F43 := ((((((F0_5.ext E24).other W27 (Or.inr (slot_ne (Or.inl (hw _ (List.mem_of_getElem? (i := 25) rfl))) (Or.inl (hw _ (List.mem_of_getElem? (i := 12) rfl))) (by decide) (t := .boolean) (t' := (.array .long)) (by decide) (by decide)))).ext E28).other W32 (Or.inr (slot_ne (Or.inl (hw _ (List.mem_of_getElem? (i := 25) rfl))) (Or.inl (hw _ (List.mem_of_getElem? (i := 14) rfl))) (by decide) (t := .boolean) (t' := (.array .long)) (by decide) (by decide)))).other W35 (Or.inr (slot_ne (Or.inl (hw _ (List.mem_of_getElem? (i := 25) rfl))) (Or.inr (hw _ (List.mem_of_getElem? (i := 16) rfl))) (by decide) (t := .boolean) (t' := .long) (by decide) (by decide)))).other W38 (Or.inr (slot_ne (Or.inl (hw _ (List.mem_of_getElem? (i := 25) rfl))) (Or.inr (hw _ (List.mem_of_getElem? (i := 18) rfl))) (by decide) (t := .boolean) (t' := .long) (by decide) (by decide))))
 have F44 := ((((((F0_6.ext E24).other W27 (Or.inr (slot_ne (Or.inl (hw _ (List.mem_of_getElem? (i := 36) rfl))) (Or.inl (hw _ (List.mem_of_getElem? (i := 12) rfl))) (by decide) (t := .long) (t' := (.array .long)) (by decide) (by decide)))).ext E28).other W32 (Or.inr (slot_ne (Or.inl (hw _ (List.mem_of_getElem? (i := 36) rfl))) (Or.inl (hw _ (List.mem_of_getElem? (i := 14) rfl))) (by decide) (t := .long) (t' := (.array .long)) (by decide) (by decide)))).other W35 (Or.inr (slot_ne (Or.inl (hw _ (List.mem_of_getElem? (i := 36) rfl))) (Or.inr (hw _ (List.mem_of_getElem? (i := 16) rfl))) (by decide) (t := .long) (t' := .long) (by decide) (by decide)))).other W38 (Or.inr (slot_ne (Or.inl (hw _ (List.mem_of_getElem? (i := 36) rfl))) (Or.inr (hw _ (List.mem_of_getElem? (i := 18) rfl))) (by decide) (t := .long) (t' := .long) (by decide) (by decide))))
 have F45 := ((((((F0_7.ext E24).other W27 (Or.inr (slot_ne (Or.inl (hw _ (List.mem_of_getElem? (i := 42) rfl))) (Or.inl (hw _ (List.mem_of_getElem? (i := 12) rfl))) (by decide) (t := .int) (t' := (.array .long)) (by decide) (by decide)))).ext E28).other W32 (Or.inr (slot_ne (Or.inl (hw _ (List.mem_of_getElem? (i := 42) rfl))) (Or.inl (hw _ (List.mem_of_getElem? (i := 14) rfl))) (by decide) (t := .int) (t' := (.array .long)) (by decide) (by decide)))).other W35 (Or.inr (slot_ne (Or.inl (hw _ (List.mem_of_getElem? (i := 42) rfl))) (Or.inr (hw _ (List.mem_of_getElem? (i := 16) rfl))) (by decide) (t := .int) (t' := .long) (by decide) (by decide)))).other W38 (Or.inr (slot_ne (Or.inl (hw _ (List.mem_of_getElem? (i := 42) rfl))) (Or.inr (hw _ (List.mem_of_getElem? (i := 18) rfl))) (by decide) (t := .int) (t' := .long) (by decide) (by decide))))
 have F46 := ((((((F0_8.ext E24).other W27 (Or.inr (slot_ne (Or.inl (hw _ (List.mem_of_getElem? (i := 44) rfl))) (Or.inl (hw _ (List.mem_of_getElem? (i := 12) rfl))) (by decide) (t := .long) (t' := (.array .long)) (by decide) (by decide)))).ext E28).other W32 (Or.inr (slot_ne (Or.inl (hw _ (List.mem_of_getElem? (i := 44) rfl))) (Or.inl (hw _ (List.mem_of_getElem? (i := 14) rfl))) (by decide) (t := .long) (t' := (.array .long)) (by decide) (by decide)))).other W35 (Or.inr (slot_ne (Or.inl (hw _ (List.mem_of_getElem? (i := 44) rfl))) (Or.inr (hw _ (List.mem_of_getElem? (i := 16) rfl))) (by decide) (t := .long) (t' := .long) (by decide) (by decide)))).other W38 (Or.inr (slot_ne (Or.inl (hw _ (List.mem_of_getElem? (i := 44) rfl))) (Or.inr (hw _ (List.mem_of_getElem? (i := 18) rfl))) (by decide) (t := .long) (t' := .long) (by decide) (by decide))))
 have F47 := ((((((F0_9.ext E24).other W27 (Or.inr (slot_ne (Or.inl (hw _ (List.mem_of_getElem? (i := 69) rfl))) (Or.inl (hw _ (List.mem_of_getElem? (i := 12) rfl))) (by decide) (t := .int) (t' := (.array .long)) (by decide) (by decide)))).ext E28).other W32 (Or.inr (slot_ne (Or.inl (hw _ (List.mem_of_getElem? (i := 69) rfl))) (Or.inl (hw _ (List.mem_of_getElem? (i := 14) rfl))) (by decide) (t := .int) (t' := (.array .long)) (by decide) (by decide)))).other W35 (Or.inr (slot_ne (Or.inl (hw _ (List.mem_of_getElem? (i := 69) rfl))) (Or.inr (hw _ (List.mem_of_getElem? (i := 16) rfl))) (by decide) (t := .int) (t' := .long) (by decide) (by decide)))).other W38 (Or.inr (slot_ne (Or.inl (hw _ (List.mem_of_getElem? (i := 69) rfl))) (Or.inr (hw _ (List.mem_of_getElem? (i := 18) rfl))) (by decide) (t := .int) (t' := .long) (by decide) (by decide))))
 have F48 := ((((F29.ext E28).other W32 (Ne.symm (Nat.ne_of_lt lt_b24))).other W35 (Ne.symm (Nat.ne_of_lt lt_b24))).other W38 (Ne.symm (Nat.ne_of_lt lt_b24)))
 have F49 := (((Vw28.other W32 (Ne.symm (Nat.ne_of_lt (Nat.lt_trans lt_b24 lt_b28)))).other W35 (Ne.symm (Nat.ne_of_lt (Nat.lt_trans lt_b24 lt_b28)))).other W38 (Ne.symm (Nat.ne_of_lt (Nat.lt_trans lt_b24 lt_b28))))
 exact k_ret X38 hx Bd.returns (hb hby d1_55) hlk (by decide) (by decide) (by rw [e38]; exact ⟨N38, ⟨b24, k24, b28, k28, rfl, F39, F40, F41, F42, Fw38, F43, F44, F45, F46, F47, F48, F49, g_b24, lt_b24, g_b28, lt_b28, Z38⟩⟩)
theorem pd_0 : parseMethodDescriptor "(JJ)V" = some ⟨[.long, .long], none⟩ := by decide +kernel
theorem d3_0 : decode prog_19_method_5_code 0 = .ok (.aload_n 0, 1) := by decide +kernel
theorem d3_1 : decode prog_19_method_5_code 1 = .ok (.getfield 49, 3) := by decide +kernel
theorem d3_4 : decode prog_19_method_5_code 4 = .ok (.ifCond .eq 18, 3) := by decide +kernel
theorem d3_22 : decode prog_19_method_5_code 22 = .ok (.iconst 0, 1) := by decide +kernel
theorem d3_23 : decode prog_19_method_5_code 23 = .ok (.ireturn, 1) := by decide +kernel
abbrev R3_74 : Room := { frames := 0, cells := 0, slots := 0, locals := 0 }
def Q3_74 (Z : State) (a1 : Addr) (p2 : Int64) (a3 : Addr) (a4 : Addr) (p5 : Int64) (k6 : ClassId) (k7 : ClassId) (h0 : Heap) (n0 : Nat) (v : Option Value) (h : Heap) (L : List Loc) : Prop := Fr n0 L ∧ h = h0 ∧ ((v = some (.int (0 : Int32))))
theorem ef3_74 (m : MethodId) (x0 : Addr) (x1 : Int64) : entryFrame m #[(.ref x0), (.long x1)] 3 = mkF m 0 #[.val (.ref x0), .val (.long x1), .second] [] := by first | (simp [entryFrame, mkF, argsToLocals, Value.category]; done) | rfl
set_option maxRecDepth 65536 in
set_option maxHeartbeats 40000000 in
theorem rm3_74 (l : Launch) (Z : State) (a0 : Array Value) (hw : ∀ d ∈ tables_1, d.before a0 Z = true) (ws : List Jvm.Cond) (a1 : Addr) (p2 : Int64) (a3 : Addr) (a4 : Addr) (p5 : Int64) (k6 : ClassId) (k7 : ClassId) (h0 : Heap) (n0 : Nat) (Z0 : n0 ≤ h0.size) (F0_0 : Exa Z h0 a1 "com/example/halter/halter/SlidingSum") (F0_1 : Fld Z h0 a1 "com/example/halter/halter/SlidingSum" "times" "[J" (.ref a3)) (F0_2 : Fld Z h0 a1 "com/example/halter/halter/SlidingSum" "costs" "[J" (.ref a4)) (F0_3 : Fld Z h0 a1 "com/example/halter/halter/SlidingSum" "most" "J" (.long (9223372036854775807 : Int64))) (F0_4 : Fld Z h0 a1 "com/example/halter/halter/SlidingSum" "length" "J" (.long p5)) (F0_5 : Fld Z h0 a1 "com/example/halter/halter/SlidingSum" "started" "Z" (.int (0 : Int32))) (F0_6 : Fld Z h0 a1 "com/example/halter/halter/SlidingSum" "latest" "J" (.long (0 : Int64))) (F0_7 : Fld Z h0 a1 "com/example/halter/halter/SlidingSum" "size" "I" (.int (0 : Int32))) (F0_8 : Fld Z h0 a1 "com/example/halter/halter/SlidingSum" "sum" "J" (.long (0 : Int64))) (F0_9 : Fld Z h0 a1 "com/example/halter/halter/SlidingSum" "head" "I" (.int (0 : Int32))) (F0_10 : Arv Z h0 a3 k6 .long (0 : Int32) [] (.long (0 : Int64))) (F0_11 : Arv Z h0 a4 k7 .long (0 : Int32) [] (.long (0 : Int64))) (lt0_0 : a1 < a3) (lt0_1 : a3 < a4) :
    MetFree l (⟨"com/example/halter/halter/SlidingSum", "givenAfter", "(J)Z"⟩ : MethodName) (head1 (Jvm.Cond.code (⟨"com/example/halter/halter/SlidingSum", "givenAfter", "(J)Z"⟩ : MethodName) prog_19_method_5_code 3 (some .boolean) :: ws) R3_74) (fun a U => a = #[(.ref a1), (.long p2)] ∧ Z.Warmed39 U.vm ∧ U.heap = h0) (fun _ _ _ _ _ => True) (fun _ U o U' => ∃ v L, o = .returned v ∧ Q3_74 Z a1 p2 a3 a4 p5 k6 k7 h0 n0 v U'.heap L ∧ FrameEnd U o U' L R3_74.cells R3_74.slots) := by
 refine MetFree.of_bodySF (plainFor_of_name pn_0) hisR ?_
 intro p e s m args below meth c s₁ Bd hml0 hP hK
 obtain ⟨rfl, hZ, hh⟩ := hP
 have hx := Bd.exec
 have hby := Bd.bytes
 have hml : c.maxLocals = 3 := hml0
 have hlk : meth.locks = false := Bd.notSynchronized
 have hown : s.vm.findClass "com/example/halter/halter/SlidingSum" = some m.cls := findClass_of_methodNamed Bd.named
 have hnm := (name_of_methodNamed Bd.named Bd.method).1
 have X0 : Stand p l e R3_74 s m #[(.ref a1), (.long p2)] below meth c s₁ [] 0 0 := Stand.of_body Bd
 have e0 : s₁.heap = h0 := by rw [← hh, Bd.state]; rfl
 have N0 := Fr.nil n0
 rw [ef3_74 m a1 p2]
 show KEnds p e below s R3_74.cells R3_74.slots (Q3_74 Z a1 p2 a3 a4 p5 k6 k7 h0 n0) s₁ (mkF m 0 #[.val (.ref a1), .val (.long p2), .second] [])
 refine k_aloadN X0 hx (hb hby d3_0) rfl rfl (pc' := 1) rfl ?_
 refine k_getF X0 hx hZ hown (host := "") (Or.inl (hw _ (List.mem_of_getElem? (i := 24) rfl))) Via.refl e0 F0_5 (hb hby d3_1) (pc' := 4) rfl (fun T75 X75 e75 => ?_)
 refine k_if_eq X75 hx (hb hby d3_4) (pn := 7) rfl (py := 22) (by decide) (fun _ => ?_) (fun hc => absurd (by decide) hc)
 refine k_iconst X75 hx (hb hby d3_22) (pc' := 23) rfl (z := (0 : Int32)) rfl ?_
 exact k_retN X75 hx (t := .boolean) Bd.returns (by simp) (hb hby d3_23) hlk (by decide) (by decide) (z' := (0 : Int32)) rfl ⟨N0, e75, rfl⟩
theorem pd_1 : parseMethodDescriptor "(J)Z" = some ⟨[.long], some .boolean⟩ := by decide +kernel
theorem d13_0 : decode prog_19_method_2_code 0 = .ok (.aload_n 0, 1) := by decide +kernel
theorem d13_1 : decode prog_19_method_2_code 1 = .ok (.lload_n 1, 1) := by decide +kernel
theorem d13_2 : decode prog_19_method_2_code 2 = .ok (.invokevirtual 32, 3) := by decide +kernel
theorem d5_0 : decode prog_19_method_7_code 0 = .ok (.aload_n 0, 1) := by decide +kernel
theorem d5_1 : decode prog_19_method_7_code 1 = .ok (.getfield 49, 3) := by decide +kernel
theorem d5_4 : decode prog_19_method_7_code 4 = .ok (.ifCond .eq 14, 3) := by decide +kernel
theorem d5_18 : decode prog_19_method_7_code 18 = .ok (.aload_n 0, 1) := by decide +kernel
theorem d5_19 : decode prog_19_method_7_code 19 = .ok (.lload_n 1, 1) := by decide +kernel
theorem d5_20 : decode prog_19_method_7_code 20 = .ok (.putfield 53, 3) := by decide +kernel
theorem d5_23 : decode prog_19_method_7_code 23 = .ok (.aload_n 0, 1) := by decide +kernel
theorem d5_24 : decode prog_19_method_7_code 24 = .ok (.iconst 1, 1) := by decide +kernel
theorem d5_25 : decode prog_19_method_7_code 25 = .ok (.putfield 49, 3) := by decide +kernel
theorem d5_28 : decode prog_19_method_7_code 28 = .ok (.aload_n 0, 1) := by decide +kernel
theorem d5_29 : decode prog_19_method_7_code 29 = .ok (.invokevirtual 56, 3) := by decide +kernel
theorem d6_0 : decode prog_19_method_8_code 0 = .ok (.aload_n 0, 1) := by decide +kernel
theorem d6_1 : decode prog_19_method_8_code 1 = .ok (.getfield 45, 3) := by decide +kernel
theorem d6_4 : decode prog_19_method_8_code 4 = .ok (.ifCond .le 65, 3) := by decide +kernel
theorem d6_69 : decode prog_19_method_8_code 69 = .ok (.aload_n 0, 1) := by decide +kernel
theorem d6_70 : decode prog_19_method_8_code 70 = .ok (.getfield 7, 3) := by decide +kernel
theorem d6_73 : decode prog_19_method_8_code 73 = .ok (.arraylength, 1) := by decide +kernel
theorem d6_74 : decode prog_19_method_8_code 74 = .ok (.istore_n 1, 1) := by decide +kernel
theorem d6_75 : decode prog_19_method_8_code 75 = .ok (.iload_n 1, 1) := by decide +kernel
theorem d6_76 : decode prog_19_method_8_code 76 = .ok (.bipush 8, 2) := by decide +kernel
theorem d6_78 : decode prog_19_method_8_code 78 = .ok (.if_icmp .le 20, 3) := by decide +kernel
theorem d6_98 : decode prog_19_method_8_code 98 = .ok (.iload_n 1, 1) := by decide +kernel
theorem d6_99 : decode prog_19_method_8_code 99 = .ok (.aload_n 0, 1) := by decide +kernel
theorem d6_100 : decode prog_19_method_8_code 100 = .ok (.getfield 7, 3) := by decide +kernel
theorem d6_103 : decode prog_19_method_8_code 103 = .ok (.arraylength, 1) := by decide +kernel
theorem d6_104 : decode prog_19_method_8_code 104 = .ok (.if_icmp .eq 8, 3) := by decide +kernel
theorem d6_112 : decode prog_19_method_8_code 112 = .ok (.return_, 1) := by decide +kernel
abbrev R6_100 : Room := { frames := 0, cells := 0, slots := 0, locals := 0 }
def Q6_100 (Z : State) (a1 : Addr) (a2 : Addr) (a3 : Addr) (p4 : Int64) (p5 : Int64) (k6 : ClassId) (k7 : ClassId) (h0 : Heap) (n0 : Nat) (v : Option Value) (h : Heap) (L : List Loc) : Prop := Fr n0 L ∧ ((v = none ∧ Exa Z h a1 "com/example/halter/halter/SlidingSum" ∧ Fld Z h a1 "com/example/halter/halter/SlidingSum" "times" "[J" (.ref a2) ∧ Fld Z h a1 "com/example/halter/halter/SlidingSum" "costs" "[J" (.ref a3) ∧ Fld Z h a1 "com/example/halter/halter/SlidingSum" "most" "J" (.long (9223372036854775807 : Int64)) ∧ Fld Z h a1 "com/example/halter/halter/SlidingSum" "length" "J" (.long p4) ∧ Fld Z h a1 "com/example/halter/halter/SlidingSum" "started" "Z" (.int (1 : Int32)) ∧ Fld Z h a1 "com/example/halter/halter/SlidingSum" "latest" "J" (.long p5) ∧ Fld Z h a1 "com/example/halter/halter/SlidingSum" "size" "I" (.int (0 : Int32)) ∧ Fld Z h a1 "com/example/halter/halter/SlidingSum" "sum" "J" (.long (0 : Int64)) ∧ Fld Z h a1 "com/example/halter/halter/SlidingSum" "head" "I" (.int (0 : Int32)) ∧ Arv Z h a2 k6 .long (0 : Int32) [] (.long (0 : Int64)) ∧ Arv Z h a3 k7 .long (0 : Int32) [] (.long (0 : Int64)) ∧ n0 ≤ h.size))
theorem ef6_100 (m : MethodId) (x0 : Addr) : entryFrame m #[(.ref x0)] 2 = mkF m 0 #[.val (.ref x0), .unset] [] := by first | (simp [entryFrame, mkF, argsToLocals, Value.category]; done) | rfl
set_option maxRecDepth 65536 in
set_option maxHeartbeats 40000000 in
theorem rm6_100 (l : Launch) (Z : State) (a0 : Array Value) (hw : ∀ d ∈ tables_1, d.before a0 Z = true) (ws : List Jvm.Cond) (a1 : Addr) (a2 : Addr) (a3 : Addr) (p4 : Int64) (p5 : Int64) (k6 : ClassId) (k7 : ClassId) (h0 : Heap) (n0 : Nat) (Z0 : n0 ≤ h0.size) (F0_0 : Exa Z h0 a1 "com/example/halter/halter/SlidingSum") (F0_1 : Fld Z h0 a1 "com/example/halter/halter/SlidingSum" "times" "[J" (.ref a2)) (F0_2 : Fld Z h0 a1 "com/example/halter/halter/SlidingSum" "costs" "[J" (.ref a3)) (F0_3 : Fld Z h0 a1 "com/example/halter/halter/SlidingSum" "most" "J" (.long (9223372036854775807 : Int64))) (F0_4 : Fld Z h0 a1 "com/example/halter/halter/SlidingSum" "length" "J" (.long p4)) (F0_5 : Fld Z h0 a1 "com/example/halter/halter/SlidingSum" "started" "Z" (.int (1 : Int32))) (F0_6 : Fld Z h0 a1 "com/example/halter/halter/SlidingSum" "latest" "J" (.long p5)) (F0_7 : Fld Z h0 a1 "com/example/halter/halter/SlidingSum" "size" "I" (.int (0 : Int32))) (F0_8 : Fld Z h0 a1 "com/example/halter/halter/SlidingSum" "sum" "J" (.long (0 : Int64))) (F0_9 : Fld Z h0 a1 "com/example/halter/halter/SlidingSum" "head" "I" (.int (0 : Int32))) (g_a1 : n0 ≤ a1) (F0_11 : Arv Z h0 a2 k6 .long (0 : Int32) [] (.long (0 : Int64))) (g_a2 : n0 ≤ a2) (F0_13 : Arv Z h0 a3 k7 .long (0 : Int32) [] (.long (0 : Int64))) (g_a3 : n0 ≤ a3) (lt0_0 : a1 < a2) (lt0_1 : a2 < a3) :
    MetFree l (⟨"com/example/halter/halter/SlidingSum", "forgetWhatLeftTheWindow", "()V"⟩ : MethodName) (head1 (Jvm.Cond.code (⟨"com/example/halter/halter/SlidingSum", "forgetWhatLeftTheWindow", "()V"⟩ : MethodName) prog_19_method_8_code 2 none :: ws) R6_100) (fun a U => a = #[(.ref a1)] ∧ Z.Warmed39 U.vm ∧ U.heap = h0) (fun _ _ _ _ _ => True) (fun _ U o U' => ∃ v L, o = .returned v ∧ Q6_100 Z a1 a2 a3 p4 p5 k6 k7 h0 n0 v U'.heap L ∧ FrameEnd U o U' L R6_100.cells R6_100.slots) := by
 refine MetFree.of_bodySF (plainFor_of_name pn_0) hisR ?_
 intro p e s m args below meth c s₁ Bd hml0 hP hK
 obtain ⟨rfl, hZ, hh⟩ := hP
 have hx := Bd.exec
 have hby := Bd.bytes
 have hml : c.maxLocals = 2 := hml0
 have hlk : meth.locks = false := Bd.notSynchronized
 have hown : s.vm.findClass "com/example/halter/halter/SlidingSum" = some m.cls := findClass_of_methodNamed Bd.named
 have hnm := (name_of_methodNamed Bd.named Bd.method).1
 have X0 : Stand p l e R6_100 s m #[(.ref a1)] below meth c s₁ [] 0 0 := Stand.of_body Bd
 have e0 : s₁.heap = h0 := by rw [← hh, Bd.state]; rfl
 have N0 := Fr.nil n0
 rw [ef6_100 m a1]
 show KEnds p e below s R6_100.cells R6_100.slots (Q6_100 Z a1 a2 a3 p4 p5 k6 k7 h0 n0) s₁ (mkF m 0 #[.val (.ref a1), .unset] [])
 refine k_aloadN X0 hx (hb hby d6_0) rfl rfl (pc' := 1) rfl ?_
 refine k_getF X0 hx hZ hown (host := "") (Or.inl (hw _ (List.mem_of_getElem? (i := 41) rfl))) Via.refl e0 F0_7 (hb hby d6_1) (pc' := 4) rfl (fun T101 X101 e101 => ?_)
 refine k_if_le X101 hx (hb hby d6_4) (pn := 7) rfl (py := 69) (by decide) (fun _ => ?_) (fun hc => absurd hc (by decide))
 refine k_aloadN X101 hx (hb hby d6_69) rfl rfl (pc' := 70) rfl ?_
 refine k_getF X101 hx hZ hown (host := "") (Or.inl (hw _ (List.mem_of_getElem? (i := 11) rfl))) Via.refl e101 F0_1 (hb hby d6_70) (pc' := 73) rfl (fun T102 X102 e102 => ?_)
 refine k_alen X102 hx hZ e102 F0_11 (hb hby d6_73) (pc' := 74) rfl ?_
 refine k_istoreN X102 hx (hb hby d6_74) (Ls' := #[.val (.ref a1), .val (.int (0 : Int32))]) rfl (pc' := 75) rfl ?_
 refine k_iloadN X102 hx (hb hby d6_75) rfl (pc' := 76) rfl ?_
 refine k_bipush X102 hx (hb hby d6_76) (pc' := 78) rfl (z := (8 : Int32)) rfl ?_
 refine k_icmp_le X102 hx (hb hby d6_78) (pn := 81) rfl (py := 98) (by decide) (fun _ => ?_) (fun hc => absurd hc (by decide))
 refine k_iloadN X102 hx (hb hby d6_98) rfl (pc' := 99) rfl ?_
 refine k_aloadN X102 hx (hb hby d6_99) rfl rfl (pc' := 100) rfl ?_
 refine k_getF X102 hx hZ hown (host := "") (Or.inl (hw _ (List.mem_of_getElem? (i := 11) rfl))) Via.refl e102 F0_1 (hb hby d6_100) (pc' := 103) rfl (fun T103 X103 e103 => ?_)
 refine k_alen X103 hx hZ e103 F0_11 (hb hby d6_103) (pc' := 104) rfl ?_
 refine k_icmp_eq X103 hx (hb hby d6_104) (pn := 107) rfl (py := 112) (by decide) (fun _ => ?_) (fun hc => absurd (by decide) hc)
 exact k_ret X103 hx Bd.returns (hb hby d6_112) hlk (by decide) (by decide) (by rw [e103]; exact ⟨N0, ⟨rfl, F0_0, F0_1, F0_2, F0_3, F0_4, F0_5, F0_6, F0_7, F0_8, F0_9, F0_11, F0_13, Z0⟩⟩)
theorem pd_2 : parseMethodDescriptor "()V" = some ⟨[], none⟩ := by decide +kernel
theorem d5_32 : decode prog_19_method_7_code 32 = .ok (.return_, 1) := by decide +kernel
abbrev R5_83 : Room := { frames := 1, cells := 0, slots := 0, locals := 13 }
def Q5_83 (Z : State) (a1 : Addr) (p2 : Int64) (a3 : Addr) (a4 : Addr) (p5 : Int64) (k6 : ClassId) (k7 : ClassId) (h0 : Heap) (n0 : Nat) (v : Option Value) (h : Heap) (L : List Loc) : Prop := Fr n0 L ∧ ((v = none ∧ Exa Z h a1 "com/example/halter/halter/SlidingSum" ∧ Fld Z h a1 "com/example/halter/halter/SlidingSum" "times" "[J" (.ref a3) ∧ Fld Z h a1 "com/example/halter/halter/SlidingSum" "costs" "[J" (.ref a4) ∧ Fld Z h a1 "com/example/halter/halter/SlidingSum" "most" "J" (.long (9223372036854775807 : Int64)) ∧ Fld Z h a1 "com/example/halter/halter/SlidingSum" "length" "J" (.long p5) ∧ Fld Z h a1 "com/example/halter/halter/SlidingSum" "started" "Z" (.int (1 : Int32)) ∧ Fld Z h a1 "com/example/halter/halter/SlidingSum" "latest" "J" (.long p2) ∧ Fld Z h a1 "com/example/halter/halter/SlidingSum" "size" "I" (.int (0 : Int32)) ∧ Fld Z h a1 "com/example/halter/halter/SlidingSum" "sum" "J" (.long (0 : Int64)) ∧ Fld Z h a1 "com/example/halter/halter/SlidingSum" "head" "I" (.int (0 : Int32)) ∧ Arv Z h a3 k6 .long (0 : Int32) [] (.long (0 : Int64)) ∧ Arv Z h a4 k7 .long (0 : Int32) [] (.long (0 : Int64)) ∧ n0 ≤ h.size))
theorem ef5_83 (m : MethodId) (x0 : Addr) (x1 : Int64) : entryFrame m #[(.ref x0), (.long x1)] 3 = mkF m 0 #[.val (.ref x0), .val (.long x1), .second] [] := by first | (simp [entryFrame, mkF, argsToLocals, Value.category]; done) | rfl
set_option maxRecDepth 65536 in
set_option maxHeartbeats 40000000 in
theorem rm5_83 (l : Launch) (Z : State) (a0 : Array Value) (hw : ∀ d ∈ tables_1, d.before a0 Z = true) (ws : List Jvm.Cond) (a1 : Addr) (p2 : Int64) (a3 : Addr) (a4 : Addr) (p5 : Int64) (k6 : ClassId) (k7 : ClassId) (h0 : Heap) (n0 : Nat) (Z0 : n0 ≤ h0.size) (F0_0 : Exa Z h0 a1 "com/example/halter/halter/SlidingSum") (F0_1 : Fld Z h0 a1 "com/example/halter/halter/SlidingSum" "times" "[J" (.ref a3)) (F0_2 : Fld Z h0 a1 "com/example/halter/halter/SlidingSum" "costs" "[J" (.ref a4)) (F0_3 : Fld Z h0 a1 "com/example/halter/halter/SlidingSum" "most" "J" (.long (9223372036854775807 : Int64))) (F0_4 : Fld Z h0 a1 "com/example/halter/halter/SlidingSum" "length" "J" (.long p5)) (F0_5 : Fld Z h0 a1 "com/example/halter/halter/SlidingSum" "started" "Z" (.int (0 : Int32))) (F0_6 : Fld Z h0 a1 "com/example/halter/halter/SlidingSum" "latest" "J" (.long (0 : Int64))) (F0_7 : Fld Z h0 a1 "com/example/halter/halter/SlidingSum" "size" "I" (.int (0 : Int32))) (F0_8 : Fld Z h0 a1 "com/example/halter/halter/SlidingSum" "sum" "J" (.long (0 : Int64))) (F0_9 : Fld Z h0 a1 "com/example/halter/halter/SlidingSum" "head" "I" (.int (0 : Int32))) (g_a1 : n0 ≤ a1) (F0_11 : Arv Z h0 a3 k6 .long (0 : Int32) [] (.long (0 : Int64))) (g_a3 : n0 ≤ a3) (F0_13 : Arv Z h0 a4 k7 .long (0 : Int32) [] (.long (0 : Int64))) (g_a4 : n0 ≤ a4) (lt0_0 : a1 < a3) (lt0_1 : a3 < a4) :
    MetFree l (⟨"com/example/halter/halter/SlidingSum", "catchUp", "(J)V"⟩ : MethodName) (head1 (Jvm.Cond.code (⟨"com/example/halter/halter/SlidingSum", "catchUp", "(J)V"⟩ : MethodName) prog_19_method_7_code 3 none :: ws) R5_83) (fun a U => a = #[(.ref a1), (.long p2)] ∧ Z.Warmed39 U.vm ∧ U.heap = h0) (fun _ _ _ _ _ => True) (fun _ U o U' => ∃ v L, o = .returned v ∧ Q5_83 Z a1 p2 a3 a4 p5 k6 k7 h0 n0 v U'.heap L ∧ FrameEnd U o U' L R5_83.cells R5_83.slots) := by
 refine MetFree.of_bodySF (plainFor_of_name pn_0) hisR ?_
 intro p e s m args below meth c s₁ Bd hml0 hP hK
 obtain ⟨rfl, hZ, hh⟩ := hP
 have hx := Bd.exec
 have hby := Bd.bytes
 have hml : c.maxLocals = 3 := hml0
 have hlk : meth.locks = false := Bd.notSynchronized
 have hown : s.vm.findClass "com/example/halter/halter/SlidingSum" = some m.cls := findClass_of_methodNamed Bd.named
 have hnm := (name_of_methodNamed Bd.named Bd.method).1
 have X0 : Stand p l e R5_83 s m #[(.ref a1), (.long p2)] below meth c s₁ [] 0 0 := Stand.of_body Bd
 have e0 : s₁.heap = h0 := by rw [← hh, Bd.state]; rfl
 have N0 := Fr.nil n0
 rw [ef5_83 m a1 p2]
 show KEnds p e below s R5_83.cells R5_83.slots (Q5_83 Z a1 p2 a3 a4 p5 k6 k7 h0 n0) s₁ (mkF m 0 #[.val (.ref a1), .val (.long p2), .second] [])
 refine k_aloadN X0 hx (hb hby d5_0) rfl rfl (pc' := 1) rfl ?_
 refine k_getF X0 hx hZ hown (host := "") (Or.inl (hw _ (List.mem_of_getElem? (i := 24) rfl))) Via.refl e0 F0_5 (hb hby d5_1) (pc' := 4) rfl (fun T84 X84 e84 => ?_)
 refine k_if_eq X84 hx (hb hby d5_4) (pn := 7) rfl (py := 18) (by decide) (fun _ => ?_) (fun hc => absurd (by decide) hc)
 refine k_aloadN X84 hx (hb hby d5_18) rfl rfl (pc' := 19) rfl ?_
 refine k_lloadN X84 hx (hb hby d5_19) rfl (pc' := 20) rfl ?_
 refine k_putF X84 hx hZ hown (host := "") (Or.inl (hw _ (List.mem_of_getElem? (i := 35) rfl))) Via.refl e84 F0_6 F0_0 (Or.inl (hw _ (List.mem_of_getElem? (i := 36) rfl))) (hw _ (List.mem_of_getElem? (i := 1) rfl)) (ty := .long) (by decide) rfl rfl (hb hby d5_20) (pc' := 23) rfl (fun T85 h85 X85 e85 W85 => ?_)
 have Fw85 : Fld Z h85 a1 "com/example/halter/halter/SlidingSum" "latest" "J" (.long p2) := F0_6.same W85
 have N85 := Fr.snoc X85 N0 g_a1
 have Z85 : n0 ≤ h85.size := Nat.le_trans Z0 (Nat.le_of_eq W85.size.symm)
 refine k_aloadN X85 hx (hb hby d5_23) rfl rfl (pc' := 24) rfl ?_
 refine k_iconst X85 hx (hb hby d5_24) (pc' := 25) rfl (z := (1 : Int32)) rfl ?_
 have F86 := (F0_5.other W85 (Or.inr (slot_ne (Or.inl (hw _ (List.mem_of_getElem? (i := 25) rfl))) (Or.inl (hw _ (List.mem_of_getElem? (i := 36) rfl))) (by decide) (t := .boolean) (t' := .long) (by decide) (by decide))))
 have F87 := (F0_0.wr W85)
 refine k_putF X85 hx hZ hown (host := "") (Or.inl (hw _ (List.mem_of_getElem? (i := 24) rfl))) Via.refl e85 F86 F87 (Or.inl (hw _ (List.mem_of_getElem? (i := 25) rfl))) (hw _ (List.mem_of_getElem? (i := 1) rfl)) (ty := .boolean) (by decide) rfl rfl (hb hby d5_25) (pc' := 28) rfl (fun T88 h88 X88 e88 W88 => ?_)
 have Fw88 : Fld Z h88 a1 "com/example/halter/halter/SlidingSum" "started" "Z" (.int (1 : Int32)) := F86.same W88
 have N88 := Fr.snoc X88 N85 g_a1
 have Z88 : n0 ≤ h88.size := Nat.le_trans Z85 (Nat.le_of_eq W88.size.symm)
 refine k_aloadN X88 hx (hb hby d5_28) rfl rfl (pc' := 29) rfl ?_
 have F89 := (F87.wr W88)
 have F90 := ((F0_1.other W85 (Or.inr (slot_ne (Or.inl (hw _ (List.mem_of_getElem? (i := 12) rfl))) (Or.inl (hw _ (List.mem_of_getElem? (i := 36) rfl))) (by decide) (t := (.array .long)) (t' := .long) (by decide) (by decide)))).other W88 (Or.inr (slot_ne (Or.inl (hw _ (List.mem_of_getElem? (i := 12) rfl))) (Or.inl (hw _ (List.mem_of_getElem? (i := 25) rfl))) (by decide) (t := (.array .long)) (t' := .boolean) (by decide) (by decide))))
 have F91 := ((F0_2.other W85 (Or.inr (slot_ne (Or.inl (hw _ (List.mem_of_getElem? (i := 14) rfl))) (Or.inl (hw _ (List.mem_of_getElem? (i := 36) rfl))) (by decide) (t := (.array .long)) (t' := .long) (by decide) (by decide)))).other W88 (Or.inr (slot_ne (Or.inl (hw _ (List.mem_of_getElem? (i := 14) rfl))) (Or.inl (hw _ (List.mem_of_getElem? (i := 25) rfl))) (by decide) (t := (.array .long)) (t' := .boolean) (by decide) (by decide))))
 have F92 := ((F0_3.other W85 (Or.inr (slot_ne (Or.inr (hw _ (List.mem_of_getElem? (i := 16) rfl))) (Or.inl (hw _ (List.mem_of_getElem? (i := 36) rfl))) (by decide) (t := .long) (t' := .long) (by decide) (by decide)))).other W88 (Or.inr (slot_ne (Or.inr (hw _ (List.mem_of_getElem? (i := 16) rfl))) (Or.inl (hw _ (List.mem_of_getElem? (i := 25) rfl))) (by decide) (t := .long) (t' := .boolean) (by decide) (by decide))))
 have F93 := ((F0_4.other W85 (Or.inr (slot_ne (Or.inr (hw _ (List.mem_of_getElem? (i := 18) rfl))) (Or.inl (hw _ (List.mem_of_getElem? (i := 36) rfl))) (by decide) (t := .long) (t' := .long) (by decide) (by decide)))).other W88 (Or.inr (slot_ne (Or.inr (hw _ (List.mem_of_getElem? (i := 18) rfl))) (Or.inl (hw _ (List.mem_of_getElem? (i := 25) rfl))) (by decide) (t := .long) (t' := .boolean) (by decide) (by decide))))
 have F94 := (Fw85.other W88 (Or.inr (slot_ne (Or.inl (hw _ (List.mem_of_getElem? (i := 36) rfl))) (Or.inl (hw _ (List.mem_of_getElem? (i := 25) rfl))) (by decide) (t := .long) (t' := .boolean) (by decide) (by decide))))
 have F95 := ((F0_7.other W85 (Or.inr (slot_ne (Or.inl (hw _ (List.mem_of_getElem? (i := 42) rfl))) (Or.inl (hw _ (List.mem_of_getElem? (i := 36) rfl))) (by decide) (t := .int) (t' := .long) (by decide) (by decide)))).other W88 (Or.inr (slot_ne (Or.inl (hw _ (List.mem_of_getElem? (i := 42) rfl))) (Or.inl (hw _ (List.mem_of_getElem? (i := 25) rfl))) (by decide) (t := .int) (t' := .boolean) (by decide) (by decide))))
 have F96 := ((F0_8.other W85 (Or.inr (slot_ne (Or.inl (hw _ (List.mem_of_getElem? (i := 44) rfl))) (Or.inl (hw _ (List.mem_of_getElem? (i := 36) rfl))) (by decide) (t := .long) (t' := .long) (by decide) (by decide)))).other W88 (Or.inr (slot_ne (Or.inl (hw _ (List.mem_of_getElem? (i := 44) rfl))) (Or.inl (hw _ (List.mem_of_getElem? (i := 25) rfl))) (by decide) (t := .long) (t' := .boolean) (by decide) (by decide))))
 have F97 := ((F0_9.other W85 (Or.inr (slot_ne (Or.inl (hw _ (List.mem_of_getElem? (i := 69) rfl))) (Or.inl (hw _ (List.mem_of_getElem? (i := 36) rfl))) (by decide) (t := .int) (t' := .long) (by decide) (by decide)))).other W88 (Or.inr (slot_ne (Or.inl (hw _ (List.mem_of_getElem? (i := 69) rfl))) (Or.inl (hw _ (List.mem_of_getElem? (i := 25) rfl))) (by decide) (t := .int) (t' := .boolean) (by decide) (by decide))))
 have F98 := ((F0_11.other W85 (Ne.symm (Nat.ne_of_lt lt0_0))).other W88 (Ne.symm (Nat.ne_of_lt lt0_0)))
 have F99 := ((F0_13.other W85 (Ne.symm (Nat.ne_of_lt (Nat.lt_trans lt0_0 lt0_1)))).other W88 (Ne.symm (Nat.ne_of_lt (Nat.lt_trans lt0_0 lt0_1))))
 refine k_callP X88 hx hZ hown (a := a1) (hw _ (List.mem_of_getElem? (i := 37) rfl)) (hw _ (List.mem_of_getElem? (i := 38) rfl)) (hw _ (List.mem_of_getElem? (i := 39) rfl)) (hw _ (List.mem_of_getElem? (i := 1) rfl)) (hw _ (List.mem_of_getElem? (i := 2) rfl)) (hw _ (List.mem_of_getElem? (i := 40) rfl)) (by decide) F89 (rm6_100 l Z a0 hw [] a1 a3 a4 p5 p2 k6 k7 h88 n0 Z88 F89 F90 F91 F92 F93 Fw88 F94 F95 F96 F97 g_a1 F98 g_a3 F99 g_a4 lt0_0 lt0_1) (by decide) (by decide) e88 (by rw [hml]; rfl) (argsL := []) (rest := []) (lenOf pd_2 rfl) rfl (W := 0) (Nat.le_refl _) rfl (hb hby d5_29) (by decide) (by decide) (pc' := 32) rfl (fun T104 L104 r104 X104 q104 => ?_)
 obtain ⟨N104, q104⟩ := q104
 have N104' := Fr.app N88 N104
 obtain ⟨rfl, F105, F106, F107, F108, F109, F110, F111, F112, F113, F114, F115, F116, Z117⟩ := q104
 show KEnds p e below s _ _ _ T104 (mkF m 32 #[.val (.ref a1), .val (.long p2), .second] [])
 exact k_ret X104 hx Bd.returns (hb hby d5_32) hlk (by decide) (by decide) ⟨N104', ⟨rfl, F105, F106, F107, F108, F109, F110, F111, F112, F113, F114, F115, F116, Z117⟩⟩
theorem pd_3 : parseMethodDescriptor "(J)V" = some ⟨[.long], none⟩ := by decide +kernel
theorem d13_5 : decode prog_19_method_2_code 5 = .ok (.aload_n 0, 1) := by decide +kernel
theorem d13_6 : decode prog_19_method_2_code 6 = .ok (.getfield 36, 3) := by decide +kernel
theorem d13_9 : decode prog_19_method_2_code 9 = .ok (.lreturn, 1) := by decide +kernel
abbrev R13_82 : Room := { frames := 2, cells := 0, slots := 0, locals := 27 }
def Q13_82 (Z : State) (a1 : Addr) (p2 : Int64) (a3 : Addr) (a4 : Addr) (p5 : Int64) (k6 : ClassId) (k7 : ClassId) (h0 : Heap) (n0 : Nat) (v : Option Value) (h : Heap) (L : List Loc) : Prop := Fr n0 L ∧ ((v = some (.long (0 : Int64)) ∧ Exa Z h a1 "com/example/halter/halter/SlidingSum" ∧ Fld Z h a1 "com/example/halter/halter/SlidingSum" "times" "[J" (.ref a3) ∧ Fld Z h a1 "com/example/halter/halter/SlidingSum" "costs" "[J" (.ref a4) ∧ Fld Z h a1 "com/example/halter/halter/SlidingSum" "most" "J" (.long (9223372036854775807 : Int64)) ∧ Fld Z h a1 "com/example/halter/halter/SlidingSum" "length" "J" (.long p5) ∧ Fld Z h a1 "com/example/halter/halter/SlidingSum" "started" "Z" (.int (1 : Int32)) ∧ Fld Z h a1 "com/example/halter/halter/SlidingSum" "latest" "J" (.long p2) ∧ Fld Z h a1 "com/example/halter/halter/SlidingSum" "size" "I" (.int (0 : Int32)) ∧ Fld Z h a1 "com/example/halter/halter/SlidingSum" "sum" "J" (.long (0 : Int64)) ∧ Fld Z h a1 "com/example/halter/halter/SlidingSum" "head" "I" (.int (0 : Int32)) ∧ Arv Z h a3 k6 .long (0 : Int32) [] (.long (0 : Int64)) ∧ Arv Z h a4 k7 .long (0 : Int32) [] (.long (0 : Int64)) ∧ n0 ≤ h.size))
theorem ef13_82 (m : MethodId) (x0 : Addr) (x1 : Int64) : entryFrame m #[(.ref x0), (.long x1)] 3 = mkF m 0 #[.val (.ref x0), .val (.long x1), .second] [] := by first | (simp [entryFrame, mkF, argsToLocals, Value.category]; done) | rfl
set_option maxRecDepth 65536 in
set_option maxHeartbeats 40000000 in
theorem rm13_82 (l : Launch) (Z : State) (a0 : Array Value) (hw : ∀ d ∈ tables_1, d.before a0 Z = true) (ws : List Jvm.Cond) (a1 : Addr) (p2 : Int64) (a3 : Addr) (a4 : Addr) (p5 : Int64) (k6 : ClassId) (k7 : ClassId) (h0 : Heap) (n0 : Nat) (Z0 : n0 ≤ h0.size) (F0_0 : Exa Z h0 a1 "com/example/halter/halter/SlidingSum") (F0_1 : Fld Z h0 a1 "com/example/halter/halter/SlidingSum" "times" "[J" (.ref a3)) (F0_2 : Fld Z h0 a1 "com/example/halter/halter/SlidingSum" "costs" "[J" (.ref a4)) (F0_3 : Fld Z h0 a1 "com/example/halter/halter/SlidingSum" "most" "J" (.long (9223372036854775807 : Int64))) (F0_4 : Fld Z h0 a1 "com/example/halter/halter/SlidingSum" "length" "J" (.long p5)) (F0_5 : Fld Z h0 a1 "com/example/halter/halter/SlidingSum" "started" "Z" (.int (0 : Int32))) (F0_6 : Fld Z h0 a1 "com/example/halter/halter/SlidingSum" "latest" "J" (.long (0 : Int64))) (F0_7 : Fld Z h0 a1 "com/example/halter/halter/SlidingSum" "size" "I" (.int (0 : Int32))) (F0_8 : Fld Z h0 a1 "com/example/halter/halter/SlidingSum" "sum" "J" (.long (0 : Int64))) (F0_9 : Fld Z h0 a1 "com/example/halter/halter/SlidingSum" "head" "I" (.int (0 : Int32))) (g_a1 : n0 ≤ a1) (F0_11 : Arv Z h0 a3 k6 .long (0 : Int32) [] (.long (0 : Int64))) (g_a3 : n0 ≤ a3) (F0_13 : Arv Z h0 a4 k7 .long (0 : Int32) [] (.long (0 : Int64))) (g_a4 : n0 ≤ a4) (lt0_0 : a1 < a3) (lt0_1 : a3 < a4) :
    MetFree l (⟨"com/example/halter/halter/SlidingSum", "at", "(J)J"⟩ : MethodName) (head1 (Jvm.Cond.code (⟨"com/example/halter/halter/SlidingSum", "at", "(J)J"⟩ : MethodName) prog_19_method_2_code 3 (some .long) :: ws) R13_82) (fun a U => a = #[(.ref a1), (.long p2)] ∧ Z.Warmed39 U.vm ∧ U.heap = h0) (fun _ _ _ _ _ => True) (fun _ U o U' => ∃ v L, o = .returned v ∧ Q13_82 Z a1 p2 a3 a4 p5 k6 k7 h0 n0 v U'.heap L ∧ FrameEnd U o U' L R13_82.cells R13_82.slots) := by
 refine MetFree.of_bodySF (plainFor_of_name pn_0) hisR ?_
 intro p e s m args below meth c s₁ Bd hml0 hP hK
 obtain ⟨rfl, hZ, hh⟩ := hP
 have hx := Bd.exec
 have hby := Bd.bytes
 have hml : c.maxLocals = 3 := hml0
 have hlk : meth.locks = false := Bd.notSynchronized
 have hown : s.vm.findClass "com/example/halter/halter/SlidingSum" = some m.cls := findClass_of_methodNamed Bd.named
 have hnm := (name_of_methodNamed Bd.named Bd.method).1
 have X0 : Stand p l e R13_82 s m #[(.ref a1), (.long p2)] below meth c s₁ [] 0 0 := Stand.of_body Bd
 have e0 : s₁.heap = h0 := by rw [← hh, Bd.state]; rfl
 have N0 := Fr.nil n0
 rw [ef13_82 m a1 p2]
 show KEnds p e below s R13_82.cells R13_82.slots (Q13_82 Z a1 p2 a3 a4 p5 k6 k7 h0 n0) s₁ (mkF m 0 #[.val (.ref a1), .val (.long p2), .second] [])
 refine k_aloadN X0 hx (hb hby d13_0) rfl rfl (pc' := 1) rfl ?_
 refine k_lloadN X0 hx (hb hby d13_1) rfl (pc' := 2) rfl ?_
 refine k_callP X0 hx hZ hown (a := a1) (hw _ (List.mem_of_getElem? (i := 31) rfl)) (hw _ (List.mem_of_getElem? (i := 32) rfl)) (hw _ (List.mem_of_getElem? (i := 33) rfl)) (hw _ (List.mem_of_getElem? (i := 1) rfl)) (hw _ (List.mem_of_getElem? (i := 2) rfl)) (hw _ (List.mem_of_getElem? (i := 34) rfl)) (by decide) F0_0 (rm5_83 l Z a0 hw [] a1 p2 a3 a4 p5 k6 k7 h0 n0 Z0 F0_0 F0_1 F0_2 F0_3 F0_4 F0_5 F0_6 F0_7 F0_8 F0_9 g_a1 F0_11 g_a3 F0_13 g_a4 lt0_0 lt0_1) (by decide) (by decide) e0 (by rw [hml]; rfl) (argsL := [(.long p2)]) (rest := []) (lenOf pd_3 rfl) rfl (W := 0) (Nat.le_refl _) rfl (hb hby d13_2) (by decide) (by decide) (pc' := 5) rfl (fun T118 L118 r118 X118 q118 => ?_)
 obtain ⟨N118, q118⟩ := q118
 have N118' := Fr.app N0 N118
 obtain ⟨rfl, F119, F120, F121, F122, F123, F124, F125, F126, F127, F128, F129, F130, Z131⟩ := q118
 show KEnds p e below s _ _ _ T118 (mkF m 5 #[.val (.ref a1), .val (.long p2), .second] [])
 refine k_aloadN X118 hx (hb hby d13_5) rfl rfl (pc' := 6) rfl ?_
 refine k_getF X118 hx hZ hown (host := "") (Or.inl (hw _ (List.mem_of_getElem? (i := 43) rfl))) Via.refl rfl F127 (hb hby d13_6) (pc' := 9) rfl (fun T132 X132 e132 => ?_)
 exact k_retL X132 hx Bd.returns (hb hby d13_9) hlk (by decide) (by decide) (by rw [e132]; exact ⟨N118', ⟨rfl, F119, F120, F121, F122, F123, F124, F125, F126, F127, F128, F129, F130, Z131⟩⟩)
theorem pd_4 : parseMethodDescriptor "(J)J" = some ⟨[.long], some .long⟩ := by decide +kernel
theorem d3_7 : decode prog_19_method_5_code 7 = .ok (.aload_n 0, 1) := by decide +kernel
theorem d3_8 : decode prog_19_method_5_code 8 = .ok (.getfield 53, 3) := by decide +kernel
theorem d3_11 : decode prog_19_method_5_code 11 = .ok (.lload_n 1, 1) := by decide +kernel
theorem d3_12 : decode prog_19_method_5_code 12 = .ok (.lsub, 1) := by decide +kernel
theorem d3_13 : decode prog_19_method_5_code 13 = .ok (.lconst 0, 1) := by decide +kernel
theorem d3_14 : decode prog_19_method_5_code 14 = .ok (.lcmp, 1) := by decide +kernel
theorem d3_15 : decode prog_19_method_5_code 15 = .ok (.ifCond .le 7, 3) := by decide +kernel
theorem d3_18 : decode prog_19_method_5_code 18 = .ok (.iconst 1, 1) := by decide +kernel
theorem d3_19 : decode prog_19_method_5_code 19 = .ok (.goto 4, 3) := by decide +kernel
abbrev R3_149 : Room := { frames := 0, cells := 0, slots := 0, locals := 0 }
def Q3_149 (Z : State) (a1 : Addr) (p2 : Int64) (a3 : Addr) (a4 : Addr) (p5 : Int64) (p6 : Int64) (k7 : ClassId) (k8 : ClassId) (h0 : Heap) (n0 : Nat) (v : Option Value) (h : Heap) (L : List Loc) : Prop := Fr n0 L ∧ h = h0 ∧ ((∃ (v152 : Int64), v152 = p6 - p2 ∧ ¬ (0 : Int64) < v152 ∧ v = some (.int (0 : Int32))) ∨ (∃ (v152 : Int64), v152 = p6 - p2 ∧ (0 : Int64) < v152 ∧ v = some (.int (1 : Int32))))
theorem ef3_149 (m : MethodId) (x0 : Addr) (x1 : Int64) : entryFrame m #[(.ref x0), (.long x1)] 3 = mkF m 0 #[.val (.ref x0), .val (.long x1), .second] [] := by first | (simp [entryFrame, mkF, argsToLocals, Value.category]; done) | rfl
set_option maxRecDepth 65536 in
set_option maxHeartbeats 40000000 in
theorem rm3_149 (l : Launch) (Z : State) (a0 : Array Value) (hw : ∀ d ∈ tables_1, d.before a0 Z = true) (ws : List Jvm.Cond) (a1 : Addr) (p2 : Int64) (a3 : Addr) (a4 : Addr) (p5 : Int64) (p6 : Int64) (k7 : ClassId) (k8 : ClassId) (h0 : Heap) (n0 : Nat) (Z0 : n0 ≤ h0.size) (F0_0 : Exa Z h0 a1 "com/example/halter/halter/SlidingSum") (F0_1 : Fld Z h0 a1 "com/example/halter/halter/SlidingSum" "times" "[J" (.ref a3)) (F0_2 : Fld Z h0 a1 "com/example/halter/halter/SlidingSum" "costs" "[J" (.ref a4)) (F0_3 : Fld Z h0 a1 "com/example/halter/halter/SlidingSum" "most" "J" (.long (9223372036854775807 : Int64))) (F0_4 : Fld Z h0 a1 "com/example/halter/halter/SlidingSum" "length" "J" (.long p5)) (F0_5 : Fld Z h0 a1 "com/example/halter/halter/SlidingSum" "started" "Z" (.int (1 : Int32))) (F0_6 : Fld Z h0 a1 "com/example/halter/halter/SlidingSum" "latest" "J" (.long p6)) (F0_7 : Fld Z h0 a1 "com/example/halter/halter/SlidingSum" "size" "I" (.int (0 : Int32))) (F0_8 : Fld Z h0 a1 "com/example/halter/halter/SlidingSum" "sum" "J" (.long (0 : Int64))) (F0_9 : Fld Z h0 a1 "com/example/halter/halter/SlidingSum" "head" "I" (.int (0 : Int32))) (F0_10 : Arv Z h0 a3 k7 .long (0 : Int32) [] (.long (0 : Int64))) (F0_11 : Arv Z h0 a4 k8 .long (0 : Int32) [] (.long (0 : Int64))) (lt0_0 : a1 < a3) (lt0_1 : a3 < a4) :
    MetFree l (⟨"com/example/halter/halter/SlidingSum", "givenAfter", "(J)Z"⟩ : MethodName) (head1 (Jvm.Cond.code (⟨"com/example/halter/halter/SlidingSum", "givenAfter", "(J)Z"⟩ : MethodName) prog_19_method_5_code 3 (some .boolean) :: ws) R3_149) (fun a U => a = #[(.ref a1), (.long p2)] ∧ Z.Warmed39 U.vm ∧ U.heap = h0) (fun _ _ _ _ _ => True) (fun _ U o U' => ∃ v L, o = .returned v ∧ Q3_149 Z a1 p2 a3 a4 p5 p6 k7 k8 h0 n0 v U'.heap L ∧ FrameEnd U o U' L R3_149.cells R3_149.slots) := by
 refine MetFree.of_bodySF (plainFor_of_name pn_0) hisR ?_
 intro p e s m args below meth c s₁ Bd hml0 hP hK
 obtain ⟨rfl, hZ, hh⟩ := hP
 have hx := Bd.exec
 have hby := Bd.bytes
 have hml : c.maxLocals = 3 := hml0
 have hlk : meth.locks = false := Bd.notSynchronized
 have hown : s.vm.findClass "com/example/halter/halter/SlidingSum" = some m.cls := findClass_of_methodNamed Bd.named
 have hnm := (name_of_methodNamed Bd.named Bd.method).1
 have X0 : Stand p l e R3_149 s m #[(.ref a1), (.long p2)] below meth c s₁ [] 0 0 := Stand.of_body Bd
 have e0 : s₁.heap = h0 := by rw [← hh, Bd.state]; rfl
 have N0 := Fr.nil n0
 rw [ef3_149 m a1 p2]
 show KEnds p e below s R3_149.cells R3_149.slots (Q3_149 Z a1 p2 a3 a4 p5 p6 k7 k8 h0 n0) s₁ (mkF m 0 #[.val (.ref a1), .val (.long p2), .second] [])
 refine k_aloadN X0 hx (hb hby d3_0) rfl rfl (pc' := 1) rfl ?_
 refine k_getF X0 hx hZ hown (host := "") (Or.inl (hw _ (List.mem_of_getElem? (i := 24) rfl))) Via.refl e0 F0_5 (hb hby d3_1) (pc' := 4) rfl (fun T150 X150 e150 => ?_)
 refine k_if_eq X150 hx (hb hby d3_4) (pn := 7) rfl (py := 22) (by decide) (fun hc => absurd hc (by decide)) (fun _ => ?_)
 refine k_aloadN X150 hx (hb hby d3_7) rfl rfl (pc' := 8) rfl ?_
 refine k_getF X150 hx hZ hown (host := "") (Or.inl (hw _ (List.mem_of_getElem? (i := 35) rfl))) Via.refl e150 F0_6 (hb hby d3_8) (pc' := 11) rfl (fun T151 X151 e151 => ?_)
 refine k_lloadN X151 hx (hb hby d3_11) rfl (pc' := 12) rfl ?_
 refine k_lsub X151 hx (hb hby d3_12) (pc' := 13) rfl (fun v152 hv152 => ?_)
 refine k_lconst X151 hx (hb hby d3_13) (pc' := 14) rfl (z := (0 : Int64)) rfl ?_
 refine k_lcif_le X151 hx (hb hby d3_14) (pm := 15) rfl (hb hby d3_15) (pn := 18) rfl (py := 22) (by decide) (fun hc153 => ?_) (fun hc153 => ?_)
 ·
  refine k_iconst X151 hx (hb hby d3_22) (pc' := 23) rfl (z := (0 : Int32)) rfl ?_
  exact k_retN X151 hx (t := .boolean) Bd.returns (by simp) (hb hby d3_23) hlk (by decide) (by decide) (z' := (0 : Int32)) rfl ⟨N0, e151, (Or.inl ⟨v152, hv152, hc153, rfl⟩)⟩
 ·
  refine k_iconst X151 hx (hb hby d3_18) (pc' := 19) rfl (z := (1 : Int32)) rfl ?_
  refine k_goto X151 hx (hb hby d3_19) (pc' := 23) (by decide) ?_
  exact k_retN X151 hx (t := .boolean) Bd.returns (by simp) (hb hby d3_23) hlk (by decide) (by decide) (z' := (1 : Int32)) rfl ⟨N0, e151, (Or.inr ⟨v152, hv152, hc153, rfl⟩)⟩
theorem d4_0 : decode prog_19_method_3_code 0 = .ok (.aload_n 0, 1) := by decide +kernel
theorem d4_1 : decode prog_19_method_3_code 1 = .ok (.lload_n 3, 1) := by decide +kernel
theorem d4_2 : decode prog_19_method_3_code 2 = .ok (.invokevirtual 32, 3) := by decide +kernel
theorem d4_5 : decode prog_19_method_3_code 5 = .ok (.lload_n 1, 1) := by decide +kernel
theorem d4_6 : decode prog_19_method_3_code 6 = .ok (.lconst 1, 1) := by decide +kernel
theorem d4_7 : decode prog_19_method_3_code 7 = .ok (.lcmp, 1) := by decide +kernel
theorem d4_8 : decode prog_19_method_3_code 8 = .ok (.ifCond .lt 17, 3) := by decide +kernel
theorem d4_11 : decode prog_19_method_3_code 11 = .ok (.lload_n 1, 1) := by decide +kernel
theorem d4_12 : decode prog_19_method_3_code 12 = .ok (.aload_n 0, 1) := by decide +kernel
theorem d4_13 : decode prog_19_method_3_code 13 = .ok (.getfield 25, 3) := by decide +kernel
theorem d4_16 : decode prog_19_method_3_code 16 = .ok (.aload_n 0, 1) := by decide +kernel
theorem d4_17 : decode prog_19_method_3_code 17 = .ok (.getfield 36, 3) := by decide +kernel
theorem d4_20 : decode prog_19_method_3_code 20 = .ok (.lsub, 1) := by decide +kernel
theorem d4_21 : decode prog_19_method_3_code 21 = .ok (.lcmp, 1) := by decide +kernel
theorem d4_22 : decode prog_19_method_3_code 22 = .ok (.ifCond .le 25, 3) := by decide +kernel
theorem d4_47 : decode prog_19_method_3_code 47 = .ok (.aload_n 0, 1) := by decide +kernel
theorem d4_48 : decode prog_19_method_3_code 48 = .ok (.lload_n 1, 1) := by decide +kernel
theorem d4_49 : decode prog_19_method_3_code 49 = .ok (.invokevirtual 42, 3) := by decide +kernel
theorem d7_0 : decode prog_19_method_9_code 0 = .ok (.aload_n 0, 1) := by decide +kernel
theorem d7_1 : decode prog_19_method_9_code 1 = .ok (.getfield 45, 3) := by decide +kernel
theorem d7_4 : decode prog_19_method_9_code 4 = .ok (.ifCond .le 48, 3) := by decide +kernel
theorem d7_52 : decode prog_19_method_9_code 52 = .ok (.aload_n 0, 1) := by decide +kernel
theorem d7_53 : decode prog_19_method_9_code 53 = .ok (.getfield 45, 3) := by decide +kernel
theorem d7_56 : decode prog_19_method_9_code 56 = .ok (.aload_n 0, 1) := by decide +kernel
theorem d7_57 : decode prog_19_method_9_code 57 = .ok (.getfield 7, 3) := by decide +kernel
theorem d7_60 : decode prog_19_method_9_code 60 = .ok (.arraylength, 1) := by decide +kernel
theorem d7_61 : decode prog_19_method_9_code 61 = .ok (.if_icmp .ne 7, 3) := by decide +kernel
theorem d7_64 : decode prog_19_method_9_code 64 = .ok (.aload_n 0, 1) := by decide +kernel
theorem d7_65 : decode prog_19_method_9_code 65 = .ok (.invokevirtual 70, 3) := by decide +kernel
theorem d8_0 : decode prog_19_method_10_code 0 = .ok (.aload_n 0, 1) := by decide +kernel
theorem d8_1 : decode prog_19_method_10_code 1 = .ok (.getfield 7, 3) := by decide +kernel
theorem d8_4 : decode prog_19_method_10_code 4 = .ok (.arraylength, 1) := by decide +kernel
theorem d8_5 : decode prog_19_method_10_code 5 = .ok (.ldc 73, 2) := by decide +kernel
theorem d8_7 : decode prog_19_method_10_code 7 = .ok (.if_icmp .ne 13, 3) := by decide +kernel
theorem d8_20 : decode prog_19_method_10_code 20 = .ok (.ldc2_w 79, 3) := by decide +kernel
theorem d8_23 : decode prog_19_method_10_code 23 = .ok (.ldc2_w 81, 3) := by decide +kernel
theorem d8_26 : decode prog_19_method_10_code 26 = .ok (.aload_n 0, 1) := by decide +kernel
theorem d8_27 : decode prog_19_method_10_code 27 = .ok (.getfield 7, 3) := by decide +kernel
theorem d8_30 : decode prog_19_method_10_code 30 = .ok (.arraylength, 1) := by decide +kernel
theorem d8_31 : decode prog_19_method_10_code 31 = .ok (.i2l, 1) := by decide +kernel
theorem d8_32 : decode prog_19_method_10_code 32 = .ok (.lmul, 1) := by decide +kernel
theorem d8_33 : decode prog_19_method_10_code 33 = .ok (.invokestatic 83, 3) := by decide +kernel
theorem d9_0 : decode jdk_29_method_66_code 0 = .ok (.lload_n 0, 1) := by decide +kernel
theorem d9_1 : decode jdk_29_method_66_code 1 = .ok (.lload_n 2, 1) := by decide +kernel
theorem d9_2 : decode jdk_29_method_66_code 2 = .ok (.lcmp, 1) := by decide +kernel
theorem d9_3 : decode jdk_29_method_66_code 3 = .ok (.ifCond .lt 7, 3) := by decide +kernel
theorem d9_6 : decode jdk_29_method_66_code 6 = .ok (.lload_n 0, 1) := by decide +kernel
theorem d9_7 : decode jdk_29_method_66_code 7 = .ok (.goto 4, 3) := by decide +kernel
theorem d9_11 : decode jdk_29_method_66_code 11 = .ok (.lreturn, 1) := by decide +kernel
abbrev R9_196 : Room := { frames := 0, cells := 0, slots := 0, locals := 0 }
def Q9_196 (Z : State)  (h0 : Heap) (n0 : Nat) (v : Option Value) (h : Heap) (L : List Loc) : Prop := Fr n0 L ∧ h = h0 ∧ ((v = some (.long (8 : Int64))))
theorem ef9_196 (m : MethodId)  : entryFrame m #[(.long (8 : Int64)), (.long (0 : Int64))] 4 = mkF m 0 #[.val (.long (8 : Int64)), .second, .val (.long (0 : Int64)), .second] [] := by first | (simp [entryFrame, mkF, argsToLocals, Value.category]; done) | rfl
set_option maxRecDepth 65536 in
set_option maxHeartbeats 40000000 in
theorem rm9_196 (l : Launch) (Z : State) (a0 : Array Value) (hw : ∀ d ∈ tables_1, d.before a0 Z = true) (ws : List Jvm.Cond)  (h0 : Heap) (n0 : Nat) (Z0 : n0 ≤ h0.size)  :
    MetFree l (⟨"java/lang/Math", "max", "(JJ)J"⟩ : MethodName) (head1 (Jvm.Cond.code (⟨"java/lang/Math", "max", "(JJ)J"⟩ : MethodName) jdk_29_method_66_code 4 (some .long) :: ws) R9_196) (fun a U => a = #[(.long (8 : Int64)), (.long (0 : Int64))] ∧ Z.Warmed39 U.vm ∧ U.heap = h0) (fun _ _ _ _ _ => True) (fun _ U o U' => ∃ v L, o = .returned v ∧ Q9_196 Z  h0 n0 v U'.heap L ∧ FrameEnd U o U' L R9_196.cells R9_196.slots) := by
 refine MetFree.of_bodySF (Jvm.Free.JP.mathPlain rfl (by decide +kernel)) hisR ?_
 intro p e s m args below meth c s₁ Bd hml0 hP hK
 obtain ⟨rfl, hZ, hh⟩ := hP
 have hx := Bd.exec
 have hby := Bd.bytes
 have hml : c.maxLocals = 4 := hml0
 have hlk : meth.locks = false := Bd.notSynchronized
 have hown : s.vm.findClass "java/lang/Math" = some m.cls := findClass_of_methodNamed Bd.named
 have hnm := (name_of_methodNamed Bd.named Bd.method).1
 have X0 : Stand p l e R9_196 s m #[(.long (8 : Int64)), (.long (0 : Int64))] below meth c s₁ [] 0 0 := Stand.of_body Bd
 have e0 : s₁.heap = h0 := by rw [← hh, Bd.state]; rfl
 have N0 := Fr.nil n0
 rw [ef9_196 m ]
 show KEnds p e below s R9_196.cells R9_196.slots (Q9_196 Z  h0 n0) s₁ (mkF m 0 #[.val (.long (8 : Int64)), .second, .val (.long (0 : Int64)), .second] [])
 refine k_lloadN X0 hx (hb hby d9_0) rfl (pc' := 1) rfl ?_
 refine k_lloadN X0 hx (hb hby d9_1) rfl (pc' := 2) rfl ?_
 refine k_lcif_lt X0 hx (hb hby d9_2) (pm := 3) rfl (hb hby d9_3) (pn := 6) rfl (py := 10) (by decide) (fun hc => absurd hc (by decide)) (fun _ => ?_)
 refine k_lloadN X0 hx (hb hby d9_6) rfl (pc' := 7) rfl ?_
 refine k_goto X0 hx (hb hby d9_7) (pc' := 11) (by decide) ?_
 exact k_retL X0 hx Bd.returns (hb hby d9_11) hlk (by decide) (by decide) ⟨N0, e0, rfl⟩
theorem pd_5 : parseMethodDescriptor "(JJ)J" = some ⟨[.long, .long], some .long⟩ := by decide +kernel
theorem d8_36 : decode prog_19_method_10_code 36 = .ok (.lstore_n 1, 1) := by decide +kernel
theorem d8_37 : decode prog_19_method_10_code 37 = .ok (.aload_n 0, 1) := by decide +kernel
theorem d8_38 : decode prog_19_method_10_code 38 = .ok (.lload_n 1, 1) := by decide +kernel
theorem d8_39 : decode prog_19_method_10_code 39 = .ok (.aload_n 0, 1) := by decide +kernel
theorem d8_40 : decode prog_19_method_10_code 40 = .ok (.getfield 25, 3) := by decide +kernel
theorem d8_43 : decode prog_19_method_10_code 43 = .ok (.ldc2_w 89, 3) := by decide +kernel
theorem d8_46 : decode prog_19_method_10_code 46 = .ok (.invokestatic 91, 3) := by decide +kernel
theorem d10_0 : decode jdk_29_method_70_code 0 = .ok (.lload_n 0, 1) := by decide +kernel
theorem d10_1 : decode jdk_29_method_70_code 1 = .ok (.lload_n 2, 1) := by decide +kernel
theorem d10_2 : decode jdk_29_method_70_code 2 = .ok (.lcmp, 1) := by decide +kernel
theorem d10_3 : decode jdk_29_method_70_code 3 = .ok (.ifCond .gt 7, 3) := by decide +kernel
theorem d10_10 : decode jdk_29_method_70_code 10 = .ok (.lload_n 2, 1) := by decide +kernel
theorem d10_11 : decode jdk_29_method_70_code 11 = .ok (.lreturn, 1) := by decide +kernel
abbrev R10_199 : Room := { frames := 0, cells := 0, slots := 0, locals := 0 }
def Q10_199 (Z : State)  (h0 : Heap) (n0 : Nat) (v : Option Value) (h : Heap) (L : List Loc) : Prop := Fr n0 L ∧ h = h0 ∧ ((v = some (.long (1073741824 : Int64))))
theorem ef10_199 (m : MethodId)  : entryFrame m #[(.long (9223372036854775807 : Int64)), (.long (1073741824 : Int64))] 4 = mkF m 0 #[.val (.long (9223372036854775807 : Int64)), .second, .val (.long (1073741824 : Int64)), .second] [] := by first | (simp [entryFrame, mkF, argsToLocals, Value.category]; done) | rfl
set_option maxRecDepth 65536 in
set_option maxHeartbeats 40000000 in
theorem rm10_199 (l : Launch) (Z : State) (a0 : Array Value) (hw : ∀ d ∈ tables_1, d.before a0 Z = true) (ws : List Jvm.Cond)  (h0 : Heap) (n0 : Nat) (Z0 : n0 ≤ h0.size)  :
    MetFree l (⟨"java/lang/Math", "min", "(JJ)J"⟩ : MethodName) (head1 (Jvm.Cond.code (⟨"java/lang/Math", "min", "(JJ)J"⟩ : MethodName) jdk_29_method_70_code 4 (some .long) :: ws) R10_199) (fun a U => a = #[(.long (9223372036854775807 : Int64)), (.long (1073741824 : Int64))] ∧ Z.Warmed39 U.vm ∧ U.heap = h0) (fun _ _ _ _ _ => True) (fun _ U o U' => ∃ v L, o = .returned v ∧ Q10_199 Z  h0 n0 v U'.heap L ∧ FrameEnd U o U' L R10_199.cells R10_199.slots) := by
 refine MetFree.of_bodySF (Jvm.Free.JP.mathPlain rfl (by decide +kernel)) hisR ?_
 intro p e s m args below meth c s₁ Bd hml0 hP hK
 obtain ⟨rfl, hZ, hh⟩ := hP
 have hx := Bd.exec
 have hby := Bd.bytes
 have hml : c.maxLocals = 4 := hml0
 have hlk : meth.locks = false := Bd.notSynchronized
 have hown : s.vm.findClass "java/lang/Math" = some m.cls := findClass_of_methodNamed Bd.named
 have hnm := (name_of_methodNamed Bd.named Bd.method).1
 have X0 : Stand p l e R10_199 s m #[(.long (9223372036854775807 : Int64)), (.long (1073741824 : Int64))] below meth c s₁ [] 0 0 := Stand.of_body Bd
 have e0 : s₁.heap = h0 := by rw [← hh, Bd.state]; rfl
 have N0 := Fr.nil n0
 rw [ef10_199 m ]
 show KEnds p e below s R10_199.cells R10_199.slots (Q10_199 Z  h0 n0) s₁ (mkF m 0 #[.val (.long (9223372036854775807 : Int64)), .second, .val (.long (1073741824 : Int64)), .second] [])
 refine k_lloadN X0 hx (hb hby d10_0) rfl (pc' := 1) rfl ?_
 refine k_lloadN X0 hx (hb hby d10_1) rfl (pc' := 2) rfl ?_
 refine k_lcif_gt X0 hx (hb hby d10_2) (pm := 3) rfl (hb hby d10_3) (pn := 6) rfl (py := 10) (by decide) (fun _ => ?_) (fun hc => absurd (by decide) hc)
 refine k_lloadN X0 hx (hb hby d10_10) rfl (pc' := 11) rfl ?_
 exact k_retL X0 hx Bd.returns (hb hby d10_11) hlk (by decide) (by decide) ⟨N0, e0, rfl⟩
theorem d8_49 : decode prog_19_method_10_code 49 = .ok (.invokestatic 91, 3) := by decide +kernel
theorem d10_6 : decode jdk_29_method_70_code 6 = .ok (.lload_n 0, 1) := by decide +kernel
theorem d10_7 : decode jdk_29_method_70_code 7 = .ok (.goto 4, 3) := by decide +kernel
abbrev R10_201 : Room := { frames := 0, cells := 0, slots := 0, locals := 0 }
def Q10_201 (Z : State)  (h0 : Heap) (n0 : Nat) (v : Option Value) (h : Heap) (L : List Loc) : Prop := Fr n0 L ∧ h = h0 ∧ ((v = some (.long (8 : Int64))))
theorem ef10_201 (m : MethodId)  : entryFrame m #[(.long (8 : Int64)), (.long (1073741824 : Int64))] 4 = mkF m 0 #[.val (.long (8 : Int64)), .second, .val (.long (1073741824 : Int64)), .second] [] := by first | (simp [entryFrame, mkF, argsToLocals, Value.category]; done) | rfl
set_option maxRecDepth 65536 in
set_option maxHeartbeats 40000000 in
theorem rm10_201 (l : Launch) (Z : State) (a0 : Array Value) (hw : ∀ d ∈ tables_1, d.before a0 Z = true) (ws : List Jvm.Cond)  (h0 : Heap) (n0 : Nat) (Z0 : n0 ≤ h0.size)  :
    MetFree l (⟨"java/lang/Math", "min", "(JJ)J"⟩ : MethodName) (head1 (Jvm.Cond.code (⟨"java/lang/Math", "min", "(JJ)J"⟩ : MethodName) jdk_29_method_70_code 4 (some .long) :: ws) R10_201) (fun a U => a = #[(.long (8 : Int64)), (.long (1073741824 : Int64))] ∧ Z.Warmed39 U.vm ∧ U.heap = h0) (fun _ _ _ _ _ => True) (fun _ U o U' => ∃ v L, o = .returned v ∧ Q10_201 Z  h0 n0 v U'.heap L ∧ FrameEnd U o U' L R10_201.cells R10_201.slots) := by
 refine MetFree.of_bodySF (Jvm.Free.JP.mathPlain rfl (by decide +kernel)) hisR ?_
 intro p e s m args below meth c s₁ Bd hml0 hP hK
 obtain ⟨rfl, hZ, hh⟩ := hP
 have hx := Bd.exec
 have hby := Bd.bytes
 have hml : c.maxLocals = 4 := hml0
 have hlk : meth.locks = false := Bd.notSynchronized
 have hown : s.vm.findClass "java/lang/Math" = some m.cls := findClass_of_methodNamed Bd.named
 have hnm := (name_of_methodNamed Bd.named Bd.method).1
 have X0 : Stand p l e R10_201 s m #[(.long (8 : Int64)), (.long (1073741824 : Int64))] below meth c s₁ [] 0 0 := Stand.of_body Bd
 have e0 : s₁.heap = h0 := by rw [← hh, Bd.state]; rfl
 have N0 := Fr.nil n0
 rw [ef10_201 m ]
 show KEnds p e below s R10_201.cells R10_201.slots (Q10_201 Z  h0 n0) s₁ (mkF m 0 #[.val (.long (8 : Int64)), .second, .val (.long (1073741824 : Int64)), .second] [])
 refine k_lloadN X0 hx (hb hby d10_0) rfl (pc' := 1) rfl ?_
 refine k_lloadN X0 hx (hb hby d10_1) rfl (pc' := 2) rfl ?_
 refine k_lcif_gt X0 hx (hb hby d10_2) (pm := 3) rfl (hb hby d10_3) (pn := 6) rfl (py := 10) (by decide) (fun hc => absurd hc (by decide)) (fun _ => ?_)
 refine k_lloadN X0 hx (hb hby d10_6) rfl (pc' := 7) rfl ?_
 refine k_goto X0 hx (hb hby d10_7) (pc' := 11) (by decide) ?_
 exact k_retL X0 hx Bd.returns (hb hby d10_11) hlk (by decide) (by decide) ⟨N0, e0, rfl⟩
theorem d8_52 : decode prog_19_method_10_code 52 = .ok (.l2i, 1) := by decide +kernel
theorem d8_53 : decode prog_19_method_10_code 53 = .ok (.invokevirtual 66, 3) := by decide +kernel
theorem d11_0 : decode prog_19_method_11_code 0 = .ok (.iload_n 1, 1) := by decide +kernel
theorem d11_1 : decode prog_19_method_11_code 1 = .ok (.newarray .long, 2) := by decide +kernel
theorem d11_3 : decode prog_19_method_11_code 3 = .ok (.astore_n 2, 1) := by decide +kernel
theorem d11_4 : decode prog_19_method_11_code 4 = .ok (.iload_n 1, 1) := by decide +kernel
theorem d11_5 : decode prog_19_method_11_code 5 = .ok (.newarray .long, 2) := by decide +kernel
theorem d11_7 : decode prog_19_method_11_code 7 = .ok (.astore_n 3, 1) := by decide +kernel
theorem d11_8 : decode prog_19_method_11_code 8 = .ok (.iconst 0, 1) := by decide +kernel
theorem d11_9 : decode prog_19_method_11_code 9 = .ok (.istore 4, 2) := by decide +kernel
theorem d11_11 : decode prog_19_method_11_code 11 = .ok (.iload 4, 2) := by decide +kernel
theorem d11_13 : decode prog_19_method_11_code 13 = .ok (.aload_n 0, 1) := by decide +kernel
theorem d11_14 : decode prog_19_method_11_code 14 = .ok (.getfield 45, 3) := by decide +kernel
theorem d11_17 : decode prog_19_method_11_code 17 = .ok (.if_icmp .ge 39, 3) := by decide +kernel
theorem d11_56 : decode prog_19_method_11_code 56 = .ok (.aload_n 0, 1) := by decide +kernel
theorem d11_57 : decode prog_19_method_11_code 57 = .ok (.aload_n 2, 1) := by decide +kernel
theorem d11_58 : decode prog_19_method_11_code 58 = .ok (.putfield 7, 3) := by decide +kernel
theorem d11_61 : decode prog_19_method_11_code 61 = .ok (.aload_n 0, 1) := by decide +kernel
theorem d11_62 : decode prog_19_method_11_code 62 = .ok (.aload_n 3, 1) := by decide +kernel
theorem d11_63 : decode prog_19_method_11_code 63 = .ok (.putfield 13, 3) := by decide +kernel
theorem d11_66 : decode prog_19_method_11_code 66 = .ok (.aload_n 0, 1) := by decide +kernel
theorem d11_67 : decode prog_19_method_11_code 67 = .ok (.iconst 0, 1) := by decide +kernel
theorem d11_68 : decode prog_19_method_11_code 68 = .ok (.putfield 59, 3) := by decide +kernel
theorem d11_71 : decode prog_19_method_11_code 71 = .ok (.return_, 1) := by decide +kernel
abbrev R11_203 : Room := { frames := 0, cells := 2, slots := 16, locals := 0 }
def Q11_203 (Z : State) (a1 : Addr) (a2 : Addr) (a3 : Addr) (p4 : Int64) (p5 : Int64) (k6 : ClassId) (k7 : ClassId) (h0 : Heap) (n0 : Nat) (v : Option Value) (h : Heap) (L : List Loc) : Prop := Fr n0 L ∧ ((∃ (b204 : Addr) (k204 : ClassId) (b205 : Addr) (k205 : ClassId), v = none ∧ Exa Z h a1 "com/example/halter/halter/SlidingSum" ∧ Fld Z h a1 "com/example/halter/halter/SlidingSum" "times" "[J" (.ref b204) ∧ Fld Z h a1 "com/example/halter/halter/SlidingSum" "costs" "[J" (.ref b205) ∧ Fld Z h a1 "com/example/halter/halter/SlidingSum" "most" "J" (.long (9223372036854775807 : Int64)) ∧ Fld Z h a1 "com/example/halter/halter/SlidingSum" "length" "J" (.long p4) ∧ Fld Z h a1 "com/example/halter/halter/SlidingSum" "started" "Z" (.int (1 : Int32)) ∧ Fld Z h a1 "com/example/halter/halter/SlidingSum" "latest" "J" (.long p5) ∧ Fld Z h a1 "com/example/halter/halter/SlidingSum" "size" "I" (.int (0 : Int32)) ∧ Fld Z h a1 "com/example/halter/halter/SlidingSum" "sum" "J" (.long (0 : Int64)) ∧ Fld Z h a1 "com/example/halter/halter/SlidingSum" "head" "I" (.int (0 : Int32)) ∧ Arv Z h a2 k6 .long (0 : Int32) [] (.long (0 : Int64)) ∧ Arv Z h a3 k7 .long (0 : Int32) [] (.long (0 : Int64)) ∧ Arv Z h b204 k204 .long (8 : Int32) [(.long (0 : Int64)), (.long (0 : Int64)), (.long (0 : Int64)), (.long (0 : Int64)), (.long (0 : Int64)), (.long (0 : Int64)), (.long (0 : Int64)), (.long (0 : Int64))] (.long (0 : Int64)) ∧ Arv Z h b205 k205 .long (8 : Int32) [(.long (0 : Int64)), (.long (0 : Int64)), (.long (0 : Int64)), (.long (0 : Int64)), (.long (0 : Int64)), (.long (0 : Int64)), (.long (0 : Int64)), (.long (0 : Int64))] (.long (0 : Int64)) ∧ n0 ≤ b204 ∧ a3 < b204 ∧ n0 ≤ b205 ∧ b204 < b205 ∧ n0 ≤ h.size))
theorem ef11_203 (m : MethodId) (x0 : Addr) : entryFrame m #[(.ref x0), (.int (8 : Int32))] 5 = mkF m 0 #[.val (.ref x0), .val (.int (8 : Int32)), .unset, .unset, .unset] [] := by first | (simp [entryFrame, mkF, argsToLocals, Value.category]; done) | rfl
set_option maxRecDepth 65536 in
set_option maxHeartbeats 40000000 in
theorem rm11_203 (l : Launch) (Z : State) (a0 : Array Value) (hw : ∀ d ∈ tables_1, d.before a0 Z = true) (ws : List Jvm.Cond) (a1 : Addr) (a2 : Addr) (a3 : Addr) (p4 : Int64) (p5 : Int64) (k6 : ClassId) (k7 : ClassId) (h0 : Heap) (n0 : Nat) (Z0 : n0 ≤ h0.size) (F0_0 : Exa Z h0 a1 "com/example/halter/halter/SlidingSum") (F0_1 : Fld Z h0 a1 "com/example/halter/halter/SlidingSum" "times" "[J" (.ref a2)) (F0_2 : Fld Z h0 a1 "com/example/halter/halter/SlidingSum" "costs" "[J" (.ref a3)) (F0_3 : Fld Z h0 a1 "com/example/halter/halter/SlidingSum" "most" "J" (.long (9223372036854775807 : Int64))) (F0_4 : Fld Z h0 a1 "com/example/halter/halter/SlidingSum" "length" "J" (.long p4)) (F0_5 : Fld Z h0 a1 "com/example/halter/halter/SlidingSum" "started" "Z" (.int (1 : Int32))) (F0_6 : Fld Z h0 a1 "com/example/halter/halter/SlidingSum" "latest" "J" (.long p5)) (F0_7 : Fld Z h0 a1 "com/example/halter/halter/SlidingSum" "size" "I" (.int (0 : Int32))) (F0_8 : Fld Z h0 a1 "com/example/halter/halter/SlidingSum" "sum" "J" (.long (0 : Int64))) (F0_9 : Fld Z h0 a1 "com/example/halter/halter/SlidingSum" "head" "I" (.int (0 : Int32))) (g_a1 : n0 ≤ a1) (F0_11 : Arv Z h0 a2 k6 .long (0 : Int32) [] (.long (0 : Int64))) (g_a2 : n0 ≤ a2) (F0_13 : Arv Z h0 a3 k7 .long (0 : Int32) [] (.long (0 : Int64))) (g_a3 : n0 ≤ a3) (lt0_0 : a1 < a2) (lt0_1 : a2 < a3) :
    MetFree l (⟨"com/example/halter/halter/SlidingSum", "moveTo", "(I)V"⟩ : MethodName) (head1 (Jvm.Cond.code (⟨"com/example/halter/halter/SlidingSum", "moveTo", "(I)V"⟩ : MethodName) prog_19_method_11_code 5 none :: ws) R11_203) (fun a U => a = #[(.ref a1), (.int (8 : Int32))] ∧ Z.Warmed39 U.vm ∧ U.heap = h0) (fun _ _ _ _ _ => True) (fun _ U o U' => ∃ v L, o = .returned v ∧ Q11_203 Z a1 a2 a3 p4 p5 k6 k7 h0 n0 v U'.heap L ∧ FrameEnd U o U' L R11_203.cells R11_203.slots) := by
 refine MetFree.of_bodySF (plainFor_of_name pn_0) hisR ?_
 intro p e s m args below meth c s₁ Bd hml0 hP hK
 obtain ⟨rfl, hZ, hh⟩ := hP
 have hx := Bd.exec
 have hby := Bd.bytes
 have hml : c.maxLocals = 5 := hml0
 have hlk : meth.locks = false := Bd.notSynchronized
 have hown : s.vm.findClass "com/example/halter/halter/SlidingSum" = some m.cls := findClass_of_methodNamed Bd.named
 have hnm := (name_of_methodNamed Bd.named Bd.method).1
 have X0 : Stand p l e R11_203 s m #[(.ref a1), (.int (8 : Int32))] below meth c s₁ [] 0 0 := Stand.of_body Bd
 have e0 : s₁.heap = h0 := by rw [← hh, Bd.state]; rfl
 have N0 := Fr.nil n0
 rw [ef11_203 m a1]
 show KEnds p e below s R11_203.cells R11_203.slots (Q11_203 Z a1 a2 a3 p4 p5 k6 k7 h0 n0) s₁ (mkF m 0 #[.val (.ref a1), .val (.int (8 : Int32)), .unset, .unset, .unset] [])
 refine k_iloadN X0 hx (hb hby d11_0) rfl (pc' := 1) rfl ?_
 refine k_newA X0 hx hZ (hw _ (List.mem_of_getElem? (i := 10) rfl)) e0 (hb hby d11_1) (by decide) (cap := 8) (by decide) (by decide) (by decide) (by decide) (pc' := 3) rfl (fun T204 h204 b204 k204 g204 X204 e204 E204 V204 => ?_)
 have g_b204 : n0 ≤ b204 := Nat.le_trans Z0 (Nat.le_of_eq g204.symm)
 have lt_b204 : a3 < b204 := Nat.lt_of_lt_of_le F0_13.lt (Nat.le_of_eq g204.symm)
 have Z204 : n0 ≤ h204.size := Nat.le_trans Z0 E204.1
 have Vw204 : Arv Z h204 b204 k204 .long (8 : Int32) [(.long (0 : Int64)), (.long (0 : Int64)), (.long (0 : Int64)), (.long (0 : Int64)), (.long (0 : Int64)), (.long (0 : Int64)), (.long (0 : Int64)), (.long (0 : Int64))] (.long (0 : Int64)) := V204
 refine k_astoreN X204 hx (hb hby d11_3) rfl (Ls' := #[.val (.ref a1), .val (.int (8 : Int32)), .val (.ref b204), .unset, .unset]) rfl (pc' := 4) rfl ?_
 refine k_iloadN X204 hx (hb hby d11_4) rfl (pc' := 5) rfl ?_
 refine k_newA X204 hx hZ (hw _ (List.mem_of_getElem? (i := 10) rfl)) e204 (hb hby d11_5) (by decide) (cap := 8) (by decide) (by decide) (by decide) (by decide) (pc' := 7) rfl (fun T205 h205 b205 k205 g205 X205 e205 E205 V205 => ?_)
 have g_b205 : n0 ≤ b205 := Nat.le_trans Z204 (Nat.le_of_eq g205.symm)
 have lt_b205 : b204 < b205 := Nat.lt_of_lt_of_le Vw204.lt (Nat.le_of_eq g205.symm)
 have Z205 : n0 ≤ h205.size := Nat.le_trans Z204 E205.1
 have Vw205 : Arv Z h205 b205 k205 .long (8 : Int32) [(.long (0 : Int64)), (.long (0 : Int64)), (.long (0 : Int64)), (.long (0 : Int64)), (.long (0 : Int64)), (.long (0 : Int64)), (.long (0 : Int64)), (.long (0 : Int64))] (.long (0 : Int64)) := V205
 refine k_astoreN X205 hx (hb hby d11_7) rfl (Ls' := #[.val (.ref a1), .val (.int (8 : Int32)), .val (.ref b204), .val (.ref b205), .unset]) rfl (pc' := 8) rfl ?_
 refine k_iconst X205 hx (hb hby d11_8) (pc' := 9) rfl (z := (0 : Int32)) rfl ?_
 refine k_istore X205 hx (hb hby d11_9) (Ls' := #[.val (.ref a1), .val (.int (8 : Int32)), .val (.ref b204), .val (.ref b205), .val (.int (0 : Int32))]) rfl (pc' := 11) rfl ?_
 refine k_iload X205 hx (hb hby d11_11) rfl (pc' := 13) rfl ?_
 refine k_aloadN X205 hx (hb hby d11_13) rfl rfl (pc' := 14) rfl ?_
 have F206 := ((F0_7.ext E204).ext E205)
 refine k_getF X205 hx hZ hown (host := "") (Or.inl (hw _ (List.mem_of_getElem? (i := 41) rfl))) Via.refl e205 F206 (hb hby d11_14) (pc' := 17) rfl (fun T207 X207 e207 => ?_)
 refine k_icmp_ge X207 hx (hb hby d11_17) (pn := 20) rfl (py := 56) (by decide) (fun _ => ?_) (fun hc => absurd hc (by decide))
 refine k_aloadN X207 hx (hb hby d11_56) rfl rfl (pc' := 57) rfl ?_
 refine k_aloadN X207 hx (hb hby d11_57) rfl rfl (pc' := 58) rfl ?_
 have F208 := ((F0_1.ext E204).ext E205)
 have F209 := ((F0_0.ext E204).ext E205)
 refine k_putF X207 hx hZ hown (host := "") (Or.inl (hw _ (List.mem_of_getElem? (i := 11) rfl))) Via.refl e207 F208 F209 (Or.inl (hw _ (List.mem_of_getElem? (i := 12) rfl))) (hw _ (List.mem_of_getElem? (i := 1) rfl)) (ty := (.array .long)) (by decide) rfl rfl (hb hby d11_58) (pc' := 61) rfl (fun T210 h210 X210 e210 W210 => ?_)
 have Fw210 : Fld Z h210 a1 "com/example/halter/halter/SlidingSum" "times" "[J" (.ref b204) := F208.same W210
 have N210 := Fr.snoc X210 N0 g_a1
 have Z210 : n0 ≤ h210.size := Nat.le_trans Z205 (Nat.le_of_eq W210.size.symm)
 refine k_aloadN X210 hx (hb hby d11_61) rfl rfl (pc' := 62) rfl ?_
 refine k_aloadN X210 hx (hb hby d11_62) rfl rfl (pc' := 63) rfl ?_
 have F211 := (((F0_2.ext E204).ext E205).other W210 (Or.inr (slot_ne (Or.inl (hw _ (List.mem_of_getElem? (i := 14) rfl))) (Or.inl (hw _ (List.mem_of_getElem? (i := 12) rfl))) (by decide) (t := (.array .long)) (t' := (.array .long)) (by decide) (by decide))))
 have F212 := (F209.wr W210)
 refine k_putF X210 hx hZ hown (host := "") (Or.inl (hw _ (List.mem_of_getElem? (i := 13) rfl))) Via.refl e210 F211 F212 (Or.inl (hw _ (List.mem_of_getElem? (i := 14) rfl))) (hw _ (List.mem_of_getElem? (i := 1) rfl)) (ty := (.array .long)) (by decide) rfl rfl (hb hby d11_63) (pc' := 66) rfl (fun T213 h213 X213 e213 W213 => ?_)
 have Fw213 : Fld Z h213 a1 "com/example/halter/halter/SlidingSum" "costs" "[J" (.ref b205) := F211.same W213
 have N213 := Fr.snoc X213 N210 g_a1
 have Z213 : n0 ≤ h213.size := Nat.le_trans Z210 (Nat.le_of_eq W213.size.symm)
 refine k_aloadN X213 hx (hb hby d11_66) rfl rfl (pc' := 67) rfl ?_
 refine k_iconst X213 hx (hb hby d11_67) (pc' := 68) rfl (z := (0 : Int32)) rfl ?_
 have F214 := ((((F0_9.ext E204).ext E205).other W210 (Or.inr (slot_ne (Or.inl (hw _ (List.mem_of_getElem? (i := 69) rfl))) (Or.inl (hw _ (List.mem_of_getElem? (i := 12) rfl))) (by decide) (t := .int) (t' := (.array .long)) (by decide) (by decide)))).other W213 (Or.inr (slot_ne (Or.inl (hw _ (List.mem_of_getElem? (i := 69) rfl))) (Or.inl (hw _ (List.mem_of_getElem? (i := 14) rfl))) (by decide) (t := .int) (t' := (.array .long)) (by decide) (by decide))))
 have F215 := (F212.wr W213)
 refine k_putF X213 hx hZ hown (host := "") (Or.inl (hw _ (List.mem_of_getElem? (i := 68) rfl))) Via.refl e213 F214 F215 (Or.inl (hw _ (List.mem_of_getElem? (i := 69) rfl))) (hw _ (List.mem_of_getElem? (i := 1) rfl)) (ty := .int) (by decide) rfl rfl (hb hby d11_68) (pc' := 71) rfl (fun T216 h216 X216 e216 W216 => ?_)
 have Fw216 : Fld Z h216 a1 "com/example/halter/halter/SlidingSum" "head" "I" (.int (0 : Int32)) := F214.same W216
 have N216 := Fr.snoc X216 N213 g_a1
 have Z216 : n0 ≤ h216.size := Nat.le_trans Z213 (Nat.le_of_eq W216.size.symm)
 have F217 := (F215.wr W216)
 have F218 := ((Fw210.other W213 (Or.inr (slot_ne (Or.inl (hw _ (List.mem_of_getElem? (i := 12) rfl))) (Or.inl (hw _ (List.mem_of_getElem? (i := 14) rfl))) (by decide) (t := (.array .long)) (t' := (.array .long)) (by decide) (by decide)))).other W216 (Or.inr (slot_ne (Or.inl (hw _ (List.mem_of_getElem? (i := 12) rfl))) (Or.inl (hw _ (List.mem_of_getElem? (i := 69) rfl))) (by decide) (t := (.array .long)) (t' := .int) (by decide) (by decide))))
 have F219 := (Fw213.other W216 (Or.inr (slot_ne (Or.inl (hw _ (List.mem_of_getElem? (i := 14) rfl))) (Or.inl (hw _ (List.mem_of_getElem? (i := 69) rfl))) (by decide) (t := (.array .long)) (t' := .int) (by decide) (by decide))))
 have F220 := (((((F0_3.ext E204).ext E205).other W210 (Or.inr (slot_ne (Or.inr (hw _ (List.mem_of_getElem? (i := 16) rfl))) (Or.inl (hw _ (List.mem_of_getElem? (i := 12) rfl))) (by decide) (t := .long) (t' := (.array .long)) (by decide) (by decide)))).other W213 (Or.inr (slot_ne (Or.inr (hw _ (List.mem_of_getElem? (i := 16) rfl))) (Or.inl (hw _ (List.mem_of_getElem? (i := 14) rfl))) (by decide) (t := .long) (t' := (.array .long)) (by decide) (by decide)))).other W216 (Or.inr (slot_ne (Or.inr (hw _ (List.mem_of_getElem? (i := 16) rfl))) (Or.inl (hw _ (List.mem_of_getElem? (i := 69) rfl))) (by decide) (t := .long) (t' := .int) (by decide) (by decide))))
 have F221 := (((((F0_4.ext E204).ext E205).other W210 (Or.inr (slot_ne (Or.inr (hw _ (List.mem_of_getElem? (i := 18) rfl))) (Or.inl (hw _ (List.mem_of_getElem? (i := 12) rfl))) (by decide) (t := .long) (t' := (.array .long)) (by decide) (by decide)))).other W213 (Or.inr (slot_ne (Or.inr (hw _ (List.mem_of_getElem? (i := 18) rfl))) (Or.inl (hw _ (List.mem_of_getElem? (i := 14) rfl))) (by decide) (t := .long) (t' := (.array .long)) (by decide) (by decide)))).other W216 (Or.inr (slot_ne (Or.inr (hw _ (List.mem_of_getElem? (i := 18) rfl))) (Or.inl (hw _ (List.mem_of_getElem? (i := 69) rfl))) (by decide) (t := .long) (t' := .int) (by decide) (by decide))))
 have F222 := (((((F0_5.ext E204).ext E205).other W210 (Or.inr (slot_ne (Or.inl (hw _ (List.mem_of_getElem? (i := 25) rfl))) (Or.inl (hw _ (List.mem_of_getElem? (i := 12) rfl))) (by decide) (t := .boolean) (t' := (.array .long)) (by decide) (by decide)))).other W213 (Or.inr (slot_ne (Or.inl (hw _ (List.mem_of_getElem? (i := 25) rfl))) (Or.inl (hw _ (List.mem_of_getElem? (i := 14) rfl))) (by decide) (t := .boolean) (t' := (.array .long)) (by decide) (by decide)))).other W216 (Or.inr (slot_ne (Or.inl (hw _ (List.mem_of_getElem? (i := 25) rfl))) (Or.inl (hw _ (List.mem_of_getElem? (i := 69) rfl))) (by decide) (t := .boolean) (t' := .int) (by decide) (by decide))))
 have F223 := (((((F0_6.ext E204).ext E205).other W210 (Or.inr (slot_ne (Or.inl (hw _ (List.mem_of_getElem? (i := 36) rfl))) (Or.inl (hw _ (List.mem_of_getElem? (i := 12) rfl))) (by decide) (t := .long) (t' := (.array .long)) (by decide) (by decide)))).other W213 (Or.inr (slot_ne (Or.inl (hw _ (List.mem_of_getElem? (i := 36) rfl))) (Or.inl (hw _ (List.mem_of_getElem? (i := 14) rfl))) (by decide) (t := .long) (t' := (.array .long)) (by decide) (by decide)))).other W216 (Or.inr (slot_ne (Or.inl (hw _ (List.mem_of_getElem? (i := 36) rfl))) (Or.inl (hw _ (List.mem_of_getElem? (i := 69) rfl))) (by decide) (t := .long) (t' := .int) (by decide) (by decide))))
 have F224 := (((F206.other W210 (Or.inr (slot_ne (Or.inl (hw _ (List.mem_of_getElem? (i := 42) rfl))) (Or.inl (hw _ (List.mem_of_getElem? (i := 12) rfl))) (by decide) (t := .int) (t' := (.array .long)) (by decide) (by decide)))).other W213 (Or.inr (slot_ne (Or.inl (hw _ (List.mem_of_getElem? (i := 42) rfl))) (Or.inl (hw _ (List.mem_of_getElem? (i := 14) rfl))) (by decide) (t := .int) (t' := (.array .long)) (by decide) (by decide)))).other W216 (Or.inr (slot_ne (Or.inl (hw _ (List.mem_of_getElem? (i := 42) rfl))) (Or.inl (hw _ (List.mem_of_getElem? (i := 69) rfl))) (by decide) (t := .int) (t' := .int) (by decide) (by decide))))
 have F225 := (((((F0_8.ext E204).ext E205).other W210 (Or.inr (slot_ne (Or.inl (hw _ (List.mem_of_getElem? (i := 44) rfl))) (Or.inl (hw _ (List.mem_of_getElem? (i := 12) rfl))) (by decide) (t := .long) (t' := (.array .long)) (by decide) (by decide)))).other W213 (Or.inr (slot_ne (Or.inl (hw _ (List.mem_of_getElem? (i := 44) rfl))) (Or.inl (hw _ (List.mem_of_getElem? (i := 14) rfl))) (by decide) (t := .long) (t' := (.array .long)) (by decide) (by decide)))).other W216 (Or.inr (slot_ne (Or.inl (hw _ (List.mem_of_getElem? (i := 44) rfl))) (Or.inl (hw _ (List.mem_of_getElem? (i := 69) rfl))) (by decide) (t := .long) (t' := .int) (by decide) (by decide))))
 have F226 := (((((F0_11.ext E204).ext E205).other W210 (Ne.symm (Nat.ne_of_lt lt0_0))).other W213 (Ne.symm (Nat.ne_of_lt lt0_0))).other W216 (Ne.symm (Nat.ne_of_lt lt0_0)))
 have F227 := (((((F0_13.ext E204).ext E205).other W210 (Ne.symm (Nat.ne_of_lt (Nat.lt_trans lt0_0 lt0_1)))).other W213 (Ne.symm (Nat.ne_of_lt (Nat.lt_trans lt0_0 lt0_1)))).other W216 (Ne.symm (Nat.ne_of_lt (Nat.lt_trans lt0_0 lt0_1))))
 have F228 := ((((Vw204.ext E205).other W210 (Ne.symm (Nat.ne_of_lt (Nat.lt_trans (Nat.lt_trans lt0_0 lt0_1) lt_b204)))).other W213 (Ne.symm (Nat.ne_of_lt (Nat.lt_trans (Nat.lt_trans lt0_0 lt0_1) lt_b204)))).other W216 (Ne.symm (Nat.ne_of_lt (Nat.lt_trans (Nat.lt_trans lt0_0 lt0_1) lt_b204))))
 have F229 := (((Vw205.other W210 (Ne.symm (Nat.ne_of_lt (Nat.lt_trans (Nat.lt_trans (Nat.lt_trans lt0_0 lt0_1) lt_b204) lt_b205)))).other W213 (Ne.symm (Nat.ne_of_lt (Nat.lt_trans (Nat.lt_trans (Nat.lt_trans lt0_0 lt0_1) lt_b204) lt_b205)))).other W216 (Ne.symm (Nat.ne_of_lt (Nat.lt_trans (Nat.lt_trans (Nat.lt_trans lt0_0 lt0_1) lt_b204) lt_b205))))
 exact k_ret X216 hx Bd.returns (hb hby d11_71) hlk (by decide) (by decide) (by rw [e216]; exact ⟨N216, ⟨b204, k204, b205, k205, rfl, F217, F218, F219, F220, F221, F222, F223, F224, F225, Fw216, F226, F227, F228, F229, g_b204, lt_b204, g_b205, lt_b205, Z216⟩⟩)
theorem pd_6 : parseMethodDescriptor "(I)V" = some ⟨[.int], none⟩ := by decide +kernel
theorem d8_56 : decode prog_19_method_10_code 56 = .ok (.return_, 1) := by decide +kernel
abbrev R8_193 : Room := { frames := 1, cells := 2, slots := 16, locals := 18 }
def Q8_193 (Z : State) (a1 : Addr) (a2 : Addr) (a3 : Addr) (p4 : Int64) (p5 : Int64) (k6 : ClassId) (k7 : ClassId) (h0 : Heap) (n0 : Nat) (v : Option Value) (h : Heap) (L : List Loc) : Prop := Fr n0 L ∧ ((∃ (b231 : Addr) (k232 : ClassId) (b233 : Addr) (k234 : ClassId), v = none ∧ Exa Z h a1 "com/example/halter/halter/SlidingSum" ∧ Fld Z h a1 "com/example/halter/halter/SlidingSum" "times" "[J" (.ref b231) ∧ Fld Z h a1 "com/example/halter/halter/SlidingSum" "costs" "[J" (.ref b233) ∧ Fld Z h a1 "com/example/halter/halter/SlidingSum" "most" "J" (.long (9223372036854775807 : Int64)) ∧ Fld Z h a1 "com/example/halter/halter/SlidingSum" "length" "J" (.long p4) ∧ Fld Z h a1 "com/example/halter/halter/SlidingSum" "started" "Z" (.int (1 : Int32)) ∧ Fld Z h a1 "com/example/halter/halter/SlidingSum" "latest" "J" (.long p5) ∧ Fld Z h a1 "com/example/halter/halter/SlidingSum" "size" "I" (.int (0 : Int32)) ∧ Fld Z h a1 "com/example/halter/halter/SlidingSum" "sum" "J" (.long (0 : Int64)) ∧ Fld Z h a1 "com/example/halter/halter/SlidingSum" "head" "I" (.int (0 : Int32)) ∧ Arv Z h a2 k6 .long (0 : Int32) [] (.long (0 : Int64)) ∧ Arv Z h a3 k7 .long (0 : Int32) [] (.long (0 : Int64)) ∧ Arv Z h b231 k232 .long (8 : Int32) [(.long (0 : Int64)), (.long (0 : Int64)), (.long (0 : Int64)), (.long (0 : Int64)), (.long (0 : Int64)), (.long (0 : Int64)), (.long (0 : Int64)), (.long (0 : Int64))] (.long (0 : Int64)) ∧ Arv Z h b233 k234 .long (8 : Int32) [(.long (0 : Int64)), (.long (0 : Int64)), (.long (0 : Int64)), (.long (0 : Int64)), (.long (0 : Int64)), (.long (0 : Int64)), (.long (0 : Int64)), (.long (0 : Int64))] (.long (0 : Int64)) ∧ n0 ≤ b231 ∧ a3 < b231 ∧ n0 ≤ b233 ∧ b231 < b233 ∧ n0 ≤ h.size))
theorem ef8_193 (m : MethodId) (x0 : Addr) : entryFrame m #[(.ref x0)] 3 = mkF m 0 #[.val (.ref x0), .unset, .unset] [] := by first | (simp [entryFrame, mkF, argsToLocals, Value.category]; done) | rfl
set_option maxRecDepth 65536 in
set_option maxHeartbeats 40000000 in
theorem rm8_193 (l : Launch) (Z : State) (a0 : Array Value) (hw : ∀ d ∈ tables_1, d.before a0 Z = true) (ws : List Jvm.Cond) (a1 : Addr) (a2 : Addr) (a3 : Addr) (p4 : Int64) (p5 : Int64) (k6 : ClassId) (k7 : ClassId) (h0 : Heap) (n0 : Nat) (Z0 : n0 ≤ h0.size) (F0_0 : Exa Z h0 a1 "com/example/halter/halter/SlidingSum") (F0_1 : Fld Z h0 a1 "com/example/halter/halter/SlidingSum" "times" "[J" (.ref a2)) (F0_2 : Fld Z h0 a1 "com/example/halter/halter/SlidingSum" "costs" "[J" (.ref a3)) (F0_3 : Fld Z h0 a1 "com/example/halter/halter/SlidingSum" "most" "J" (.long (9223372036854775807 : Int64))) (F0_4 : Fld Z h0 a1 "com/example/halter/halter/SlidingSum" "length" "J" (.long p4)) (F0_5 : Fld Z h0 a1 "com/example/halter/halter/SlidingSum" "started" "Z" (.int (1 : Int32))) (F0_6 : Fld Z h0 a1 "com/example/halter/halter/SlidingSum" "latest" "J" (.long p5)) (F0_7 : Fld Z h0 a1 "com/example/halter/halter/SlidingSum" "size" "I" (.int (0 : Int32))) (F0_8 : Fld Z h0 a1 "com/example/halter/halter/SlidingSum" "sum" "J" (.long (0 : Int64))) (F0_9 : Fld Z h0 a1 "com/example/halter/halter/SlidingSum" "head" "I" (.int (0 : Int32))) (g_a1 : n0 ≤ a1) (F0_11 : Arv Z h0 a2 k6 .long (0 : Int32) [] (.long (0 : Int64))) (g_a2 : n0 ≤ a2) (F0_13 : Arv Z h0 a3 k7 .long (0 : Int32) [] (.long (0 : Int64))) (g_a3 : n0 ≤ a3) (lt0_0 : a1 < a2) (lt0_1 : a2 < a3) :
    MetFree l (⟨"com/example/halter/halter/SlidingSum", "grow", "()V"⟩ : MethodName) (head1 (Jvm.Cond.code (⟨"com/example/halter/halter/SlidingSum", "grow", "()V"⟩ : MethodName) prog_19_method_10_code 3 none :: ws) R8_193) (fun a U => a = #[(.ref a1)] ∧ Z.Warmed39 U.vm ∧ U.heap = h0) (fun _ _ _ _ _ => True) (fun _ U o U' => ∃ v L, o = .returned v ∧ Q8_193 Z a1 a2 a3 p4 p5 k6 k7 h0 n0 v U'.heap L ∧ FrameEnd U o U' L R8_193.cells R8_193.slots) := by
 refine MetFree.of_bodySF (plainFor_of_name pn_0) hisR ?_
 intro p e s m args below meth c s₁ Bd hml0 hP hK
 obtain ⟨rfl, hZ, hh⟩ := hP
 have hx := Bd.exec
 have hby := Bd.bytes
 have hml : c.maxLocals = 3 := hml0
 have hlk : meth.locks = false := Bd.notSynchronized
 have hown : s.vm.findClass "com/example/halter/halter/SlidingSum" = some m.cls := findClass_of_methodNamed Bd.named
 have hnm := (name_of_methodNamed Bd.named Bd.method).1
 have X0 : Stand p l e R8_193 s m #[(.ref a1)] below meth c s₁ [] 0 0 := Stand.of_body Bd
 have e0 : s₁.heap = h0 := by rw [← hh, Bd.state]; rfl
 have N0 := Fr.nil n0
 rw [ef8_193 m a1]
 show KEnds p e below s R8_193.cells R8_193.slots (Q8_193 Z a1 a2 a3 p4 p5 k6 k7 h0 n0) s₁ (mkF m 0 #[.val (.ref a1), .unset, .unset] [])
 refine k_aloadN X0 hx (hb hby d8_0) rfl rfl (pc' := 1) rfl ?_
 refine k_getF X0 hx hZ hown (host := "") (Or.inl (hw _ (List.mem_of_getElem? (i := 11) rfl))) Via.refl e0 F0_1 (hb hby d8_1) (pc' := 4) rfl (fun T194 X194 e194 => ?_)
 refine k_alen X194 hx hZ e194 F0_11 (hb hby d8_4) (pc' := 5) rfl ?_
 refine k_ldc X194 hx hZ hown (hw _ (List.mem_of_getElem? (i := 53) rfl)) (hb hby d8_5) (pc' := 7) rfl ?_
 refine k_icmp_ne X194 hx (hb hby d8_7) (pn := 10) rfl (py := 20) (by decide) (fun _ => ?_) (fun hc => absurd hc (by decide))
 refine k_ldcL X194 hx hZ hown (hw _ (List.mem_of_getElem? (i := 54) rfl)) (hb hby d8_20) (pc' := 23) rfl ?_
 refine k_ldcL X194 hx hZ hown (hw _ (List.mem_of_getElem? (i := 55) rfl)) (hb hby d8_23) (pc' := 26) rfl ?_
 refine k_aloadN X194 hx (hb hby d8_26) rfl rfl (pc' := 27) rfl ?_
 refine k_getF X194 hx hZ hown (host := "") (Or.inl (hw _ (List.mem_of_getElem? (i := 11) rfl))) Via.refl e194 F0_1 (hb hby d8_27) (pc' := 30) rfl (fun T195 X195 e195 => ?_)
 refine k_alen X195 hx hZ e195 F0_11 (hb hby d8_30) (pc' := 31) rfl ?_
 refine k_i2lL X195 hx (hb hby d8_31) (pc' := 32) rfl (z := (0 : Int64)) (by decide) ?_
 refine k_lmulL X195 hx (hb hby d8_32) (pc' := 33) rfl (z := (0 : Int64)) (by decide) ?_
 refine k_callS X195 hx hZ hown (hw _ (List.mem_of_getElem? (i := 56) rfl)) (hw _ (List.mem_of_getElem? (i := 57) rfl)) (hw _ (List.mem_of_getElem? (i := 58) rfl)) (hw _ (List.mem_of_getElem? (i := 59) rfl)) (by decide) (rm9_196 l Z a0 hw []  h0 n0 Z0 ) (by decide) (by decide) e195 (by rw [hml]; rfl) (argsL := [(.long (8 : Int64)), (.long (0 : Int64))]) (rest := []) (lenOf pd_5 rfl) rfl (W := 0) (Nat.le_refl _) rfl (hb hby d8_33) (by decide) (by decide) (pc' := 36) rfl (fun T197 L197 r197 X197 q197 => ?_)
 obtain ⟨N197, e197, q197⟩ := q197
 have N197' := Fr.app N0 N197
 obtain rfl := q197
 show KEnds p e below s _ _ _ T197 (mkF m 36 #[.val (.ref a1), .unset, .unset] [(.long (8 : Int64))])
 refine k_lstoreN X197 hx (hb hby d8_36) (Ls' := #[.val (.ref a1), .val (.long (8 : Int64)), .second]) rfl (pc' := 37) rfl ?_
 refine k_aloadN X197 hx (hb hby d8_37) rfl rfl (pc' := 38) rfl ?_
 refine k_lloadN X197 hx (hb hby d8_38) rfl (pc' := 39) rfl ?_
 refine k_aloadN X197 hx (hb hby d8_39) rfl rfl (pc' := 40) rfl ?_
 refine k_getF X197 hx hZ hown (host := "") (Or.inl (hw _ (List.mem_of_getElem? (i := 15) rfl))) Via.refl e197 F0_3 (hb hby d8_40) (pc' := 43) rfl (fun T198 X198 e198 => ?_)
 refine k_ldcL X198 hx hZ hown (hw _ (List.mem_of_getElem? (i := 60) rfl)) (hb hby d8_43) (pc' := 46) rfl ?_
 refine k_callS X198 hx hZ hown (hw _ (List.mem_of_getElem? (i := 61) rfl)) (hw _ (List.mem_of_getElem? (i := 62) rfl)) (hw _ (List.mem_of_getElem? (i := 58) rfl)) (hw _ (List.mem_of_getElem? (i := 63) rfl)) (by decide) (rm10_199 l Z a0 hw []  h0 n0 Z0 ) (by decide) (by decide) e198 (by rw [hml]; rfl) (argsL := [(.long (9223372036854775807 : Int64)), (.long (1073741824 : Int64))]) (rest := [(.long (8 : Int64)), (.ref a1)]) (lenOf pd_5 rfl) rfl (W := 3) (Nat.le_refl _) rfl (hb hby d8_46) (by decide) (by decide) (pc' := 49) rfl (fun T200 L200 r200 X200 q200 => ?_)
 obtain ⟨N200, e200, q200⟩ := q200
 have N200' := Fr.app N197' N200
 obtain rfl := q200
 show KEnds p e below s _ _ _ T200 (mkF m 49 #[.val (.ref a1), .val (.long (8 : Int64)), .second] [(.long (1073741824 : Int64)), (.long (8 : Int64)), (.ref a1)])
 refine k_callS X200 hx hZ hown (hw _ (List.mem_of_getElem? (i := 61) rfl)) (hw _ (List.mem_of_getElem? (i := 62) rfl)) (hw _ (List.mem_of_getElem? (i := 58) rfl)) (hw _ (List.mem_of_getElem? (i := 63) rfl)) (by decide) (rm10_201 l Z a0 hw []  h0 n0 Z0 ) (by decide) (by decide) e200 (by rw [hml]; rfl) (argsL := [(.long (8 : Int64)), (.long (1073741824 : Int64))]) (rest := [(.ref a1)]) (lenOf pd_5 rfl) rfl (W := 1) (Nat.le_refl _) rfl (hb hby d8_49) (by decide) (by decide) (pc' := 52) rfl (fun T202 L202 r202 X202 q202 => ?_)
 obtain ⟨N202, e202, q202⟩ := q202
 have N202' := Fr.app N200' N202
 obtain rfl := q202
 show KEnds p e below s _ _ _ T202 (mkF m 52 #[.val (.ref a1), .val (.long (8 : Int64)), .second] [(.long (8 : Int64)), (.ref a1)])
 refine k_l2iL X202 hx (hb hby d8_52) (pc' := 53) rfl (z := (8 : Int32)) (by decide) ?_
 refine k_callP X202 hx hZ hown (a := a1) (hw _ (List.mem_of_getElem? (i := 64) rfl)) (hw _ (List.mem_of_getElem? (i := 65) rfl)) (hw _ (List.mem_of_getElem? (i := 66) rfl)) (hw _ (List.mem_of_getElem? (i := 1) rfl)) (hw _ (List.mem_of_getElem? (i := 2) rfl)) (hw _ (List.mem_of_getElem? (i := 67) rfl)) (by decide) F0_0 (rm11_203 l Z a0 hw [] a1 a2 a3 p4 p5 k6 k7 h0 n0 Z0 F0_0 F0_1 F0_2 F0_3 F0_4 F0_5 F0_6 F0_7 F0_8 F0_9 g_a1 F0_11 g_a2 F0_13 g_a3 lt0_0 lt0_1) (by decide) (by decide) e202 (by rw [hml]; rfl) (argsL := [(.int (8 : Int32))]) (rest := []) (lenOf pd_6 rfl) rfl (W := 0) (Nat.le_refl _) rfl (hb hby d8_53) (by decide) (by decide) (pc' := 56) rfl (fun T230 L230 r230 X230 q230 => ?_)
 obtain ⟨N230, q230⟩ := q230
 have N230' := Fr.app N202' N230
 obtain ⟨b231, k232, b233, k234, rfl, F235, F236, F237, F238, F239, F240, F241, F242, F243, F244, F245, F246, F247, F248, g_b231, lt249, g_b233, lt250, Z251⟩ := q230
 show KEnds p e below s _ _ _ T230 (mkF m 56 #[.val (.ref a1), .val (.long (8 : Int64)), .second] [])
 exact k_ret X230 hx Bd.returns (hb hby d8_56) hlk (by decide) (by decide) ⟨N230', ⟨b231, k232, b233, k234, rfl, F235, F236, F237, F238, F239, F240, F241, F242, F243, F244, F245, F246, F247, F248, g_b231, lt249, g_b233, lt250, Z251⟩⟩
theorem d7_68 : decode prog_19_method_9_code 68 = .ok (.aload_n 0, 1) := by decide +kernel
theorem d7_69 : decode prog_19_method_9_code 69 = .ok (.aload_n 0, 1) := by decide +kernel
theorem d7_70 : decode prog_19_method_9_code 70 = .ok (.getfield 45, 3) := by decide +kernel
theorem d7_73 : decode prog_19_method_9_code 73 = .ok (.invokevirtual 62, 3) := by decide +kernel
theorem d12_0 : decode prog_19_method_12_code 0 = .ok (.aload_n 0, 1) := by decide +kernel
theorem d12_1 : decode prog_19_method_12_code 1 = .ok (.getfield 59, 3) := by decide +kernel
theorem d12_4 : decode prog_19_method_12_code 4 = .ok (.iload_n 1, 1) := by decide +kernel
theorem d12_5 : decode prog_19_method_12_code 5 = .ok (.iadd, 1) := by decide +kernel
theorem d12_6 : decode prog_19_method_12_code 6 = .ok (.istore_n 2, 1) := by decide +kernel
theorem d12_7 : decode prog_19_method_12_code 7 = .ok (.iload_n 2, 1) := by decide +kernel
theorem d12_8 : decode prog_19_method_12_code 8 = .ok (.aload_n 0, 1) := by decide +kernel
theorem d12_9 : decode prog_19_method_12_code 9 = .ok (.getfield 7, 3) := by decide +kernel
theorem d12_12 : decode prog_19_method_12_code 12 = .ok (.arraylength, 1) := by decide +kernel
theorem d12_13 : decode prog_19_method_12_code 13 = .ok (.if_icmp .ge 7, 3) := by decide +kernel
theorem d12_16 : decode prog_19_method_12_code 16 = .ok (.iload_n 2, 1) := by decide +kernel
theorem d12_17 : decode prog_19_method_12_code 17 = .ok (.goto 10, 3) := by decide +kernel
theorem d12_27 : decode prog_19_method_12_code 27 = .ok (.ireturn, 1) := by decide +kernel
abbrev R12_275 : Room := { frames := 0, cells := 0, slots := 0, locals := 0 }
def Q12_275 (Z : State) (a1 : Addr) (a2 : Addr) (a3 : Addr) (p4 : Int64) (p5 : Int64) (k6 : ClassId) (k7 : ClassId) (h0 : Heap) (n0 : Nat) (v : Option Value) (h : Heap) (L : List Loc) : Prop := Fr n0 L ∧ h = h0 ∧ ((v = some (.int (0 : Int32))))
theorem ef12_275 (m : MethodId) (x0 : Addr) : entryFrame m #[(.ref x0), (.int (0 : Int32))] 3 = mkF m 0 #[.val (.ref x0), .val (.int (0 : Int32)), .unset] [] := by first | (simp [entryFrame, mkF, argsToLocals, Value.category]; done) | rfl
set_option maxRecDepth 65536 in
set_option maxHeartbeats 40000000 in
theorem rm12_275 (l : Launch) (Z : State) (a0 : Array Value) (hw : ∀ d ∈ tables_1, d.before a0 Z = true) (ws : List Jvm.Cond) (a1 : Addr) (a2 : Addr) (a3 : Addr) (p4 : Int64) (p5 : Int64) (k6 : ClassId) (k7 : ClassId) (h0 : Heap) (n0 : Nat) (Z0 : n0 ≤ h0.size) (F0_0 : Exa Z h0 a1 "com/example/halter/halter/SlidingSum") (F0_1 : Fld Z h0 a1 "com/example/halter/halter/SlidingSum" "times" "[J" (.ref a2)) (F0_2 : Fld Z h0 a1 "com/example/halter/halter/SlidingSum" "costs" "[J" (.ref a3)) (F0_3 : Fld Z h0 a1 "com/example/halter/halter/SlidingSum" "most" "J" (.long (9223372036854775807 : Int64))) (F0_4 : Fld Z h0 a1 "com/example/halter/halter/SlidingSum" "length" "J" (.long p4)) (F0_5 : Fld Z h0 a1 "com/example/halter/halter/SlidingSum" "started" "Z" (.int (1 : Int32))) (F0_6 : Fld Z h0 a1 "com/example/halter/halter/SlidingSum" "latest" "J" (.long p5)) (F0_7 : Fld Z h0 a1 "com/example/halter/halter/SlidingSum" "size" "I" (.int (0 : Int32))) (F0_8 : Fld Z h0 a1 "com/example/halter/halter/SlidingSum" "sum" "J" (.long (0 : Int64))) (F0_9 : Fld Z h0 a1 "com/example/halter/halter/SlidingSum" "head" "I" (.int (0 : Int32))) (F0_10 : Arv Z h0 a2 k6 .long (8 : Int32) [(.long (0 : Int64)), (.long (0 : Int64)), (.long (0 : Int64)), (.long (0 : Int64)), (.long (0 : Int64)), (.long (0 : Int64)), (.long (0 : Int64)), (.long (0 : Int64))] (.long (0 : Int64))) (F0_11 : Arv Z h0 a3 k7 .long (8 : Int32) [(.long (0 : Int64)), (.long (0 : Int64)), (.long (0 : Int64)), (.long (0 : Int64)), (.long (0 : Int64)), (.long (0 : Int64)), (.long (0 : Int64)), (.long (0 : Int64))] (.long (0 : Int64))) (lt0_0 : a1 < a2) (lt0_1 : a2 < a3) :
    MetFree l (⟨"com/example/halter/halter/SlidingSum", "place", "(I)I"⟩ : MethodName) (head1 (Jvm.Cond.code (⟨"com/example/halter/halter/SlidingSum", "place", "(I)I"⟩ : MethodName) prog_19_method_12_code 3 (some .int) :: ws) R12_275) (fun a U => a = #[(.ref a1), (.int (0 : Int32))] ∧ Z.Warmed39 U.vm ∧ U.heap = h0) (fun _ _ _ _ _ => True) (fun _ U o U' => ∃ v L, o = .returned v ∧ Q12_275 Z a1 a2 a3 p4 p5 k6 k7 h0 n0 v U'.heap L ∧ FrameEnd U o U' L R12_275.cells R12_275.slots) := by
 refine MetFree.of_bodySF (plainFor_of_name pn_0) hisR ?_
 intro p e s m args below meth c s₁ Bd hml0 hP hK
 obtain ⟨rfl, hZ, hh⟩ := hP
 have hx := Bd.exec
 have hby := Bd.bytes
 have hml : c.maxLocals = 3 := hml0
 have hlk : meth.locks = false := Bd.notSynchronized
 have hown : s.vm.findClass "com/example/halter/halter/SlidingSum" = some m.cls := findClass_of_methodNamed Bd.named
 have hnm := (name_of_methodNamed Bd.named Bd.method).1
 have X0 : Stand p l e R12_275 s m #[(.ref a1), (.int (0 : Int32))] below meth c s₁ [] 0 0 := Stand.of_body Bd
 have e0 : s₁.heap = h0 := by rw [← hh, Bd.state]; rfl
 have N0 := Fr.nil n0
 rw [ef12_275 m a1]
 show KEnds p e below s R12_275.cells R12_275.slots (Q12_275 Z a1 a2 a3 p4 p5 k6 k7 h0 n0) s₁ (mkF m 0 #[.val (.ref a1), .val (.int (0 : Int32)), .unset] [])
 refine k_aloadN X0 hx (hb hby d12_0) rfl rfl (pc' := 1) rfl ?_
 refine k_getF X0 hx hZ hown (host := "") (Or.inl (hw _ (List.mem_of_getElem? (i := 68) rfl))) Via.refl e0 F0_9 (hb hby d12_1) (pc' := 4) rfl (fun T276 X276 e276 => ?_)
 refine k_iloadN X276 hx (hb hby d12_4) rfl (pc' := 5) rfl ?_
 refine k_iaddL X276 hx (hb hby d12_5) (pc' := 6) rfl (z := (0 : Int32)) (by decide) ?_
 refine k_istoreN X276 hx (hb hby d12_6) (Ls' := #[.val (.ref a1), .val (.int (0 : Int32)), .val (.int (0 : Int32))]) rfl (pc' := 7) rfl ?_
 refine k_iloadN X276 hx (hb hby d12_7) rfl (pc' := 8) rfl ?_
 refine k_aloadN X276 hx (hb hby d12_8) rfl rfl (pc' := 9) rfl ?_
 refine k_getF X276 hx hZ hown (host := "") (Or.inl (hw _ (List.mem_of_getElem? (i := 11) rfl))) Via.refl e276 F0_1 (hb hby d12_9) (pc' := 12) rfl (fun T277 X277 e277 => ?_)
 refine k_alen X277 hx hZ e277 F0_10 (hb hby d12_12) (pc' := 13) rfl ?_
 refine k_icmp_ge X277 hx (hb hby d12_13) (pn := 16) rfl (py := 20) (by decide) (fun hc => absurd (by decide) hc) (fun _ => ?_)
 refine k_iloadN X277 hx (hb hby d12_16) rfl (pc' := 17) rfl ?_
 refine k_goto X277 hx (hb hby d12_17) (pc' := 27) (by decide) ?_
 exact k_retI X277 hx Bd.returns (hb hby d12_27) hlk (by decide) (by decide) ⟨N0, e277, rfl⟩
theorem pd_7 : parseMethodDescriptor "(I)I" = some ⟨[.int], some .int⟩ := by decide +kernel
theorem d7_76 : decode prog_19_method_9_code 76 = .ok (.istore_n 3, 1) := by decide +kernel
theorem d7_77 : decode prog_19_method_9_code 77 = .ok (.aload_n 0, 1) := by decide +kernel
theorem d7_78 : decode prog_19_method_9_code 78 = .ok (.getfield 7, 3) := by decide +kernel
theorem d7_81 : decode prog_19_method_9_code 81 = .ok (.iload_n 3, 1) := by decide +kernel
theorem d7_82 : decode prog_19_method_9_code 82 = .ok (.aload_n 0, 1) := by decide +kernel
theorem d7_83 : decode prog_19_method_9_code 83 = .ok (.getfield 53, 3) := by decide +kernel
theorem d7_86 : decode prog_19_method_9_code 86 = .ok (.lastore, 1) := by decide +kernel
theorem d7_87 : decode prog_19_method_9_code 87 = .ok (.aload_n 0, 1) := by decide +kernel
theorem d7_88 : decode prog_19_method_9_code 88 = .ok (.getfield 13, 3) := by decide +kernel
theorem d7_91 : decode prog_19_method_9_code 91 = .ok (.iload_n 3, 1) := by decide +kernel
theorem d7_92 : decode prog_19_method_9_code 92 = .ok (.lload_n 1, 1) := by decide +kernel
theorem d7_93 : decode prog_19_method_9_code 93 = .ok (.lastore, 1) := by decide +kernel
theorem d7_94 : decode prog_19_method_9_code 94 = .ok (.aload_n 0, 1) := by decide +kernel
theorem d7_95 : decode prog_19_method_9_code 95 = .ok (.dup, 1) := by decide +kernel
theorem d7_96 : decode prog_19_method_9_code 96 = .ok (.getfield 45, 3) := by decide +kernel
theorem d7_99 : decode prog_19_method_9_code 99 = .ok (.iconst 1, 1) := by decide +kernel
theorem d7_100 : decode prog_19_method_9_code 100 = .ok (.iadd, 1) := by decide +kernel
theorem d7_101 : decode prog_19_method_9_code 101 = .ok (.putfield 45, 3) := by decide +kernel
theorem d7_104 : decode prog_19_method_9_code 104 = .ok (.aload_n 0, 1) := by decide +kernel
theorem d7_105 : decode prog_19_method_9_code 105 = .ok (.dup, 1) := by decide +kernel
theorem d7_106 : decode prog_19_method_9_code 106 = .ok (.getfield 36, 3) := by decide +kernel
theorem d7_109 : decode prog_19_method_9_code 109 = .ok (.lload_n 1, 1) := by decide +kernel
theorem d7_110 : decode prog_19_method_9_code 110 = .ok (.ladd, 1) := by decide +kernel
theorem d7_111 : decode prog_19_method_9_code 111 = .ok (.putfield 36, 3) := by decide +kernel
theorem d7_114 : decode prog_19_method_9_code 114 = .ok (.return_, 1) := by decide +kernel
abbrev R7_189 : Room := { frames := 2, cells := 2, slots := 16, locals := 32 }
def Q7_189 (Z : State) (a1 : Addr) (a2 : Addr) (a3 : Addr) (p4 : Int64) (p5 : Int64) (k6 : ClassId) (k7 : ClassId) (h0 : Heap) (n0 : Nat) (v : Option Value) (h : Heap) (L : List Loc) : Prop := Fr n0 L ∧ ((∃ (b253 : Addr) (k254 : ClassId) (b255 : Addr) (k256 : ClassId), v = none ∧ Exa Z h a1 "com/example/halter/halter/SlidingSum" ∧ Fld Z h a1 "com/example/halter/halter/SlidingSum" "times" "[J" (.ref b253) ∧ Fld Z h a1 "com/example/halter/halter/SlidingSum" "costs" "[J" (.ref b255) ∧ Fld Z h a1 "com/example/halter/halter/SlidingSum" "most" "J" (.long (9223372036854775807 : Int64)) ∧ Fld Z h a1 "com/example/halter/halter/SlidingSum" "length" "J" (.long p4) ∧ Fld Z h a1 "com/example/halter/halter/SlidingSum" "started" "Z" (.int (1 : Int32)) ∧ Fld Z h a1 "com/example/halter/halter/SlidingSum" "latest" "J" (.long p5) ∧ Fld Z h a1 "com/example/halter/halter/SlidingSum" "size" "I" (.int (1 : Int32)) ∧ Fld Z h a1 "com/example/halter/halter/SlidingSum" "sum" "J" (.long (1 : Int64)) ∧ Fld Z h a1 "com/example/halter/halter/SlidingSum" "head" "I" (.int (0 : Int32)) ∧ Arv Z h a2 k6 .long (0 : Int32) [] (.long (0 : Int64)) ∧ Arv Z h a3 k7 .long (0 : Int32) [] (.long (0 : Int64)) ∧ Arv Z h b253 k254 .long (8 : Int32) [(.long p5), (.long (0 : Int64)), (.long (0 : Int64)), (.long (0 : Int64)), (.long (0 : Int64)), (.long (0 : Int64)), (.long (0 : Int64)), (.long (0 : Int64))] (.long (0 : Int64)) ∧ Arv Z h b255 k256 .long (8 : Int32) [(.long (1 : Int64)), (.long (0 : Int64)), (.long (0 : Int64)), (.long (0 : Int64)), (.long (0 : Int64)), (.long (0 : Int64)), (.long (0 : Int64)), (.long (0 : Int64))] (.long (0 : Int64)) ∧ n0 ≤ b253 ∧ a3 < b253 ∧ n0 ≤ b255 ∧ b253 < b255 ∧ n0 ≤ h.size))
theorem ef7_189 (m : MethodId) (x0 : Addr) : entryFrame m #[(.ref x0), (.long (1 : Int64))] 4 = mkF m 0 #[.val (.ref x0), .val (.long (1 : Int64)), .second, .unset] [] := by first | (simp [entryFrame, mkF, argsToLocals, Value.category]; done) | rfl
set_option maxRecDepth 65536 in
set_option maxHeartbeats 40000000 in
theorem rm7_189 (l : Launch) (Z : State) (a0 : Array Value) (hw : ∀ d ∈ tables_1, d.before a0 Z = true) (ws : List Jvm.Cond) (a1 : Addr) (a2 : Addr) (a3 : Addr) (p4 : Int64) (p5 : Int64) (k6 : ClassId) (k7 : ClassId) (h0 : Heap) (n0 : Nat) (Z0 : n0 ≤ h0.size) (F0_0 : Exa Z h0 a1 "com/example/halter/halter/SlidingSum") (F0_1 : Fld Z h0 a1 "com/example/halter/halter/SlidingSum" "times" "[J" (.ref a2)) (F0_2 : Fld Z h0 a1 "com/example/halter/halter/SlidingSum" "costs" "[J" (.ref a3)) (F0_3 : Fld Z h0 a1 "com/example/halter/halter/SlidingSum" "most" "J" (.long (9223372036854775807 : Int64))) (F0_4 : Fld Z h0 a1 "com/example/halter/halter/SlidingSum" "length" "J" (.long p4)) (F0_5 : Fld Z h0 a1 "com/example/halter/halter/SlidingSum" "started" "Z" (.int (1 : Int32))) (F0_6 : Fld Z h0 a1 "com/example/halter/halter/SlidingSum" "latest" "J" (.long p5)) (F0_7 : Fld Z h0 a1 "com/example/halter/halter/SlidingSum" "size" "I" (.int (0 : Int32))) (F0_8 : Fld Z h0 a1 "com/example/halter/halter/SlidingSum" "sum" "J" (.long (0 : Int64))) (F0_9 : Fld Z h0 a1 "com/example/halter/halter/SlidingSum" "head" "I" (.int (0 : Int32))) (g_a1 : n0 ≤ a1) (F0_11 : Arv Z h0 a2 k6 .long (0 : Int32) [] (.long (0 : Int64))) (g_a2 : n0 ≤ a2) (F0_13 : Arv Z h0 a3 k7 .long (0 : Int32) [] (.long (0 : Int64))) (g_a3 : n0 ≤ a3) (lt0_0 : a1 < a2) (lt0_1 : a2 < a3) :
    MetFree l (⟨"com/example/halter/halter/SlidingSum", "remember", "(J)V"⟩ : MethodName) (head1 (Jvm.Cond.code (⟨"com/example/halter/halter/SlidingSum", "remember", "(J)V"⟩ : MethodName) prog_19_method_9_code 4 none :: ws) R7_189) (fun a U => a = #[(.ref a1), (.long (1 : Int64))] ∧ Z.Warmed39 U.vm ∧ U.heap = h0) (fun _ _ _ _ _ => True) (fun _ U o U' => ∃ v L, o = .returned v ∧ Q7_189 Z a1 a2 a3 p4 p5 k6 k7 h0 n0 v U'.heap L ∧ FrameEnd U o U' L R7_189.cells R7_189.slots) := by
 refine MetFree.of_bodySF (plainFor_of_name pn_0) hisR ?_
 intro p e s m args below meth c s₁ Bd hml0 hP hK
 obtain ⟨rfl, hZ, hh⟩ := hP
 have hx := Bd.exec
 have hby := Bd.bytes
 have hml : c.maxLocals = 4 := hml0
 have hlk : meth.locks = false := Bd.notSynchronized
 have hown : s.vm.findClass "com/example/halter/halter/SlidingSum" = some m.cls := findClass_of_methodNamed Bd.named
 have hnm := (name_of_methodNamed Bd.named Bd.method).1
 have X0 : Stand p l e R7_189 s m #[(.ref a1), (.long (1 : Int64))] below meth c s₁ [] 0 0 := Stand.of_body Bd
 have e0 : s₁.heap = h0 := by rw [← hh, Bd.state]; rfl
 have N0 := Fr.nil n0
 rw [ef7_189 m a1]
 show KEnds p e below s R7_189.cells R7_189.slots (Q7_189 Z a1 a2 a3 p4 p5 k6 k7 h0 n0) s₁ (mkF m 0 #[.val (.ref a1), .val (.long (1 : Int64)), .second, .unset] [])
 refine k_aloadN X0 hx (hb hby d7_0) rfl rfl (pc' := 1) rfl ?_
 refine k_getF X0 hx hZ hown (host := "") (Or.inl (hw _ (List.mem_of_getElem? (i := 41) rfl))) Via.refl e0 F0_7 (hb hby d7_1) (pc' := 4) rfl (fun T190 X190 e190 => ?_)
 refine k_if_le X190 hx (hb hby d7_4) (pn := 7) rfl (py := 52) (by decide) (fun _ => ?_) (fun hc => absurd hc (by decide))
 refine k_aloadN X190 hx (hb hby d7_52) rfl rfl (pc' := 53) rfl ?_
 refine k_getF X190 hx hZ hown (host := "") (Or.inl (hw _ (List.mem_of_getElem? (i := 41) rfl))) Via.refl e190 F0_7 (hb hby d7_53) (pc' := 56) rfl (fun T191 X191 e191 => ?_)
 refine k_aloadN X191 hx (hb hby d7_56) rfl rfl (pc' := 57) rfl ?_
 refine k_getF X191 hx hZ hown (host := "") (Or.inl (hw _ (List.mem_of_getElem? (i := 11) rfl))) Via.refl e191 F0_1 (hb hby d7_57) (pc' := 60) rfl (fun T192 X192 e192 => ?_)
 refine k_alen X192 hx hZ e192 F0_11 (hb hby d7_60) (pc' := 61) rfl ?_
 refine k_icmp_ne X192 hx (hb hby d7_61) (pn := 64) rfl (py := 68) (by decide) (fun hc => absurd (by decide) hc) (fun _ => ?_)
 refine k_aloadN X192 hx (hb hby d7_64) rfl rfl (pc' := 65) rfl ?_
 refine k_callP X192 hx hZ hown (a := a1) (hw _ (List.mem_of_getElem? (i := 49) rfl)) (hw _ (List.mem_of_getElem? (i := 50) rfl)) (hw _ (List.mem_of_getElem? (i := 51) rfl)) (hw _ (List.mem_of_getElem? (i := 1) rfl)) (hw _ (List.mem_of_getElem? (i := 2) rfl)) (hw _ (List.mem_of_getElem? (i := 52) rfl)) (by decide) F0_0 (rm8_193 l Z a0 hw [] a1 a2 a3 p4 p5 k6 k7 h0 n0 Z0 F0_0 F0_1 F0_2 F0_3 F0_4 F0_5 F0_6 F0_7 F0_8 F0_9 g_a1 F0_11 g_a2 F0_13 g_a3 lt0_0 lt0_1) (by decide) (by decide) e192 (by rw [hml]; rfl) (argsL := []) (rest := []) (lenOf pd_2 rfl) rfl (W := 0) (Nat.le_refl _) rfl (hb hby d7_65) (by decide) (by decide) (pc' := 68) rfl (fun T252 L252 r252 X252 q252 => ?_)
 obtain ⟨N252, q252⟩ := q252
 have N252' := Fr.app N0 N252
 obtain ⟨b253, k254, b255, k256, rfl, F257, F258, F259, F260, F261, F262, F263, F264, F265, F266, F267, F268, F269, F270, g_b253, lt271, g_b255, lt272, Z273⟩ := q252
 show KEnds p e below s _ _ _ T252 (mkF m 68 #[.val (.ref a1), .val (.long (1 : Int64)), .second, .unset] [])
 refine k_aloadN X252 hx (hb hby d7_68) rfl rfl (pc' := 69) rfl ?_
 refine k_aloadN X252 hx (hb hby d7_69) rfl rfl (pc' := 70) rfl ?_
 refine k_getF X252 hx hZ hown (host := "") (Or.inl (hw _ (List.mem_of_getElem? (i := 41) rfl))) Via.refl rfl F264 (hb hby d7_70) (pc' := 73) rfl (fun T274 X274 e274 => ?_)
 refine k_callP X274 hx hZ hown (a := a1) (hw _ (List.mem_of_getElem? (i := 70) rfl)) (hw _ (List.mem_of_getElem? (i := 71) rfl)) (hw _ (List.mem_of_getElem? (i := 72) rfl)) (hw _ (List.mem_of_getElem? (i := 1) rfl)) (hw _ (List.mem_of_getElem? (i := 2) rfl)) (hw _ (List.mem_of_getElem? (i := 73) rfl)) (by decide) F257 (rm12_275 l Z a0 hw [] a1 b253 b255 p4 p5 k254 k256 T252.heap n0 Z273 F257 F258 F259 F260 F261 F262 F263 F264 F265 F266 F269 F270 (Nat.lt_trans (Nat.lt_trans lt0_0 lt0_1) lt271) lt272) (by decide) (by decide) e274 (by rw [hml]; rfl) (argsL := [(.int (0 : Int32))]) (rest := []) (lenOf pd_7 rfl) rfl (W := 0) (Nat.le_refl _) rfl (hb hby d7_73) (by decide) (by decide) (pc' := 76) rfl (fun T278 L278 r278 X278 q278 => ?_)
 obtain ⟨N278, e278, q278⟩ := q278
 have N278' := Fr.app N252' N278
 obtain rfl := q278
 show KEnds p e below s _ _ _ T278 (mkF m 76 #[.val (.ref a1), .val (.long (1 : Int64)), .second, .unset] [(.int (0 : Int32))])
 refine k_istoreN X278 hx (hb hby d7_76) (Ls' := #[.val (.ref a1), .val (.long (1 : Int64)), .second, .val (.int (0 : Int32))]) rfl (pc' := 77) rfl ?_
 refine k_aloadN X278 hx (hb hby d7_77) rfl rfl (pc' := 78) rfl ?_
 refine k_getF X278 hx hZ hown (host := "") (Or.inl (hw _ (List.mem_of_getElem? (i := 11) rfl))) Via.refl e278 F258 (hb hby d7_78) (pc' := 81) rfl (fun T279 X279 e279 => ?_)
 refine k_iloadN X279 hx (hb hby d7_81) rfl (pc' := 82) rfl ?_
 refine k_aloadN X279 hx (hb hby d7_82) rfl rfl (pc' := 83) rfl ?_
 refine k_getF X279 hx hZ hown (host := "") (Or.inl (hw _ (List.mem_of_getElem? (i := 35) rfl))) Via.refl e279 F263 (hb hby d7_83) (pc' := 86) rfl (fun T280 X280 e280 => ?_)
 refine k_lastore X280 hx hZ e280 F269 ⟨by decide, by decide⟩ (i := 0) rfl (Nat.le_of_ble_eq_true rfl) (hb hby d7_86) (pc' := 87) rfl (fun T281 h281 X281 e281 W281 V281 => ?_)
 have Vw281 : Arv Z h281 b253 k254 .long (8 : Int32) [(.long p5), (.long (0 : Int64)), (.long (0 : Int64)), (.long (0 : Int64)), (.long (0 : Int64)), (.long (0 : Int64)), (.long (0 : Int64)), (.long (0 : Int64))] (.long (0 : Int64)) := V281
 have N281 := Fr.snoc X281 N278' g_b253
 have Z281 : n0 ≤ h281.size := Nat.le_trans Z273 (Nat.le_of_eq W281.size.symm)
 refine k_aloadN X281 hx (hb hby d7_87) rfl rfl (pc' := 88) rfl ?_
 have F282 := (F259.other W281 (Or.inl (Nat.ne_of_lt (Nat.lt_trans (Nat.lt_trans lt0_0 lt0_1) lt271))))
 refine k_getF X281 hx hZ hown (host := "") (Or.inl (hw _ (List.mem_of_getElem? (i := 13) rfl))) Via.refl e281 F282 (hb hby d7_88) (pc' := 91) rfl (fun T283 X283 e283 => ?_)
 refine k_iloadN X283 hx (hb hby d7_91) rfl (pc' := 92) rfl ?_
 refine k_lloadN X283 hx (hb hby d7_92) rfl (pc' := 93) rfl ?_
 have F284 := (F270.other W281 (Ne.symm (Nat.ne_of_lt lt272)))
 refine k_lastore X283 hx hZ e283 F284 ⟨by decide, by decide⟩ (i := 0) rfl (Nat.le_of_ble_eq_true rfl) (hb hby d7_93) (pc' := 94) rfl (fun T285 h285 X285 e285 W285 V285 => ?_)
 have Vw285 : Arv Z h285 b255 k256 .long (8 : Int32) [(.long (1 : Int64)), (.long (0 : Int64)), (.long (0 : Int64)), (.long (0 : Int64)), (.long (0 : Int64)), (.long (0 : Int64)), (.long (0 : Int64)), (.long (0 : Int64))] (.long (0 : Int64)) := V285
 have N285 := Fr.snoc X285 N281 g_b255
 have Z285 : n0 ≤ h285.size := Nat.le_trans Z281 (Nat.le_of_eq W285.size.symm)
 refine k_aloadN X285 hx (hb hby d7_94) rfl rfl (pc' := 95) rfl ?_
 refine k_dup X285 hx (hb hby d7_95) rfl (pc' := 96) rfl ?_
 have F286 := ((F264.other W281 (Or.inl (Nat.ne_of_lt (Nat.lt_trans (Nat.lt_trans lt0_0 lt0_1) lt271)))).other W285 (Or.inl (Nat.ne_of_lt (Nat.lt_trans (Nat.lt_trans (Nat.lt_trans lt0_0 lt0_1) lt271) lt272))))
 refine k_getF X285 hx hZ hown (host := "") (Or.inl (hw _ (List.mem_of_getElem? (i := 41) rfl))) Via.refl e285 F286 (hb hby d7_96) (pc' := 99) rfl (fun T287 X287 e287 => ?_)
 refine k_iconst X287 hx (hb hby d7_99) (pc' := 100) rfl (z := (1 : Int32)) rfl ?_
 refine k_iaddL X287 hx (hb hby d7_100) (pc' := 101) rfl (z := (1 : Int32)) (by decide) ?_
 have F288 := ((F257.wr W281).wr W285)
 refine k_putF X287 hx hZ hown (host := "") (Or.inl (hw _ (List.mem_of_getElem? (i := 41) rfl))) Via.refl e287 F286 F288 (Or.inl (hw _ (List.mem_of_getElem? (i := 42) rfl))) (hw _ (List.mem_of_getElem? (i := 1) rfl)) (ty := .int) (by decide) rfl rfl (hb hby d7_101) (pc' := 104) rfl (fun T289 h289 X289 e289 W289 => ?_)
 have Fw289 : Fld Z h289 a1 "com/example/halter/halter/SlidingSum" "size" "I" (.int (1 : Int32)) := F286.same W289
 have N289 := Fr.snoc X289 N285 g_a1
 have Z289 : n0 ≤ h289.size := Nat.le_trans Z285 (Nat.le_of_eq W289.size.symm)
 refine k_aloadN X289 hx (hb hby d7_104) rfl rfl (pc' := 105) rfl ?_
 refine k_dup X289 hx (hb hby d7_105) rfl (pc' := 106) rfl ?_
 have F290 := (((F265.other W281 (Or.inl (Nat.ne_of_lt (Nat.lt_trans (Nat.lt_trans lt0_0 lt0_1) lt271)))).other W285 (Or.inl (Nat.ne_of_lt (Nat.lt_trans (Nat.lt_trans (Nat.lt_trans lt0_0 lt0_1) lt271) lt272)))).other W289 (Or.inr (slot_ne (Or.inl (hw _ (List.mem_of_getElem? (i := 44) rfl))) (Or.inl (hw _ (List.mem_of_getElem? (i := 42) rfl))) (by decide) (t := .long) (t' := .int) (by decide) (by decide))))
 refine k_getF X289 hx hZ hown (host := "") (Or.inl (hw _ (List.mem_of_getElem? (i := 43) rfl))) Via.refl e289 F290 (hb hby d7_106) (pc' := 109) rfl (fun T291 X291 e291 => ?_)
 refine k_lloadN X291 hx (hb hby d7_109) rfl (pc' := 110) rfl ?_
 refine k_laddL X291 hx (hb hby d7_110) (pc' := 111) rfl (z := (1 : Int64)) (by decide) ?_
 have F292 := (F288.wr W289)
 refine k_putF X291 hx hZ hown (host := "") (Or.inl (hw _ (List.mem_of_getElem? (i := 43) rfl))) Via.refl e291 F290 F292 (Or.inl (hw _ (List.mem_of_getElem? (i := 44) rfl))) (hw _ (List.mem_of_getElem? (i := 1) rfl)) (ty := .long) (by decide) rfl rfl (hb hby d7_111) (pc' := 114) rfl (fun T293 h293 X293 e293 W293 => ?_)
 have Fw293 : Fld Z h293 a1 "com/example/halter/halter/SlidingSum" "sum" "J" (.long (1 : Int64)) := F290.same W293
 have N293 := Fr.snoc X293 N289 g_a1
 have Z293 : n0 ≤ h293.size := Nat.le_trans Z289 (Nat.le_of_eq W293.size.symm)
 have F294 := (F292.wr W293)
 have F295 := ((((F258.other W281 (Or.inl (Nat.ne_of_lt (Nat.lt_trans (Nat.lt_trans lt0_0 lt0_1) lt271)))).other W285 (Or.inl (Nat.ne_of_lt (Nat.lt_trans (Nat.lt_trans (Nat.lt_trans lt0_0 lt0_1) lt271) lt272)))).other W289 (Or.inr (slot_ne (Or.inl (hw _ (List.mem_of_getElem? (i := 12) rfl))) (Or.inl (hw _ (List.mem_of_getElem? (i := 42) rfl))) (by decide) (t := (.array .long)) (t' := .int) (by decide) (by decide)))).other W293 (Or.inr (slot_ne (Or.inl (hw _ (List.mem_of_getElem? (i := 12) rfl))) (Or.inl (hw _ (List.mem_of_getElem? (i := 44) rfl))) (by decide) (t := (.array .long)) (t' := .long) (by decide) (by decide))))
 have F296 := (((F282.other W285 (Or.inl (Nat.ne_of_lt (Nat.lt_trans (Nat.lt_trans (Nat.lt_trans lt0_0 lt0_1) lt271) lt272)))).other W289 (Or.inr (slot_ne (Or.inl (hw _ (List.mem_of_getElem? (i := 14) rfl))) (Or.inl (hw _ (List.mem_of_getElem? (i := 42) rfl))) (by decide) (t := (.array .long)) (t' := .int) (by decide) (by decide)))).other W293 (Or.inr (slot_ne (Or.inl (hw _ (List.mem_of_getElem? (i := 14) rfl))) (Or.inl (hw _ (List.mem_of_getElem? (i := 44) rfl))) (by decide) (t := (.array .long)) (t' := .long) (by decide) (by decide))))
 have F297 := ((((F260.other W281 (Or.inl (Nat.ne_of_lt (Nat.lt_trans (Nat.lt_trans lt0_0 lt0_1) lt271)))).other W285 (Or.inl (Nat.ne_of_lt (Nat.lt_trans (Nat.lt_trans (Nat.lt_trans lt0_0 lt0_1) lt271) lt272)))).other W289 (Or.inr (slot_ne (Or.inr (hw _ (List.mem_of_getElem? (i := 16) rfl))) (Or.inl (hw _ (List.mem_of_getElem? (i := 42) rfl))) (by decide) (t := .long) (t' := .int) (by decide) (by decide)))).other W293 (Or.inr (slot_ne (Or.inr (hw _ (List.mem_of_getElem? (i := 16) rfl))) (Or.inl (hw _ (List.mem_of_getElem? (i := 44) rfl))) (by decide) (t := .long) (t' := .long) (by decide) (by decide))))
 have F298 := ((((F261.other W281 (Or.inl (Nat.ne_of_lt (Nat.lt_trans (Nat.lt_trans lt0_0 lt0_1) lt271)))).other W285 (Or.inl (Nat.ne_of_lt (Nat.lt_trans (Nat.lt_trans (Nat.lt_trans lt0_0 lt0_1) lt271) lt272)))).other W289 (Or.inr (slot_ne (Or.inr (hw _ (List.mem_of_getElem? (i := 18) rfl))) (Or.inl (hw _ (List.mem_of_getElem? (i := 42) rfl))) (by decide) (t := .long) (t' := .int) (by decide) (by decide)))).other W293 (Or.inr (slot_ne (Or.inr (hw _ (List.mem_of_getElem? (i := 18) rfl))) (Or.inl (hw _ (List.mem_of_getElem? (i := 44) rfl))) (by decide) (t := .long) (t' := .long) (by decide) (by decide))))
 have F299 := ((((F262.other W281 (Or.inl (Nat.ne_of_lt (Nat.lt_trans (Nat.lt_trans lt0_0 lt0_1) lt271)))).other W285 (Or.inl (Nat.ne_of_lt (Nat.lt_trans (Nat.lt_trans (Nat.lt_trans lt0_0 lt0_1) lt271) lt272)))).other W289 (Or.inr (slot_ne (Or.inl (hw _ (List.mem_of_getElem? (i := 25) rfl))) (Or.inl (hw _ (List.mem_of_getElem? (i := 42) rfl))) (by decide) (t := .boolean) (t' := .int) (by decide) (by decide)))).other W293 (Or.inr (slot_ne (Or.inl (hw _ (List.mem_of_getElem? (i := 25) rfl))) (Or.inl (hw _ (List.mem_of_getElem? (i := 44) rfl))) (by decide) (t := .boolean) (t' := .long) (by decide) (by decide))))
 have F300 := ((((F263.other W281 (Or.inl (Nat.ne_of_lt (Nat.lt_trans (Nat.lt_trans lt0_0 lt0_1) lt271)))).other W285 (Or.inl (Nat.ne_of_lt (Nat.lt_trans (Nat.lt_trans (Nat.lt_trans lt0_0 lt0_1) lt271) lt272)))).other W289 (Or.inr (slot_ne (Or.inl (hw _ (List.mem_of_getElem? (i := 36) rfl))) (Or.inl (hw _ (List.mem_of_getElem? (i := 42) rfl))) (by decide) (t := .long) (t' := .int) (by decide) (by decide)))).other W293 (Or.inr (slot_ne (Or.inl (hw _ (List.mem_of_getElem? (i := 36) rfl))) (Or.inl (hw _ (List.mem_of_getElem? (i := 44) rfl))) (by decide) (t := .long) (t' := .long) (by decide) (by decide))))
 have F301 := (Fw289.other W293 (Or.inr (slot_ne (Or.inl (hw _ (List.mem_of_getElem? (i := 42) rfl))) (Or.inl (hw _ (List.mem_of_getElem? (i := 44) rfl))) (by decide) (t := .int) (t' := .long) (by decide) (by decide))))
 have F302 := ((((F266.other W281 (Or.inl (Nat.ne_of_lt (Nat.lt_trans (Nat.lt_trans lt0_0 lt0_1) lt271)))).other W285 (Or.inl (Nat.ne_of_lt (Nat.lt_trans (Nat.lt_trans (Nat.lt_trans lt0_0 lt0_1) lt271) lt272)))).other W289 (Or.inr (slot_ne (Or.inl (hw _ (List.mem_of_getElem? (i := 69) rfl))) (Or.inl (hw _ (List.mem_of_getElem? (i := 42) rfl))) (by decide) (t := .int) (t' := .int) (by decide) (by decide)))).other W293 (Or.inr (slot_ne (Or.inl (hw _ (List.mem_of_getElem? (i := 69) rfl))) (Or.inl (hw _ (List.mem_of_getElem? (i := 44) rfl))) (by decide) (t := .int) (t' := .long) (by decide) (by decide))))
 have F303 := ((((F267.other W281 (Nat.ne_of_lt (Nat.lt_trans lt0_1 lt271))).other W285 (Nat.ne_of_lt (Nat.lt_trans (Nat.lt_trans lt0_1 lt271) lt272))).other W289 (Ne.symm (Nat.ne_of_lt lt0_0))).other W293 (Ne.symm (Nat.ne_of_lt lt0_0)))
 have F304 := ((((F268.other W281 (Nat.ne_of_lt lt271)).other W285 (Nat.ne_of_lt (Nat.lt_trans lt271 lt272))).other W289 (Ne.symm (Nat.ne_of_lt (Nat.lt_trans lt0_0 lt0_1)))).other W293 (Ne.symm (Nat.ne_of_lt (Nat.lt_trans lt0_0 lt0_1))))
 have F305 := (((Vw281.other W285 (Nat.ne_of_lt lt272)).other W289 (Ne.symm (Nat.ne_of_lt (Nat.lt_trans (Nat.lt_trans lt0_0 lt0_1) lt271)))).other W293 (Ne.symm (Nat.ne_of_lt (Nat.lt_trans (Nat.lt_trans lt0_0 lt0_1) lt271))))
 have F306 := ((Vw285.other W289 (Ne.symm (Nat.ne_of_lt (Nat.lt_trans (Nat.lt_trans (Nat.lt_trans lt0_0 lt0_1) lt271) lt272)))).other W293 (Ne.symm (Nat.ne_of_lt (Nat.lt_trans (Nat.lt_trans (Nat.lt_trans lt0_0 lt0_1) lt271) lt272))))
 exact k_ret X293 hx Bd.returns (hb hby d7_114) hlk (by decide) (by decide) (by rw [e293]; exact ⟨N293, ⟨b253, k254, b255, k256, rfl, F294, F295, F296, F297, F298, F299, F300, F301, Fw293, F302, F303, F304, F305, F306, g_b253, lt271, g_b255, lt272, Z293⟩⟩)
theorem d4_52 : decode prog_19_method_3_code 52 = .ok (.return_, 1) := by decide +kernel
abbrev R4_172 : Room := { frames := 3, cells := 2, slots := 16, locals := 47 }
def Q4_172 (Z : State) (a1 : Addr) (p2 : Int64) (a3 : Addr) (a4 : Addr) (p5 : Int64) (k6 : ClassId) (k7 : ClassId) (h0 : Heap) (n0 : Nat) (v : Option Value) (h : Heap) (L : List Loc) : Prop := Fr n0 L ∧ ((∃ (b308 : Addr) (k309 : ClassId) (b310 : Addr) (k311 : ClassId), v = none ∧ Exa Z h a1 "com/example/halter/halter/SlidingSum" ∧ Fld Z h a1 "com/example/halter/halter/SlidingSum" "times" "[J" (.ref b308) ∧ Fld Z h a1 "com/example/halter/halter/SlidingSum" "costs" "[J" (.ref b310) ∧ Fld Z h a1 "com/example/halter/halter/SlidingSum" "most" "J" (.long (9223372036854775807 : Int64)) ∧ Fld Z h a1 "com/example/halter/halter/SlidingSum" "length" "J" (.long p5) ∧ Fld Z h a1 "com/example/halter/halter/SlidingSum" "started" "Z" (.int (1 : Int32)) ∧ Fld Z h a1 "com/example/halter/halter/SlidingSum" "latest" "J" (.long p2) ∧ Fld Z h a1 "com/example/halter/halter/SlidingSum" "size" "I" (.int (1 : Int32)) ∧ Fld Z h a1 "com/example/halter/halter/SlidingSum" "sum" "J" (.long (1 : Int64)) ∧ Fld Z h a1 "com/example/halter/halter/SlidingSum" "head" "I" (.int (0 : Int32)) ∧ Arv Z h a3 k6 .long (0 : Int32) [] (.long (0 : Int64)) ∧ Arv Z h a4 k7 .long (0 : Int32) [] (.long (0 : Int64)) ∧ Arv Z h b308 k309 .long (8 : Int32) [(.long p2), (.long (0 : Int64)), (.long (0 : Int64)), (.long (0 : Int64)), (.long (0 : Int64)), (.long (0 : Int64)), (.long (0 : Int64)), (.long (0 : Int64))] (.long (0 : Int64)) ∧ Arv Z h b310 k311 .long (8 : Int32) [(.long (1 : Int64)), (.long (0 : Int64)), (.long (0 : Int64)), (.long (0 : Int64)), (.long (0 : Int64)), (.long (0 : Int64)), (.long (0 : Int64)), (.long (0 : Int64))] (.long (0 : Int64)) ∧ n0 ≤ b308 ∧ a4 < b308 ∧ n0 ≤ b310 ∧ b308 < b310 ∧ n0 ≤ h.size))
theorem ef4_172 (m : MethodId) (x0 : Addr) (x2 : Int64) : entryFrame m #[(.ref x0), (.long (1 : Int64)), (.long x2)] 5 = mkF m 0 #[.val (.ref x0), .val (.long (1 : Int64)), .second, .val (.long x2), .second] [] := by first | (simp [entryFrame, mkF, argsToLocals, Value.category]; done) | rfl
set_option maxRecDepth 65536 in
set_option maxHeartbeats 40000000 in
theorem rm4_172 (l : Launch) (Z : State) (a0 : Array Value) (hw : ∀ d ∈ tables_1, d.before a0 Z = true) (ws : List Jvm.Cond) (a1 : Addr) (p2 : Int64) (a3 : Addr) (a4 : Addr) (p5 : Int64) (k6 : ClassId) (k7 : ClassId) (h0 : Heap) (n0 : Nat) (Z0 : n0 ≤ h0.size) (F0_0 : Exa Z h0 a1 "com/example/halter/halter/SlidingSum") (F0_1 : Fld Z h0 a1 "com/example/halter/halter/SlidingSum" "times" "[J" (.ref a3)) (F0_2 : Fld Z h0 a1 "com/example/halter/halter/SlidingSum" "costs" "[J" (.ref a4)) (F0_3 : Fld Z h0 a1 "com/example/halter/halter/SlidingSum" "most" "J" (.long (9223372036854775807 : Int64))) (F0_4 : Fld Z h0 a1 "com/example/halter/halter/SlidingSum" "length" "J" (.long p5)) (F0_5 : Fld Z h0 a1 "com/example/halter/halter/SlidingSum" "started" "Z" (.int (0 : Int32))) (F0_6 : Fld Z h0 a1 "com/example/halter/halter/SlidingSum" "latest" "J" (.long (0 : Int64))) (F0_7 : Fld Z h0 a1 "com/example/halter/halter/SlidingSum" "size" "I" (.int (0 : Int32))) (F0_8 : Fld Z h0 a1 "com/example/halter/halter/SlidingSum" "sum" "J" (.long (0 : Int64))) (F0_9 : Fld Z h0 a1 "com/example/halter/halter/SlidingSum" "head" "I" (.int (0 : Int32))) (g_a1 : n0 ≤ a1) (F0_11 : Arv Z h0 a3 k6 .long (0 : Int32) [] (.long (0 : Int64))) (g_a3 : n0 ≤ a3) (F0_13 : Arv Z h0 a4 k7 .long (0 : Int32) [] (.long (0 : Int64))) (g_a4 : n0 ≤ a4) (lt0_0 : a1 < a3) (lt0_1 : a3 < a4) :
    MetFree l (⟨"com/example/halter/halter/SlidingSum", "add", "(JJ)V"⟩ : MethodName) (head1 (Jvm.Cond.code (⟨"com/example/halter/halter/SlidingSum", "add", "(JJ)V"⟩ : MethodName) prog_19_method_3_code 5 none :: ws) R4_172) (fun a U => a = #[(.ref a1), (.long (1 : Int64)), (.long p2)] ∧ Z.Warmed39 U.vm ∧ U.heap = h0) (fun _ _ _ _ _ => True) (fun _ U o U' => ∃ v L, o = .returned v ∧ Q4_172 Z a1 p2 a3 a4 p5 k6 k7 h0 n0 v U'.heap L ∧ FrameEnd U o U' L R4_172.cells R4_172.slots) := by
 refine MetFree.of_bodySF (plainFor_of_name pn_0) hisR ?_
 intro p e s m args below meth c s₁ Bd hml0 hP hK
 obtain ⟨rfl, hZ, hh⟩ := hP
 have hx := Bd.exec
 have hby := Bd.bytes
 have hml : c.maxLocals = 5 := hml0
 have hlk : meth.locks = false := Bd.notSynchronized
 have hown : s.vm.findClass "com/example/halter/halter/SlidingSum" = some m.cls := findClass_of_methodNamed Bd.named
 have hnm := (name_of_methodNamed Bd.named Bd.method).1
 have X0 : Stand p l e R4_172 s m #[(.ref a1), (.long (1 : Int64)), (.long p2)] below meth c s₁ [] 0 0 := Stand.of_body Bd
 have e0 : s₁.heap = h0 := by rw [← hh, Bd.state]; rfl
 have N0 := Fr.nil n0
 rw [ef4_172 m a1 p2]
 show KEnds p e below s R4_172.cells R4_172.slots (Q4_172 Z a1 p2 a3 a4 p5 k6 k7 h0 n0) s₁ (mkF m 0 #[.val (.ref a1), .val (.long (1 : Int64)), .second, .val (.long p2), .second] [])
 refine k_aloadN X0 hx (hb hby d4_0) rfl rfl (pc' := 1) rfl ?_
 refine k_lloadN X0 hx (hb hby d4_1) rfl (pc' := 2) rfl ?_
 refine k_callP X0 hx hZ hown (a := a1) (hw _ (List.mem_of_getElem? (i := 31) rfl)) (hw _ (List.mem_of_getElem? (i := 32) rfl)) (hw _ (List.mem_of_getElem? (i := 33) rfl)) (hw _ (List.mem_of_getElem? (i := 1) rfl)) (hw _ (List.mem_of_getElem? (i := 2) rfl)) (hw _ (List.mem_of_getElem? (i := 34) rfl)) (by decide) F0_0 (rm5_83 l Z a0 hw [] a1 p2 a3 a4 p5 k6 k7 h0 n0 Z0 F0_0 F0_1 F0_2 F0_3 F0_4 F0_5 F0_6 F0_7 F0_8 F0_9 g_a1 F0_11 g_a3 F0_13 g_a4 lt0_0 lt0_1) (by decide) (by decide) e0 (by rw [hml]; rfl) (argsL := [(.long p2)]) (rest := []) (lenOf pd_3 rfl) rfl (W := 0) (Nat.le_refl _) rfl (hb hby d4_2) (by decide) (by decide) (pc' := 5) rfl (fun T173 L173 r173 X173 q173 => ?_)
 obtain ⟨N173, q173⟩ := q173
 have N173' := Fr.app N0 N173
 obtain ⟨rfl, F174, F175, F176, F177, F178, F179, F180, F181, F182, F183, F184, F185, Z186⟩ := q173
 show KEnds p e below s _ _ _ T173 (mkF m 5 #[.val (.ref a1), .val (.long (1 : Int64)), .second, .val (.long p2), .second] [])
 refine k_lloadN X173 hx (hb hby d4_5) rfl (pc' := 6) rfl ?_
 refine k_lconst X173 hx (hb hby d4_6) (pc' := 7) rfl (z := (1 : Int64)) rfl ?_
 refine k_lcif_lt X173 hx (hb hby d4_7) (pm := 8) rfl (hb hby d4_8) (pn := 11) rfl (py := 25) (by decide) (fun hc => absurd hc (by decide)) (fun _ => ?_)
 refine k_lloadN X173 hx (hb hby d4_11) rfl (pc' := 12) rfl ?_
 refine k_aloadN X173 hx (hb hby d4_12) rfl rfl (pc' := 13) rfl ?_
 refine k_getF X173 hx hZ hown (host := "") (Or.inl (hw _ (List.mem_of_getElem? (i := 15) rfl))) Via.refl rfl F177 (hb hby d4_13) (pc' := 16) rfl (fun T187 X187 e187 => ?_)
 refine k_aloadN X187 hx (hb hby d4_16) rfl rfl (pc' := 17) rfl ?_
 refine k_getF X187 hx hZ hown (host := "") (Or.inl (hw _ (List.mem_of_getElem? (i := 43) rfl))) Via.refl e187 F182 (hb hby d4_17) (pc' := 20) rfl (fun T188 X188 e188 => ?_)
 refine k_lsubL X188 hx (hb hby d4_20) (pc' := 21) rfl (z := (9223372036854775807 : Int64)) (by decide) ?_
 refine k_lcif_le X188 hx (hb hby d4_21) (pm := 22) rfl (hb hby d4_22) (pn := 25) rfl (py := 47) (by decide) (fun _ => ?_) (fun hc => absurd hc (by decide))
 refine k_aloadN X188 hx (hb hby d4_47) rfl rfl (pc' := 48) rfl ?_
 refine k_lloadN X188 hx (hb hby d4_48) rfl (pc' := 49) rfl ?_
 refine k_callP X188 hx hZ hown (a := a1) (hw _ (List.mem_of_getElem? (i := 45) rfl)) (hw _ (List.mem_of_getElem? (i := 46) rfl)) (hw _ (List.mem_of_getElem? (i := 47) rfl)) (hw _ (List.mem_of_getElem? (i := 1) rfl)) (hw _ (List.mem_of_getElem? (i := 2) rfl)) (hw _ (List.mem_of_getElem? (i := 48) rfl)) (by decide) F174 (rm7_189 l Z a0 hw [] a1 a3 a4 p5 p2 k6 k7 T173.heap n0 Z186 F174 F175 F176 F177 F178 F179 F180 F181 F182 F183 g_a1 F184 g_a3 F185 g_a4 lt0_0 lt0_1) (by decide) (by decide) e188 (by rw [hml]; rfl) (argsL := [(.long (1 : Int64))]) (rest := []) (lenOf pd_3 rfl) rfl (W := 0) (Nat.le_refl _) rfl (hb hby d4_49) (by decide) (by decide) (pc' := 52) rfl (fun T307 L307 r307 X307 q307 => ?_)
 obtain ⟨N307, q307⟩ := q307
 have N307' := Fr.app N173' N307
 obtain ⟨b308, k309, b310, k311, rfl, F312, F313, F314, F315, F316, F317, F318, F319, F320, F321, F322, F323, F324, F325, g_b308, lt326, g_b310, lt327, Z328⟩ := q307
 show KEnds p e below s _ _ _ T307 (mkF m 52 #[.val (.ref a1), .val (.long (1 : Int64)), .second, .val (.long p2), .second] [])
 exact k_ret X307 hx Bd.returns (hb hby d4_52) hlk (by decide) (by decide) ⟨N307', ⟨b308, k309, b310, k311, rfl, F312, F313, F314, F315, F316, F317, F318, F319, F320, F321, F322, F323, F324, F325, g_b308, lt326, g_b310, lt327, Z328⟩⟩
abbrev R3_353 : Room := { frames := 0, cells := 0, slots := 0, locals := 0 }
def Q3_353 (Z : State) (a1 : Addr) (p2 : Int64) (a3 : Addr) (a4 : Addr) (p5 : Int64) (p6 : Int64) (k7 : ClassId) (k8 : ClassId) (h0 : Heap) (n0 : Nat) (v : Option Value) (h : Heap) (L : List Loc) : Prop := Fr n0 L ∧ h = h0 ∧ ((∃ (v356 : Int64), v356 = p6 - p2 ∧ ¬ (0 : Int64) < v356 ∧ v = some (.int (0 : Int32))) ∨ (∃ (v356 : Int64), v356 = p6 - p2 ∧ (0 : Int64) < v356 ∧ v = some (.int (1 : Int32))))
theorem ef3_353 (m : MethodId) (x0 : Addr) (x1 : Int64) : entryFrame m #[(.ref x0), (.long x1)] 3 = mkF m 0 #[.val (.ref x0), .val (.long x1), .second] [] := by first | (simp [entryFrame, mkF, argsToLocals, Value.category]; done) | rfl
set_option maxRecDepth 65536 in
set_option maxHeartbeats 40000000 in
theorem rm3_353 (l : Launch) (Z : State) (a0 : Array Value) (hw : ∀ d ∈ tables_1, d.before a0 Z = true) (ws : List Jvm.Cond) (a1 : Addr) (p2 : Int64) (a3 : Addr) (a4 : Addr) (p5 : Int64) (p6 : Int64) (k7 : ClassId) (k8 : ClassId) (h0 : Heap) (n0 : Nat) (Z0 : n0 ≤ h0.size) (F0_0 : Exa Z h0 a1 "com/example/halter/halter/SlidingSum") (F0_1 : Fld Z h0 a1 "com/example/halter/halter/SlidingSum" "times" "[J" (.ref a3)) (F0_2 : Fld Z h0 a1 "com/example/halter/halter/SlidingSum" "costs" "[J" (.ref a4)) (F0_3 : Fld Z h0 a1 "com/example/halter/halter/SlidingSum" "most" "J" (.long (9223372036854775807 : Int64))) (F0_4 : Fld Z h0 a1 "com/example/halter/halter/SlidingSum" "length" "J" (.long p5)) (F0_5 : Fld Z h0 a1 "com/example/halter/halter/SlidingSum" "started" "Z" (.int (1 : Int32))) (F0_6 : Fld Z h0 a1 "com/example/halter/halter/SlidingSum" "latest" "J" (.long p6)) (F0_7 : Fld Z h0 a1 "com/example/halter/halter/SlidingSum" "size" "I" (.int (1 : Int32))) (F0_8 : Fld Z h0 a1 "com/example/halter/halter/SlidingSum" "sum" "J" (.long (1 : Int64))) (F0_9 : Fld Z h0 a1 "com/example/halter/halter/SlidingSum" "head" "I" (.int (0 : Int32))) (F0_10 : Arv Z h0 a3 k7 .long (8 : Int32) [(.long p6), (.long (0 : Int64)), (.long (0 : Int64)), (.long (0 : Int64)), (.long (0 : Int64)), (.long (0 : Int64)), (.long (0 : Int64)), (.long (0 : Int64))] (.long (0 : Int64))) (F0_11 : Arv Z h0 a4 k8 .long (8 : Int32) [(.long (1 : Int64)), (.long (0 : Int64)), (.long (0 : Int64)), (.long (0 : Int64)), (.long (0 : Int64)), (.long (0 : Int64)), (.long (0 : Int64)), (.long (0 : Int64))] (.long (0 : Int64))) (lt0_0 : a1 < a3) (lt0_1 : a3 < a4) :
    MetFree l (⟨"com/example/halter/halter/SlidingSum", "givenAfter", "(J)Z"⟩ : MethodName) (head1 (Jvm.Cond.code (⟨"com/example/halter/halter/SlidingSum", "givenAfter", "(J)Z"⟩ : MethodName) prog_19_method_5_code 3 (some .boolean) :: ws) R3_353) (fun a U => a = #[(.ref a1), (.long p2)] ∧ Z.Warmed39 U.vm ∧ U.heap = h0) (fun _ _ _ _ _ => True) (fun _ U o U' => ∃ v L, o = .returned v ∧ Q3_353 Z a1 p2 a3 a4 p5 p6 k7 k8 h0 n0 v U'.heap L ∧ FrameEnd U o U' L R3_353.cells R3_353.slots) := by
 refine MetFree.of_bodySF (plainFor_of_name pn_0) hisR ?_
 intro p e s m args below meth c s₁ Bd hml0 hP hK
 obtain ⟨rfl, hZ, hh⟩ := hP
 have hx := Bd.exec
 have hby := Bd.bytes
 have hml : c.maxLocals = 3 := hml0
 have hlk : meth.locks = false := Bd.notSynchronized
 have hown : s.vm.findClass "com/example/halter/halter/SlidingSum" = some m.cls := findClass_of_methodNamed Bd.named
 have hnm := (name_of_methodNamed Bd.named Bd.method).1
 have X0 : Stand p l e R3_353 s m #[(.ref a1), (.long p2)] below meth c s₁ [] 0 0 := Stand.of_body Bd
 have e0 : s₁.heap = h0 := by rw [← hh, Bd.state]; rfl
 have N0 := Fr.nil n0
 rw [ef3_353 m a1 p2]
 show KEnds p e below s R3_353.cells R3_353.slots (Q3_353 Z a1 p2 a3 a4 p5 p6 k7 k8 h0 n0) s₁ (mkF m 0 #[.val (.ref a1), .val (.long p2), .second] [])
 refine k_aloadN X0 hx (hb hby d3_0) rfl rfl (pc' := 1) rfl ?_
 refine k_getF X0 hx hZ hown (host := "") (Or.inl (hw _ (List.mem_of_getElem? (i := 24) rfl))) Via.refl e0 F0_5 (hb hby d3_1) (pc' := 4) rfl (fun T354 X354 e354 => ?_)
 refine k_if_eq X354 hx (hb hby d3_4) (pn := 7) rfl (py := 22) (by decide) (fun hc => absurd hc (by decide)) (fun _ => ?_)
 refine k_aloadN X354 hx (hb hby d3_7) rfl rfl (pc' := 8) rfl ?_
 refine k_getF X354 hx hZ hown (host := "") (Or.inl (hw _ (List.mem_of_getElem? (i := 35) rfl))) Via.refl e354 F0_6 (hb hby d3_8) (pc' := 11) rfl (fun T355 X355 e355 => ?_)
 refine k_lloadN X355 hx (hb hby d3_11) rfl (pc' := 12) rfl ?_
 refine k_lsub X355 hx (hb hby d3_12) (pc' := 13) rfl (fun v356 hv356 => ?_)
 refine k_lconst X355 hx (hb hby d3_13) (pc' := 14) rfl (z := (0 : Int64)) rfl ?_
 refine k_lcif_le X355 hx (hb hby d3_14) (pm := 15) rfl (hb hby d3_15) (pn := 18) rfl (py := 22) (by decide) (fun hc357 => ?_) (fun hc357 => ?_)
 ·
  refine k_iconst X355 hx (hb hby d3_22) (pc' := 23) rfl (z := (0 : Int32)) rfl ?_
  exact k_retN X355 hx (t := .boolean) Bd.returns (by simp) (hb hby d3_23) hlk (by decide) (by decide) (z' := (0 : Int32)) rfl ⟨N0, e355, (Or.inl ⟨v356, hv356, hc357, rfl⟩)⟩
 ·
  refine k_iconst X355 hx (hb hby d3_18) (pc' := 19) rfl (z := (1 : Int32)) rfl ?_
  refine k_goto X355 hx (hb hby d3_19) (pc' := 23) (by decide) ?_
  exact k_retN X355 hx (t := .boolean) Bd.returns (by simp) (hb hby d3_23) hlk (by decide) (by decide) (z' := (1 : Int32)) rfl ⟨N0, e355, (Or.inr ⟨v356, hv356, hc357, rfl⟩)⟩
theorem d5_7 : decode prog_19_method_7_code 7 = .ok (.lload_n 1, 1) := by decide +kernel
theorem d5_8 : decode prog_19_method_7_code 8 = .ok (.aload_n 0, 1) := by decide +kernel
theorem d5_9 : decode prog_19_method_7_code 9 = .ok (.getfield 53, 3) := by decide +kernel
theorem d5_12 : decode prog_19_method_7_code 12 = .ok (.lsub, 1) := by decide +kernel
theorem d5_13 : decode prog_19_method_7_code 13 = .ok (.lconst 0, 1) := by decide +kernel
theorem d5_14 : decode prog_19_method_7_code 14 = .ok (.lcmp, 1) := by decide +kernel
theorem d5_15 : decode prog_19_method_7_code 15 = .ok (.ifCond .le 13, 3) := by decide +kernel
abbrev R5_397 : Room := { frames := 1, cells := 0, slots := 0, locals := 13 }
def Q5_397 (Z : State) (a1 : Addr) (p2 : Int64) (a3 : Addr) (a4 : Addr) (p5 : Int64) (p6 : Int64) (k7 : ClassId) (k8 : ClassId) (h0 : Heap) (n0 : Nat) (v : Option Value) (h : Heap) (L : List Loc) : Prop := Fr n0 L ∧ ((∃ (v400 : Int64), v400 = p2 - p6 ∧ ¬ (0 : Int64) < v400 ∧ v = none ∧ Exa Z h a1 "com/example/halter/halter/SlidingSum" ∧ Fld Z h a1 "com/example/halter/halter/SlidingSum" "times" "[J" (.ref a3) ∧ Fld Z h a1 "com/example/halter/halter/SlidingSum" "costs" "[J" (.ref a4) ∧ Fld Z h a1 "com/example/halter/halter/SlidingSum" "most" "J" (.long (9223372036854775807 : Int64)) ∧ Fld Z h a1 "com/example/halter/halter/SlidingSum" "length" "J" (.long p5) ∧ Fld Z h a1 "com/example/halter/halter/SlidingSum" "started" "Z" (.int (1 : Int32)) ∧ Fld Z h a1 "com/example/halter/halter/SlidingSum" "latest" "J" (.long p6) ∧ Fld Z h a1 "com/example/halter/halter/SlidingSum" "size" "I" (.int (0 : Int32)) ∧ Fld Z h a1 "com/example/halter/halter/SlidingSum" "sum" "J" (.long (0 : Int64)) ∧ Fld Z h a1 "com/example/halter/halter/SlidingSum" "head" "I" (.int (0 : Int32)) ∧ Arv Z h a3 k7 .long (0 : Int32) [] (.long (0 : Int64)) ∧ Arv Z h a4 k8 .long (0 : Int32) [] (.long (0 : Int64)) ∧ n0 ≤ h.size) ∨ (∃ (v400 : Int64), v400 = p2 - p6 ∧ (0 : Int64) < v400 ∧ v = none ∧ Exa Z h a1 "com/example/halter/halter/SlidingSum" ∧ Fld Z h a1 "com/example/halter/halter/SlidingSum" "times" "[J" (.ref a3) ∧ Fld Z h a1 "com/example/halter/halter/SlidingSum" "costs" "[J" (.ref a4) ∧ Fld Z h a1 "com/example/halter/halter/SlidingSum" "most" "J" (.long (9223372036854775807 : Int64)) ∧ Fld Z h a1 "com/example/halter/halter/SlidingSum" "length" "J" (.long p5) ∧ Fld Z h a1 "com/example/halter/halter/SlidingSum" "started" "Z" (.int (1 : Int32)) ∧ Fld Z h a1 "com/example/halter/halter/SlidingSum" "latest" "J" (.long p2) ∧ Fld Z h a1 "com/example/halter/halter/SlidingSum" "size" "I" (.int (0 : Int32)) ∧ Fld Z h a1 "com/example/halter/halter/SlidingSum" "sum" "J" (.long (0 : Int64)) ∧ Fld Z h a1 "com/example/halter/halter/SlidingSum" "head" "I" (.int (0 : Int32)) ∧ Arv Z h a3 k7 .long (0 : Int32) [] (.long (0 : Int64)) ∧ Arv Z h a4 k8 .long (0 : Int32) [] (.long (0 : Int64)) ∧ n0 ≤ h.size))
theorem ef5_397 (m : MethodId) (x0 : Addr) (x1 : Int64) : entryFrame m #[(.ref x0), (.long x1)] 3 = mkF m 0 #[.val (.ref x0), .val (.long x1), .second] [] := by first | (simp [entryFrame, mkF, argsToLocals, Value.category]; done) | rfl
set_option maxRecDepth 65536 in
set_option maxHeartbeats 40000000 in
theorem rm5_397 (l : Launch) (Z : State) (a0 : Array Value) (hw : ∀ d ∈ tables_1, d.before a0 Z = true) (ws : List Jvm.Cond) (a1 : Addr) (p2 : Int64) (a3 : Addr) (a4 : Addr) (p5 : Int64) (p6 : Int64) (k7 : ClassId) (k8 : ClassId) (h0 : Heap) (n0 : Nat) (Z0 : n0 ≤ h0.size) (F0_0 : Exa Z h0 a1 "com/example/halter/halter/SlidingSum") (F0_1 : Fld Z h0 a1 "com/example/halter/halter/SlidingSum" "times" "[J" (.ref a3)) (F0_2 : Fld Z h0 a1 "com/example/halter/halter/SlidingSum" "costs" "[J" (.ref a4)) (F0_3 : Fld Z h0 a1 "com/example/halter/halter/SlidingSum" "most" "J" (.long (9223372036854775807 : Int64))) (F0_4 : Fld Z h0 a1 "com/example/halter/halter/SlidingSum" "length" "J" (.long p5)) (F0_5 : Fld Z h0 a1 "com/example/halter/halter/SlidingSum" "started" "Z" (.int (1 : Int32))) (F0_6 : Fld Z h0 a1 "com/example/halter/halter/SlidingSum" "latest" "J" (.long p6)) (F0_7 : Fld Z h0 a1 "com/example/halter/halter/SlidingSum" "size" "I" (.int (0 : Int32))) (F0_8 : Fld Z h0 a1 "com/example/halter/halter/SlidingSum" "sum" "J" (.long (0 : Int64))) (F0_9 : Fld Z h0 a1 "com/example/halter/halter/SlidingSum" "head" "I" (.int (0 : Int32))) (g_a1 : n0 ≤ a1) (F0_11 : Arv Z h0 a3 k7 .long (0 : Int32) [] (.long (0 : Int64))) (g_a3 : n0 ≤ a3) (F0_13 : Arv Z h0 a4 k8 .long (0 : Int32) [] (.long (0 : Int64))) (g_a4 : n0 ≤ a4) (lt0_0 : a1 < a3) (lt0_1 : a3 < a4) :
    MetFree l (⟨"com/example/halter/halter/SlidingSum", "catchUp", "(J)V"⟩ : MethodName) (head1 (Jvm.Cond.code (⟨"com/example/halter/halter/SlidingSum", "catchUp", "(J)V"⟩ : MethodName) prog_19_method_7_code 3 none :: ws) R5_397) (fun a U => a = #[(.ref a1), (.long p2)] ∧ Z.Warmed39 U.vm ∧ U.heap = h0) (fun _ _ _ _ _ => True) (fun _ U o U' => ∃ v L, o = .returned v ∧ Q5_397 Z a1 p2 a3 a4 p5 p6 k7 k8 h0 n0 v U'.heap L ∧ FrameEnd U o U' L R5_397.cells R5_397.slots) := by
 refine MetFree.of_bodySF (plainFor_of_name pn_0) hisR ?_
 intro p e s m args below meth c s₁ Bd hml0 hP hK
 obtain ⟨rfl, hZ, hh⟩ := hP
 have hx := Bd.exec
 have hby := Bd.bytes
 have hml : c.maxLocals = 3 := hml0
 have hlk : meth.locks = false := Bd.notSynchronized
 have hown : s.vm.findClass "com/example/halter/halter/SlidingSum" = some m.cls := findClass_of_methodNamed Bd.named
 have hnm := (name_of_methodNamed Bd.named Bd.method).1
 have X0 : Stand p l e R5_397 s m #[(.ref a1), (.long p2)] below meth c s₁ [] 0 0 := Stand.of_body Bd
 have e0 : s₁.heap = h0 := by rw [← hh, Bd.state]; rfl
 have N0 := Fr.nil n0
 rw [ef5_397 m a1 p2]
 show KEnds p e below s R5_397.cells R5_397.slots (Q5_397 Z a1 p2 a3 a4 p5 p6 k7 k8 h0 n0) s₁ (mkF m 0 #[.val (.ref a1), .val (.long p2), .second] [])
 refine k_aloadN X0 hx (hb hby d5_0) rfl rfl (pc' := 1) rfl ?_
 refine k_getF X0 hx hZ hown (host := "") (Or.inl (hw _ (List.mem_of_getElem? (i := 24) rfl))) Via.refl e0 F0_5 (hb hby d5_1) (pc' := 4) rfl (fun T398 X398 e398 => ?_)
 refine k_if_eq X398 hx (hb hby d5_4) (pn := 7) rfl (py := 18) (by decide) (fun hc => absurd hc (by decide)) (fun _ => ?_)
 refine k_lloadN X398 hx (hb hby d5_7) rfl (pc' := 8) rfl ?_
 refine k_aloadN X398 hx (hb hby d5_8) rfl rfl (pc' := 9) rfl ?_
 refine k_getF X398 hx hZ hown (host := "") (Or.inl (hw _ (List.mem_of_getElem? (i := 35) rfl))) Via.refl e398 F0_6 (hb hby d5_9) (pc' := 12) rfl (fun T399 X399 e399 => ?_)
 refine k_lsub X399 hx (hb hby d5_12) (pc' := 13) rfl (fun v400 hv400 => ?_)
 refine k_lconst X399 hx (hb hby d5_13) (pc' := 14) rfl (z := (0 : Int64)) rfl ?_
 refine k_lcif_le X399 hx (hb hby d5_14) (pm := 15) rfl (hb hby d5_15) (pn := 18) rfl (py := 28) (by decide) (fun hc401 => ?_) (fun hc401 => ?_)
 ·
  refine k_aloadN X399 hx (hb hby d5_28) rfl rfl (pc' := 29) rfl ?_
  refine k_callP X399 hx hZ hown (a := a1) (hw _ (List.mem_of_getElem? (i := 37) rfl)) (hw _ (List.mem_of_getElem? (i := 38) rfl)) (hw _ (List.mem_of_getElem? (i := 39) rfl)) (hw _ (List.mem_of_getElem? (i := 1) rfl)) (hw _ (List.mem_of_getElem? (i := 2) rfl)) (hw _ (List.mem_of_getElem? (i := 40) rfl)) (by decide) F0_0 (rm6_100 l Z a0 hw [] a1 a3 a4 p5 p6 k7 k8 h0 n0 Z0 F0_0 F0_1 F0_2 F0_3 F0_4 F0_5 F0_6 F0_7 F0_8 F0_9 g_a1 F0_11 g_a3 F0_13 g_a4 lt0_0 lt0_1) (by decide) (by decide) e399 (by rw [hml]; rfl) (argsL := []) (rest := []) (lenOf pd_2 rfl) rfl (W := 0) (Nat.le_refl _) rfl (hb hby d5_29) (by decide) (by decide) (pc' := 32) rfl (fun T402 L402 r402 X402 q402 => ?_)
  obtain ⟨N402, q402⟩ := q402
  have N402' := Fr.app N0 N402
  obtain ⟨rfl, F403, F404, F405, F406, F407, F408, F409, F410, F411, F412, F413, F414, Z415⟩ := q402
  show KEnds p e below s _ _ _ T402 (mkF m 32 #[.val (.ref a1), .val (.long p2), .second] [])
  exact k_ret X402 hx Bd.returns (hb hby d5_32) hlk (by decide) (by decide) ⟨N402', (Or.inl ⟨v400, hv400, hc401, rfl, F403, F404, F405, F406, F407, F408, F409, F410, F411, F412, F413, F414, Z415⟩)⟩
 ·
  refine k_aloadN X399 hx (hb hby d5_18) rfl rfl (pc' := 19) rfl ?_
  refine k_lloadN X399 hx (hb hby d5_19) rfl (pc' := 20) rfl ?_
  refine k_putF X399 hx hZ hown (host := "") (Or.inl (hw _ (List.mem_of_getElem? (i := 35) rfl))) Via.refl e399 F0_6 F0_0 (Or.inl (hw _ (List.mem_of_getElem? (i := 36) rfl))) (hw _ (List.mem_of_getElem? (i := 1) rfl)) (ty := .long) (by decide) rfl rfl (hb hby d5_20) (pc' := 23) rfl (fun T416 h416 X416 e416 W416 => ?_)
  have Fw416 : Fld Z h416 a1 "com/example/halter/halter/SlidingSum" "latest" "J" (.long p2) := F0_6.same W416
  have N416 := Fr.snoc X416 N0 g_a1
  have Z416 : n0 ≤ h416.size := Nat.le_trans Z0 (Nat.le_of_eq W416.size.symm)
  refine k_aloadN X416 hx (hb hby d5_23) rfl rfl (pc' := 24) rfl ?_
  refine k_iconst X416 hx (hb hby d5_24) (pc' := 25) rfl (z := (1 : Int32)) rfl ?_
  have F417 := (F0_5.other W416 (Or.inr (slot_ne (Or.inl (hw _ (List.mem_of_getElem? (i := 25) rfl))) (Or.inl (hw _ (List.mem_of_getElem? (i := 36) rfl))) (by decide) (t := .boolean) (t' := .long) (by decide) (by decide))))
  have F418 := (F0_0.wr W416)
  refine k_putF X416 hx hZ hown (host := "") (Or.inl (hw _ (List.mem_of_getElem? (i := 24) rfl))) Via.refl e416 F417 F418 (Or.inl (hw _ (List.mem_of_getElem? (i := 25) rfl))) (hw _ (List.mem_of_getElem? (i := 1) rfl)) (ty := .boolean) (by decide) rfl rfl (hb hby d5_25) (pc' := 28) rfl (fun T419 h419 X419 e419 W419 => ?_)
  have Fw419 : Fld Z h419 a1 "com/example/halter/halter/SlidingSum" "started" "Z" (.int (1 : Int32)) := F417.same W419
  have N419 := Fr.snoc X419 N416 g_a1
  have Z419 : n0 ≤ h419.size := Nat.le_trans Z416 (Nat.le_of_eq W419.size.symm)
  refine k_aloadN X419 hx (hb hby d5_28) rfl rfl (pc' := 29) rfl ?_
  have F420 := (F418.wr W419)
  have F421 := ((F0_1.other W416 (Or.inr (slot_ne (Or.inl (hw _ (List.mem_of_getElem? (i := 12) rfl))) (Or.inl (hw _ (List.mem_of_getElem? (i := 36) rfl))) (by decide) (t := (.array .long)) (t' := .long) (by decide) (by decide)))).other W419 (Or.inr (slot_ne (Or.inl (hw _ (List.mem_of_getElem? (i := 12) rfl))) (Or.inl (hw _ (List.mem_of_getElem? (i := 25) rfl))) (by decide) (t := (.array .long)) (t' := .boolean) (by decide) (by decide))))
  have F422 := ((F0_2.other W416 (Or.inr (slot_ne (Or.inl (hw _ (List.mem_of_getElem? (i := 14) rfl))) (Or.inl (hw _ (List.mem_of_getElem? (i := 36) rfl))) (by decide) (t := (.array .long)) (t' := .long) (by decide) (by decide)))).other W419 (Or.inr (slot_ne (Or.inl (hw _ (List.mem_of_getElem? (i := 14) rfl))) (Or.inl (hw _ (List.mem_of_getElem? (i := 25) rfl))) (by decide) (t := (.array .long)) (t' := .boolean) (by decide) (by decide))))
  have F423 := ((F0_3.other W416 (Or.inr (slot_ne (Or.inr (hw _ (List.mem_of_getElem? (i := 16) rfl))) (Or.inl (hw _ (List.mem_of_getElem? (i := 36) rfl))) (by decide) (t := .long) (t' := .long) (by decide) (by decide)))).other W419 (Or.inr (slot_ne (Or.inr (hw _ (List.mem_of_getElem? (i := 16) rfl))) (Or.inl (hw _ (List.mem_of_getElem? (i := 25) rfl))) (by decide) (t := .long) (t' := .boolean) (by decide) (by decide))))
  have F424 := ((F0_4.other W416 (Or.inr (slot_ne (Or.inr (hw _ (List.mem_of_getElem? (i := 18) rfl))) (Or.inl (hw _ (List.mem_of_getElem? (i := 36) rfl))) (by decide) (t := .long) (t' := .long) (by decide) (by decide)))).other W419 (Or.inr (slot_ne (Or.inr (hw _ (List.mem_of_getElem? (i := 18) rfl))) (Or.inl (hw _ (List.mem_of_getElem? (i := 25) rfl))) (by decide) (t := .long) (t' := .boolean) (by decide) (by decide))))
  have F425 := (Fw416.other W419 (Or.inr (slot_ne (Or.inl (hw _ (List.mem_of_getElem? (i := 36) rfl))) (Or.inl (hw _ (List.mem_of_getElem? (i := 25) rfl))) (by decide) (t := .long) (t' := .boolean) (by decide) (by decide))))
  have F426 := ((F0_7.other W416 (Or.inr (slot_ne (Or.inl (hw _ (List.mem_of_getElem? (i := 42) rfl))) (Or.inl (hw _ (List.mem_of_getElem? (i := 36) rfl))) (by decide) (t := .int) (t' := .long) (by decide) (by decide)))).other W419 (Or.inr (slot_ne (Or.inl (hw _ (List.mem_of_getElem? (i := 42) rfl))) (Or.inl (hw _ (List.mem_of_getElem? (i := 25) rfl))) (by decide) (t := .int) (t' := .boolean) (by decide) (by decide))))
  have F427 := ((F0_8.other W416 (Or.inr (slot_ne (Or.inl (hw _ (List.mem_of_getElem? (i := 44) rfl))) (Or.inl (hw _ (List.mem_of_getElem? (i := 36) rfl))) (by decide) (t := .long) (t' := .long) (by decide) (by decide)))).other W419 (Or.inr (slot_ne (Or.inl (hw _ (List.mem_of_getElem? (i := 44) rfl))) (Or.inl (hw _ (List.mem_of_getElem? (i := 25) rfl))) (by decide) (t := .long) (t' := .boolean) (by decide) (by decide))))
  have F428 := ((F0_9.other W416 (Or.inr (slot_ne (Or.inl (hw _ (List.mem_of_getElem? (i := 69) rfl))) (Or.inl (hw _ (List.mem_of_getElem? (i := 36) rfl))) (by decide) (t := .int) (t' := .long) (by decide) (by decide)))).other W419 (Or.inr (slot_ne (Or.inl (hw _ (List.mem_of_getElem? (i := 69) rfl))) (Or.inl (hw _ (List.mem_of_getElem? (i := 25) rfl))) (by decide) (t := .int) (t' := .boolean) (by decide) (by decide))))
  have F429 := ((F0_11.other W416 (Ne.symm (Nat.ne_of_lt lt0_0))).other W419 (Ne.symm (Nat.ne_of_lt lt0_0)))
  have F430 := ((F0_13.other W416 (Ne.symm (Nat.ne_of_lt (Nat.lt_trans lt0_0 lt0_1)))).other W419 (Ne.symm (Nat.ne_of_lt (Nat.lt_trans lt0_0 lt0_1))))
  refine k_callP X419 hx hZ hown (a := a1) (hw _ (List.mem_of_getElem? (i := 37) rfl)) (hw _ (List.mem_of_getElem? (i := 38) rfl)) (hw _ (List.mem_of_getElem? (i := 39) rfl)) (hw _ (List.mem_of_getElem? (i := 1) rfl)) (hw _ (List.mem_of_getElem? (i := 2) rfl)) (hw _ (List.mem_of_getElem? (i := 40) rfl)) (by decide) F420 (rm6_100 l Z a0 hw [] a1 a3 a4 p5 p2 k7 k8 h419 n0 Z419 F420 F421 F422 F423 F424 Fw419 F425 F426 F427 F428 g_a1 F429 g_a3 F430 g_a4 lt0_0 lt0_1) (by decide) (by decide) e419 (by rw [hml]; rfl) (argsL := []) (rest := []) (lenOf pd_2 rfl) rfl (W := 0) (Nat.le_refl _) rfl (hb hby d5_29) (by decide) (by decide) (pc' := 32) rfl (fun T431 L431 r431 X431 q431 => ?_)
  obtain ⟨N431, q431⟩ := q431
  have N431' := Fr.app N419 N431
  obtain ⟨rfl, F432, F433, F434, F435, F436, F437, F438, F439, F440, F441, F442, F443, Z444⟩ := q431
  show KEnds p e below s _ _ _ T431 (mkF m 32 #[.val (.ref a1), .val (.long p2), .second] [])
  exact k_ret X431 hx Bd.returns (hb hby d5_32) hlk (by decide) (by decide) ⟨N431', (Or.inr ⟨v400, hv400, hc401, rfl, F432, F433, F434, F435, F436, F437, F438, F439, F440, F441, F442, F443, Z444⟩)⟩
abbrev R13_396 : Room := { frames := 2, cells := 0, slots := 0, locals := 27 }
def Q13_396 (Z : State) (a1 : Addr) (p2 : Int64) (a3 : Addr) (a4 : Addr) (p5 : Int64) (p6 : Int64) (k7 : ClassId) (k8 : ClassId) (h0 : Heap) (n0 : Nat) (v : Option Value) (h : Heap) (L : List Loc) : Prop := Fr n0 L ∧ ((∃ (v446 : Int64), v446 = p2 - p6 ∧ ¬ (0 : Int64) < v446 ∧ v = some (.long (0 : Int64)) ∧ Exa Z h a1 "com/example/halter/halter/SlidingSum" ∧ Fld Z h a1 "com/example/halter/halter/SlidingSum" "times" "[J" (.ref a3) ∧ Fld Z h a1 "com/example/halter/halter/SlidingSum" "costs" "[J" (.ref a4) ∧ Fld Z h a1 "com/example/halter/halter/SlidingSum" "most" "J" (.long (9223372036854775807 : Int64)) ∧ Fld Z h a1 "com/example/halter/halter/SlidingSum" "length" "J" (.long p5) ∧ Fld Z h a1 "com/example/halter/halter/SlidingSum" "started" "Z" (.int (1 : Int32)) ∧ Fld Z h a1 "com/example/halter/halter/SlidingSum" "latest" "J" (.long p6) ∧ Fld Z h a1 "com/example/halter/halter/SlidingSum" "size" "I" (.int (0 : Int32)) ∧ Fld Z h a1 "com/example/halter/halter/SlidingSum" "sum" "J" (.long (0 : Int64)) ∧ Fld Z h a1 "com/example/halter/halter/SlidingSum" "head" "I" (.int (0 : Int32)) ∧ Arv Z h a3 k7 .long (0 : Int32) [] (.long (0 : Int64)) ∧ Arv Z h a4 k8 .long (0 : Int32) [] (.long (0 : Int64)) ∧ n0 ≤ h.size) ∨ (∃ (v462 : Int64), v462 = p2 - p6 ∧ (0 : Int64) < v462 ∧ v = some (.long (0 : Int64)) ∧ Exa Z h a1 "com/example/halter/halter/SlidingSum" ∧ Fld Z h a1 "com/example/halter/halter/SlidingSum" "times" "[J" (.ref a3) ∧ Fld Z h a1 "com/example/halter/halter/SlidingSum" "costs" "[J" (.ref a4) ∧ Fld Z h a1 "com/example/halter/halter/SlidingSum" "most" "J" (.long (9223372036854775807 : Int64)) ∧ Fld Z h a1 "com/example/halter/halter/SlidingSum" "length" "J" (.long p5) ∧ Fld Z h a1 "com/example/halter/halter/SlidingSum" "started" "Z" (.int (1 : Int32)) ∧ Fld Z h a1 "com/example/halter/halter/SlidingSum" "latest" "J" (.long p2) ∧ Fld Z h a1 "com/example/halter/halter/SlidingSum" "size" "I" (.int (0 : Int32)) ∧ Fld Z h a1 "com/example/halter/halter/SlidingSum" "sum" "J" (.long (0 : Int64)) ∧ Fld Z h a1 "com/example/halter/halter/SlidingSum" "head" "I" (.int (0 : Int32)) ∧ Arv Z h a3 k7 .long (0 : Int32) [] (.long (0 : Int64)) ∧ Arv Z h a4 k8 .long (0 : Int32) [] (.long (0 : Int64)) ∧ n0 ≤ h.size))
theorem ef13_396 (m : MethodId) (x0 : Addr) (x1 : Int64) : entryFrame m #[(.ref x0), (.long x1)] 3 = mkF m 0 #[.val (.ref x0), .val (.long x1), .second] [] := by first | (simp [entryFrame, mkF, argsToLocals, Value.category]; done) | rfl
set_option maxRecDepth 65536 in
set_option maxHeartbeats 40000000 in
theorem rm13_396 (l : Launch) (Z : State) (a0 : Array Value) (hw : ∀ d ∈ tables_1, d.before a0 Z = true) (ws : List Jvm.Cond) (a1 : Addr) (p2 : Int64) (a3 : Addr) (a4 : Addr) (p5 : Int64) (p6 : Int64) (k7 : ClassId) (k8 : ClassId) (h0 : Heap) (n0 : Nat) (Z0 : n0 ≤ h0.size) (F0_0 : Exa Z h0 a1 "com/example/halter/halter/SlidingSum") (F0_1 : Fld Z h0 a1 "com/example/halter/halter/SlidingSum" "times" "[J" (.ref a3)) (F0_2 : Fld Z h0 a1 "com/example/halter/halter/SlidingSum" "costs" "[J" (.ref a4)) (F0_3 : Fld Z h0 a1 "com/example/halter/halter/SlidingSum" "most" "J" (.long (9223372036854775807 : Int64))) (F0_4 : Fld Z h0 a1 "com/example/halter/halter/SlidingSum" "length" "J" (.long p5)) (F0_5 : Fld Z h0 a1 "com/example/halter/halter/SlidingSum" "started" "Z" (.int (1 : Int32))) (F0_6 : Fld Z h0 a1 "com/example/halter/halter/SlidingSum" "latest" "J" (.long p6)) (F0_7 : Fld Z h0 a1 "com/example/halter/halter/SlidingSum" "size" "I" (.int (0 : Int32))) (F0_8 : Fld Z h0 a1 "com/example/halter/halter/SlidingSum" "sum" "J" (.long (0 : Int64))) (F0_9 : Fld Z h0 a1 "com/example/halter/halter/SlidingSum" "head" "I" (.int (0 : Int32))) (g_a1 : n0 ≤ a1) (F0_11 : Arv Z h0 a3 k7 .long (0 : Int32) [] (.long (0 : Int64))) (g_a3 : n0 ≤ a3) (F0_13 : Arv Z h0 a4 k8 .long (0 : Int32) [] (.long (0 : Int64))) (g_a4 : n0 ≤ a4) (lt0_0 : a1 < a3) (lt0_1 : a3 < a4) :
    MetFree l (⟨"com/example/halter/halter/SlidingSum", "at", "(J)J"⟩ : MethodName) (head1 (Jvm.Cond.code (⟨"com/example/halter/halter/SlidingSum", "at", "(J)J"⟩ : MethodName) prog_19_method_2_code 3 (some .long) :: ws) R13_396) (fun a U => a = #[(.ref a1), (.long p2)] ∧ Z.Warmed39 U.vm ∧ U.heap = h0) (fun _ _ _ _ _ => True) (fun _ U o U' => ∃ v L, o = .returned v ∧ Q13_396 Z a1 p2 a3 a4 p5 p6 k7 k8 h0 n0 v U'.heap L ∧ FrameEnd U o U' L R13_396.cells R13_396.slots) := by
 refine MetFree.of_bodySF (plainFor_of_name pn_0) hisR ?_
 intro p e s m args below meth c s₁ Bd hml0 hP hK
 obtain ⟨rfl, hZ, hh⟩ := hP
 have hx := Bd.exec
 have hby := Bd.bytes
 have hml : c.maxLocals = 3 := hml0
 have hlk : meth.locks = false := Bd.notSynchronized
 have hown : s.vm.findClass "com/example/halter/halter/SlidingSum" = some m.cls := findClass_of_methodNamed Bd.named
 have hnm := (name_of_methodNamed Bd.named Bd.method).1
 have X0 : Stand p l e R13_396 s m #[(.ref a1), (.long p2)] below meth c s₁ [] 0 0 := Stand.of_body Bd
 have e0 : s₁.heap = h0 := by rw [← hh, Bd.state]; rfl
 have N0 := Fr.nil n0
 rw [ef13_396 m a1 p2]
 show KEnds p e below s R13_396.cells R13_396.slots (Q13_396 Z a1 p2 a3 a4 p5 p6 k7 k8 h0 n0) s₁ (mkF m 0 #[.val (.ref a1), .val (.long p2), .second] [])
 refine k_aloadN X0 hx (hb hby d13_0) rfl rfl (pc' := 1) rfl ?_
 refine k_lloadN X0 hx (hb hby d13_1) rfl (pc' := 2) rfl ?_
 refine k_callP X0 hx hZ hown (a := a1) (hw _ (List.mem_of_getElem? (i := 31) rfl)) (hw _ (List.mem_of_getElem? (i := 32) rfl)) (hw _ (List.mem_of_getElem? (i := 33) rfl)) (hw _ (List.mem_of_getElem? (i := 1) rfl)) (hw _ (List.mem_of_getElem? (i := 2) rfl)) (hw _ (List.mem_of_getElem? (i := 34) rfl)) (by decide) F0_0 (rm5_397 l Z a0 hw [] a1 p2 a3 a4 p5 p6 k7 k8 h0 n0 Z0 F0_0 F0_1 F0_2 F0_3 F0_4 F0_5 F0_6 F0_7 F0_8 F0_9 g_a1 F0_11 g_a3 F0_13 g_a4 lt0_0 lt0_1) (by decide) (by decide) e0 (by rw [hml]; rfl) (argsL := [(.long p2)]) (rest := []) (lenOf pd_3 rfl) rfl (W := 0) (Nat.le_refl _) rfl (hb hby d13_2) (by decide) (by decide) (pc' := 5) rfl (fun T445 L445 r445 X445 q445 => ?_)
 obtain ⟨N445, q445⟩ := q445
 have N445' := Fr.app N0 N445
 rcases q445 with ⟨v446, h447, hc448, rfl, F449, F450, F451, F452, F453, F454, F455, F456, F457, F458, F459, F460, Z461⟩ | ⟨v462, h463, hc464, rfl, F465, F466, F467, F468, F469, F470, F471, F472, F473, F474, F475, F476, Z477⟩
 ·
  show KEnds p e below s _ _ _ T445 (mkF m 5 #[.val (.ref a1), .val (.long p2), .second] [])
  refine k_aloadN X445 hx (hb hby d13_5) rfl rfl (pc' := 6) rfl ?_
  refine k_getF X445 hx hZ hown (host := "") (Or.inl (hw _ (List.mem_of_getElem? (i := 43) rfl))) Via.refl rfl F457 (hb hby d13_6) (pc' := 9) rfl (fun T478 X478 e478 => ?_)
  exact k_retL X478 hx Bd.returns (hb hby d13_9) hlk (by decide) (by decide) (by rw [e478]; exact ⟨N445', (Or.inl ⟨v446, h447, hc448, rfl, F449, F450, F451, F452, F453, F454, F455, F456, F457, F458, F459, F460, Z461⟩)⟩)
 ·
  show KEnds p e below s _ _ _ T445 (mkF m 5 #[.val (.ref a1), .val (.long p2), .second] [])
  refine k_aloadN X445 hx (hb hby d13_5) rfl rfl (pc' := 6) rfl ?_
  refine k_getF X445 hx hZ hown (host := "") (Or.inl (hw _ (List.mem_of_getElem? (i := 43) rfl))) Via.refl rfl F473 (hb hby d13_6) (pc' := 9) rfl (fun T479 X479 e479 => ?_)
  exact k_retL X479 hx Bd.returns (hb hby d13_9) hlk (by decide) (by decide) (by rw [e479]; exact ⟨N445', (Or.inr ⟨v462, h463, hc464, rfl, F465, F466, F467, F468, F469, F470, F471, F472, F473, F474, F475, F476, Z477⟩)⟩)
abbrev R4_553 : Room := { frames := 3, cells := 2, slots := 16, locals := 47 }
def Q4_553 (Z : State) (a1 : Addr) (p2 : Int64) (a3 : Addr) (a4 : Addr) (p5 : Int64) (p6 : Int64) (k7 : ClassId) (k8 : ClassId) (h0 : Heap) (n0 : Nat) (v : Option Value) (h : Heap) (L : List Loc) : Prop := Fr n0 L ∧ ((∃ (v555 : Int64) (b590 : Addr) (k591 : ClassId) (b592 : Addr) (k593 : ClassId), v555 = p2 - p6 ∧ ¬ (0 : Int64) < v555 ∧ v = none ∧ Exa Z h a1 "com/example/halter/halter/SlidingSum" ∧ Fld Z h a1 "com/example/halter/halter/SlidingSum" "times" "[J" (.ref b590) ∧ Fld Z h a1 "com/example/halter/halter/SlidingSum" "costs" "[J" (.ref b592) ∧ Fld Z h a1 "com/example/halter/halter/SlidingSum" "most" "J" (.long (9223372036854775807 : Int64)) ∧ Fld Z h a1 "com/example/halter/halter/SlidingSum" "length" "J" (.long p5) ∧ Fld Z h a1 "com/example/halter/halter/SlidingSum" "started" "Z" (.int (1 : Int32)) ∧ Fld Z h a1 "com/example/halter/halter/SlidingSum" "latest" "J" (.long p6) ∧ Fld Z h a1 "com/example/halter/halter/SlidingSum" "size" "I" (.int (1 : Int32)) ∧ Fld Z h a1 "com/example/halter/halter/SlidingSum" "sum" "J" (.long (1 : Int64)) ∧ Fld Z h a1 "com/example/halter/halter/SlidingSum" "head" "I" (.int (0 : Int32)) ∧ Arv Z h a3 k7 .long (0 : Int32) [] (.long (0 : Int64)) ∧ Arv Z h a4 k8 .long (0 : Int32) [] (.long (0 : Int64)) ∧ Arv Z h b590 k591 .long (8 : Int32) [(.long p6), (.long (0 : Int64)), (.long (0 : Int64)), (.long (0 : Int64)), (.long (0 : Int64)), (.long (0 : Int64)), (.long (0 : Int64)), (.long (0 : Int64))] (.long (0 : Int64)) ∧ Arv Z h b592 k593 .long (8 : Int32) [(.long (1 : Int64)), (.long (0 : Int64)), (.long (0 : Int64)), (.long (0 : Int64)), (.long (0 : Int64)), (.long (0 : Int64)), (.long (0 : Int64)), (.long (0 : Int64))] (.long (0 : Int64)) ∧ n0 ≤ b590 ∧ a4 < b590 ∧ n0 ≤ b592 ∧ b590 < b592 ∧ n0 ≤ h.size) ∨ (∃ (v571 : Int64) (b614 : Addr) (k615 : ClassId) (b616 : Addr) (k617 : ClassId), v571 = p2 - p6 ∧ (0 : Int64) < v571 ∧ v = none ∧ Exa Z h a1 "com/example/halter/halter/SlidingSum" ∧ Fld Z h a1 "com/example/halter/halter/SlidingSum" "times" "[J" (.ref b614) ∧ Fld Z h a1 "com/example/halter/halter/SlidingSum" "costs" "[J" (.ref b616) ∧ Fld Z h a1 "com/example/halter/halter/SlidingSum" "most" "J" (.long (9223372036854775807 : Int64)) ∧ Fld Z h a1 "com/example/halter/halter/SlidingSum" "length" "J" (.long p5) ∧ Fld Z h a1 "com/example/halter/halter/SlidingSum" "started" "Z" (.int (1 : Int32)) ∧ Fld Z h a1 "com/example/halter/halter/SlidingSum" "latest" "J" (.long p2) ∧ Fld Z h a1 "com/example/halter/halter/SlidingSum" "size" "I" (.int (1 : Int32)) ∧ Fld Z h a1 "com/example/halter/halter/SlidingSum" "sum" "J" (.long (1 : Int64)) ∧ Fld Z h a1 "com/example/halter/halter/SlidingSum" "head" "I" (.int (0 : Int32)) ∧ Arv Z h a3 k7 .long (0 : Int32) [] (.long (0 : Int64)) ∧ Arv Z h a4 k8 .long (0 : Int32) [] (.long (0 : Int64)) ∧ Arv Z h b614 k615 .long (8 : Int32) [(.long p2), (.long (0 : Int64)), (.long (0 : Int64)), (.long (0 : Int64)), (.long (0 : Int64)), (.long (0 : Int64)), (.long (0 : Int64)), (.long (0 : Int64))] (.long (0 : Int64)) ∧ Arv Z h b616 k617 .long (8 : Int32) [(.long (1 : Int64)), (.long (0 : Int64)), (.long (0 : Int64)), (.long (0 : Int64)), (.long (0 : Int64)), (.long (0 : Int64)), (.long (0 : Int64)), (.long (0 : Int64))] (.long (0 : Int64)) ∧ n0 ≤ b614 ∧ a4 < b614 ∧ n0 ≤ b616 ∧ b614 < b616 ∧ n0 ≤ h.size))
theorem ef4_553 (m : MethodId) (x0 : Addr) (x2 : Int64) : entryFrame m #[(.ref x0), (.long (1 : Int64)), (.long x2)] 5 = mkF m 0 #[.val (.ref x0), .val (.long (1 : Int64)), .second, .val (.long x2), .second] [] := by first | (simp [entryFrame, mkF, argsToLocals, Value.category]; done) | rfl
set_option maxRecDepth 65536 in
set_option maxHeartbeats 40000000 in
theorem rm4_553 (l : Launch) (Z : State) (a0 : Array Value) (hw : ∀ d ∈ tables_1, d.before a0 Z = true) (ws : List Jvm.Cond) (a1 : Addr) (p2 : Int64) (a3 : Addr) (a4 : Addr) (p5 : Int64) (p6 : Int64) (k7 : ClassId) (k8 : ClassId) (h0 : Heap) (n0 : Nat) (Z0 : n0 ≤ h0.size) (F0_0 : Exa Z h0 a1 "com/example/halter/halter/SlidingSum") (F0_1 : Fld Z h0 a1 "com/example/halter/halter/SlidingSum" "times" "[J" (.ref a3)) (F0_2 : Fld Z h0 a1 "com/example/halter/halter/SlidingSum" "costs" "[J" (.ref a4)) (F0_3 : Fld Z h0 a1 "com/example/halter/halter/SlidingSum" "most" "J" (.long (9223372036854775807 : Int64))) (F0_4 : Fld Z h0 a1 "com/example/halter/halter/SlidingSum" "length" "J" (.long p5)) (F0_5 : Fld Z h0 a1 "com/example/halter/halter/SlidingSum" "started" "Z" (.int (1 : Int32))) (F0_6 : Fld Z h0 a1 "com/example/halter/halter/SlidingSum" "latest" "J" (.long p6)) (F0_7 : Fld Z h0 a1 "com/example/halter/halter/SlidingSum" "size" "I" (.int (0 : Int32))) (F0_8 : Fld Z h0 a1 "com/example/halter/halter/SlidingSum" "sum" "J" (.long (0 : Int64))) (F0_9 : Fld Z h0 a1 "com/example/halter/halter/SlidingSum" "head" "I" (.int (0 : Int32))) (g_a1 : n0 ≤ a1) (F0_11 : Arv Z h0 a3 k7 .long (0 : Int32) [] (.long (0 : Int64))) (g_a3 : n0 ≤ a3) (F0_13 : Arv Z h0 a4 k8 .long (0 : Int32) [] (.long (0 : Int64))) (g_a4 : n0 ≤ a4) (lt0_0 : a1 < a3) (lt0_1 : a3 < a4) :
    MetFree l (⟨"com/example/halter/halter/SlidingSum", "add", "(JJ)V"⟩ : MethodName) (head1 (Jvm.Cond.code (⟨"com/example/halter/halter/SlidingSum", "add", "(JJ)V"⟩ : MethodName) prog_19_method_3_code 5 none :: ws) R4_553) (fun a U => a = #[(.ref a1), (.long (1 : Int64)), (.long p2)] ∧ Z.Warmed39 U.vm ∧ U.heap = h0) (fun _ _ _ _ _ => True) (fun _ U o U' => ∃ v L, o = .returned v ∧ Q4_553 Z a1 p2 a3 a4 p5 p6 k7 k8 h0 n0 v U'.heap L ∧ FrameEnd U o U' L R4_553.cells R4_553.slots) := by
 refine MetFree.of_bodySF (plainFor_of_name pn_0) hisR ?_
 intro p e s m args below meth c s₁ Bd hml0 hP hK
 obtain ⟨rfl, hZ, hh⟩ := hP
 have hx := Bd.exec
 have hby := Bd.bytes
 have hml : c.maxLocals = 5 := hml0
 have hlk : meth.locks = false := Bd.notSynchronized
 have hown : s.vm.findClass "com/example/halter/halter/SlidingSum" = some m.cls := findClass_of_methodNamed Bd.named
 have hnm := (name_of_methodNamed Bd.named Bd.method).1
 have X0 : Stand p l e R4_553 s m #[(.ref a1), (.long (1 : Int64)), (.long p2)] below meth c s₁ [] 0 0 := Stand.of_body Bd
 have e0 : s₁.heap = h0 := by rw [← hh, Bd.state]; rfl
 have N0 := Fr.nil n0
 rw [ef4_553 m a1 p2]
 show KEnds p e below s R4_553.cells R4_553.slots (Q4_553 Z a1 p2 a3 a4 p5 p6 k7 k8 h0 n0) s₁ (mkF m 0 #[.val (.ref a1), .val (.long (1 : Int64)), .second, .val (.long p2), .second] [])
 refine k_aloadN X0 hx (hb hby d4_0) rfl rfl (pc' := 1) rfl ?_
 refine k_lloadN X0 hx (hb hby d4_1) rfl (pc' := 2) rfl ?_
 refine k_callP X0 hx hZ hown (a := a1) (hw _ (List.mem_of_getElem? (i := 31) rfl)) (hw _ (List.mem_of_getElem? (i := 32) rfl)) (hw _ (List.mem_of_getElem? (i := 33) rfl)) (hw _ (List.mem_of_getElem? (i := 1) rfl)) (hw _ (List.mem_of_getElem? (i := 2) rfl)) (hw _ (List.mem_of_getElem? (i := 34) rfl)) (by decide) F0_0 (rm5_397 l Z a0 hw [] a1 p2 a3 a4 p5 p6 k7 k8 h0 n0 Z0 F0_0 F0_1 F0_2 F0_3 F0_4 F0_5 F0_6 F0_7 F0_8 F0_9 g_a1 F0_11 g_a3 F0_13 g_a4 lt0_0 lt0_1) (by decide) (by decide) e0 (by rw [hml]; rfl) (argsL := [(.long p2)]) (rest := []) (lenOf pd_3 rfl) rfl (W := 0) (Nat.le_refl _) rfl (hb hby d4_2) (by decide) (by decide) (pc' := 5) rfl (fun T554 L554 r554 X554 q554 => ?_)
 obtain ⟨N554, q554⟩ := q554
 have N554' := Fr.app N0 N554
 rcases q554 with ⟨v555, h556, hc557, rfl, F558, F559, F560, F561, F562, F563, F564, F565, F566, F567, F568, F569, Z570⟩ | ⟨v571, h572, hc573, rfl, F574, F575, F576, F577, F578, F579, F580, F581, F582, F583, F584, F585, Z586⟩
 ·
  show KEnds p e below s _ _ _ T554 (mkF m 5 #[.val (.ref a1), .val (.long (1 : Int64)), .second, .val (.long p2), .second] [])
  refine k_lloadN X554 hx (hb hby d4_5) rfl (pc' := 6) rfl ?_
  refine k_lconst X554 hx (hb hby d4_6) (pc' := 7) rfl (z := (1 : Int64)) rfl ?_
  refine k_lcif_lt X554 hx (hb hby d4_7) (pm := 8) rfl (hb hby d4_8) (pn := 11) rfl (py := 25) (by decide) (fun hc => absurd hc (by decide)) (fun _ => ?_)
  refine k_lloadN X554 hx (hb hby d4_11) rfl (pc' := 12) rfl ?_
  refine k_aloadN X554 hx (hb hby d4_12) rfl rfl (pc' := 13) rfl ?_
  refine k_getF X554 hx hZ hown (host := "") (Or.inl (hw _ (List.mem_of_getElem? (i := 15) rfl))) Via.refl rfl F561 (hb hby d4_13) (pc' := 16) rfl (fun T587 X587 e587 => ?_)
  refine k_aloadN X587 hx (hb hby d4_16) rfl rfl (pc' := 17) rfl ?_
  refine k_getF X587 hx hZ hown (host := "") (Or.inl (hw _ (List.mem_of_getElem? (i := 43) rfl))) Via.refl e587 F566 (hb hby d4_17) (pc' := 20) rfl (fun T588 X588 e588 => ?_)
  refine k_lsubL X588 hx (hb hby d4_20) (pc' := 21) rfl (z := (9223372036854775807 : Int64)) (by decide) ?_
  refine k_lcif_le X588 hx (hb hby d4_21) (pm := 22) rfl (hb hby d4_22) (pn := 25) rfl (py := 47) (by decide) (fun _ => ?_) (fun hc => absurd hc (by decide))
  refine k_aloadN X588 hx (hb hby d4_47) rfl rfl (pc' := 48) rfl ?_
  refine k_lloadN X588 hx (hb hby d4_48) rfl (pc' := 49) rfl ?_
  refine k_callP X588 hx hZ hown (a := a1) (hw _ (List.mem_of_getElem? (i := 45) rfl)) (hw _ (List.mem_of_getElem? (i := 46) rfl)) (hw _ (List.mem_of_getElem? (i := 47) rfl)) (hw _ (List.mem_of_getElem? (i := 1) rfl)) (hw _ (List.mem_of_getElem? (i := 2) rfl)) (hw _ (List.mem_of_getElem? (i := 48) rfl)) (by decide) F558 (rm7_189 l Z a0 hw [] a1 a3 a4 p5 p6 k7 k8 T554.heap n0 Z570 F558 F559 F560 F561 F562 F563 F564 F565 F566 F567 g_a1 F568 g_a3 F569 g_a4 lt0_0 lt0_1) (by decide) (by decide) e588 (by rw [hml]; rfl) (argsL := [(.long (1 : Int64))]) (rest := []) (lenOf pd_3 rfl) rfl (W := 0) (Nat.le_refl _) rfl (hb hby d4_49) (by decide) (by decide) (pc' := 52) rfl (fun T589 L589 r589 X589 q589 => ?_)
  obtain ⟨N589, q589⟩ := q589
  have N589' := Fr.app N554' N589
  obtain ⟨b590, k591, b592, k593, rfl, F594, F595, F596, F597, F598, F599, F600, F601, F602, F603, F604, F605, F606, F607, g_b590, lt608, g_b592, lt609, Z610⟩ := q589
  show KEnds p e below s _ _ _ T589 (mkF m 52 #[.val (.ref a1), .val (.long (1 : Int64)), .second, .val (.long p2), .second] [])
  exact k_ret X589 hx Bd.returns (hb hby d4_52) hlk (by decide) (by decide) ⟨N589', (Or.inl ⟨v555, b590, k591, b592, k593, h556, hc557, rfl, F594, F595, F596, F597, F598, F599, F600, F601, F602, F603, F604, F605, F606, F607, g_b590, lt608, g_b592, lt609, Z610⟩)⟩
 ·
  show KEnds p e below s _ _ _ T554 (mkF m 5 #[.val (.ref a1), .val (.long (1 : Int64)), .second, .val (.long p2), .second] [])
  refine k_lloadN X554 hx (hb hby d4_5) rfl (pc' := 6) rfl ?_
  refine k_lconst X554 hx (hb hby d4_6) (pc' := 7) rfl (z := (1 : Int64)) rfl ?_
  refine k_lcif_lt X554 hx (hb hby d4_7) (pm := 8) rfl (hb hby d4_8) (pn := 11) rfl (py := 25) (by decide) (fun hc => absurd hc (by decide)) (fun _ => ?_)
  refine k_lloadN X554 hx (hb hby d4_11) rfl (pc' := 12) rfl ?_
  refine k_aloadN X554 hx (hb hby d4_12) rfl rfl (pc' := 13) rfl ?_
  refine k_getF X554 hx hZ hown (host := "") (Or.inl (hw _ (List.mem_of_getElem? (i := 15) rfl))) Via.refl rfl F577 (hb hby d4_13) (pc' := 16) rfl (fun T611 X611 e611 => ?_)
  refine k_aloadN X611 hx (hb hby d4_16) rfl rfl (pc' := 17) rfl ?_
  refine k_getF X611 hx hZ hown (host := "") (Or.inl (hw _ (List.mem_of_getElem? (i := 43) rfl))) Via.refl e611 F582 (hb hby d4_17) (pc' := 20) rfl (fun T612 X612 e612 => ?_)
  refine k_lsubL X612 hx (hb hby d4_20) (pc' := 21) rfl (z := (9223372036854775807 : Int64)) (by decide) ?_
  refine k_lcif_le X612 hx (hb hby d4_21) (pm := 22) rfl (hb hby d4_22) (pn := 25) rfl (py := 47) (by decide) (fun _ => ?_) (fun hc => absurd hc (by decide))
  refine k_aloadN X612 hx (hb hby d4_47) rfl rfl (pc' := 48) rfl ?_
  refine k_lloadN X612 hx (hb hby d4_48) rfl (pc' := 49) rfl ?_
  refine k_callP X612 hx hZ hown (a := a1) (hw _ (List.mem_of_getElem? (i := 45) rfl)) (hw _ (List.mem_of_getElem? (i := 46) rfl)) (hw _ (List.mem_of_getElem? (i := 47) rfl)) (hw _ (List.mem_of_getElem? (i := 1) rfl)) (hw _ (List.mem_of_getElem? (i := 2) rfl)) (hw _ (List.mem_of_getElem? (i := 48) rfl)) (by decide) F574 (rm7_189 l Z a0 hw [] a1 a3 a4 p5 p2 k7 k8 T554.heap n0 Z586 F574 F575 F576 F577 F578 F579 F580 F581 F582 F583 g_a1 F584 g_a3 F585 g_a4 lt0_0 lt0_1) (by decide) (by decide) e612 (by rw [hml]; rfl) (argsL := [(.long (1 : Int64))]) (rest := []) (lenOf pd_3 rfl) rfl (W := 0) (Nat.le_refl _) rfl (hb hby d4_49) (by decide) (by decide) (pc' := 52) rfl (fun T613 L613 r613 X613 q613 => ?_)
  obtain ⟨N613, q613⟩ := q613
  have N613' := Fr.app N554' N613
  obtain ⟨b614, k615, b616, k617, rfl, F618, F619, F620, F621, F622, F623, F624, F625, F626, F627, F628, F629, F630, F631, g_b614, lt632, g_b616, lt633, Z634⟩ := q613
  show KEnds p e below s _ _ _ T613 (mkF m 52 #[.val (.ref a1), .val (.long (1 : Int64)), .second, .val (.long p2), .second] [])
  exact k_ret X613 hx Bd.returns (hb hby d4_52) hlk (by decide) (by decide) ⟨N613', (Or.inr ⟨v571, b614, k615, b616, k617, h572, hc573, rfl, F618, F619, F620, F621, F622, F623, F624, F625, F626, F627, F628, F629, F630, F631, g_b614, lt632, g_b616, lt633, Z634⟩)⟩
theorem d6_7 : decode prog_19_method_8_code 7 = .ok (.aload_n 0, 1) := by decide +kernel
theorem d6_8 : decode prog_19_method_8_code 8 = .ok (.getfield 53, 3) := by decide +kernel
theorem d6_11 : decode prog_19_method_8_code 11 = .ok (.aload_n 0, 1) := by decide +kernel
theorem d6_12 : decode prog_19_method_8_code 12 = .ok (.getfield 7, 3) := by decide +kernel
theorem d6_15 : decode prog_19_method_8_code 15 = .ok (.aload_n 0, 1) := by decide +kernel
theorem d6_16 : decode prog_19_method_8_code 16 = .ok (.getfield 59, 3) := by decide +kernel
theorem d6_19 : decode prog_19_method_8_code 19 = .ok (.laload, 1) := by decide +kernel
theorem d6_20 : decode prog_19_method_8_code 20 = .ok (.lsub, 1) := by decide +kernel
theorem d6_21 : decode prog_19_method_8_code 21 = .ok (.aload_n 0, 1) := by decide +kernel
theorem d6_22 : decode prog_19_method_8_code 22 = .ok (.getfield 29, 3) := by decide +kernel
theorem d6_25 : decode prog_19_method_8_code 25 = .ok (.lcmp, 1) := by decide +kernel
theorem d6_26 : decode prog_19_method_8_code 26 = .ok (.ifCond .lt 43, 3) := by decide +kernel
theorem d6_29 : decode prog_19_method_8_code 29 = .ok (.aload_n 0, 1) := by decide +kernel
theorem d6_30 : decode prog_19_method_8_code 30 = .ok (.dup, 1) := by decide +kernel
theorem d6_31 : decode prog_19_method_8_code 31 = .ok (.getfield 36, 3) := by decide +kernel
theorem d6_34 : decode prog_19_method_8_code 34 = .ok (.aload_n 0, 1) := by decide +kernel
theorem d6_35 : decode prog_19_method_8_code 35 = .ok (.getfield 13, 3) := by decide +kernel
theorem d6_38 : decode prog_19_method_8_code 38 = .ok (.aload_n 0, 1) := by decide +kernel
theorem d6_39 : decode prog_19_method_8_code 39 = .ok (.getfield 59, 3) := by decide +kernel
theorem d6_42 : decode prog_19_method_8_code 42 = .ok (.laload, 1) := by decide +kernel
theorem d6_43 : decode prog_19_method_8_code 43 = .ok (.lsub, 1) := by decide +kernel
theorem d6_44 : decode prog_19_method_8_code 44 = .ok (.putfield 36, 3) := by decide +kernel
theorem d6_47 : decode prog_19_method_8_code 47 = .ok (.aload_n 0, 1) := by decide +kernel
theorem d6_48 : decode prog_19_method_8_code 48 = .ok (.aload_n 0, 1) := by decide +kernel
theorem d6_49 : decode prog_19_method_8_code 49 = .ok (.iconst 1, 1) := by decide +kernel
theorem d6_50 : decode prog_19_method_8_code 50 = .ok (.invokevirtual 62, 3) := by decide +kernel
abbrev R12_779 : Room := { frames := 0, cells := 0, slots := 0, locals := 0 }
def Q12_779 (Z : State) (a1 : Addr) (a2 : Addr) (a3 : Addr) (p4 : Int64) (p5 : Int64) (k6 : ClassId) (k7 : ClassId) (h0 : Heap) (n0 : Nat) (v : Option Value) (h : Heap) (L : List Loc) : Prop := Fr n0 L ∧ h = h0 ∧ ((v = some (.int (1 : Int32))))
theorem ef12_779 (m : MethodId) (x0 : Addr) : entryFrame m #[(.ref x0), (.int (1 : Int32))] 3 = mkF m 0 #[.val (.ref x0), .val (.int (1 : Int32)), .unset] [] := by first | (simp [entryFrame, mkF, argsToLocals, Value.category]; done) | rfl
set_option maxRecDepth 65536 in
set_option maxHeartbeats 40000000 in
theorem rm12_779 (l : Launch) (Z : State) (a0 : Array Value) (hw : ∀ d ∈ tables_1, d.before a0 Z = true) (ws : List Jvm.Cond) (a1 : Addr) (a2 : Addr) (a3 : Addr) (p4 : Int64) (p5 : Int64) (k6 : ClassId) (k7 : ClassId) (h0 : Heap) (n0 : Nat) (Z0 : n0 ≤ h0.size) (F0_0 : Exa Z h0 a1 "com/example/halter/halter/SlidingSum") (F0_1 : Fld Z h0 a1 "com/example/halter/halter/SlidingSum" "times" "[J" (.ref a2)) (F0_2 : Fld Z h0 a1 "com/example/halter/halter/SlidingSum" "costs" "[J" (.ref a3)) (F0_3 : Fld Z h0 a1 "com/example/halter/halter/SlidingSum" "most" "J" (.long (9223372036854775807 : Int64))) (F0_4 : Fld Z h0 a1 "com/example/halter/halter/SlidingSum" "length" "J" (.long p4)) (F0_5 : Fld Z h0 a1 "com/example/halter/halter/SlidingSum" "started" "Z" (.int (1 : Int32))) (F0_6 : Fld Z h0 a1 "com/example/halter/halter/SlidingSum" "latest" "J" (.long p5)) (F0_7 : Fld Z h0 a1 "com/example/halter/halter/SlidingSum" "size" "I" (.int (1 : Int32))) (F0_8 : Fld Z h0 a1 "com/example/halter/halter/SlidingSum" "sum" "J" (.long (0 : Int64))) (F0_9 : Fld Z h0 a1 "com/example/halter/halter/SlidingSum" "head" "I" (.int (0 : Int32))) (F0_10 : Arv Z h0 a2 k6 .long (8 : Int32) [(.long p5), (.long (0 : Int64)), (.long (0 : Int64)), (.long (0 : Int64)), (.long (0 : Int64)), (.long (0 : Int64)), (.long (0 : Int64)), (.long (0 : Int64))] (.long (0 : Int64))) (F0_11 : Arv Z h0 a3 k7 .long (8 : Int32) [(.long (1 : Int64)), (.long (0 : Int64)), (.long (0 : Int64)), (.long (0 : Int64)), (.long (0 : Int64)), (.long (0 : Int64)), (.long (0 : Int64)), (.long (0 : Int64))] (.long (0 : Int64))) (lt0_0 : a1 < a2) (lt0_1 : a2 < a3) :
    MetFree l (⟨"com/example/halter/halter/SlidingSum", "place", "(I)I"⟩ : MethodName) (head1 (Jvm.Cond.code (⟨"com/example/halter/halter/SlidingSum", "place", "(I)I"⟩ : MethodName) prog_19_method_12_code 3 (some .int) :: ws) R12_779) (fun a U => a = #[(.ref a1), (.int (1 : Int32))] ∧ Z.Warmed39 U.vm ∧ U.heap = h0) (fun _ _ _ _ _ => True) (fun _ U o U' => ∃ v L, o = .returned v ∧ Q12_779 Z a1 a2 a3 p4 p5 k6 k7 h0 n0 v U'.heap L ∧ FrameEnd U o U' L R12_779.cells R12_779.slots) := by
 refine MetFree.of_bodySF (plainFor_of_name pn_0) hisR ?_
 intro p e s m args below meth c s₁ Bd hml0 hP hK
 obtain ⟨rfl, hZ, hh⟩ := hP
 have hx := Bd.exec
 have hby := Bd.bytes
 have hml : c.maxLocals = 3 := hml0
 have hlk : meth.locks = false := Bd.notSynchronized
 have hown : s.vm.findClass "com/example/halter/halter/SlidingSum" = some m.cls := findClass_of_methodNamed Bd.named
 have hnm := (name_of_methodNamed Bd.named Bd.method).1
 have X0 : Stand p l e R12_779 s m #[(.ref a1), (.int (1 : Int32))] below meth c s₁ [] 0 0 := Stand.of_body Bd
 have e0 : s₁.heap = h0 := by rw [← hh, Bd.state]; rfl
 have N0 := Fr.nil n0
 rw [ef12_779 m a1]
 show KEnds p e below s R12_779.cells R12_779.slots (Q12_779 Z a1 a2 a3 p4 p5 k6 k7 h0 n0) s₁ (mkF m 0 #[.val (.ref a1), .val (.int (1 : Int32)), .unset] [])
 refine k_aloadN X0 hx (hb hby d12_0) rfl rfl (pc' := 1) rfl ?_
 refine k_getF X0 hx hZ hown (host := "") (Or.inl (hw _ (List.mem_of_getElem? (i := 68) rfl))) Via.refl e0 F0_9 (hb hby d12_1) (pc' := 4) rfl (fun T780 X780 e780 => ?_)
 refine k_iloadN X780 hx (hb hby d12_4) rfl (pc' := 5) rfl ?_
 refine k_iaddL X780 hx (hb hby d12_5) (pc' := 6) rfl (z := (1 : Int32)) (by decide) ?_
 refine k_istoreN X780 hx (hb hby d12_6) (Ls' := #[.val (.ref a1), .val (.int (1 : Int32)), .val (.int (1 : Int32))]) rfl (pc' := 7) rfl ?_
 refine k_iloadN X780 hx (hb hby d12_7) rfl (pc' := 8) rfl ?_
 refine k_aloadN X780 hx (hb hby d12_8) rfl rfl (pc' := 9) rfl ?_
 refine k_getF X780 hx hZ hown (host := "") (Or.inl (hw _ (List.mem_of_getElem? (i := 11) rfl))) Via.refl e780 F0_1 (hb hby d12_9) (pc' := 12) rfl (fun T781 X781 e781 => ?_)
 refine k_alen X781 hx hZ e781 F0_10 (hb hby d12_12) (pc' := 13) rfl ?_
 refine k_icmp_ge X781 hx (hb hby d12_13) (pn := 16) rfl (py := 20) (by decide) (fun hc => absurd (by decide) hc) (fun _ => ?_)
 refine k_iloadN X781 hx (hb hby d12_16) rfl (pc' := 17) rfl ?_
 refine k_goto X781 hx (hb hby d12_17) (pc' := 27) (by decide) ?_
 exact k_retI X781 hx Bd.returns (hb hby d12_27) hlk (by decide) (by decide) ⟨N0, e781, rfl⟩
theorem d6_53 : decode prog_19_method_8_code 53 = .ok (.putfield 59, 3) := by decide +kernel
theorem d6_56 : decode prog_19_method_8_code 56 = .ok (.aload_n 0, 1) := by decide +kernel
theorem d6_57 : decode prog_19_method_8_code 57 = .ok (.dup, 1) := by decide +kernel
theorem d6_58 : decode prog_19_method_8_code 58 = .ok (.getfield 45, 3) := by decide +kernel
theorem d6_61 : decode prog_19_method_8_code 61 = .ok (.iconst 1, 1) := by decide +kernel
theorem d6_62 : decode prog_19_method_8_code 62 = .ok (.isub, 1) := by decide +kernel
theorem d6_63 : decode prog_19_method_8_code 63 = .ok (.putfield 45, 3) := by decide +kernel
theorem d6_66 : decode prog_19_method_8_code 66 = .ok (.goto (-66), 3) := by decide +kernel
abbrev R6_754 : Room := { frames := 1, cells := 0, slots := 0, locals := 15 }
def Q6_754 (Z : State) (a1 : Addr) (a2 : Addr) (a3 : Addr) (p4 : Int64) (p5 : Int64) (a6 : Addr) (k7 : ClassId) (a8 : Addr) (k9 : ClassId) (k10 : ClassId) (k11 : ClassId) (h0 : Heap) (n0 : Nat) (v : Option Value) (h : Heap) (L : List Loc) : Prop := Fr n0 L ∧ ((∃ (v759 : Int64), v759 = p5 - p5 ∧ v759 < p4 ∧ v = none ∧ Exa Z h a1 "com/example/halter/halter/SlidingSum" ∧ Fld Z h a1 "com/example/halter/halter/SlidingSum" "times" "[J" (.ref a2) ∧ Fld Z h a1 "com/example/halter/halter/SlidingSum" "costs" "[J" (.ref a3) ∧ Fld Z h a1 "com/example/halter/halter/SlidingSum" "most" "J" (.long (9223372036854775807 : Int64)) ∧ Fld Z h a1 "com/example/halter/halter/SlidingSum" "length" "J" (.long p4) ∧ Fld Z h a1 "com/example/halter/halter/SlidingSum" "started" "Z" (.int (1 : Int32)) ∧ Fld Z h a1 "com/example/halter/halter/SlidingSum" "latest" "J" (.long p5) ∧ Fld Z h a1 "com/example/halter/halter/SlidingSum" "size" "I" (.int (1 : Int32)) ∧ Fld Z h a1 "com/example/halter/halter/SlidingSum" "sum" "J" (.long (1 : Int64)) ∧ Fld Z h a1 "com/example/halter/halter/SlidingSum" "head" "I" (.int (0 : Int32)) ∧ Arv Z h a6 k7 .long (0 : Int32) [] (.long (0 : Int64)) ∧ Arv Z h a8 k9 .long (0 : Int32) [] (.long (0 : Int64)) ∧ Arv Z h a2 k10 .long (8 : Int32) [(.long p5), (.long (0 : Int64)), (.long (0 : Int64)), (.long (0 : Int64)), (.long (0 : Int64)), (.long (0 : Int64)), (.long (0 : Int64)), (.long (0 : Int64))] (.long (0 : Int64)) ∧ Arv Z h a3 k11 .long (8 : Int32) [(.long (1 : Int64)), (.long (0 : Int64)), (.long (0 : Int64)), (.long (0 : Int64)), (.long (0 : Int64)), (.long (0 : Int64)), (.long (0 : Int64)), (.long (0 : Int64))] (.long (0 : Int64)) ∧ n0 ≤ h.size) ∨ (∃ (v759 : Int64), v759 = p5 - p5 ∧ ¬ v759 < p4 ∧ v = none ∧ Exa Z h a1 "com/example/halter/halter/SlidingSum" ∧ Fld Z h a1 "com/example/halter/halter/SlidingSum" "times" "[J" (.ref a2) ∧ Fld Z h a1 "com/example/halter/halter/SlidingSum" "costs" "[J" (.ref a3) ∧ Fld Z h a1 "com/example/halter/halter/SlidingSum" "most" "J" (.long (9223372036854775807 : Int64)) ∧ Fld Z h a1 "com/example/halter/halter/SlidingSum" "length" "J" (.long p4) ∧ Fld Z h a1 "com/example/halter/halter/SlidingSum" "started" "Z" (.int (1 : Int32)) ∧ Fld Z h a1 "com/example/halter/halter/SlidingSum" "latest" "J" (.long p5) ∧ Fld Z h a1 "com/example/halter/halter/SlidingSum" "size" "I" (.int (0 : Int32)) ∧ Fld Z h a1 "com/example/halter/halter/SlidingSum" "sum" "J" (.long (0 : Int64)) ∧ Fld Z h a1 "com/example/halter/halter/SlidingSum" "head" "I" (.int (1 : Int32)) ∧ Arv Z h a6 k7 .long (0 : Int32) [] (.long (0 : Int64)) ∧ Arv Z h a8 k9 .long (0 : Int32) [] (.long (0 : Int64)) ∧ Arv Z h a2 k10 .long (8 : Int32) [(.long p5), (.long (0 : Int64)), (.long (0 : Int64)), (.long (0 : Int64)), (.long (0 : Int64)), (.long (0 : Int64)), (.long (0 : Int64)), (.long (0 : Int64))] (.long (0 : Int64)) ∧ Arv Z h a3 k11 .long (8 : Int32) [(.long (1 : Int64)), (.long (0 : Int64)), (.long (0 : Int64)), (.long (0 : Int64)), (.long (0 : Int64)), (.long (0 : Int64)), (.long (0 : Int64)), (.long (0 : Int64))] (.long (0 : Int64)) ∧ n0 ≤ h.size))
theorem ef6_754 (m : MethodId) (x0 : Addr) : entryFrame m #[(.ref x0)] 2 = mkF m 0 #[.val (.ref x0), .unset] [] := by first | (simp [entryFrame, mkF, argsToLocals, Value.category]; done) | rfl
set_option maxRecDepth 65536 in
set_option maxHeartbeats 40000000 in
theorem rm6_754 (l : Launch) (Z : State) (a0 : Array Value) (hw : ∀ d ∈ tables_1, d.before a0 Z = true) (ws : List Jvm.Cond) (a1 : Addr) (a2 : Addr) (a3 : Addr) (p4 : Int64) (p5 : Int64) (a6 : Addr) (k7 : ClassId) (a8 : Addr) (k9 : ClassId) (k10 : ClassId) (k11 : ClassId) (h0 : Heap) (n0 : Nat) (Z0 : n0 ≤ h0.size) (F0_0 : Exa Z h0 a1 "com/example/halter/halter/SlidingSum") (F0_1 : Fld Z h0 a1 "com/example/halter/halter/SlidingSum" "times" "[J" (.ref a2)) (F0_2 : Fld Z h0 a1 "com/example/halter/halter/SlidingSum" "costs" "[J" (.ref a3)) (F0_3 : Fld Z h0 a1 "com/example/halter/halter/SlidingSum" "most" "J" (.long (9223372036854775807 : Int64))) (F0_4 : Fld Z h0 a1 "com/example/halter/halter/SlidingSum" "length" "J" (.long p4)) (F0_5 : Fld Z h0 a1 "com/example/halter/halter/SlidingSum" "started" "Z" (.int (1 : Int32))) (F0_6 : Fld Z h0 a1 "com/example/halter/halter/SlidingSum" "latest" "J" (.long p5)) (F0_7 : Fld Z h0 a1 "com/example/halter/halter/SlidingSum" "size" "I" (.int (1 : Int32))) (F0_8 : Fld Z h0 a1 "com/example/halter/halter/SlidingSum" "sum" "J" (.long (1 : Int64))) (F0_9 : Fld Z h0 a1 "com/example/halter/halter/SlidingSum" "head" "I" (.int (0 : Int32))) (g_a1 : n0 ≤ a1) (F0_11 : Arv Z h0 a6 k7 .long (0 : Int32) [] (.long (0 : Int64))) (g_a6 : n0 ≤ a6) (F0_13 : Arv Z h0 a8 k9 .long (0 : Int32) [] (.long (0 : Int64))) (g_a8 : n0 ≤ a8) (F0_15 : Arv Z h0 a2 k10 .long (8 : Int32) [(.long p5), (.long (0 : Int64)), (.long (0 : Int64)), (.long (0 : Int64)), (.long (0 : Int64)), (.long (0 : Int64)), (.long (0 : Int64)), (.long (0 : Int64))] (.long (0 : Int64))) (g_a2 : n0 ≤ a2) (F0_17 : Arv Z h0 a3 k11 .long (8 : Int32) [(.long (1 : Int64)), (.long (0 : Int64)), (.long (0 : Int64)), (.long (0 : Int64)), (.long (0 : Int64)), (.long (0 : Int64)), (.long (0 : Int64)), (.long (0 : Int64))] (.long (0 : Int64))) (g_a3 : n0 ≤ a3) (lt0_0 : a1 < a6) (lt0_1 : a6 < a8) (lt0_2 : a8 < a2) (lt0_3 : a2 < a3) :
    MetFree l (⟨"com/example/halter/halter/SlidingSum", "forgetWhatLeftTheWindow", "()V"⟩ : MethodName) (head1 (Jvm.Cond.code (⟨"com/example/halter/halter/SlidingSum", "forgetWhatLeftTheWindow", "()V"⟩ : MethodName) prog_19_method_8_code 2 none :: ws) R6_754) (fun a U => a = #[(.ref a1)] ∧ Z.Warmed39 U.vm ∧ U.heap = h0) (fun _ _ _ _ _ => True) (fun _ U o U' => ∃ v L, o = .returned v ∧ Q6_754 Z a1 a2 a3 p4 p5 a6 k7 a8 k9 k10 k11 h0 n0 v U'.heap L ∧ FrameEnd U o U' L R6_754.cells R6_754.slots) := by
 refine MetFree.of_bodySF (plainFor_of_name pn_0) hisR ?_
 intro p e s m args below meth c s₁ Bd hml0 hP hK
 obtain ⟨rfl, hZ, hh⟩ := hP
 have hx := Bd.exec
 have hby := Bd.bytes
 have hml : c.maxLocals = 2 := hml0
 have hlk : meth.locks = false := Bd.notSynchronized
 have hown : s.vm.findClass "com/example/halter/halter/SlidingSum" = some m.cls := findClass_of_methodNamed Bd.named
 have hnm := (name_of_methodNamed Bd.named Bd.method).1
 have X0 : Stand p l e R6_754 s m #[(.ref a1)] below meth c s₁ [] 0 0 := Stand.of_body Bd
 have e0 : s₁.heap = h0 := by rw [← hh, Bd.state]; rfl
 have N0 := Fr.nil n0
 rw [ef6_754 m a1]
 show KEnds p e below s R6_754.cells R6_754.slots (Q6_754 Z a1 a2 a3 p4 p5 a6 k7 a8 k9 k10 k11 h0 n0) s₁ (mkF m 0 #[.val (.ref a1), .unset] [])
 refine k_aloadN X0 hx (hb hby d6_0) rfl rfl (pc' := 1) rfl ?_
 refine k_getF X0 hx hZ hown (host := "") (Or.inl (hw _ (List.mem_of_getElem? (i := 41) rfl))) Via.refl e0 F0_7 (hb hby d6_1) (pc' := 4) rfl (fun T755 X755 e755 => ?_)
 refine k_if_le X755 hx (hb hby d6_4) (pn := 7) rfl (py := 69) (by decide) (fun hc => absurd (by decide) hc) (fun _ => ?_)
 refine k_aloadN X755 hx (hb hby d6_7) rfl rfl (pc' := 8) rfl ?_
 refine k_getF X755 hx hZ hown (host := "") (Or.inl (hw _ (List.mem_of_getElem? (i := 35) rfl))) Via.refl e755 F0_6 (hb hby d6_8) (pc' := 11) rfl (fun T756 X756 e756 => ?_)
 refine k_aloadN X756 hx (hb hby d6_11) rfl rfl (pc' := 12) rfl ?_
 refine k_getF X756 hx hZ hown (host := "") (Or.inl (hw _ (List.mem_of_getElem? (i := 11) rfl))) Via.refl e756 F0_1 (hb hby d6_12) (pc' := 15) rfl (fun T757 X757 e757 => ?_)
 refine k_aloadN X757 hx (hb hby d6_15) rfl rfl (pc' := 16) rfl ?_
 refine k_getF X757 hx hZ hown (host := "") (Or.inl (hw _ (List.mem_of_getElem? (i := 68) rfl))) Via.refl e757 F0_9 (hb hby d6_16) (pc' := 19) rfl (fun T758 X758 e758 => ?_)
 refine k_laload X758 hx hZ e758 F0_15 ⟨by decide, by decide⟩ (v := (.long p5)) rfl (hb hby d6_19) (pc' := 20) rfl ?_
 refine k_lsub X758 hx (hb hby d6_20) (pc' := 21) rfl (fun v759 hv759 => ?_)
 refine k_aloadN X758 hx (hb hby d6_21) rfl rfl (pc' := 22) rfl ?_
 refine k_getF X758 hx hZ hown (host := "") (Or.inl (hw _ (List.mem_of_getElem? (i := 17) rfl))) Via.refl e758 F0_4 (hb hby d6_22) (pc' := 25) rfl (fun T760 X760 e760 => ?_)
 refine k_lcif_lt X760 hx (hb hby d6_25) (pm := 26) rfl (hb hby d6_26) (pn := 29) rfl (py := 69) (by decide) (fun hc761 => ?_) (fun hc761 => ?_)
 ·
  refine k_aloadN X760 hx (hb hby d6_69) rfl rfl (pc' := 70) rfl ?_
  refine k_getF X760 hx hZ hown (host := "") (Or.inl (hw _ (List.mem_of_getElem? (i := 11) rfl))) Via.refl e760 F0_1 (hb hby d6_70) (pc' := 73) rfl (fun T762 X762 e762 => ?_)
  refine k_alen X762 hx hZ e762 F0_15 (hb hby d6_73) (pc' := 74) rfl ?_
  refine k_istoreN X762 hx (hb hby d6_74) (Ls' := #[.val (.ref a1), .val (.int (8 : Int32))]) rfl (pc' := 75) rfl ?_
  refine k_iloadN X762 hx (hb hby d6_75) rfl (pc' := 76) rfl ?_
  refine k_bipush X762 hx (hb hby d6_76) (pc' := 78) rfl (z := (8 : Int32)) rfl ?_
  refine k_icmp_le X762 hx (hb hby d6_78) (pn := 81) rfl (py := 98) (by decide) (fun _ => ?_) (fun hc => absurd hc (by decide))
  refine k_iloadN X762 hx (hb hby d6_98) rfl (pc' := 99) rfl ?_
  refine k_aloadN X762 hx (hb hby d6_99) rfl rfl (pc' := 100) rfl ?_
  refine k_getF X762 hx hZ hown (host := "") (Or.inl (hw _ (List.mem_of_getElem? (i := 11) rfl))) Via.refl e762 F0_1 (hb hby d6_100) (pc' := 103) rfl (fun T763 X763 e763 => ?_)
  refine k_alen X763 hx hZ e763 F0_15 (hb hby d6_103) (pc' := 104) rfl ?_
  refine k_icmp_eq X763 hx (hb hby d6_104) (pn := 107) rfl (py := 112) (by decide) (fun _ => ?_) (fun hc => absurd (by decide) hc)
  exact k_ret X763 hx Bd.returns (hb hby d6_112) hlk (by decide) (by decide) (by rw [e763]; exact ⟨N0, (Or.inl ⟨v759, hv759, hc761, rfl, F0_0, F0_1, F0_2, F0_3, F0_4, F0_5, F0_6, F0_7, F0_8, F0_9, F0_11, F0_13, F0_15, F0_17, Z0⟩)⟩)
 ·
  refine k_aloadN X760 hx (hb hby d6_29) rfl rfl (pc' := 30) rfl ?_
  refine k_dup X760 hx (hb hby d6_30) rfl (pc' := 31) rfl ?_
  refine k_getF X760 hx hZ hown (host := "") (Or.inl (hw _ (List.mem_of_getElem? (i := 43) rfl))) Via.refl e760 F0_8 (hb hby d6_31) (pc' := 34) rfl (fun T764 X764 e764 => ?_)
  refine k_aloadN X764 hx (hb hby d6_34) rfl rfl (pc' := 35) rfl ?_
  refine k_getF X764 hx hZ hown (host := "") (Or.inl (hw _ (List.mem_of_getElem? (i := 13) rfl))) Via.refl e764 F0_2 (hb hby d6_35) (pc' := 38) rfl (fun T765 X765 e765 => ?_)
  refine k_aloadN X765 hx (hb hby d6_38) rfl rfl (pc' := 39) rfl ?_
  refine k_getF X765 hx hZ hown (host := "") (Or.inl (hw _ (List.mem_of_getElem? (i := 68) rfl))) Via.refl e765 F0_9 (hb hby d6_39) (pc' := 42) rfl (fun T766 X766 e766 => ?_)
  refine k_laload X766 hx hZ e766 F0_17 ⟨by decide, by decide⟩ (v := (.long (1 : Int64))) rfl (hb hby d6_42) (pc' := 43) rfl ?_
  refine k_lsubL X766 hx (hb hby d6_43) (pc' := 44) rfl (z := (0 : Int64)) (by decide) ?_
  refine k_putF X766 hx hZ hown (host := "") (Or.inl (hw _ (List.mem_of_getElem? (i := 43) rfl))) Via.refl e766 F0_8 F0_0 (Or.inl (hw _ (List.mem_of_getElem? (i := 44) rfl))) (hw _ (List.mem_of_getElem? (i := 1) rfl)) (ty := .long) (by decide) rfl rfl (hb hby d6_44) (pc' := 47) rfl (fun T767 h767 X767 e767 W767 => ?_)
  have Fw767 : Fld Z h767 a1 "com/example/halter/halter/SlidingSum" "sum" "J" (.long (0 : Int64)) := F0_8.same W767
  have N767 := Fr.snoc X767 N0 g_a1
  have Z767 : n0 ≤ h767.size := Nat.le_trans Z0 (Nat.le_of_eq W767.size.symm)
  refine k_aloadN X767 hx (hb hby d6_47) rfl rfl (pc' := 48) rfl ?_
  refine k_aloadN X767 hx (hb hby d6_48) rfl rfl (pc' := 49) rfl ?_
  refine k_iconst X767 hx (hb hby d6_49) (pc' := 50) rfl (z := (1 : Int32)) rfl ?_
  have F768 := (F0_0.wr W767)
  have F769 := (F0_1.other W767 (Or.inr (slot_ne (Or.inl (hw _ (List.mem_of_getElem? (i := 12) rfl))) (Or.inl (hw _ (List.mem_of_getElem? (i := 44) rfl))) (by decide) (t := (.array .long)) (t' := .long) (by decide) (by decide))))
  have F770 := (F0_2.other W767 (Or.inr (slot_ne (Or.inl (hw _ (List.mem_of_getElem? (i := 14) rfl))) (Or.inl (hw _ (List.mem_of_getElem? (i := 44) rfl))) (by decide) (t := (.array .long)) (t' := .long) (by decide) (by decide))))
  have F771 := (F0_3.other W767 (Or.inr (slot_ne (Or.inr (hw _ (List.mem_of_getElem? (i := 16) rfl))) (Or.inl (hw _ (List.mem_of_getElem? (i := 44) rfl))) (by decide) (t := .long) (t' := .long) (by decide) (by decide))))
  have F772 := (F0_4.other W767 (Or.inr (slot_ne (Or.inr (hw _ (List.mem_of_getElem? (i := 18) rfl))) (Or.inl (hw _ (List.mem_of_getElem? (i := 44) rfl))) (by decide) (t := .long) (t' := .long) (by decide) (by decide))))
  have F773 := (F0_5.other W767 (Or.inr (slot_ne (Or.inl (hw _ (List.mem_of_getElem? (i := 25) rfl))) (Or.inl (hw _ (List.mem_of_getElem? (i := 44) rfl))) (by decide) (t := .boolean) (t' := .long) (by decide) (by decide))))
  have F774 := (F0_6.other W767 (Or.inr (slot_ne (Or.inl (hw _ (List.mem_of_getElem? (i := 36) rfl))) (Or.inl (hw _ (List.mem_of_getElem? (i := 44) rfl))) (by decide) (t := .long) (t' := .long) (by decide) (by decide))))
  have F775 := (F0_7.other W767 (Or.inr (slot_ne (Or.inl (hw _ (List.mem_of_getElem? (i := 42) rfl))) (Or.inl (hw _ (List.mem_of_getElem? (i := 44) rfl))) (by decide) (t := .int) (t' := .long) (by decide) (by decide))))
  have F776 := (F0_9.other W767 (Or.inr (slot_ne (Or.inl (hw _ (List.mem_of_getElem? (i := 69) rfl))) (Or.inl (hw _ (List.mem_of_getElem? (i := 44) rfl))) (by decide) (t := .int) (t' := .long) (by decide) (by decide))))
  have F777 := (F0_15.other W767 (Ne.symm (Nat.ne_of_lt (Nat.lt_trans (Nat.lt_trans lt0_0 lt0_1) lt0_2))))
  have F778 := (F0_17.other W767 (Ne.symm (Nat.ne_of_lt (Nat.lt_trans (Nat.lt_trans (Nat.lt_trans lt0_0 lt0_1) lt0_2) lt0_3))))
  refine k_callP X767 hx hZ hown (a := a1) (hw _ (List.mem_of_getElem? (i := 70) rfl)) (hw _ (List.mem_of_getElem? (i := 71) rfl)) (hw _ (List.mem_of_getElem? (i := 72) rfl)) (hw _ (List.mem_of_getElem? (i := 1) rfl)) (hw _ (List.mem_of_getElem? (i := 2) rfl)) (hw _ (List.mem_of_getElem? (i := 73) rfl)) (by decide) F768 (rm12_779 l Z a0 hw [] a1 a2 a3 p4 p5 k10 k11 h767 n0 Z767 F768 F769 F770 F771 F772 F773 F774 F775 Fw767 F776 F777 F778 (Nat.lt_trans (Nat.lt_trans lt0_0 lt0_1) lt0_2) lt0_3) (by decide) (by decide) e767 (by rw [hml]; rfl) (argsL := [(.int (1 : Int32))]) (rest := [(.ref a1)]) (lenOf pd_7 rfl) rfl (W := 1) (Nat.le_refl _) rfl (hb hby d6_50) (by decide) (by decide) (pc' := 53) rfl (fun T782 L782 r782 X782 q782 => ?_)
  obtain ⟨N782, e782, q782⟩ := q782
  have N782' := Fr.app N767 N782
  obtain rfl := q782
  show KEnds p e below s _ _ _ T782 (mkF m 53 #[.val (.ref a1), .unset] [(.int (1 : Int32)), (.ref a1)])
  refine k_putF X782 hx hZ hown (host := "") (Or.inl (hw _ (List.mem_of_getElem? (i := 68) rfl))) Via.refl e782 F776 F768 (Or.inl (hw _ (List.mem_of_getElem? (i := 69) rfl))) (hw _ (List.mem_of_getElem? (i := 1) rfl)) (ty := .int) (by decide) rfl rfl (hb hby d6_53) (pc' := 56) rfl (fun T783 h783 X783 e783 W783 => ?_)
  have Fw783 : Fld Z h783 a1 "com/example/halter/halter/SlidingSum" "head" "I" (.int (1 : Int32)) := F776.same W783
  have N783 := Fr.snoc X783 N782' g_a1
  have Z783 : n0 ≤ h783.size := Nat.le_trans Z767 (Nat.le_of_eq W783.size.symm)
  refine k_aloadN X783 hx (hb hby d6_56) rfl rfl (pc' := 57) rfl ?_
  refine k_dup X783 hx (hb hby d6_57) rfl (pc' := 58) rfl ?_
  have F784 := (F775.other W783 (Or.inr (slot_ne (Or.inl (hw _ (List.mem_of_getElem? (i := 42) rfl))) (Or.inl (hw _ (List.mem_of_getElem? (i := 69) rfl))) (by decide) (t := .int) (t' := .int) (by decide) (by decide))))
  refine k_getF X783 hx hZ hown (host := "") (Or.inl (hw _ (List.mem_of_getElem? (i := 41) rfl))) Via.refl e783 F784 (hb hby d6_58) (pc' := 61) rfl (fun T785 X785 e785 => ?_)
  refine k_iconst X785 hx (hb hby d6_61) (pc' := 62) rfl (z := (1 : Int32)) rfl ?_
  refine k_isubL X785 hx (hb hby d6_62) (pc' := 63) rfl (z := (0 : Int32)) (by decide) ?_
  have F786 := (F768.wr W783)
  refine k_putF X785 hx hZ hown (host := "") (Or.inl (hw _ (List.mem_of_getElem? (i := 41) rfl))) Via.refl e785 F784 F786 (Or.inl (hw _ (List.mem_of_getElem? (i := 42) rfl))) (hw _ (List.mem_of_getElem? (i := 1) rfl)) (ty := .int) (by decide) rfl rfl (hb hby d6_63) (pc' := 66) rfl (fun T787 h787 X787 e787 W787 => ?_)
  have Fw787 : Fld Z h787 a1 "com/example/halter/halter/SlidingSum" "size" "I" (.int (0 : Int32)) := F784.same W787
  have N787 := Fr.snoc X787 N783 g_a1
  have Z787 : n0 ≤ h787.size := Nat.le_trans Z783 (Nat.le_of_eq W787.size.symm)
  refine k_goto X787 hx (hb hby d6_66) (pc' := 0) (by decide) ?_
  refine k_aloadN X787 hx (hb hby d6_0) rfl rfl (pc' := 1) rfl ?_
  refine k_getF X787 hx hZ hown (host := "") (Or.inl (hw _ (List.mem_of_getElem? (i := 41) rfl))) Via.refl e787 Fw787 (hb hby d6_1) (pc' := 4) rfl (fun T788 X788 e788 => ?_)
  refine k_if_le X788 hx (hb hby d6_4) (pn := 7) rfl (py := 69) (by decide) (fun _ => ?_) (fun hc => absurd hc (by decide))
  refine k_aloadN X788 hx (hb hby d6_69) rfl rfl (pc' := 70) rfl ?_
  have F789 := ((F769.other W783 (Or.inr (slot_ne (Or.inl (hw _ (List.mem_of_getElem? (i := 12) rfl))) (Or.inl (hw _ (List.mem_of_getElem? (i := 69) rfl))) (by decide) (t := (.array .long)) (t' := .int) (by decide) (by decide)))).other W787 (Or.inr (slot_ne (Or.inl (hw _ (List.mem_of_getElem? (i := 12) rfl))) (Or.inl (hw _ (List.mem_of_getElem? (i := 42) rfl))) (by decide) (t := (.array .long)) (t' := .int) (by decide) (by decide))))
  refine k_getF X788 hx hZ hown (host := "") (Or.inl (hw _ (List.mem_of_getElem? (i := 11) rfl))) Via.refl e788 F789 (hb hby d6_70) (pc' := 73) rfl (fun T790 X790 e790 => ?_)
  have F791 := ((F777.other W783 (Ne.symm (Nat.ne_of_lt (Nat.lt_trans (Nat.lt_trans lt0_0 lt0_1) lt0_2)))).other W787 (Ne.symm (Nat.ne_of_lt (Nat.lt_trans (Nat.lt_trans lt0_0 lt0_1) lt0_2))))
  refine k_alen X790 hx hZ e790 F791 (hb hby d6_73) (pc' := 74) rfl ?_
  refine k_istoreN X790 hx (hb hby d6_74) (Ls' := #[.val (.ref a1), .val (.int (8 : Int32))]) rfl (pc' := 75) rfl ?_
  refine k_iloadN X790 hx (hb hby d6_75) rfl (pc' := 76) rfl ?_
  refine k_bipush X790 hx (hb hby d6_76) (pc' := 78) rfl (z := (8 : Int32)) rfl ?_
  refine k_icmp_le X790 hx (hb hby d6_78) (pn := 81) rfl (py := 98) (by decide) (fun _ => ?_) (fun hc => absurd hc (by decide))
  refine k_iloadN X790 hx (hb hby d6_98) rfl (pc' := 99) rfl ?_
  refine k_aloadN X790 hx (hb hby d6_99) rfl rfl (pc' := 100) rfl ?_
  refine k_getF X790 hx hZ hown (host := "") (Or.inl (hw _ (List.mem_of_getElem? (i := 11) rfl))) Via.refl e790 F789 (hb hby d6_100) (pc' := 103) rfl (fun T792 X792 e792 => ?_)
  refine k_alen X792 hx hZ e792 F791 (hb hby d6_103) (pc' := 104) rfl ?_
  refine k_icmp_eq X792 hx (hb hby d6_104) (pn := 107) rfl (py := 112) (by decide) (fun _ => ?_) (fun hc => absurd (by decide) hc)
  have F793 := (F786.wr W787)
  have F794 := ((F770.other W783 (Or.inr (slot_ne (Or.inl (hw _ (List.mem_of_getElem? (i := 14) rfl))) (Or.inl (hw _ (List.mem_of_getElem? (i := 69) rfl))) (by decide) (t := (.array .long)) (t' := .int) (by decide) (by decide)))).other W787 (Or.inr (slot_ne (Or.inl (hw _ (List.mem_of_getElem? (i := 14) rfl))) (Or.inl (hw _ (List.mem_of_getElem? (i := 42) rfl))) (by decide) (t := (.array .long)) (t' := .int) (by decide) (by decide))))
  have F795 := ((F771.other W783 (Or.inr (slot_ne (Or.inr (hw _ (List.mem_of_getElem? (i := 16) rfl))) (Or.inl (hw _ (List.mem_of_getElem? (i := 69) rfl))) (by decide) (t := .long) (t' := .int) (by decide) (by decide)))).other W787 (Or.inr (slot_ne (Or.inr (hw _ (List.mem_of_getElem? (i := 16) rfl))) (Or.inl (hw _ (List.mem_of_getElem? (i := 42) rfl))) (by decide) (t := .long) (t' := .int) (by decide) (by decide))))
  have F796 := ((F772.other W783 (Or.inr (slot_ne (Or.inr (hw _ (List.mem_of_getElem? (i := 18) rfl))) (Or.inl (hw _ (List.mem_of_getElem? (i := 69) rfl))) (by decide) (t := .long) (t' := .int) (by decide) (by decide)))).other W787 (Or.inr (slot_ne (Or.inr (hw _ (List.mem_of_getElem? (i := 18) rfl))) (Or.inl (hw _ (List.mem_of_getElem? (i := 42) rfl))) (by decide) (t := .long) (t' := .int) (by decide) (by decide))))
  have F797 := ((F773.other W783 (Or.inr (slot_ne (Or.inl (hw _ (List.mem_of_getElem? (i := 25) rfl))) (Or.inl (hw _ (List.mem_of_getElem? (i := 69) rfl))) (by decide) (t := .boolean) (t' := .int) (by decide) (by decide)))).other W787 (Or.inr (slot_ne (Or.inl (hw _ (List.mem_of_getElem? (i := 25) rfl))) (Or.inl (hw _ (List.mem_of_getElem? (i := 42) rfl))) (by decide) (t := .boolean) (t' := .int) (by decide) (by decide))))
  have F798 := ((F774.other W783 (Or.inr (slot_ne (Or.inl (hw _ (List.mem_of_getElem? (i := 36) rfl))) (Or.inl (hw _ (List.mem_of_getElem? (i := 69) rfl))) (by decide) (t := .long) (t' := .int) (by decide) (by decide)))).other W787 (Or.inr (slot_ne (Or.inl (hw _ (List.mem_of_getElem? (i := 36) rfl))) (Or.inl (hw _ (List.mem_of_getElem? (i := 42) rfl))) (by decide) (t := .long) (t' := .int) (by decide) (by decide))))
  have F799 := ((Fw767.other W783 (Or.inr (slot_ne (Or.inl (hw _ (List.mem_of_getElem? (i := 44) rfl))) (Or.inl (hw _ (List.mem_of_getElem? (i := 69) rfl))) (by decide) (t := .long) (t' := .int) (by decide) (by decide)))).other W787 (Or.inr (slot_ne (Or.inl (hw _ (List.mem_of_getElem? (i := 44) rfl))) (Or.inl (hw _ (List.mem_of_getElem? (i := 42) rfl))) (by decide) (t := .long) (t' := .int) (by decide) (by decide))))
  have F800 := (Fw783.other W787 (Or.inr (slot_ne (Or.inl (hw _ (List.mem_of_getElem? (i := 69) rfl))) (Or.inl (hw _ (List.mem_of_getElem? (i := 42) rfl))) (by decide) (t := .int) (t' := .int) (by decide) (by decide))))
  have F801 := (((F0_11.other W767 (Ne.symm (Nat.ne_of_lt lt0_0))).other W783 (Ne.symm (Nat.ne_of_lt lt0_0))).other W787 (Ne.symm (Nat.ne_of_lt lt0_0)))
  have F802 := (((F0_13.other W767 (Ne.symm (Nat.ne_of_lt (Nat.lt_trans lt0_0 lt0_1)))).other W783 (Ne.symm (Nat.ne_of_lt (Nat.lt_trans lt0_0 lt0_1)))).other W787 (Ne.symm (Nat.ne_of_lt (Nat.lt_trans lt0_0 lt0_1))))
  have F803 := ((F778.other W783 (Ne.symm (Nat.ne_of_lt (Nat.lt_trans (Nat.lt_trans (Nat.lt_trans lt0_0 lt0_1) lt0_2) lt0_3)))).other W787 (Ne.symm (Nat.ne_of_lt (Nat.lt_trans (Nat.lt_trans (Nat.lt_trans lt0_0 lt0_1) lt0_2) lt0_3))))
  exact k_ret X792 hx Bd.returns (hb hby d6_112) hlk (by decide) (by decide) (by rw [e792]; exact ⟨N787, (Or.inr ⟨v759, hv759, hc761, rfl, F793, F789, F794, F795, F796, F797, F798, Fw787, F799, F800, F801, F802, F791, F803, Z787⟩)⟩)
abbrev R12_883 : Room := { frames := 0, cells := 0, slots := 0, locals := 0 }
def Q12_883 (Z : State) (a1 : Addr) (a2 : Addr) (a3 : Addr) (p4 : Int64) (p5 : Int64) (k6 : ClassId) (p7 : Int64) (k8 : ClassId) (h0 : Heap) (n0 : Nat) (v : Option Value) (h : Heap) (L : List Loc) : Prop := Fr n0 L ∧ h = h0 ∧ ((v = some (.int (1 : Int32))))
theorem ef12_883 (m : MethodId) (x0 : Addr) : entryFrame m #[(.ref x0), (.int (1 : Int32))] 3 = mkF m 0 #[.val (.ref x0), .val (.int (1 : Int32)), .unset] [] := by first | (simp [entryFrame, mkF, argsToLocals, Value.category]; done) | rfl
set_option maxRecDepth 65536 in
set_option maxHeartbeats 40000000 in
theorem rm12_883 (l : Launch) (Z : State) (a0 : Array Value) (hw : ∀ d ∈ tables_1, d.before a0 Z = true) (ws : List Jvm.Cond) (a1 : Addr) (a2 : Addr) (a3 : Addr) (p4 : Int64) (p5 : Int64) (k6 : ClassId) (p7 : Int64) (k8 : ClassId) (h0 : Heap) (n0 : Nat) (Z0 : n0 ≤ h0.size) (F0_0 : Exa Z h0 a1 "com/example/halter/halter/SlidingSum") (F0_1 : Fld Z h0 a1 "com/example/halter/halter/SlidingSum" "times" "[J" (.ref a2)) (F0_2 : Fld Z h0 a1 "com/example/halter/halter/SlidingSum" "costs" "[J" (.ref a3)) (F0_3 : Fld Z h0 a1 "com/example/halter/halter/SlidingSum" "most" "J" (.long (9223372036854775807 : Int64))) (F0_4 : Fld Z h0 a1 "com/example/halter/halter/SlidingSum" "length" "J" (.long p4)) (F0_5 : Fld Z h0 a1 "com/example/halter/halter/SlidingSum" "started" "Z" (.int (1 : Int32))) (F0_6 : Fld Z h0 a1 "com/example/halter/halter/SlidingSum" "latest" "J" (.long p5)) (F0_7 : Fld Z h0 a1 "com/example/halter/halter/SlidingSum" "size" "I" (.int (1 : Int32))) (F0_8 : Fld Z h0 a1 "com/example/halter/halter/SlidingSum" "sum" "J" (.long (0 : Int64))) (F0_9 : Fld Z h0 a1 "com/example/halter/halter/SlidingSum" "head" "I" (.int (0 : Int32))) (F0_10 : Arv Z h0 a2 k6 .long (8 : Int32) [(.long p7), (.long (0 : Int64)), (.long (0 : Int64)), (.long (0 : Int64)), (.long (0 : Int64)), (.long (0 : Int64)), (.long (0 : Int64)), (.long (0 : Int64))] (.long (0 : Int64))) (F0_11 : Arv Z h0 a3 k8 .long (8 : Int32) [(.long (1 : Int64)), (.long (0 : Int64)), (.long (0 : Int64)), (.long (0 : Int64)), (.long (0 : Int64)), (.long (0 : Int64)), (.long (0 : Int64)), (.long (0 : Int64))] (.long (0 : Int64))) (lt0_0 : a1 < a2) (lt0_1 : a2 < a3) :
    MetFree l (⟨"com/example/halter/halter/SlidingSum", "place", "(I)I"⟩ : MethodName) (head1 (Jvm.Cond.code (⟨"com/example/halter/halter/SlidingSum", "place", "(I)I"⟩ : MethodName) prog_19_method_12_code 3 (some .int) :: ws) R12_883) (fun a U => a = #[(.ref a1), (.int (1 : Int32))] ∧ Z.Warmed39 U.vm ∧ U.heap = h0) (fun _ _ _ _ _ => True) (fun _ U o U' => ∃ v L, o = .returned v ∧ Q12_883 Z a1 a2 a3 p4 p5 k6 p7 k8 h0 n0 v U'.heap L ∧ FrameEnd U o U' L R12_883.cells R12_883.slots) := by
 refine MetFree.of_bodySF (plainFor_of_name pn_0) hisR ?_
 intro p e s m args below meth c s₁ Bd hml0 hP hK
 obtain ⟨rfl, hZ, hh⟩ := hP
 have hx := Bd.exec
 have hby := Bd.bytes
 have hml : c.maxLocals = 3 := hml0
 have hlk : meth.locks = false := Bd.notSynchronized
 have hown : s.vm.findClass "com/example/halter/halter/SlidingSum" = some m.cls := findClass_of_methodNamed Bd.named
 have hnm := (name_of_methodNamed Bd.named Bd.method).1
 have X0 : Stand p l e R12_883 s m #[(.ref a1), (.int (1 : Int32))] below meth c s₁ [] 0 0 := Stand.of_body Bd
 have e0 : s₁.heap = h0 := by rw [← hh, Bd.state]; rfl
 have N0 := Fr.nil n0
 rw [ef12_883 m a1]
 show KEnds p e below s R12_883.cells R12_883.slots (Q12_883 Z a1 a2 a3 p4 p5 k6 p7 k8 h0 n0) s₁ (mkF m 0 #[.val (.ref a1), .val (.int (1 : Int32)), .unset] [])
 refine k_aloadN X0 hx (hb hby d12_0) rfl rfl (pc' := 1) rfl ?_
 refine k_getF X0 hx hZ hown (host := "") (Or.inl (hw _ (List.mem_of_getElem? (i := 68) rfl))) Via.refl e0 F0_9 (hb hby d12_1) (pc' := 4) rfl (fun T884 X884 e884 => ?_)
 refine k_iloadN X884 hx (hb hby d12_4) rfl (pc' := 5) rfl ?_
 refine k_iaddL X884 hx (hb hby d12_5) (pc' := 6) rfl (z := (1 : Int32)) (by decide) ?_
 refine k_istoreN X884 hx (hb hby d12_6) (Ls' := #[.val (.ref a1), .val (.int (1 : Int32)), .val (.int (1 : Int32))]) rfl (pc' := 7) rfl ?_
 refine k_iloadN X884 hx (hb hby d12_7) rfl (pc' := 8) rfl ?_
 refine k_aloadN X884 hx (hb hby d12_8) rfl rfl (pc' := 9) rfl ?_
 refine k_getF X884 hx hZ hown (host := "") (Or.inl (hw _ (List.mem_of_getElem? (i := 11) rfl))) Via.refl e884 F0_1 (hb hby d12_9) (pc' := 12) rfl (fun T885 X885 e885 => ?_)
 refine k_alen X885 hx hZ e885 F0_10 (hb hby d12_12) (pc' := 13) rfl ?_
 refine k_icmp_ge X885 hx (hb hby d12_13) (pn := 16) rfl (py := 20) (by decide) (fun hc => absurd (by decide) hc) (fun _ => ?_)
 refine k_iloadN X885 hx (hb hby d12_16) rfl (pc' := 17) rfl ?_
 refine k_goto X885 hx (hb hby d12_17) (pc' := 27) (by decide) ?_
 exact k_retI X885 hx Bd.returns (hb hby d12_27) hlk (by decide) (by decide) ⟨N0, e885, rfl⟩
abbrev R6_858 : Room := { frames := 1, cells := 0, slots := 0, locals := 15 }
def Q6_858 (Z : State) (a1 : Addr) (a2 : Addr) (a3 : Addr) (p4 : Int64) (p5 : Int64) (a6 : Addr) (k7 : ClassId) (a8 : Addr) (k9 : ClassId) (k10 : ClassId) (p11 : Int64) (k12 : ClassId) (h0 : Heap) (n0 : Nat) (v : Option Value) (h : Heap) (L : List Loc) : Prop := Fr n0 L ∧ ((∃ (v863 : Int64), v863 = p5 - p11 ∧ v863 < p4 ∧ v = none ∧ Exa Z h a1 "com/example/halter/halter/SlidingSum" ∧ Fld Z h a1 "com/example/halter/halter/SlidingSum" "times" "[J" (.ref a2) ∧ Fld Z h a1 "com/example/halter/halter/SlidingSum" "costs" "[J" (.ref a3) ∧ Fld Z h a1 "com/example/halter/halter/SlidingSum" "most" "J" (.long (9223372036854775807 : Int64)) ∧ Fld Z h a1 "com/example/halter/halter/SlidingSum" "length" "J" (.long p4) ∧ Fld Z h a1 "com/example/halter/halter/SlidingSum" "started" "Z" (.int (1 : Int32)) ∧ Fld Z h a1 "com/example/halter/halter/SlidingSum" "latest" "J" (.long p5) ∧ Fld Z h a1 "com/example/halter/halter/SlidingSum" "size" "I" (.int (1 : Int32)) ∧ Fld Z h a1 "com/example/halter/halter/SlidingSum" "sum" "J" (.long (1 : Int64)) ∧ Fld Z h a1 "com/example/halter/halter/SlidingSum" "head" "I" (.int (0 : Int32)) ∧ Arv Z h a6 k7 .long (0 : Int32) [] (.long (0 : Int64)) ∧ Arv Z h a8 k9 .long (0 : Int32) [] (.long (0 : Int64)) ∧ Arv Z h a2 k10 .long (8 : Int32) [(.long p11), (.long (0 : Int64)), (.long (0 : Int64)), (.long (0 : Int64)), (.long (0 : Int64)), (.long (0 : Int64)), (.long (0 : Int64)), (.long (0 : Int64))] (.long (0 : Int64)) ∧ Arv Z h a3 k12 .long (8 : Int32) [(.long (1 : Int64)), (.long (0 : Int64)), (.long (0 : Int64)), (.long (0 : Int64)), (.long (0 : Int64)), (.long (0 : Int64)), (.long (0 : Int64)), (.long (0 : Int64))] (.long (0 : Int64)) ∧ n0 ≤ h.size) ∨ (∃ (v863 : Int64), v863 = p5 - p11 ∧ ¬ v863 < p4 ∧ v = none ∧ Exa Z h a1 "com/example/halter/halter/SlidingSum" ∧ Fld Z h a1 "com/example/halter/halter/SlidingSum" "times" "[J" (.ref a2) ∧ Fld Z h a1 "com/example/halter/halter/SlidingSum" "costs" "[J" (.ref a3) ∧ Fld Z h a1 "com/example/halter/halter/SlidingSum" "most" "J" (.long (9223372036854775807 : Int64)) ∧ Fld Z h a1 "com/example/halter/halter/SlidingSum" "length" "J" (.long p4) ∧ Fld Z h a1 "com/example/halter/halter/SlidingSum" "started" "Z" (.int (1 : Int32)) ∧ Fld Z h a1 "com/example/halter/halter/SlidingSum" "latest" "J" (.long p5) ∧ Fld Z h a1 "com/example/halter/halter/SlidingSum" "size" "I" (.int (0 : Int32)) ∧ Fld Z h a1 "com/example/halter/halter/SlidingSum" "sum" "J" (.long (0 : Int64)) ∧ Fld Z h a1 "com/example/halter/halter/SlidingSum" "head" "I" (.int (1 : Int32)) ∧ Arv Z h a6 k7 .long (0 : Int32) [] (.long (0 : Int64)) ∧ Arv Z h a8 k9 .long (0 : Int32) [] (.long (0 : Int64)) ∧ Arv Z h a2 k10 .long (8 : Int32) [(.long p11), (.long (0 : Int64)), (.long (0 : Int64)), (.long (0 : Int64)), (.long (0 : Int64)), (.long (0 : Int64)), (.long (0 : Int64)), (.long (0 : Int64))] (.long (0 : Int64)) ∧ Arv Z h a3 k12 .long (8 : Int32) [(.long (1 : Int64)), (.long (0 : Int64)), (.long (0 : Int64)), (.long (0 : Int64)), (.long (0 : Int64)), (.long (0 : Int64)), (.long (0 : Int64)), (.long (0 : Int64))] (.long (0 : Int64)) ∧ n0 ≤ h.size))
theorem ef6_858 (m : MethodId) (x0 : Addr) : entryFrame m #[(.ref x0)] 2 = mkF m 0 #[.val (.ref x0), .unset] [] := by first | (simp [entryFrame, mkF, argsToLocals, Value.category]; done) | rfl
set_option maxRecDepth 65536 in
set_option maxHeartbeats 40000000 in
theorem rm6_858 (l : Launch) (Z : State) (a0 : Array Value) (hw : ∀ d ∈ tables_1, d.before a0 Z = true) (ws : List Jvm.Cond) (a1 : Addr) (a2 : Addr) (a3 : Addr) (p4 : Int64) (p5 : Int64) (a6 : Addr) (k7 : ClassId) (a8 : Addr) (k9 : ClassId) (k10 : ClassId) (p11 : Int64) (k12 : ClassId) (h0 : Heap) (n0 : Nat) (Z0 : n0 ≤ h0.size) (F0_0 : Exa Z h0 a1 "com/example/halter/halter/SlidingSum") (F0_1 : Fld Z h0 a1 "com/example/halter/halter/SlidingSum" "times" "[J" (.ref a2)) (F0_2 : Fld Z h0 a1 "com/example/halter/halter/SlidingSum" "costs" "[J" (.ref a3)) (F0_3 : Fld Z h0 a1 "com/example/halter/halter/SlidingSum" "most" "J" (.long (9223372036854775807 : Int64))) (F0_4 : Fld Z h0 a1 "com/example/halter/halter/SlidingSum" "length" "J" (.long p4)) (F0_5 : Fld Z h0 a1 "com/example/halter/halter/SlidingSum" "started" "Z" (.int (1 : Int32))) (F0_6 : Fld Z h0 a1 "com/example/halter/halter/SlidingSum" "latest" "J" (.long p5)) (F0_7 : Fld Z h0 a1 "com/example/halter/halter/SlidingSum" "size" "I" (.int (1 : Int32))) (F0_8 : Fld Z h0 a1 "com/example/halter/halter/SlidingSum" "sum" "J" (.long (1 : Int64))) (F0_9 : Fld Z h0 a1 "com/example/halter/halter/SlidingSum" "head" "I" (.int (0 : Int32))) (g_a1 : n0 ≤ a1) (F0_11 : Arv Z h0 a6 k7 .long (0 : Int32) [] (.long (0 : Int64))) (g_a6 : n0 ≤ a6) (F0_13 : Arv Z h0 a8 k9 .long (0 : Int32) [] (.long (0 : Int64))) (g_a8 : n0 ≤ a8) (F0_15 : Arv Z h0 a2 k10 .long (8 : Int32) [(.long p11), (.long (0 : Int64)), (.long (0 : Int64)), (.long (0 : Int64)), (.long (0 : Int64)), (.long (0 : Int64)), (.long (0 : Int64)), (.long (0 : Int64))] (.long (0 : Int64))) (g_a2 : n0 ≤ a2) (F0_17 : Arv Z h0 a3 k12 .long (8 : Int32) [(.long (1 : Int64)), (.long (0 : Int64)), (.long (0 : Int64)), (.long (0 : Int64)), (.long (0 : Int64)), (.long (0 : Int64)), (.long (0 : Int64)), (.long (0 : Int64))] (.long (0 : Int64))) (g_a3 : n0 ≤ a3) (lt0_0 : a1 < a6) (lt0_1 : a6 < a8) (lt0_2 : a8 < a2) (lt0_3 : a2 < a3) :
    MetFree l (⟨"com/example/halter/halter/SlidingSum", "forgetWhatLeftTheWindow", "()V"⟩ : MethodName) (head1 (Jvm.Cond.code (⟨"com/example/halter/halter/SlidingSum", "forgetWhatLeftTheWindow", "()V"⟩ : MethodName) prog_19_method_8_code 2 none :: ws) R6_858) (fun a U => a = #[(.ref a1)] ∧ Z.Warmed39 U.vm ∧ U.heap = h0) (fun _ _ _ _ _ => True) (fun _ U o U' => ∃ v L, o = .returned v ∧ Q6_858 Z a1 a2 a3 p4 p5 a6 k7 a8 k9 k10 p11 k12 h0 n0 v U'.heap L ∧ FrameEnd U o U' L R6_858.cells R6_858.slots) := by
 refine MetFree.of_bodySF (plainFor_of_name pn_0) hisR ?_
 intro p e s m args below meth c s₁ Bd hml0 hP hK
 obtain ⟨rfl, hZ, hh⟩ := hP
 have hx := Bd.exec
 have hby := Bd.bytes
 have hml : c.maxLocals = 2 := hml0
 have hlk : meth.locks = false := Bd.notSynchronized
 have hown : s.vm.findClass "com/example/halter/halter/SlidingSum" = some m.cls := findClass_of_methodNamed Bd.named
 have hnm := (name_of_methodNamed Bd.named Bd.method).1
 have X0 : Stand p l e R6_858 s m #[(.ref a1)] below meth c s₁ [] 0 0 := Stand.of_body Bd
 have e0 : s₁.heap = h0 := by rw [← hh, Bd.state]; rfl
 have N0 := Fr.nil n0
 rw [ef6_858 m a1]
 show KEnds p e below s R6_858.cells R6_858.slots (Q6_858 Z a1 a2 a3 p4 p5 a6 k7 a8 k9 k10 p11 k12 h0 n0) s₁ (mkF m 0 #[.val (.ref a1), .unset] [])
 refine k_aloadN X0 hx (hb hby d6_0) rfl rfl (pc' := 1) rfl ?_
 refine k_getF X0 hx hZ hown (host := "") (Or.inl (hw _ (List.mem_of_getElem? (i := 41) rfl))) Via.refl e0 F0_7 (hb hby d6_1) (pc' := 4) rfl (fun T859 X859 e859 => ?_)
 refine k_if_le X859 hx (hb hby d6_4) (pn := 7) rfl (py := 69) (by decide) (fun hc => absurd (by decide) hc) (fun _ => ?_)
 refine k_aloadN X859 hx (hb hby d6_7) rfl rfl (pc' := 8) rfl ?_
 refine k_getF X859 hx hZ hown (host := "") (Or.inl (hw _ (List.mem_of_getElem? (i := 35) rfl))) Via.refl e859 F0_6 (hb hby d6_8) (pc' := 11) rfl (fun T860 X860 e860 => ?_)
 refine k_aloadN X860 hx (hb hby d6_11) rfl rfl (pc' := 12) rfl ?_
 refine k_getF X860 hx hZ hown (host := "") (Or.inl (hw _ (List.mem_of_getElem? (i := 11) rfl))) Via.refl e860 F0_1 (hb hby d6_12) (pc' := 15) rfl (fun T861 X861 e861 => ?_)
 refine k_aloadN X861 hx (hb hby d6_15) rfl rfl (pc' := 16) rfl ?_
 refine k_getF X861 hx hZ hown (host := "") (Or.inl (hw _ (List.mem_of_getElem? (i := 68) rfl))) Via.refl e861 F0_9 (hb hby d6_16) (pc' := 19) rfl (fun T862 X862 e862 => ?_)
 refine k_laload X862 hx hZ e862 F0_15 ⟨by decide, by decide⟩ (v := (.long p11)) rfl (hb hby d6_19) (pc' := 20) rfl ?_
 refine k_lsub X862 hx (hb hby d6_20) (pc' := 21) rfl (fun v863 hv863 => ?_)
 refine k_aloadN X862 hx (hb hby d6_21) rfl rfl (pc' := 22) rfl ?_
 refine k_getF X862 hx hZ hown (host := "") (Or.inl (hw _ (List.mem_of_getElem? (i := 17) rfl))) Via.refl e862 F0_4 (hb hby d6_22) (pc' := 25) rfl (fun T864 X864 e864 => ?_)
 refine k_lcif_lt X864 hx (hb hby d6_25) (pm := 26) rfl (hb hby d6_26) (pn := 29) rfl (py := 69) (by decide) (fun hc865 => ?_) (fun hc865 => ?_)
 ·
  refine k_aloadN X864 hx (hb hby d6_69) rfl rfl (pc' := 70) rfl ?_
  refine k_getF X864 hx hZ hown (host := "") (Or.inl (hw _ (List.mem_of_getElem? (i := 11) rfl))) Via.refl e864 F0_1 (hb hby d6_70) (pc' := 73) rfl (fun T866 X866 e866 => ?_)
  refine k_alen X866 hx hZ e866 F0_15 (hb hby d6_73) (pc' := 74) rfl ?_
  refine k_istoreN X866 hx (hb hby d6_74) (Ls' := #[.val (.ref a1), .val (.int (8 : Int32))]) rfl (pc' := 75) rfl ?_
  refine k_iloadN X866 hx (hb hby d6_75) rfl (pc' := 76) rfl ?_
  refine k_bipush X866 hx (hb hby d6_76) (pc' := 78) rfl (z := (8 : Int32)) rfl ?_
  refine k_icmp_le X866 hx (hb hby d6_78) (pn := 81) rfl (py := 98) (by decide) (fun _ => ?_) (fun hc => absurd hc (by decide))
  refine k_iloadN X866 hx (hb hby d6_98) rfl (pc' := 99) rfl ?_
  refine k_aloadN X866 hx (hb hby d6_99) rfl rfl (pc' := 100) rfl ?_
  refine k_getF X866 hx hZ hown (host := "") (Or.inl (hw _ (List.mem_of_getElem? (i := 11) rfl))) Via.refl e866 F0_1 (hb hby d6_100) (pc' := 103) rfl (fun T867 X867 e867 => ?_)
  refine k_alen X867 hx hZ e867 F0_15 (hb hby d6_103) (pc' := 104) rfl ?_
  refine k_icmp_eq X867 hx (hb hby d6_104) (pn := 107) rfl (py := 112) (by decide) (fun _ => ?_) (fun hc => absurd (by decide) hc)
  exact k_ret X867 hx Bd.returns (hb hby d6_112) hlk (by decide) (by decide) (by rw [e867]; exact ⟨N0, (Or.inl ⟨v863, hv863, hc865, rfl, F0_0, F0_1, F0_2, F0_3, F0_4, F0_5, F0_6, F0_7, F0_8, F0_9, F0_11, F0_13, F0_15, F0_17, Z0⟩)⟩)
 ·
  refine k_aloadN X864 hx (hb hby d6_29) rfl rfl (pc' := 30) rfl ?_
  refine k_dup X864 hx (hb hby d6_30) rfl (pc' := 31) rfl ?_
  refine k_getF X864 hx hZ hown (host := "") (Or.inl (hw _ (List.mem_of_getElem? (i := 43) rfl))) Via.refl e864 F0_8 (hb hby d6_31) (pc' := 34) rfl (fun T868 X868 e868 => ?_)
  refine k_aloadN X868 hx (hb hby d6_34) rfl rfl (pc' := 35) rfl ?_
  refine k_getF X868 hx hZ hown (host := "") (Or.inl (hw _ (List.mem_of_getElem? (i := 13) rfl))) Via.refl e868 F0_2 (hb hby d6_35) (pc' := 38) rfl (fun T869 X869 e869 => ?_)
  refine k_aloadN X869 hx (hb hby d6_38) rfl rfl (pc' := 39) rfl ?_
  refine k_getF X869 hx hZ hown (host := "") (Or.inl (hw _ (List.mem_of_getElem? (i := 68) rfl))) Via.refl e869 F0_9 (hb hby d6_39) (pc' := 42) rfl (fun T870 X870 e870 => ?_)
  refine k_laload X870 hx hZ e870 F0_17 ⟨by decide, by decide⟩ (v := (.long (1 : Int64))) rfl (hb hby d6_42) (pc' := 43) rfl ?_
  refine k_lsubL X870 hx (hb hby d6_43) (pc' := 44) rfl (z := (0 : Int64)) (by decide) ?_
  refine k_putF X870 hx hZ hown (host := "") (Or.inl (hw _ (List.mem_of_getElem? (i := 43) rfl))) Via.refl e870 F0_8 F0_0 (Or.inl (hw _ (List.mem_of_getElem? (i := 44) rfl))) (hw _ (List.mem_of_getElem? (i := 1) rfl)) (ty := .long) (by decide) rfl rfl (hb hby d6_44) (pc' := 47) rfl (fun T871 h871 X871 e871 W871 => ?_)
  have Fw871 : Fld Z h871 a1 "com/example/halter/halter/SlidingSum" "sum" "J" (.long (0 : Int64)) := F0_8.same W871
  have N871 := Fr.snoc X871 N0 g_a1
  have Z871 : n0 ≤ h871.size := Nat.le_trans Z0 (Nat.le_of_eq W871.size.symm)
  refine k_aloadN X871 hx (hb hby d6_47) rfl rfl (pc' := 48) rfl ?_
  refine k_aloadN X871 hx (hb hby d6_48) rfl rfl (pc' := 49) rfl ?_
  refine k_iconst X871 hx (hb hby d6_49) (pc' := 50) rfl (z := (1 : Int32)) rfl ?_
  have F872 := (F0_0.wr W871)
  have F873 := (F0_1.other W871 (Or.inr (slot_ne (Or.inl (hw _ (List.mem_of_getElem? (i := 12) rfl))) (Or.inl (hw _ (List.mem_of_getElem? (i := 44) rfl))) (by decide) (t := (.array .long)) (t' := .long) (by decide) (by decide))))
  have F874 := (F0_2.other W871 (Or.inr (slot_ne (Or.inl (hw _ (List.mem_of_getElem? (i := 14) rfl))) (Or.inl (hw _ (List.mem_of_getElem? (i := 44) rfl))) (by decide) (t := (.array .long)) (t' := .long) (by decide) (by decide))))
  have F875 := (F0_3.other W871 (Or.inr (slot_ne (Or.inr (hw _ (List.mem_of_getElem? (i := 16) rfl))) (Or.inl (hw _ (List.mem_of_getElem? (i := 44) rfl))) (by decide) (t := .long) (t' := .long) (by decide) (by decide))))
  have F876 := (F0_4.other W871 (Or.inr (slot_ne (Or.inr (hw _ (List.mem_of_getElem? (i := 18) rfl))) (Or.inl (hw _ (List.mem_of_getElem? (i := 44) rfl))) (by decide) (t := .long) (t' := .long) (by decide) (by decide))))
  have F877 := (F0_5.other W871 (Or.inr (slot_ne (Or.inl (hw _ (List.mem_of_getElem? (i := 25) rfl))) (Or.inl (hw _ (List.mem_of_getElem? (i := 44) rfl))) (by decide) (t := .boolean) (t' := .long) (by decide) (by decide))))
  have F878 := (F0_6.other W871 (Or.inr (slot_ne (Or.inl (hw _ (List.mem_of_getElem? (i := 36) rfl))) (Or.inl (hw _ (List.mem_of_getElem? (i := 44) rfl))) (by decide) (t := .long) (t' := .long) (by decide) (by decide))))
  have F879 := (F0_7.other W871 (Or.inr (slot_ne (Or.inl (hw _ (List.mem_of_getElem? (i := 42) rfl))) (Or.inl (hw _ (List.mem_of_getElem? (i := 44) rfl))) (by decide) (t := .int) (t' := .long) (by decide) (by decide))))
  have F880 := (F0_9.other W871 (Or.inr (slot_ne (Or.inl (hw _ (List.mem_of_getElem? (i := 69) rfl))) (Or.inl (hw _ (List.mem_of_getElem? (i := 44) rfl))) (by decide) (t := .int) (t' := .long) (by decide) (by decide))))
  have F881 := (F0_15.other W871 (Ne.symm (Nat.ne_of_lt (Nat.lt_trans (Nat.lt_trans lt0_0 lt0_1) lt0_2))))
  have F882 := (F0_17.other W871 (Ne.symm (Nat.ne_of_lt (Nat.lt_trans (Nat.lt_trans (Nat.lt_trans lt0_0 lt0_1) lt0_2) lt0_3))))
  refine k_callP X871 hx hZ hown (a := a1) (hw _ (List.mem_of_getElem? (i := 70) rfl)) (hw _ (List.mem_of_getElem? (i := 71) rfl)) (hw _ (List.mem_of_getElem? (i := 72) rfl)) (hw _ (List.mem_of_getElem? (i := 1) rfl)) (hw _ (List.mem_of_getElem? (i := 2) rfl)) (hw _ (List.mem_of_getElem? (i := 73) rfl)) (by decide) F872 (rm12_883 l Z a0 hw [] a1 a2 a3 p4 p5 k10 p11 k12 h871 n0 Z871 F872 F873 F874 F875 F876 F877 F878 F879 Fw871 F880 F881 F882 (Nat.lt_trans (Nat.lt_trans lt0_0 lt0_1) lt0_2) lt0_3) (by decide) (by decide) e871 (by rw [hml]; rfl) (argsL := [(.int (1 : Int32))]) (rest := [(.ref a1)]) (lenOf pd_7 rfl) rfl (W := 1) (Nat.le_refl _) rfl (hb hby d6_50) (by decide) (by decide) (pc' := 53) rfl (fun T886 L886 r886 X886 q886 => ?_)
  obtain ⟨N886, e886, q886⟩ := q886
  have N886' := Fr.app N871 N886
  obtain rfl := q886
  show KEnds p e below s _ _ _ T886 (mkF m 53 #[.val (.ref a1), .unset] [(.int (1 : Int32)), (.ref a1)])
  refine k_putF X886 hx hZ hown (host := "") (Or.inl (hw _ (List.mem_of_getElem? (i := 68) rfl))) Via.refl e886 F880 F872 (Or.inl (hw _ (List.mem_of_getElem? (i := 69) rfl))) (hw _ (List.mem_of_getElem? (i := 1) rfl)) (ty := .int) (by decide) rfl rfl (hb hby d6_53) (pc' := 56) rfl (fun T887 h887 X887 e887 W887 => ?_)
  have Fw887 : Fld Z h887 a1 "com/example/halter/halter/SlidingSum" "head" "I" (.int (1 : Int32)) := F880.same W887
  have N887 := Fr.snoc X887 N886' g_a1
  have Z887 : n0 ≤ h887.size := Nat.le_trans Z871 (Nat.le_of_eq W887.size.symm)
  refine k_aloadN X887 hx (hb hby d6_56) rfl rfl (pc' := 57) rfl ?_
  refine k_dup X887 hx (hb hby d6_57) rfl (pc' := 58) rfl ?_
  have F888 := (F879.other W887 (Or.inr (slot_ne (Or.inl (hw _ (List.mem_of_getElem? (i := 42) rfl))) (Or.inl (hw _ (List.mem_of_getElem? (i := 69) rfl))) (by decide) (t := .int) (t' := .int) (by decide) (by decide))))
  refine k_getF X887 hx hZ hown (host := "") (Or.inl (hw _ (List.mem_of_getElem? (i := 41) rfl))) Via.refl e887 F888 (hb hby d6_58) (pc' := 61) rfl (fun T889 X889 e889 => ?_)
  refine k_iconst X889 hx (hb hby d6_61) (pc' := 62) rfl (z := (1 : Int32)) rfl ?_
  refine k_isubL X889 hx (hb hby d6_62) (pc' := 63) rfl (z := (0 : Int32)) (by decide) ?_
  have F890 := (F872.wr W887)
  refine k_putF X889 hx hZ hown (host := "") (Or.inl (hw _ (List.mem_of_getElem? (i := 41) rfl))) Via.refl e889 F888 F890 (Or.inl (hw _ (List.mem_of_getElem? (i := 42) rfl))) (hw _ (List.mem_of_getElem? (i := 1) rfl)) (ty := .int) (by decide) rfl rfl (hb hby d6_63) (pc' := 66) rfl (fun T891 h891 X891 e891 W891 => ?_)
  have Fw891 : Fld Z h891 a1 "com/example/halter/halter/SlidingSum" "size" "I" (.int (0 : Int32)) := F888.same W891
  have N891 := Fr.snoc X891 N887 g_a1
  have Z891 : n0 ≤ h891.size := Nat.le_trans Z887 (Nat.le_of_eq W891.size.symm)
  refine k_goto X891 hx (hb hby d6_66) (pc' := 0) (by decide) ?_
  refine k_aloadN X891 hx (hb hby d6_0) rfl rfl (pc' := 1) rfl ?_
  refine k_getF X891 hx hZ hown (host := "") (Or.inl (hw _ (List.mem_of_getElem? (i := 41) rfl))) Via.refl e891 Fw891 (hb hby d6_1) (pc' := 4) rfl (fun T892 X892 e892 => ?_)
  refine k_if_le X892 hx (hb hby d6_4) (pn := 7) rfl (py := 69) (by decide) (fun _ => ?_) (fun hc => absurd hc (by decide))
  refine k_aloadN X892 hx (hb hby d6_69) rfl rfl (pc' := 70) rfl ?_
  have F893 := ((F873.other W887 (Or.inr (slot_ne (Or.inl (hw _ (List.mem_of_getElem? (i := 12) rfl))) (Or.inl (hw _ (List.mem_of_getElem? (i := 69) rfl))) (by decide) (t := (.array .long)) (t' := .int) (by decide) (by decide)))).other W891 (Or.inr (slot_ne (Or.inl (hw _ (List.mem_of_getElem? (i := 12) rfl))) (Or.inl (hw _ (List.mem_of_getElem? (i := 42) rfl))) (by decide) (t := (.array .long)) (t' := .int) (by decide) (by decide))))
  refine k_getF X892 hx hZ hown (host := "") (Or.inl (hw _ (List.mem_of_getElem? (i := 11) rfl))) Via.refl e892 F893 (hb hby d6_70) (pc' := 73) rfl (fun T894 X894 e894 => ?_)
  have F895 := ((F881.other W887 (Ne.symm (Nat.ne_of_lt (Nat.lt_trans (Nat.lt_trans lt0_0 lt0_1) lt0_2)))).other W891 (Ne.symm (Nat.ne_of_lt (Nat.lt_trans (Nat.lt_trans lt0_0 lt0_1) lt0_2))))
  refine k_alen X894 hx hZ e894 F895 (hb hby d6_73) (pc' := 74) rfl ?_
  refine k_istoreN X894 hx (hb hby d6_74) (Ls' := #[.val (.ref a1), .val (.int (8 : Int32))]) rfl (pc' := 75) rfl ?_
  refine k_iloadN X894 hx (hb hby d6_75) rfl (pc' := 76) rfl ?_
  refine k_bipush X894 hx (hb hby d6_76) (pc' := 78) rfl (z := (8 : Int32)) rfl ?_
  refine k_icmp_le X894 hx (hb hby d6_78) (pn := 81) rfl (py := 98) (by decide) (fun _ => ?_) (fun hc => absurd hc (by decide))
  refine k_iloadN X894 hx (hb hby d6_98) rfl (pc' := 99) rfl ?_
  refine k_aloadN X894 hx (hb hby d6_99) rfl rfl (pc' := 100) rfl ?_
  refine k_getF X894 hx hZ hown (host := "") (Or.inl (hw _ (List.mem_of_getElem? (i := 11) rfl))) Via.refl e894 F893 (hb hby d6_100) (pc' := 103) rfl (fun T896 X896 e896 => ?_)
  refine k_alen X896 hx hZ e896 F895 (hb hby d6_103) (pc' := 104) rfl ?_
  refine k_icmp_eq X896 hx (hb hby d6_104) (pn := 107) rfl (py := 112) (by decide) (fun _ => ?_) (fun hc => absurd (by decide) hc)
  have F897 := (F890.wr W891)
  have F898 := ((F874.other W887 (Or.inr (slot_ne (Or.inl (hw _ (List.mem_of_getElem? (i := 14) rfl))) (Or.inl (hw _ (List.mem_of_getElem? (i := 69) rfl))) (by decide) (t := (.array .long)) (t' := .int) (by decide) (by decide)))).other W891 (Or.inr (slot_ne (Or.inl (hw _ (List.mem_of_getElem? (i := 14) rfl))) (Or.inl (hw _ (List.mem_of_getElem? (i := 42) rfl))) (by decide) (t := (.array .long)) (t' := .int) (by decide) (by decide))))
  have F899 := ((F875.other W887 (Or.inr (slot_ne (Or.inr (hw _ (List.mem_of_getElem? (i := 16) rfl))) (Or.inl (hw _ (List.mem_of_getElem? (i := 69) rfl))) (by decide) (t := .long) (t' := .int) (by decide) (by decide)))).other W891 (Or.inr (slot_ne (Or.inr (hw _ (List.mem_of_getElem? (i := 16) rfl))) (Or.inl (hw _ (List.mem_of_getElem? (i := 42) rfl))) (by decide) (t := .long) (t' := .int) (by decide) (by decide))))
  have F900 := ((F876.other W887 (Or.inr (slot_ne (Or.inr (hw _ (List.mem_of_getElem? (i := 18) rfl))) (Or.inl (hw _ (List.mem_of_getElem? (i := 69) rfl))) (by decide) (t := .long) (t' := .int) (by decide) (by decide)))).other W891 (Or.inr (slot_ne (Or.inr (hw _ (List.mem_of_getElem? (i := 18) rfl))) (Or.inl (hw _ (List.mem_of_getElem? (i := 42) rfl))) (by decide) (t := .long) (t' := .int) (by decide) (by decide))))
  have F901 := ((F877.other W887 (Or.inr (slot_ne (Or.inl (hw _ (List.mem_of_getElem? (i := 25) rfl))) (Or.inl (hw _ (List.mem_of_getElem? (i := 69) rfl))) (by decide) (t := .boolean) (t' := .int) (by decide) (by decide)))).other W891 (Or.inr (slot_ne (Or.inl (hw _ (List.mem_of_getElem? (i := 25) rfl))) (Or.inl (hw _ (List.mem_of_getElem? (i := 42) rfl))) (by decide) (t := .boolean) (t' := .int) (by decide) (by decide))))
  have F902 := ((F878.other W887 (Or.inr (slot_ne (Or.inl (hw _ (List.mem_of_getElem? (i := 36) rfl))) (Or.inl (hw _ (List.mem_of_getElem? (i := 69) rfl))) (by decide) (t := .long) (t' := .int) (by decide) (by decide)))).other W891 (Or.inr (slot_ne (Or.inl (hw _ (List.mem_of_getElem? (i := 36) rfl))) (Or.inl (hw _ (List.mem_of_getElem? (i := 42) rfl))) (by decide) (t := .long) (t' := .int) (by decide) (by decide))))
  have F903 := ((Fw871.other W887 (Or.inr (slot_ne (Or.inl (hw _ (List.mem_of_getElem? (i := 44) rfl))) (Or.inl (hw _ (List.mem_of_getElem? (i := 69) rfl))) (by decide) (t := .long) (t' := .int) (by decide) (by decide)))).other W891 (Or.inr (slot_ne (Or.inl (hw _ (List.mem_of_getElem? (i := 44) rfl))) (Or.inl (hw _ (List.mem_of_getElem? (i := 42) rfl))) (by decide) (t := .long) (t' := .int) (by decide) (by decide))))
  have F904 := (Fw887.other W891 (Or.inr (slot_ne (Or.inl (hw _ (List.mem_of_getElem? (i := 69) rfl))) (Or.inl (hw _ (List.mem_of_getElem? (i := 42) rfl))) (by decide) (t := .int) (t' := .int) (by decide) (by decide))))
  have F905 := (((F0_11.other W871 (Ne.symm (Nat.ne_of_lt lt0_0))).other W887 (Ne.symm (Nat.ne_of_lt lt0_0))).other W891 (Ne.symm (Nat.ne_of_lt lt0_0)))
  have F906 := (((F0_13.other W871 (Ne.symm (Nat.ne_of_lt (Nat.lt_trans lt0_0 lt0_1)))).other W887 (Ne.symm (Nat.ne_of_lt (Nat.lt_trans lt0_0 lt0_1)))).other W891 (Ne.symm (Nat.ne_of_lt (Nat.lt_trans lt0_0 lt0_1))))
  have F907 := ((F882.other W887 (Ne.symm (Nat.ne_of_lt (Nat.lt_trans (Nat.lt_trans (Nat.lt_trans lt0_0 lt0_1) lt0_2) lt0_3)))).other W891 (Ne.symm (Nat.ne_of_lt (Nat.lt_trans (Nat.lt_trans (Nat.lt_trans lt0_0 lt0_1) lt0_2) lt0_3))))
  exact k_ret X896 hx Bd.returns (hb hby d6_112) hlk (by decide) (by decide) (by rw [e896]; exact ⟨N891, (Or.inr ⟨v863, hv863, hc865, rfl, F897, F893, F898, F899, F900, F901, F902, Fw891, F903, F904, F905, F906, F895, F907, Z891⟩)⟩)
abbrev R5_749 : Room := { frames := 2, cells := 0, slots := 0, locals := 28 }
def Q5_749 (Z : State) (a1 : Addr) (p2 : Int64) (a3 : Addr) (a4 : Addr) (p5 : Int64) (p6 : Int64) (a7 : Addr) (k8 : ClassId) (a9 : Addr) (k10 : ClassId) (k11 : ClassId) (k12 : ClassId) (h0 : Heap) (n0 : Nat) (v : Option Value) (h : Heap) (L : List Loc) : Prop := Fr n0 L ∧ ((∃ (v752 : Int64) (v805 : Int64), v752 = p2 - p6 ∧ v805 = p6 - p6 ∧ ¬ (0 : Int64) < v752 ∧ v805 < p5 ∧ v = none ∧ Exa Z h a1 "com/example/halter/halter/SlidingSum" ∧ Fld Z h a1 "com/example/halter/halter/SlidingSum" "times" "[J" (.ref a3) ∧ Fld Z h a1 "com/example/halter/halter/SlidingSum" "costs" "[J" (.ref a4) ∧ Fld Z h a1 "com/example/halter/halter/SlidingSum" "most" "J" (.long (9223372036854775807 : Int64)) ∧ Fld Z h a1 "com/example/halter/halter/SlidingSum" "length" "J" (.long p5) ∧ Fld Z h a1 "com/example/halter/halter/SlidingSum" "started" "Z" (.int (1 : Int32)) ∧ Fld Z h a1 "com/example/halter/halter/SlidingSum" "latest" "J" (.long p6) ∧ Fld Z h a1 "com/example/halter/halter/SlidingSum" "size" "I" (.int (1 : Int32)) ∧ Fld Z h a1 "com/example/halter/halter/SlidingSum" "sum" "J" (.long (1 : Int64)) ∧ Fld Z h a1 "com/example/halter/halter/SlidingSum" "head" "I" (.int (0 : Int32)) ∧ Arv Z h a7 k8 .long (0 : Int32) [] (.long (0 : Int64)) ∧ Arv Z h a9 k10 .long (0 : Int32) [] (.long (0 : Int64)) ∧ Arv Z h a3 k11 .long (8 : Int32) [(.long p6), (.long (0 : Int64)), (.long (0 : Int64)), (.long (0 : Int64)), (.long (0 : Int64)), (.long (0 : Int64)), (.long (0 : Int64)), (.long (0 : Int64))] (.long (0 : Int64)) ∧ Arv Z h a4 k12 .long (8 : Int32) [(.long (1 : Int64)), (.long (0 : Int64)), (.long (0 : Int64)), (.long (0 : Int64)), (.long (0 : Int64)), (.long (0 : Int64)), (.long (0 : Int64)), (.long (0 : Int64))] (.long (0 : Int64)) ∧ n0 ≤ h.size) ∨ (∃ (v752 : Int64) (v823 : Int64), v752 = p2 - p6 ∧ v823 = p6 - p6 ∧ ¬ (0 : Int64) < v752 ∧ ¬ v823 < p5 ∧ v = none ∧ Exa Z h a1 "com/example/halter/halter/SlidingSum" ∧ Fld Z h a1 "com/example/halter/halter/SlidingSum" "times" "[J" (.ref a3) ∧ Fld Z h a1 "com/example/halter/halter/SlidingSum" "costs" "[J" (.ref a4) ∧ Fld Z h a1 "com/example/halter/halter/SlidingSum" "most" "J" (.long (9223372036854775807 : Int64)) ∧ Fld Z h a1 "com/example/halter/halter/SlidingSum" "length" "J" (.long p5) ∧ Fld Z h a1 "com/example/halter/halter/SlidingSum" "started" "Z" (.int (1 : Int32)) ∧ Fld Z h a1 "com/example/halter/halter/SlidingSum" "latest" "J" (.long p6) ∧ Fld Z h a1 "com/example/halter/halter/SlidingSum" "size" "I" (.int (0 : Int32)) ∧ Fld Z h a1 "com/example/halter/halter/SlidingSum" "sum" "J" (.long (0 : Int64)) ∧ Fld Z h a1 "com/example/halter/halter/SlidingSum" "head" "I" (.int (1 : Int32)) ∧ Arv Z h a7 k8 .long (0 : Int32) [] (.long (0 : Int64)) ∧ Arv Z h a9 k10 .long (0 : Int32) [] (.long (0 : Int64)) ∧ Arv Z h a3 k11 .long (8 : Int32) [(.long p6), (.long (0 : Int64)), (.long (0 : Int64)), (.long (0 : Int64)), (.long (0 : Int64)), (.long (0 : Int64)), (.long (0 : Int64)), (.long (0 : Int64))] (.long (0 : Int64)) ∧ Arv Z h a4 k12 .long (8 : Int32) [(.long (1 : Int64)), (.long (0 : Int64)), (.long (0 : Int64)), (.long (0 : Int64)), (.long (0 : Int64)), (.long (0 : Int64)), (.long (0 : Int64)), (.long (0 : Int64))] (.long (0 : Int64)) ∧ n0 ≤ h.size) ∨ (∃ (v752 : Int64), v752 = p2 - p6 ∧ (0 : Int64) < v752 ∧ v752 < p5 ∧ v = none ∧ Exa Z h a1 "com/example/halter/halter/SlidingSum" ∧ Fld Z h a1 "com/example/halter/halter/SlidingSum" "times" "[J" (.ref a3) ∧ Fld Z h a1 "com/example/halter/halter/SlidingSum" "costs" "[J" (.ref a4) ∧ Fld Z h a1 "com/example/halter/halter/SlidingSum" "most" "J" (.long (9223372036854775807 : Int64)) ∧ Fld Z h a1 "com/example/halter/halter/SlidingSum" "length" "J" (.long p5) ∧ Fld Z h a1 "com/example/halter/halter/SlidingSum" "started" "Z" (.int (1 : Int32)) ∧ Fld Z h a1 "com/example/halter/halter/SlidingSum" "latest" "J" (.long p2) ∧ Fld Z h a1 "com/example/halter/halter/SlidingSum" "size" "I" (.int (1 : Int32)) ∧ Fld Z h a1 "com/example/halter/halter/SlidingSum" "sum" "J" (.long (1 : Int64)) ∧ Fld Z h a1 "com/example/halter/halter/SlidingSum" "head" "I" (.int (0 : Int32)) ∧ Arv Z h a7 k8 .long (0 : Int32) [] (.long (0 : Int64)) ∧ Arv Z h a9 k10 .long (0 : Int32) [] (.long (0 : Int64)) ∧ Arv Z h a3 k11 .long (8 : Int32) [(.long p6), (.long (0 : Int64)), (.long (0 : Int64)), (.long (0 : Int64)), (.long (0 : Int64)), (.long (0 : Int64)), (.long (0 : Int64)), (.long (0 : Int64))] (.long (0 : Int64)) ∧ Arv Z h a4 k12 .long (8 : Int32) [(.long (1 : Int64)), (.long (0 : Int64)), (.long (0 : Int64)), (.long (0 : Int64)), (.long (0 : Int64)), (.long (0 : Int64)), (.long (0 : Int64)), (.long (0 : Int64))] (.long (0 : Int64)) ∧ n0 ≤ h.size) ∨ (∃ (v752 : Int64), v752 = p2 - p6 ∧ (0 : Int64) < v752 ∧ ¬ v752 < p5 ∧ v = none ∧ Exa Z h a1 "com/example/halter/halter/SlidingSum" ∧ Fld Z h a1 "com/example/halter/halter/SlidingSum" "times" "[J" (.ref a3) ∧ Fld Z h a1 "com/example/halter/halter/SlidingSum" "costs" "[J" (.ref a4) ∧ Fld Z h a1 "com/example/halter/halter/SlidingSum" "most" "J" (.long (9223372036854775807 : Int64)) ∧ Fld Z h a1 "com/example/halter/halter/SlidingSum" "length" "J" (.long p5) ∧ Fld Z h a1 "com/example/halter/halter/SlidingSum" "started" "Z" (.int (1 : Int32)) ∧ Fld Z h a1 "com/example/halter/halter/SlidingSum" "latest" "J" (.long p2) ∧ Fld Z h a1 "com/example/halter/halter/SlidingSum" "size" "I" (.int (0 : Int32)) ∧ Fld Z h a1 "com/example/halter/halter/SlidingSum" "sum" "J" (.long (0 : Int64)) ∧ Fld Z h a1 "com/example/halter/halter/SlidingSum" "head" "I" (.int (1 : Int32)) ∧ Arv Z h a7 k8 .long (0 : Int32) [] (.long (0 : Int64)) ∧ Arv Z h a9 k10 .long (0 : Int32) [] (.long (0 : Int64)) ∧ Arv Z h a3 k11 .long (8 : Int32) [(.long p6), (.long (0 : Int64)), (.long (0 : Int64)), (.long (0 : Int64)), (.long (0 : Int64)), (.long (0 : Int64)), (.long (0 : Int64)), (.long (0 : Int64))] (.long (0 : Int64)) ∧ Arv Z h a4 k12 .long (8 : Int32) [(.long (1 : Int64)), (.long (0 : Int64)), (.long (0 : Int64)), (.long (0 : Int64)), (.long (0 : Int64)), (.long (0 : Int64)), (.long (0 : Int64)), (.long (0 : Int64))] (.long (0 : Int64)) ∧ n0 ≤ h.size))
theorem ef5_749 (m : MethodId) (x0 : Addr) (x1 : Int64) : entryFrame m #[(.ref x0), (.long x1)] 3 = mkF m 0 #[.val (.ref x0), .val (.long x1), .second] [] := by first | (simp [entryFrame, mkF, argsToLocals, Value.category]; done) | rfl
set_option maxRecDepth 65536 in
set_option maxHeartbeats 40000000 in
theorem rm5_749 (l : Launch) (Z : State) (a0 : Array Value) (hw : ∀ d ∈ tables_1, d.before a0 Z = true) (ws : List Jvm.Cond) (a1 : Addr) (p2 : Int64) (a3 : Addr) (a4 : Addr) (p5 : Int64) (p6 : Int64) (a7 : Addr) (k8 : ClassId) (a9 : Addr) (k10 : ClassId) (k11 : ClassId) (k12 : ClassId) (h0 : Heap) (n0 : Nat) (Z0 : n0 ≤ h0.size) (F0_0 : Exa Z h0 a1 "com/example/halter/halter/SlidingSum") (F0_1 : Fld Z h0 a1 "com/example/halter/halter/SlidingSum" "times" "[J" (.ref a3)) (F0_2 : Fld Z h0 a1 "com/example/halter/halter/SlidingSum" "costs" "[J" (.ref a4)) (F0_3 : Fld Z h0 a1 "com/example/halter/halter/SlidingSum" "most" "J" (.long (9223372036854775807 : Int64))) (F0_4 : Fld Z h0 a1 "com/example/halter/halter/SlidingSum" "length" "J" (.long p5)) (F0_5 : Fld Z h0 a1 "com/example/halter/halter/SlidingSum" "started" "Z" (.int (1 : Int32))) (F0_6 : Fld Z h0 a1 "com/example/halter/halter/SlidingSum" "latest" "J" (.long p6)) (F0_7 : Fld Z h0 a1 "com/example/halter/halter/SlidingSum" "size" "I" (.int (1 : Int32))) (F0_8 : Fld Z h0 a1 "com/example/halter/halter/SlidingSum" "sum" "J" (.long (1 : Int64))) (F0_9 : Fld Z h0 a1 "com/example/halter/halter/SlidingSum" "head" "I" (.int (0 : Int32))) (g_a1 : n0 ≤ a1) (F0_11 : Arv Z h0 a7 k8 .long (0 : Int32) [] (.long (0 : Int64))) (g_a7 : n0 ≤ a7) (F0_13 : Arv Z h0 a9 k10 .long (0 : Int32) [] (.long (0 : Int64))) (g_a9 : n0 ≤ a9) (F0_15 : Arv Z h0 a3 k11 .long (8 : Int32) [(.long p6), (.long (0 : Int64)), (.long (0 : Int64)), (.long (0 : Int64)), (.long (0 : Int64)), (.long (0 : Int64)), (.long (0 : Int64)), (.long (0 : Int64))] (.long (0 : Int64))) (g_a3 : n0 ≤ a3) (F0_17 : Arv Z h0 a4 k12 .long (8 : Int32) [(.long (1 : Int64)), (.long (0 : Int64)), (.long (0 : Int64)), (.long (0 : Int64)), (.long (0 : Int64)), (.long (0 : Int64)), (.long (0 : Int64)), (.long (0 : Int64))] (.long (0 : Int64))) (g_a4 : n0 ≤ a4) (lt0_0 : a1 < a7) (lt0_1 : a7 < a9) (lt0_2 : a9 < a3) (lt0_3 : a3 < a4) :
    MetFree l (⟨"com/example/halter/halter/SlidingSum", "catchUp", "(J)V"⟩ : MethodName) (head1 (Jvm.Cond.code (⟨"com/example/halter/halter/SlidingSum", "catchUp", "(J)V"⟩ : MethodName) prog_19_method_7_code 3 none :: ws) R5_749) (fun a U => a = #[(.ref a1), (.long p2)] ∧ Z.Warmed39 U.vm ∧ U.heap = h0) (fun _ _ _ _ _ => True) (fun _ U o U' => ∃ v L, o = .returned v ∧ Q5_749 Z a1 p2 a3 a4 p5 p6 a7 k8 a9 k10 k11 k12 h0 n0 v U'.heap L ∧ FrameEnd U o U' L R5_749.cells R5_749.slots) := by
 refine MetFree.of_bodySF (plainFor_of_name pn_0) hisR ?_
 intro p e s m args below meth c s₁ Bd hml0 hP hK
 obtain ⟨rfl, hZ, hh⟩ := hP
 have hx := Bd.exec
 have hby := Bd.bytes
 have hml : c.maxLocals = 3 := hml0
 have hlk : meth.locks = false := Bd.notSynchronized
 have hown : s.vm.findClass "com/example/halter/halter/SlidingSum" = some m.cls := findClass_of_methodNamed Bd.named
 have hnm := (name_of_methodNamed Bd.named Bd.method).1
 have X0 : Stand p l e R5_749 s m #[(.ref a1), (.long p2)] below meth c s₁ [] 0 0 := Stand.of_body Bd
 have e0 : s₁.heap = h0 := by rw [← hh, Bd.state]; rfl
 have N0 := Fr.nil n0
 rw [ef5_749 m a1 p2]
 show KEnds p e below s R5_749.cells R5_749.slots (Q5_749 Z a1 p2 a3 a4 p5 p6 a7 k8 a9 k10 k11 k12 h0 n0) s₁ (mkF m 0 #[.val (.ref a1), .val (.long p2), .second] [])
 refine k_aloadN X0 hx (hb hby d5_0) rfl rfl (pc' := 1) rfl ?_
 refine k_getF X0 hx hZ hown (host := "") (Or.inl (hw _ (List.mem_of_getElem? (i := 24) rfl))) Via.refl e0 F0_5 (hb hby d5_1) (pc' := 4) rfl (fun T750 X750 e750 => ?_)
 refine k_if_eq X750 hx (hb hby d5_4) (pn := 7) rfl (py := 18) (by decide) (fun hc => absurd hc (by decide)) (fun _ => ?_)
 refine k_lloadN X750 hx (hb hby d5_7) rfl (pc' := 8) rfl ?_
 refine k_aloadN X750 hx (hb hby d5_8) rfl rfl (pc' := 9) rfl ?_
 refine k_getF X750 hx hZ hown (host := "") (Or.inl (hw _ (List.mem_of_getElem? (i := 35) rfl))) Via.refl e750 F0_6 (hb hby d5_9) (pc' := 12) rfl (fun T751 X751 e751 => ?_)
 refine k_lsub X751 hx (hb hby d5_12) (pc' := 13) rfl (fun v752 hv752 => ?_)
 refine k_lconst X751 hx (hb hby d5_13) (pc' := 14) rfl (z := (0 : Int64)) rfl ?_
 refine k_lcif_le X751 hx (hb hby d5_14) (pm := 15) rfl (hb hby d5_15) (pn := 18) rfl (py := 28) (by decide) (fun hc753 => ?_) (fun hc753 => ?_)
 ·
  refine k_aloadN X751 hx (hb hby d5_28) rfl rfl (pc' := 29) rfl ?_
  refine k_callP X751 hx hZ hown (a := a1) (hw _ (List.mem_of_getElem? (i := 37) rfl)) (hw _ (List.mem_of_getElem? (i := 38) rfl)) (hw _ (List.mem_of_getElem? (i := 39) rfl)) (hw _ (List.mem_of_getElem? (i := 1) rfl)) (hw _ (List.mem_of_getElem? (i := 2) rfl)) (hw _ (List.mem_of_getElem? (i := 40) rfl)) (by decide) F0_0 (rm6_754 l Z a0 hw [] a1 a3 a4 p5 p6 a7 k8 a9 k10 k11 k12 h0 n0 Z0 F0_0 F0_1 F0_2 F0_3 F0_4 F0_5 F0_6 F0_7 F0_8 F0_9 g_a1 F0_11 g_a7 F0_13 g_a9 F0_15 g_a3 F0_17 g_a4 lt0_0 lt0_1 lt0_2 lt0_3) (by decide) (by decide) e751 (by rw [hml]; rfl) (argsL := []) (rest := []) (lenOf pd_2 rfl) rfl (W := 0) (Nat.le_refl _) rfl (hb hby d5_29) (by decide) (by decide) (pc' := 32) rfl (fun T804 L804 r804 X804 q804 => ?_)
  obtain ⟨N804, q804⟩ := q804
  have N804' := Fr.app N0 N804
  rcases q804 with ⟨v805, h806, hc807, rfl, F808, F809, F810, F811, F812, F813, F814, F815, F816, F817, F818, F819, F820, F821, Z822⟩ | ⟨v823, h824, hc825, rfl, F826, F827, F828, F829, F830, F831, F832, F833, F834, F835, F836, F837, F838, F839, Z840⟩
  ·
   show KEnds p e below s _ _ _ T804 (mkF m 32 #[.val (.ref a1), .val (.long p2), .second] [])
   exact k_ret X804 hx Bd.returns (hb hby d5_32) hlk (by decide) (by decide) ⟨N804', (Or.inl ⟨v752, v805, hv752, h806, hc753, hc807, rfl, F808, F809, F810, F811, F812, F813, F814, F815, F816, F817, F818, F819, F820, F821, Z822⟩)⟩
  ·
   show KEnds p e below s _ _ _ T804 (mkF m 32 #[.val (.ref a1), .val (.long p2), .second] [])
   exact k_ret X804 hx Bd.returns (hb hby d5_32) hlk (by decide) (by decide) ⟨N804', (Or.inr (Or.inl ⟨v752, v823, hv752, h824, hc753, hc825, rfl, F826, F827, F828, F829, F830, F831, F832, F833, F834, F835, F836, F837, F838, F839, Z840⟩))⟩
 ·
  refine k_aloadN X751 hx (hb hby d5_18) rfl rfl (pc' := 19) rfl ?_
  refine k_lloadN X751 hx (hb hby d5_19) rfl (pc' := 20) rfl ?_
  refine k_putF X751 hx hZ hown (host := "") (Or.inl (hw _ (List.mem_of_getElem? (i := 35) rfl))) Via.refl e751 F0_6 F0_0 (Or.inl (hw _ (List.mem_of_getElem? (i := 36) rfl))) (hw _ (List.mem_of_getElem? (i := 1) rfl)) (ty := .long) (by decide) rfl rfl (hb hby d5_20) (pc' := 23) rfl (fun T841 h841 X841 e841 W841 => ?_)
  have Fw841 : Fld Z h841 a1 "com/example/halter/halter/SlidingSum" "latest" "J" (.long p2) := F0_6.same W841
  have N841 := Fr.snoc X841 N0 g_a1
  have Z841 : n0 ≤ h841.size := Nat.le_trans Z0 (Nat.le_of_eq W841.size.symm)
  refine k_aloadN X841 hx (hb hby d5_23) rfl rfl (pc' := 24) rfl ?_
  refine k_iconst X841 hx (hb hby d5_24) (pc' := 25) rfl (z := (1 : Int32)) rfl ?_
  have F842 := (F0_5.other W841 (Or.inr (slot_ne (Or.inl (hw _ (List.mem_of_getElem? (i := 25) rfl))) (Or.inl (hw _ (List.mem_of_getElem? (i := 36) rfl))) (by decide) (t := .boolean) (t' := .long) (by decide) (by decide))))
  have F843 := (F0_0.wr W841)
  refine k_putF X841 hx hZ hown (host := "") (Or.inl (hw _ (List.mem_of_getElem? (i := 24) rfl))) Via.refl e841 F842 F843 (Or.inl (hw _ (List.mem_of_getElem? (i := 25) rfl))) (hw _ (List.mem_of_getElem? (i := 1) rfl)) (ty := .boolean) (by decide) rfl rfl (hb hby d5_25) (pc' := 28) rfl (fun T844 h844 X844 e844 W844 => ?_)
  have Fw844 : Fld Z h844 a1 "com/example/halter/halter/SlidingSum" "started" "Z" (.int (1 : Int32)) := F842.same W844
  have N844 := Fr.snoc X844 N841 g_a1
  have Z844 : n0 ≤ h844.size := Nat.le_trans Z841 (Nat.le_of_eq W844.size.symm)
  refine k_aloadN X844 hx (hb hby d5_28) rfl rfl (pc' := 29) rfl ?_
  have F845 := (F843.wr W844)
  have F846 := ((F0_1.other W841 (Or.inr (slot_ne (Or.inl (hw _ (List.mem_of_getElem? (i := 12) rfl))) (Or.inl (hw _ (List.mem_of_getElem? (i := 36) rfl))) (by decide) (t := (.array .long)) (t' := .long) (by decide) (by decide)))).other W844 (Or.inr (slot_ne (Or.inl (hw _ (List.mem_of_getElem? (i := 12) rfl))) (Or.inl (hw _ (List.mem_of_getElem? (i := 25) rfl))) (by decide) (t := (.array .long)) (t' := .boolean) (by decide) (by decide))))
  have F847 := ((F0_2.other W841 (Or.inr (slot_ne (Or.inl (hw _ (List.mem_of_getElem? (i := 14) rfl))) (Or.inl (hw _ (List.mem_of_getElem? (i := 36) rfl))) (by decide) (t := (.array .long)) (t' := .long) (by decide) (by decide)))).other W844 (Or.inr (slot_ne (Or.inl (hw _ (List.mem_of_getElem? (i := 14) rfl))) (Or.inl (hw _ (List.mem_of_getElem? (i := 25) rfl))) (by decide) (t := (.array .long)) (t' := .boolean) (by decide) (by decide))))
  have F848 := ((F0_3.other W841 (Or.inr (slot_ne (Or.inr (hw _ (List.mem_of_getElem? (i := 16) rfl))) (Or.inl (hw _ (List.mem_of_getElem? (i := 36) rfl))) (by decide) (t := .long) (t' := .long) (by decide) (by decide)))).other W844 (Or.inr (slot_ne (Or.inr (hw _ (List.mem_of_getElem? (i := 16) rfl))) (Or.inl (hw _ (List.mem_of_getElem? (i := 25) rfl))) (by decide) (t := .long) (t' := .boolean) (by decide) (by decide))))
  have F849 := ((F0_4.other W841 (Or.inr (slot_ne (Or.inr (hw _ (List.mem_of_getElem? (i := 18) rfl))) (Or.inl (hw _ (List.mem_of_getElem? (i := 36) rfl))) (by decide) (t := .long) (t' := .long) (by decide) (by decide)))).other W844 (Or.inr (slot_ne (Or.inr (hw _ (List.mem_of_getElem? (i := 18) rfl))) (Or.inl (hw _ (List.mem_of_getElem? (i := 25) rfl))) (by decide) (t := .long) (t' := .boolean) (by decide) (by decide))))
  have F850 := (Fw841.other W844 (Or.inr (slot_ne (Or.inl (hw _ (List.mem_of_getElem? (i := 36) rfl))) (Or.inl (hw _ (List.mem_of_getElem? (i := 25) rfl))) (by decide) (t := .long) (t' := .boolean) (by decide) (by decide))))
  have F851 := ((F0_7.other W841 (Or.inr (slot_ne (Or.inl (hw _ (List.mem_of_getElem? (i := 42) rfl))) (Or.inl (hw _ (List.mem_of_getElem? (i := 36) rfl))) (by decide) (t := .int) (t' := .long) (by decide) (by decide)))).other W844 (Or.inr (slot_ne (Or.inl (hw _ (List.mem_of_getElem? (i := 42) rfl))) (Or.inl (hw _ (List.mem_of_getElem? (i := 25) rfl))) (by decide) (t := .int) (t' := .boolean) (by decide) (by decide))))
  have F852 := ((F0_8.other W841 (Or.inr (slot_ne (Or.inl (hw _ (List.mem_of_getElem? (i := 44) rfl))) (Or.inl (hw _ (List.mem_of_getElem? (i := 36) rfl))) (by decide) (t := .long) (t' := .long) (by decide) (by decide)))).other W844 (Or.inr (slot_ne (Or.inl (hw _ (List.mem_of_getElem? (i := 44) rfl))) (Or.inl (hw _ (List.mem_of_getElem? (i := 25) rfl))) (by decide) (t := .long) (t' := .boolean) (by decide) (by decide))))
  have F853 := ((F0_9.other W841 (Or.inr (slot_ne (Or.inl (hw _ (List.mem_of_getElem? (i := 69) rfl))) (Or.inl (hw _ (List.mem_of_getElem? (i := 36) rfl))) (by decide) (t := .int) (t' := .long) (by decide) (by decide)))).other W844 (Or.inr (slot_ne (Or.inl (hw _ (List.mem_of_getElem? (i := 69) rfl))) (Or.inl (hw _ (List.mem_of_getElem? (i := 25) rfl))) (by decide) (t := .int) (t' := .boolean) (by decide) (by decide))))
  have F854 := ((F0_11.other W841 (Ne.symm (Nat.ne_of_lt lt0_0))).other W844 (Ne.symm (Nat.ne_of_lt lt0_0)))
  have F855 := ((F0_13.other W841 (Ne.symm (Nat.ne_of_lt (Nat.lt_trans lt0_0 lt0_1)))).other W844 (Ne.symm (Nat.ne_of_lt (Nat.lt_trans lt0_0 lt0_1))))
  have F856 := ((F0_15.other W841 (Ne.symm (Nat.ne_of_lt (Nat.lt_trans (Nat.lt_trans lt0_0 lt0_1) lt0_2)))).other W844 (Ne.symm (Nat.ne_of_lt (Nat.lt_trans (Nat.lt_trans lt0_0 lt0_1) lt0_2))))
  have F857 := ((F0_17.other W841 (Ne.symm (Nat.ne_of_lt (Nat.lt_trans (Nat.lt_trans (Nat.lt_trans lt0_0 lt0_1) lt0_2) lt0_3)))).other W844 (Ne.symm (Nat.ne_of_lt (Nat.lt_trans (Nat.lt_trans (Nat.lt_trans lt0_0 lt0_1) lt0_2) lt0_3))))
  refine k_callP X844 hx hZ hown (a := a1) (hw _ (List.mem_of_getElem? (i := 37) rfl)) (hw _ (List.mem_of_getElem? (i := 38) rfl)) (hw _ (List.mem_of_getElem? (i := 39) rfl)) (hw _ (List.mem_of_getElem? (i := 1) rfl)) (hw _ (List.mem_of_getElem? (i := 2) rfl)) (hw _ (List.mem_of_getElem? (i := 40) rfl)) (by decide) F845 (rm6_858 l Z a0 hw [] a1 a3 a4 p5 p2 a7 k8 a9 k10 k11 p6 k12 h844 n0 Z844 F845 F846 F847 F848 F849 Fw844 F850 F851 F852 F853 g_a1 F854 g_a7 F855 g_a9 F856 g_a3 F857 g_a4 lt0_0 lt0_1 lt0_2 lt0_3) (by decide) (by decide) e844 (by rw [hml]; rfl) (argsL := []) (rest := []) (lenOf pd_2 rfl) rfl (W := 0) (Nat.le_refl _) rfl (hb hby d5_29) (by decide) (by decide) (pc' := 32) rfl (fun T908 L908 r908 X908 q908 => ?_)
  obtain ⟨N908, q908⟩ := q908
  have N908' := Fr.app N844 N908
  rcases q908 with ⟨v909, h910, hc911, rfl, F912, F913, F914, F915, F916, F917, F918, F919, F920, F921, F922, F923, F924, F925, Z926⟩ | ⟨v927, h928, hc929, rfl, F930, F931, F932, F933, F934, F935, F936, F937, F938, F939, F940, F941, F942, F943, Z944⟩
  ·
   have hh945 : v752 = v909 := hv752.trans h910.symm
   subst hh945
   show KEnds p e below s _ _ _ T908 (mkF m 32 #[.val (.ref a1), .val (.long p2), .second] [])
   exact k_ret X908 hx Bd.returns (hb hby d5_32) hlk (by decide) (by decide) ⟨N908', (Or.inr (Or.inr (Or.inl ⟨v752, hv752, hc753, hc911, rfl, F912, F913, F914, F915, F916, F917, F918, F919, F920, F921, F922, F923, F924, F925, Z926⟩)))⟩
  ·
   have hh946 : v752 = v927 := hv752.trans h928.symm
   subst hh946
   show KEnds p e below s _ _ _ T908 (mkF m 32 #[.val (.ref a1), .val (.long p2), .second] [])
   exact k_ret X908 hx Bd.returns (hb hby d5_32) hlk (by decide) (by decide) ⟨N908', (Or.inr (Or.inr (Or.inr ⟨v752, hv752, hc753, hc929, rfl, F930, F931, F932, F933, F934, F935, F936, F937, F938, F939, F940, F941, F942, F943, Z944⟩)))⟩
abbrev R13_748 : Room := { frames := 3, cells := 0, slots := 0, locals := 42 }
def Q13_748 (Z : State) (a1 : Addr) (p2 : Int64) (a3 : Addr) (a4 : Addr) (p5 : Int64) (p6 : Int64) (a7 : Addr) (k8 : ClassId) (a9 : Addr) (k10 : ClassId) (k11 : ClassId) (k12 : ClassId) (h0 : Heap) (n0 : Nat) (v : Option Value) (h : Heap) (L : List Loc) : Prop := Fr n0 L ∧ ((∃ (v948 : Int64) (v949 : Int64), v948 = p2 - p6 ∧ v949 = p6 - p6 ∧ ¬ (0 : Int64) < v948 ∧ v949 < p5 ∧ v = some (.long (1 : Int64)) ∧ Exa Z h a1 "com/example/halter/halter/SlidingSum" ∧ Fld Z h a1 "com/example/halter/halter/SlidingSum" "times" "[J" (.ref a3) ∧ Fld Z h a1 "com/example/halter/halter/SlidingSum" "costs" "[J" (.ref a4) ∧ Fld Z h a1 "com/example/halter/halter/SlidingSum" "most" "J" (.long (9223372036854775807 : Int64)) ∧ Fld Z h a1 "com/example/halter/halter/SlidingSum" "length" "J" (.long p5) ∧ Fld Z h a1 "com/example/halter/halter/SlidingSum" "started" "Z" (.int (1 : Int32)) ∧ Fld Z h a1 "com/example/halter/halter/SlidingSum" "latest" "J" (.long p6) ∧ Fld Z h a1 "com/example/halter/halter/SlidingSum" "size" "I" (.int (1 : Int32)) ∧ Fld Z h a1 "com/example/halter/halter/SlidingSum" "sum" "J" (.long (1 : Int64)) ∧ Fld Z h a1 "com/example/halter/halter/SlidingSum" "head" "I" (.int (0 : Int32)) ∧ Arv Z h a7 k8 .long (0 : Int32) [] (.long (0 : Int64)) ∧ Arv Z h a9 k10 .long (0 : Int32) [] (.long (0 : Int64)) ∧ Arv Z h a3 k11 .long (8 : Int32) [(.long p6), (.long (0 : Int64)), (.long (0 : Int64)), (.long (0 : Int64)), (.long (0 : Int64)), (.long (0 : Int64)), (.long (0 : Int64)), (.long (0 : Int64))] (.long (0 : Int64)) ∧ Arv Z h a4 k12 .long (8 : Int32) [(.long (1 : Int64)), (.long (0 : Int64)), (.long (0 : Int64)), (.long (0 : Int64)), (.long (0 : Int64)), (.long (0 : Int64)), (.long (0 : Int64)), (.long (0 : Int64))] (.long (0 : Int64)) ∧ n0 ≤ h.size) ∨ (∃ (v969 : Int64) (v970 : Int64), v969 = p2 - p6 ∧ v970 = p6 - p6 ∧ ¬ (0 : Int64) < v969 ∧ ¬ v970 < p5 ∧ v = some (.long (0 : Int64)) ∧ Exa Z h a1 "com/example/halter/halter/SlidingSum" ∧ Fld Z h a1 "com/example/halter/halter/SlidingSum" "times" "[J" (.ref a3) ∧ Fld Z h a1 "com/example/halter/halter/SlidingSum" "costs" "[J" (.ref a4) ∧ Fld Z h a1 "com/example/halter/halter/SlidingSum" "most" "J" (.long (9223372036854775807 : Int64)) ∧ Fld Z h a1 "com/example/halter/halter/SlidingSum" "length" "J" (.long p5) ∧ Fld Z h a1 "com/example/halter/halter/SlidingSum" "started" "Z" (.int (1 : Int32)) ∧ Fld Z h a1 "com/example/halter/halter/SlidingSum" "latest" "J" (.long p6) ∧ Fld Z h a1 "com/example/halter/halter/SlidingSum" "size" "I" (.int (0 : Int32)) ∧ Fld Z h a1 "com/example/halter/halter/SlidingSum" "sum" "J" (.long (0 : Int64)) ∧ Fld Z h a1 "com/example/halter/halter/SlidingSum" "head" "I" (.int (1 : Int32)) ∧ Arv Z h a7 k8 .long (0 : Int32) [] (.long (0 : Int64)) ∧ Arv Z h a9 k10 .long (0 : Int32) [] (.long (0 : Int64)) ∧ Arv Z h a3 k11 .long (8 : Int32) [(.long p6), (.long (0 : Int64)), (.long (0 : Int64)), (.long (0 : Int64)), (.long (0 : Int64)), (.long (0 : Int64)), (.long (0 : Int64)), (.long (0 : Int64))] (.long (0 : Int64)) ∧ Arv Z h a4 k12 .long (8 : Int32) [(.long (1 : Int64)), (.long (0 : Int64)), (.long (0 : Int64)), (.long (0 : Int64)), (.long (0 : Int64)), (.long (0 : Int64)), (.long (0 : Int64)), (.long (0 : Int64))] (.long (0 : Int64)) ∧ n0 ≤ h.size) ∨ (∃ (v990 : Int64), v990 = p2 - p6 ∧ (0 : Int64) < v990 ∧ v990 < p5 ∧ v = some (.long (1 : Int64)) ∧ Exa Z h a1 "com/example/halter/halter/SlidingSum" ∧ Fld Z h a1 "com/example/halter/halter/SlidingSum" "times" "[J" (.ref a3) ∧ Fld Z h a1 "com/example/halter/halter/SlidingSum" "costs" "[J" (.ref a4) ∧ Fld Z h a1 "com/example/halter/halter/SlidingSum" "most" "J" (.long (9223372036854775807 : Int64)) ∧ Fld Z h a1 "com/example/halter/halter/SlidingSum" "length" "J" (.long p5) ∧ Fld Z h a1 "com/example/halter/halter/SlidingSum" "started" "Z" (.int (1 : Int32)) ∧ Fld Z h a1 "com/example/halter/halter/SlidingSum" "latest" "J" (.long p2) ∧ Fld Z h a1 "com/example/halter/halter/SlidingSum" "size" "I" (.int (1 : Int32)) ∧ Fld Z h a1 "com/example/halter/halter/SlidingSum" "sum" "J" (.long (1 : Int64)) ∧ Fld Z h a1 "com/example/halter/halter/SlidingSum" "head" "I" (.int (0 : Int32)) ∧ Arv Z h a7 k8 .long (0 : Int32) [] (.long (0 : Int64)) ∧ Arv Z h a9 k10 .long (0 : Int32) [] (.long (0 : Int64)) ∧ Arv Z h a3 k11 .long (8 : Int32) [(.long p6), (.long (0 : Int64)), (.long (0 : Int64)), (.long (0 : Int64)), (.long (0 : Int64)), (.long (0 : Int64)), (.long (0 : Int64)), (.long (0 : Int64))] (.long (0 : Int64)) ∧ Arv Z h a4 k12 .long (8 : Int32) [(.long (1 : Int64)), (.long (0 : Int64)), (.long (0 : Int64)), (.long (0 : Int64)), (.long (0 : Int64)), (.long (0 : Int64)), (.long (0 : Int64)), (.long (0 : Int64))] (.long (0 : Int64)) ∧ n0 ≤ h.size) ∨ (∃ (v1009 : Int64), v1009 = p2 - p6 ∧ (0 : Int64) < v1009 ∧ ¬ v1009 < p5 ∧ v = some (.long (0 : Int64)) ∧ Exa Z h a1 "com/example/halter/halter/SlidingSum" ∧ Fld Z h a1 "com/example/halter/halter/SlidingSum" "times" "[J" (.ref a3) ∧ Fld Z h a1 "com/example/halter/halter/SlidingSum" "costs" "[J" (.ref a4) ∧ Fld Z h a1 "com/example/halter/halter/SlidingSum" "most" "J" (.long (9223372036854775807 : Int64)) ∧ Fld Z h a1 "com/example/halter/halter/SlidingSum" "length" "J" (.long p5) ∧ Fld Z h a1 "com/example/halter/halter/SlidingSum" "started" "Z" (.int (1 : Int32)) ∧ Fld Z h a1 "com/example/halter/halter/SlidingSum" "latest" "J" (.long p2) ∧ Fld Z h a1 "com/example/halter/halter/SlidingSum" "size" "I" (.int (0 : Int32)) ∧ Fld Z h a1 "com/example/halter/halter/SlidingSum" "sum" "J" (.long (0 : Int64)) ∧ Fld Z h a1 "com/example/halter/halter/SlidingSum" "head" "I" (.int (1 : Int32)) ∧ Arv Z h a7 k8 .long (0 : Int32) [] (.long (0 : Int64)) ∧ Arv Z h a9 k10 .long (0 : Int32) [] (.long (0 : Int64)) ∧ Arv Z h a3 k11 .long (8 : Int32) [(.long p6), (.long (0 : Int64)), (.long (0 : Int64)), (.long (0 : Int64)), (.long (0 : Int64)), (.long (0 : Int64)), (.long (0 : Int64)), (.long (0 : Int64))] (.long (0 : Int64)) ∧ Arv Z h a4 k12 .long (8 : Int32) [(.long (1 : Int64)), (.long (0 : Int64)), (.long (0 : Int64)), (.long (0 : Int64)), (.long (0 : Int64)), (.long (0 : Int64)), (.long (0 : Int64)), (.long (0 : Int64))] (.long (0 : Int64)) ∧ n0 ≤ h.size))
theorem ef13_748 (m : MethodId) (x0 : Addr) (x1 : Int64) : entryFrame m #[(.ref x0), (.long x1)] 3 = mkF m 0 #[.val (.ref x0), .val (.long x1), .second] [] := by first | (simp [entryFrame, mkF, argsToLocals, Value.category]; done) | rfl
set_option maxRecDepth 65536 in
set_option maxHeartbeats 40000000 in
theorem rm13_748 (l : Launch) (Z : State) (a0 : Array Value) (hw : ∀ d ∈ tables_1, d.before a0 Z = true) (ws : List Jvm.Cond) (a1 : Addr) (p2 : Int64) (a3 : Addr) (a4 : Addr) (p5 : Int64) (p6 : Int64) (a7 : Addr) (k8 : ClassId) (a9 : Addr) (k10 : ClassId) (k11 : ClassId) (k12 : ClassId) (h0 : Heap) (n0 : Nat) (Z0 : n0 ≤ h0.size) (F0_0 : Exa Z h0 a1 "com/example/halter/halter/SlidingSum") (F0_1 : Fld Z h0 a1 "com/example/halter/halter/SlidingSum" "times" "[J" (.ref a3)) (F0_2 : Fld Z h0 a1 "com/example/halter/halter/SlidingSum" "costs" "[J" (.ref a4)) (F0_3 : Fld Z h0 a1 "com/example/halter/halter/SlidingSum" "most" "J" (.long (9223372036854775807 : Int64))) (F0_4 : Fld Z h0 a1 "com/example/halter/halter/SlidingSum" "length" "J" (.long p5)) (F0_5 : Fld Z h0 a1 "com/example/halter/halter/SlidingSum" "started" "Z" (.int (1 : Int32))) (F0_6 : Fld Z h0 a1 "com/example/halter/halter/SlidingSum" "latest" "J" (.long p6)) (F0_7 : Fld Z h0 a1 "com/example/halter/halter/SlidingSum" "size" "I" (.int (1 : Int32))) (F0_8 : Fld Z h0 a1 "com/example/halter/halter/SlidingSum" "sum" "J" (.long (1 : Int64))) (F0_9 : Fld Z h0 a1 "com/example/halter/halter/SlidingSum" "head" "I" (.int (0 : Int32))) (g_a1 : n0 ≤ a1) (F0_11 : Arv Z h0 a7 k8 .long (0 : Int32) [] (.long (0 : Int64))) (g_a7 : n0 ≤ a7) (F0_13 : Arv Z h0 a9 k10 .long (0 : Int32) [] (.long (0 : Int64))) (g_a9 : n0 ≤ a9) (F0_15 : Arv Z h0 a3 k11 .long (8 : Int32) [(.long p6), (.long (0 : Int64)), (.long (0 : Int64)), (.long (0 : Int64)), (.long (0 : Int64)), (.long (0 : Int64)), (.long (0 : Int64)), (.long (0 : Int64))] (.long (0 : Int64))) (g_a3 : n0 ≤ a3) (F0_17 : Arv Z h0 a4 k12 .long (8 : Int32) [(.long (1 : Int64)), (.long (0 : Int64)), (.long (0 : Int64)), (.long (0 : Int64)), (.long (0 : Int64)), (.long (0 : Int64)), (.long (0 : Int64)), (.long (0 : Int64))] (.long (0 : Int64))) (g_a4 : n0 ≤ a4) (lt0_0 : a1 < a7) (lt0_1 : a7 < a9) (lt0_2 : a9 < a3) (lt0_3 : a3 < a4) :
    MetFree l (⟨"com/example/halter/halter/SlidingSum", "at", "(J)J"⟩ : MethodName) (head1 (Jvm.Cond.code (⟨"com/example/halter/halter/SlidingSum", "at", "(J)J"⟩ : MethodName) prog_19_method_2_code 3 (some .long) :: ws) R13_748) (fun a U => a = #[(.ref a1), (.long p2)] ∧ Z.Warmed39 U.vm ∧ U.heap = h0) (fun _ _ _ _ _ => True) (fun _ U o U' => ∃ v L, o = .returned v ∧ Q13_748 Z a1 p2 a3 a4 p5 p6 a7 k8 a9 k10 k11 k12 h0 n0 v U'.heap L ∧ FrameEnd U o U' L R13_748.cells R13_748.slots) := by
 refine MetFree.of_bodySF (plainFor_of_name pn_0) hisR ?_
 intro p e s m args below meth c s₁ Bd hml0 hP hK
 obtain ⟨rfl, hZ, hh⟩ := hP
 have hx := Bd.exec
 have hby := Bd.bytes
 have hml : c.maxLocals = 3 := hml0
 have hlk : meth.locks = false := Bd.notSynchronized
 have hown : s.vm.findClass "com/example/halter/halter/SlidingSum" = some m.cls := findClass_of_methodNamed Bd.named
 have hnm := (name_of_methodNamed Bd.named Bd.method).1
 have X0 : Stand p l e R13_748 s m #[(.ref a1), (.long p2)] below meth c s₁ [] 0 0 := Stand.of_body Bd
 have e0 : s₁.heap = h0 := by rw [← hh, Bd.state]; rfl
 have N0 := Fr.nil n0
 rw [ef13_748 m a1 p2]
 show KEnds p e below s R13_748.cells R13_748.slots (Q13_748 Z a1 p2 a3 a4 p5 p6 a7 k8 a9 k10 k11 k12 h0 n0) s₁ (mkF m 0 #[.val (.ref a1), .val (.long p2), .second] [])
 refine k_aloadN X0 hx (hb hby d13_0) rfl rfl (pc' := 1) rfl ?_
 refine k_lloadN X0 hx (hb hby d13_1) rfl (pc' := 2) rfl ?_
 refine k_callP X0 hx hZ hown (a := a1) (hw _ (List.mem_of_getElem? (i := 31) rfl)) (hw _ (List.mem_of_getElem? (i := 32) rfl)) (hw _ (List.mem_of_getElem? (i := 33) rfl)) (hw _ (List.mem_of_getElem? (i := 1) rfl)) (hw _ (List.mem_of_getElem? (i := 2) rfl)) (hw _ (List.mem_of_getElem? (i := 34) rfl)) (by decide) F0_0 (rm5_749 l Z a0 hw [] a1 p2 a3 a4 p5 p6 a7 k8 a9 k10 k11 k12 h0 n0 Z0 F0_0 F0_1 F0_2 F0_3 F0_4 F0_5 F0_6 F0_7 F0_8 F0_9 g_a1 F0_11 g_a7 F0_13 g_a9 F0_15 g_a3 F0_17 g_a4 lt0_0 lt0_1 lt0_2 lt0_3) (by decide) (by decide) e0 (by rw [hml]; rfl) (argsL := [(.long p2)]) (rest := []) (lenOf pd_3 rfl) rfl (W := 0) (Nat.le_refl _) rfl (hb hby d13_2) (by decide) (by decide) (pc' := 5) rfl (fun T947 L947 r947 X947 q947 => ?_)
 obtain ⟨N947, q947⟩ := q947
 have N947' := Fr.app N0 N947
 rcases q947 with ⟨v948, v949, h950, h951, hc952, hc953, rfl, F954, F955, F956, F957, F958, F959, F960, F961, F962, F963, F964, F965, F966, F967, Z968⟩ | ⟨v969, v970, h971, h972, hc973, hc974, rfl, F975, F976, F977, F978, F979, F980, F981, F982, F983, F984, F985, F986, F987, F988, Z989⟩ | ⟨v990, h991, hc992, hc993, rfl, F994, F995, F996, F997, F998, F999, F1000, F1001, F1002, F1003, F1004, F1005, F1006, F1007, Z1008⟩ | ⟨v1009, h1010, hc1011, hc1012, rfl, F1013, F1014, F1015, F1016, F1017, F1018, F1019, F1020, F1021, F1022, F1023, F1024, F1025, F1026, Z1027⟩
 ·
  show KEnds p e below s _ _ _ T947 (mkF m 5 #[.val (.ref a1), .val (.long p2), .second] [])
  refine k_aloadN X947 hx (hb hby d13_5) rfl rfl (pc' := 6) rfl ?_
  refine k_getF X947 hx hZ hown (host := "") (Or.inl (hw _ (List.mem_of_getElem? (i := 43) rfl))) Via.refl rfl F962 (hb hby d13_6) (pc' := 9) rfl (fun T1028 X1028 e1028 => ?_)
  exact k_retL X1028 hx Bd.returns (hb hby d13_9) hlk (by decide) (by decide) (by rw [e1028]; exact ⟨N947', (Or.inl ⟨v948, v949, h950, h951, hc952, hc953, rfl, F954, F955, F956, F957, F958, F959, F960, F961, F962, F963, F964, F965, F966, F967, Z968⟩)⟩)
 ·
  show KEnds p e below s _ _ _ T947 (mkF m 5 #[.val (.ref a1), .val (.long p2), .second] [])
  refine k_aloadN X947 hx (hb hby d13_5) rfl rfl (pc' := 6) rfl ?_
  refine k_getF X947 hx hZ hown (host := "") (Or.inl (hw _ (List.mem_of_getElem? (i := 43) rfl))) Via.refl rfl F983 (hb hby d13_6) (pc' := 9) rfl (fun T1029 X1029 e1029 => ?_)
  exact k_retL X1029 hx Bd.returns (hb hby d13_9) hlk (by decide) (by decide) (by rw [e1029]; exact ⟨N947', (Or.inr (Or.inl ⟨v969, v970, h971, h972, hc973, hc974, rfl, F975, F976, F977, F978, F979, F980, F981, F982, F983, F984, F985, F986, F987, F988, Z989⟩))⟩)
 ·
  show KEnds p e below s _ _ _ T947 (mkF m 5 #[.val (.ref a1), .val (.long p2), .second] [])
  refine k_aloadN X947 hx (hb hby d13_5) rfl rfl (pc' := 6) rfl ?_
  refine k_getF X947 hx hZ hown (host := "") (Or.inl (hw _ (List.mem_of_getElem? (i := 43) rfl))) Via.refl rfl F1002 (hb hby d13_6) (pc' := 9) rfl (fun T1030 X1030 e1030 => ?_)
  exact k_retL X1030 hx Bd.returns (hb hby d13_9) hlk (by decide) (by decide) (by rw [e1030]; exact ⟨N947', (Or.inr (Or.inr (Or.inl ⟨v990, h991, hc992, hc993, rfl, F994, F995, F996, F997, F998, F999, F1000, F1001, F1002, F1003, F1004, F1005, F1006, F1007, Z1008⟩)))⟩)
 ·
  show KEnds p e below s _ _ _ T947 (mkF m 5 #[.val (.ref a1), .val (.long p2), .second] [])
  refine k_aloadN X947 hx (hb hby d13_5) rfl rfl (pc' := 6) rfl ?_
  refine k_getF X947 hx hZ hown (host := "") (Or.inl (hw _ (List.mem_of_getElem? (i := 43) rfl))) Via.refl rfl F1021 (hb hby d13_6) (pc' := 9) rfl (fun T1031 X1031 e1031 => ?_)
  exact k_retL X1031 hx Bd.returns (hb hby d13_9) hlk (by decide) (by decide) (by rw [e1031]; exact ⟨N947', (Or.inr (Or.inr (Or.inr ⟨v1009, h1010, hc1011, hc1012, rfl, F1013, F1014, F1015, F1016, F1017, F1018, F1019, F1020, F1021, F1022, F1023, F1024, F1025, F1026, Z1027⟩)))⟩)
abbrev R3_1135 : Room := { frames := 0, cells := 0, slots := 0, locals := 0 }
def Q3_1135 (Z : State) (a1 : Addr) (p2 : Int64) (a3 : Addr) (a4 : Addr) (p5 : Int64) (p6 : Int64) (k7 : ClassId) (k8 : ClassId) (h0 : Heap) (n0 : Nat) (v : Option Value) (h : Heap) (L : List Loc) : Prop := Fr n0 L ∧ h = h0 ∧ ((∃ (v1138 : Int64), v1138 = p6 - p2 ∧ ¬ (0 : Int64) < v1138 ∧ v = some (.int (0 : Int32))) ∨ (∃ (v1138 : Int64), v1138 = p6 - p2 ∧ (0 : Int64) < v1138 ∧ v = some (.int (1 : Int32))))
theorem ef3_1135 (m : MethodId) (x0 : Addr) (x1 : Int64) : entryFrame m #[(.ref x0), (.long x1)] 3 = mkF m 0 #[.val (.ref x0), .val (.long x1), .second] [] := by first | (simp [entryFrame, mkF, argsToLocals, Value.category]; done) | rfl
set_option maxRecDepth 65536 in
set_option maxHeartbeats 40000000 in
theorem rm3_1135 (l : Launch) (Z : State) (a0 : Array Value) (hw : ∀ d ∈ tables_1, d.before a0 Z = true) (ws : List Jvm.Cond) (a1 : Addr) (p2 : Int64) (a3 : Addr) (a4 : Addr) (p5 : Int64) (p6 : Int64) (k7 : ClassId) (k8 : ClassId) (h0 : Heap) (n0 : Nat) (Z0 : n0 ≤ h0.size) (F0_0 : Exa Z h0 a1 "com/example/halter/halter/SlidingSum") (F0_1 : Fld Z h0 a1 "com/example/halter/halter/SlidingSum" "times" "[J" (.ref a3)) (F0_2 : Fld Z h0 a1 "com/example/halter/halter/SlidingSum" "costs" "[J" (.ref a4)) (F0_3 : Fld Z h0 a1 "com/example/halter/halter/SlidingSum" "most" "J" (.long (9223372036854775807 : Int64))) (F0_4 : Fld Z h0 a1 "com/example/halter/halter/SlidingSum" "length" "J" (.long p5)) (F0_5 : Fld Z h0 a1 "com/example/halter/halter/SlidingSum" "started" "Z" (.int (1 : Int32))) (F0_6 : Fld Z h0 a1 "com/example/halter/halter/SlidingSum" "latest" "J" (.long p6)) (F0_7 : Fld Z h0 a1 "com/example/halter/halter/SlidingSum" "size" "I" (.int (0 : Int32))) (F0_8 : Fld Z h0 a1 "com/example/halter/halter/SlidingSum" "sum" "J" (.long (0 : Int64))) (F0_9 : Fld Z h0 a1 "com/example/halter/halter/SlidingSum" "head" "I" (.int (1 : Int32))) (F0_10 : Arv Z h0 a3 k7 .long (8 : Int32) [(.long p6), (.long (0 : Int64)), (.long (0 : Int64)), (.long (0 : Int64)), (.long (0 : Int64)), (.long (0 : Int64)), (.long (0 : Int64)), (.long (0 : Int64))] (.long (0 : Int64))) (F0_11 : Arv Z h0 a4 k8 .long (8 : Int32) [(.long (1 : Int64)), (.long (0 : Int64)), (.long (0 : Int64)), (.long (0 : Int64)), (.long (0 : Int64)), (.long (0 : Int64)), (.long (0 : Int64)), (.long (0 : Int64))] (.long (0 : Int64))) (lt0_0 : a1 < a3) (lt0_1 : a3 < a4) :
    MetFree l (⟨"com/example/halter/halter/SlidingSum", "givenAfter", "(J)Z"⟩ : MethodName) (head1 (Jvm.Cond.code (⟨"com/example/halter/halter/SlidingSum", "givenAfter", "(J)Z"⟩ : MethodName) prog_19_method_5_code 3 (some .boolean) :: ws) R3_1135) (fun a U => a = #[(.ref a1), (.long p2)] ∧ Z.Warmed39 U.vm ∧ U.heap = h0) (fun _ _ _ _ _ => True) (fun _ U o U' => ∃ v L, o = .returned v ∧ Q3_1135 Z a1 p2 a3 a4 p5 p6 k7 k8 h0 n0 v U'.heap L ∧ FrameEnd U o U' L R3_1135.cells R3_1135.slots) := by
 refine MetFree.of_bodySF (plainFor_of_name pn_0) hisR ?_
 intro p e s m args below meth c s₁ Bd hml0 hP hK
 obtain ⟨rfl, hZ, hh⟩ := hP
 have hx := Bd.exec
 have hby := Bd.bytes
 have hml : c.maxLocals = 3 := hml0
 have hlk : meth.locks = false := Bd.notSynchronized
 have hown : s.vm.findClass "com/example/halter/halter/SlidingSum" = some m.cls := findClass_of_methodNamed Bd.named
 have hnm := (name_of_methodNamed Bd.named Bd.method).1
 have X0 : Stand p l e R3_1135 s m #[(.ref a1), (.long p2)] below meth c s₁ [] 0 0 := Stand.of_body Bd
 have e0 : s₁.heap = h0 := by rw [← hh, Bd.state]; rfl
 have N0 := Fr.nil n0
 rw [ef3_1135 m a1 p2]
 show KEnds p e below s R3_1135.cells R3_1135.slots (Q3_1135 Z a1 p2 a3 a4 p5 p6 k7 k8 h0 n0) s₁ (mkF m 0 #[.val (.ref a1), .val (.long p2), .second] [])
 refine k_aloadN X0 hx (hb hby d3_0) rfl rfl (pc' := 1) rfl ?_
 refine k_getF X0 hx hZ hown (host := "") (Or.inl (hw _ (List.mem_of_getElem? (i := 24) rfl))) Via.refl e0 F0_5 (hb hby d3_1) (pc' := 4) rfl (fun T1136 X1136 e1136 => ?_)
 refine k_if_eq X1136 hx (hb hby d3_4) (pn := 7) rfl (py := 22) (by decide) (fun hc => absurd hc (by decide)) (fun _ => ?_)
 refine k_aloadN X1136 hx (hb hby d3_7) rfl rfl (pc' := 8) rfl ?_
 refine k_getF X1136 hx hZ hown (host := "") (Or.inl (hw _ (List.mem_of_getElem? (i := 35) rfl))) Via.refl e1136 F0_6 (hb hby d3_8) (pc' := 11) rfl (fun T1137 X1137 e1137 => ?_)
 refine k_lloadN X1137 hx (hb hby d3_11) rfl (pc' := 12) rfl ?_
 refine k_lsub X1137 hx (hb hby d3_12) (pc' := 13) rfl (fun v1138 hv1138 => ?_)
 refine k_lconst X1137 hx (hb hby d3_13) (pc' := 14) rfl (z := (0 : Int64)) rfl ?_
 refine k_lcif_le X1137 hx (hb hby d3_14) (pm := 15) rfl (hb hby d3_15) (pn := 18) rfl (py := 22) (by decide) (fun hc1139 => ?_) (fun hc1139 => ?_)
 ·
  refine k_iconst X1137 hx (hb hby d3_22) (pc' := 23) rfl (z := (0 : Int32)) rfl ?_
  exact k_retN X1137 hx (t := .boolean) Bd.returns (by simp) (hb hby d3_23) hlk (by decide) (by decide) (z' := (0 : Int32)) rfl ⟨N0, e1137, (Or.inl ⟨v1138, hv1138, hc1139, rfl⟩)⟩
 ·
  refine k_iconst X1137 hx (hb hby d3_18) (pc' := 19) rfl (z := (1 : Int32)) rfl ?_
  refine k_goto X1137 hx (hb hby d3_19) (pc' := 23) (by decide) ?_
  exact k_retN X1137 hx (t := .boolean) Bd.returns (by simp) (hb hby d3_23) hlk (by decide) (by decide) (z' := (1 : Int32)) rfl ⟨N0, e1137, (Or.inr ⟨v1138, hv1138, hc1139, rfl⟩)⟩
abbrev R3_1160 : Room := { frames := 0, cells := 0, slots := 0, locals := 0 }
def Q3_1160 (Z : State) (a1 : Addr) (p2 : Int64) (a3 : Addr) (a4 : Addr) (p5 : Int64) (p6 : Int64) (k7 : ClassId) (p8 : Int64) (k9 : ClassId) (h0 : Heap) (n0 : Nat) (v : Option Value) (h : Heap) (L : List Loc) : Prop := Fr n0 L ∧ h = h0 ∧ ((∃ (v1163 : Int64), v1163 = p6 - p2 ∧ ¬ (0 : Int64) < v1163 ∧ v = some (.int (0 : Int32))) ∨ (∃ (v1163 : Int64), v1163 = p6 - p2 ∧ (0 : Int64) < v1163 ∧ v = some (.int (1 : Int32))))
theorem ef3_1160 (m : MethodId) (x0 : Addr) (x1 : Int64) : entryFrame m #[(.ref x0), (.long x1)] 3 = mkF m 0 #[.val (.ref x0), .val (.long x1), .second] [] := by first | (simp [entryFrame, mkF, argsToLocals, Value.category]; done) | rfl
set_option maxRecDepth 65536 in
set_option maxHeartbeats 40000000 in
theorem rm3_1160 (l : Launch) (Z : State) (a0 : Array Value) (hw : ∀ d ∈ tables_1, d.before a0 Z = true) (ws : List Jvm.Cond) (a1 : Addr) (p2 : Int64) (a3 : Addr) (a4 : Addr) (p5 : Int64) (p6 : Int64) (k7 : ClassId) (p8 : Int64) (k9 : ClassId) (h0 : Heap) (n0 : Nat) (Z0 : n0 ≤ h0.size) (F0_0 : Exa Z h0 a1 "com/example/halter/halter/SlidingSum") (F0_1 : Fld Z h0 a1 "com/example/halter/halter/SlidingSum" "times" "[J" (.ref a3)) (F0_2 : Fld Z h0 a1 "com/example/halter/halter/SlidingSum" "costs" "[J" (.ref a4)) (F0_3 : Fld Z h0 a1 "com/example/halter/halter/SlidingSum" "most" "J" (.long (9223372036854775807 : Int64))) (F0_4 : Fld Z h0 a1 "com/example/halter/halter/SlidingSum" "length" "J" (.long p5)) (F0_5 : Fld Z h0 a1 "com/example/halter/halter/SlidingSum" "started" "Z" (.int (1 : Int32))) (F0_6 : Fld Z h0 a1 "com/example/halter/halter/SlidingSum" "latest" "J" (.long p6)) (F0_7 : Fld Z h0 a1 "com/example/halter/halter/SlidingSum" "size" "I" (.int (1 : Int32))) (F0_8 : Fld Z h0 a1 "com/example/halter/halter/SlidingSum" "sum" "J" (.long (1 : Int64))) (F0_9 : Fld Z h0 a1 "com/example/halter/halter/SlidingSum" "head" "I" (.int (0 : Int32))) (F0_10 : Arv Z h0 a3 k7 .long (8 : Int32) [(.long p8), (.long (0 : Int64)), (.long (0 : Int64)), (.long (0 : Int64)), (.long (0 : Int64)), (.long (0 : Int64)), (.long (0 : Int64)), (.long (0 : Int64))] (.long (0 : Int64))) (F0_11 : Arv Z h0 a4 k9 .long (8 : Int32) [(.long (1 : Int64)), (.long (0 : Int64)), (.long (0 : Int64)), (.long (0 : Int64)), (.long (0 : Int64)), (.long (0 : Int64)), (.long (0 : Int64)), (.long (0 : Int64))] (.long (0 : Int64))) (lt0_0 : a1 < a3) (lt0_1 : a3 < a4) :
    MetFree l (⟨"com/example/halter/halter/SlidingSum", "givenAfter", "(J)Z"⟩ : MethodName) (head1 (Jvm.Cond.code (⟨"com/example/halter/halter/SlidingSum", "givenAfter", "(J)Z"⟩ : MethodName) prog_19_method_5_code 3 (some .boolean) :: ws) R3_1160) (fun a U => a = #[(.ref a1), (.long p2)] ∧ Z.Warmed39 U.vm ∧ U.heap = h0) (fun _ _ _ _ _ => True) (fun _ U o U' => ∃ v L, o = .returned v ∧ Q3_1160 Z a1 p2 a3 a4 p5 p6 k7 p8 k9 h0 n0 v U'.heap L ∧ FrameEnd U o U' L R3_1160.cells R3_1160.slots) := by
 refine MetFree.of_bodySF (plainFor_of_name pn_0) hisR ?_
 intro p e s m args below meth c s₁ Bd hml0 hP hK
 obtain ⟨rfl, hZ, hh⟩ := hP
 have hx := Bd.exec
 have hby := Bd.bytes
 have hml : c.maxLocals = 3 := hml0
 have hlk : meth.locks = false := Bd.notSynchronized
 have hown : s.vm.findClass "com/example/halter/halter/SlidingSum" = some m.cls := findClass_of_methodNamed Bd.named
 have hnm := (name_of_methodNamed Bd.named Bd.method).1
 have X0 : Stand p l e R3_1160 s m #[(.ref a1), (.long p2)] below meth c s₁ [] 0 0 := Stand.of_body Bd
 have e0 : s₁.heap = h0 := by rw [← hh, Bd.state]; rfl
 have N0 := Fr.nil n0
 rw [ef3_1160 m a1 p2]
 show KEnds p e below s R3_1160.cells R3_1160.slots (Q3_1160 Z a1 p2 a3 a4 p5 p6 k7 p8 k9 h0 n0) s₁ (mkF m 0 #[.val (.ref a1), .val (.long p2), .second] [])
 refine k_aloadN X0 hx (hb hby d3_0) rfl rfl (pc' := 1) rfl ?_
 refine k_getF X0 hx hZ hown (host := "") (Or.inl (hw _ (List.mem_of_getElem? (i := 24) rfl))) Via.refl e0 F0_5 (hb hby d3_1) (pc' := 4) rfl (fun T1161 X1161 e1161 => ?_)
 refine k_if_eq X1161 hx (hb hby d3_4) (pn := 7) rfl (py := 22) (by decide) (fun hc => absurd hc (by decide)) (fun _ => ?_)
 refine k_aloadN X1161 hx (hb hby d3_7) rfl rfl (pc' := 8) rfl ?_
 refine k_getF X1161 hx hZ hown (host := "") (Or.inl (hw _ (List.mem_of_getElem? (i := 35) rfl))) Via.refl e1161 F0_6 (hb hby d3_8) (pc' := 11) rfl (fun T1162 X1162 e1162 => ?_)
 refine k_lloadN X1162 hx (hb hby d3_11) rfl (pc' := 12) rfl ?_
 refine k_lsub X1162 hx (hb hby d3_12) (pc' := 13) rfl (fun v1163 hv1163 => ?_)
 refine k_lconst X1162 hx (hb hby d3_13) (pc' := 14) rfl (z := (0 : Int64)) rfl ?_
 refine k_lcif_le X1162 hx (hb hby d3_14) (pm := 15) rfl (hb hby d3_15) (pn := 18) rfl (py := 22) (by decide) (fun hc1164 => ?_) (fun hc1164 => ?_)
 ·
  refine k_iconst X1162 hx (hb hby d3_22) (pc' := 23) rfl (z := (0 : Int32)) rfl ?_
  exact k_retN X1162 hx (t := .boolean) Bd.returns (by simp) (hb hby d3_23) hlk (by decide) (by decide) (z' := (0 : Int32)) rfl ⟨N0, e1162, (Or.inl ⟨v1163, hv1163, hc1164, rfl⟩)⟩
 ·
  refine k_iconst X1162 hx (hb hby d3_18) (pc' := 19) rfl (z := (1 : Int32)) rfl ?_
  refine k_goto X1162 hx (hb hby d3_19) (pc' := 23) (by decide) ?_
  exact k_retN X1162 hx (t := .boolean) Bd.returns (by simp) (hb hby d3_23) hlk (by decide) (by decide) (z' := (1 : Int32)) rfl ⟨N0, e1162, (Or.inr ⟨v1163, hv1163, hc1164, rfl⟩)⟩
abbrev R3_1185 : Room := { frames := 0, cells := 0, slots := 0, locals := 0 }
def Q3_1185 (Z : State) (a1 : Addr) (p2 : Int64) (a3 : Addr) (a4 : Addr) (p5 : Int64) (p6 : Int64) (k7 : ClassId) (p8 : Int64) (k9 : ClassId) (h0 : Heap) (n0 : Nat) (v : Option Value) (h : Heap) (L : List Loc) : Prop := Fr n0 L ∧ h = h0 ∧ ((∃ (v1188 : Int64), v1188 = p6 - p2 ∧ ¬ (0 : Int64) < v1188 ∧ v = some (.int (0 : Int32))) ∨ (∃ (v1188 : Int64), v1188 = p6 - p2 ∧ (0 : Int64) < v1188 ∧ v = some (.int (1 : Int32))))
theorem ef3_1185 (m : MethodId) (x0 : Addr) (x1 : Int64) : entryFrame m #[(.ref x0), (.long x1)] 3 = mkF m 0 #[.val (.ref x0), .val (.long x1), .second] [] := by first | (simp [entryFrame, mkF, argsToLocals, Value.category]; done) | rfl
set_option maxRecDepth 65536 in
set_option maxHeartbeats 40000000 in
theorem rm3_1185 (l : Launch) (Z : State) (a0 : Array Value) (hw : ∀ d ∈ tables_1, d.before a0 Z = true) (ws : List Jvm.Cond) (a1 : Addr) (p2 : Int64) (a3 : Addr) (a4 : Addr) (p5 : Int64) (p6 : Int64) (k7 : ClassId) (p8 : Int64) (k9 : ClassId) (h0 : Heap) (n0 : Nat) (Z0 : n0 ≤ h0.size) (F0_0 : Exa Z h0 a1 "com/example/halter/halter/SlidingSum") (F0_1 : Fld Z h0 a1 "com/example/halter/halter/SlidingSum" "times" "[J" (.ref a3)) (F0_2 : Fld Z h0 a1 "com/example/halter/halter/SlidingSum" "costs" "[J" (.ref a4)) (F0_3 : Fld Z h0 a1 "com/example/halter/halter/SlidingSum" "most" "J" (.long (9223372036854775807 : Int64))) (F0_4 : Fld Z h0 a1 "com/example/halter/halter/SlidingSum" "length" "J" (.long p5)) (F0_5 : Fld Z h0 a1 "com/example/halter/halter/SlidingSum" "started" "Z" (.int (1 : Int32))) (F0_6 : Fld Z h0 a1 "com/example/halter/halter/SlidingSum" "latest" "J" (.long p6)) (F0_7 : Fld Z h0 a1 "com/example/halter/halter/SlidingSum" "size" "I" (.int (0 : Int32))) (F0_8 : Fld Z h0 a1 "com/example/halter/halter/SlidingSum" "sum" "J" (.long (0 : Int64))) (F0_9 : Fld Z h0 a1 "com/example/halter/halter/SlidingSum" "head" "I" (.int (1 : Int32))) (F0_10 : Arv Z h0 a3 k7 .long (8 : Int32) [(.long p8), (.long (0 : Int64)), (.long (0 : Int64)), (.long (0 : Int64)), (.long (0 : Int64)), (.long (0 : Int64)), (.long (0 : Int64)), (.long (0 : Int64))] (.long (0 : Int64))) (F0_11 : Arv Z h0 a4 k9 .long (8 : Int32) [(.long (1 : Int64)), (.long (0 : Int64)), (.long (0 : Int64)), (.long (0 : Int64)), (.long (0 : Int64)), (.long (0 : Int64)), (.long (0 : Int64)), (.long (0 : Int64))] (.long (0 : Int64))) (lt0_0 : a1 < a3) (lt0_1 : a3 < a4) :
    MetFree l (⟨"com/example/halter/halter/SlidingSum", "givenAfter", "(J)Z"⟩ : MethodName) (head1 (Jvm.Cond.code (⟨"com/example/halter/halter/SlidingSum", "givenAfter", "(J)Z"⟩ : MethodName) prog_19_method_5_code 3 (some .boolean) :: ws) R3_1185) (fun a U => a = #[(.ref a1), (.long p2)] ∧ Z.Warmed39 U.vm ∧ U.heap = h0) (fun _ _ _ _ _ => True) (fun _ U o U' => ∃ v L, o = .returned v ∧ Q3_1185 Z a1 p2 a3 a4 p5 p6 k7 p8 k9 h0 n0 v U'.heap L ∧ FrameEnd U o U' L R3_1185.cells R3_1185.slots) := by
 refine MetFree.of_bodySF (plainFor_of_name pn_0) hisR ?_
 intro p e s m args below meth c s₁ Bd hml0 hP hK
 obtain ⟨rfl, hZ, hh⟩ := hP
 have hx := Bd.exec
 have hby := Bd.bytes
 have hml : c.maxLocals = 3 := hml0
 have hlk : meth.locks = false := Bd.notSynchronized
 have hown : s.vm.findClass "com/example/halter/halter/SlidingSum" = some m.cls := findClass_of_methodNamed Bd.named
 have hnm := (name_of_methodNamed Bd.named Bd.method).1
 have X0 : Stand p l e R3_1185 s m #[(.ref a1), (.long p2)] below meth c s₁ [] 0 0 := Stand.of_body Bd
 have e0 : s₁.heap = h0 := by rw [← hh, Bd.state]; rfl
 have N0 := Fr.nil n0
 rw [ef3_1185 m a1 p2]
 show KEnds p e below s R3_1185.cells R3_1185.slots (Q3_1185 Z a1 p2 a3 a4 p5 p6 k7 p8 k9 h0 n0) s₁ (mkF m 0 #[.val (.ref a1), .val (.long p2), .second] [])
 refine k_aloadN X0 hx (hb hby d3_0) rfl rfl (pc' := 1) rfl ?_
 refine k_getF X0 hx hZ hown (host := "") (Or.inl (hw _ (List.mem_of_getElem? (i := 24) rfl))) Via.refl e0 F0_5 (hb hby d3_1) (pc' := 4) rfl (fun T1186 X1186 e1186 => ?_)
 refine k_if_eq X1186 hx (hb hby d3_4) (pn := 7) rfl (py := 22) (by decide) (fun hc => absurd hc (by decide)) (fun _ => ?_)
 refine k_aloadN X1186 hx (hb hby d3_7) rfl rfl (pc' := 8) rfl ?_
 refine k_getF X1186 hx hZ hown (host := "") (Or.inl (hw _ (List.mem_of_getElem? (i := 35) rfl))) Via.refl e1186 F0_6 (hb hby d3_8) (pc' := 11) rfl (fun T1187 X1187 e1187 => ?_)
 refine k_lloadN X1187 hx (hb hby d3_11) rfl (pc' := 12) rfl ?_
 refine k_lsub X1187 hx (hb hby d3_12) (pc' := 13) rfl (fun v1188 hv1188 => ?_)
 refine k_lconst X1187 hx (hb hby d3_13) (pc' := 14) rfl (z := (0 : Int64)) rfl ?_
 refine k_lcif_le X1187 hx (hb hby d3_14) (pm := 15) rfl (hb hby d3_15) (pn := 18) rfl (py := 22) (by decide) (fun hc1189 => ?_) (fun hc1189 => ?_)
 ·
  refine k_iconst X1187 hx (hb hby d3_22) (pc' := 23) rfl (z := (0 : Int32)) rfl ?_
  exact k_retN X1187 hx (t := .boolean) Bd.returns (by simp) (hb hby d3_23) hlk (by decide) (by decide) (z' := (0 : Int32)) rfl ⟨N0, e1187, (Or.inl ⟨v1188, hv1188, hc1189, rfl⟩)⟩
 ·
  refine k_iconst X1187 hx (hb hby d3_18) (pc' := 19) rfl (z := (1 : Int32)) rfl ?_
  refine k_goto X1187 hx (hb hby d3_19) (pc' := 23) (by decide) ?_
  exact k_retN X1187 hx (t := .boolean) Bd.returns (by simp) (hb hby d3_23) hlk (by decide) (by decide) (z' := (1 : Int32)) rfl ⟨N0, e1187, (Or.inr ⟨v1188, hv1188, hc1189, rfl⟩)⟩
theorem d7_7 : decode prog_19_method_9_code 7 = .ok (.aload_n 0, 1) := by decide +kernel
theorem d7_8 : decode prog_19_method_9_code 8 = .ok (.getfield 7, 3) := by decide +kernel
theorem d7_11 : decode prog_19_method_9_code 11 = .ok (.aload_n 0, 1) := by decide +kernel
theorem d7_12 : decode prog_19_method_9_code 12 = .ok (.aload_n 0, 1) := by decide +kernel
theorem d7_13 : decode prog_19_method_9_code 13 = .ok (.getfield 45, 3) := by decide +kernel
theorem d7_16 : decode prog_19_method_9_code 16 = .ok (.iconst 1, 1) := by decide +kernel
theorem d7_17 : decode prog_19_method_9_code 17 = .ok (.isub, 1) := by decide +kernel
theorem d7_18 : decode prog_19_method_9_code 18 = .ok (.invokevirtual 62, 3) := by decide +kernel
abbrev R12_1296 : Room := { frames := 0, cells := 0, slots := 0, locals := 0 }
def Q12_1296 (Z : State) (a1 : Addr) (a2 : Addr) (a3 : Addr) (p4 : Int64) (p5 : Int64) (k6 : ClassId) (k7 : ClassId) (h0 : Heap) (n0 : Nat) (v : Option Value) (h : Heap) (L : List Loc) : Prop := Fr n0 L ∧ h = h0 ∧ ((v = some (.int (0 : Int32))))
theorem ef12_1296 (m : MethodId) (x0 : Addr) : entryFrame m #[(.ref x0), (.int (0 : Int32))] 3 = mkF m 0 #[.val (.ref x0), .val (.int (0 : Int32)), .unset] [] := by first | (simp [entryFrame, mkF, argsToLocals, Value.category]; done) | rfl
set_option maxRecDepth 65536 in
set_option maxHeartbeats 40000000 in
theorem rm12_1296 (l : Launch) (Z : State) (a0 : Array Value) (hw : ∀ d ∈ tables_1, d.before a0 Z = true) (ws : List Jvm.Cond) (a1 : Addr) (a2 : Addr) (a3 : Addr) (p4 : Int64) (p5 : Int64) (k6 : ClassId) (k7 : ClassId) (h0 : Heap) (n0 : Nat) (Z0 : n0 ≤ h0.size) (F0_0 : Exa Z h0 a1 "com/example/halter/halter/SlidingSum") (F0_1 : Fld Z h0 a1 "com/example/halter/halter/SlidingSum" "times" "[J" (.ref a2)) (F0_2 : Fld Z h0 a1 "com/example/halter/halter/SlidingSum" "costs" "[J" (.ref a3)) (F0_3 : Fld Z h0 a1 "com/example/halter/halter/SlidingSum" "most" "J" (.long (9223372036854775807 : Int64))) (F0_4 : Fld Z h0 a1 "com/example/halter/halter/SlidingSum" "length" "J" (.long p4)) (F0_5 : Fld Z h0 a1 "com/example/halter/halter/SlidingSum" "started" "Z" (.int (1 : Int32))) (F0_6 : Fld Z h0 a1 "com/example/halter/halter/SlidingSum" "latest" "J" (.long p5)) (F0_7 : Fld Z h0 a1 "com/example/halter/halter/SlidingSum" "size" "I" (.int (1 : Int32))) (F0_8 : Fld Z h0 a1 "com/example/halter/halter/SlidingSum" "sum" "J" (.long (1 : Int64))) (F0_9 : Fld Z h0 a1 "com/example/halter/halter/SlidingSum" "head" "I" (.int (0 : Int32))) (F0_10 : Arv Z h0 a2 k6 .long (8 : Int32) [(.long p5), (.long (0 : Int64)), (.long (0 : Int64)), (.long (0 : Int64)), (.long (0 : Int64)), (.long (0 : Int64)), (.long (0 : Int64)), (.long (0 : Int64))] (.long (0 : Int64))) (F0_11 : Arv Z h0 a3 k7 .long (8 : Int32) [(.long (1 : Int64)), (.long (0 : Int64)), (.long (0 : Int64)), (.long (0 : Int64)), (.long (0 : Int64)), (.long (0 : Int64)), (.long (0 : Int64)), (.long (0 : Int64))] (.long (0 : Int64))) (lt0_0 : a1 < a2) (lt0_1 : a2 < a3) :
    MetFree l (⟨"com/example/halter/halter/SlidingSum", "place", "(I)I"⟩ : MethodName) (head1 (Jvm.Cond.code (⟨"com/example/halter/halter/SlidingSum", "place", "(I)I"⟩ : MethodName) prog_19_method_12_code 3 (some .int) :: ws) R12_1296) (fun a U => a = #[(.ref a1), (.int (0 : Int32))] ∧ Z.Warmed39 U.vm ∧ U.heap = h0) (fun _ _ _ _ _ => True) (fun _ U o U' => ∃ v L, o = .returned v ∧ Q12_1296 Z a1 a2 a3 p4 p5 k6 k7 h0 n0 v U'.heap L ∧ FrameEnd U o U' L R12_1296.cells R12_1296.slots) := by
 refine MetFree.of_bodySF (plainFor_of_name pn_0) hisR ?_
 intro p e s m args below meth c s₁ Bd hml0 hP hK
 obtain ⟨rfl, hZ, hh⟩ := hP
 have hx := Bd.exec
 have hby := Bd.bytes
 have hml : c.maxLocals = 3 := hml0
 have hlk : meth.locks = false := Bd.notSynchronized
 have hown : s.vm.findClass "com/example/halter/halter/SlidingSum" = some m.cls := findClass_of_methodNamed Bd.named
 have hnm := (name_of_methodNamed Bd.named Bd.method).1
 have X0 : Stand p l e R12_1296 s m #[(.ref a1), (.int (0 : Int32))] below meth c s₁ [] 0 0 := Stand.of_body Bd
 have e0 : s₁.heap = h0 := by rw [← hh, Bd.state]; rfl
 have N0 := Fr.nil n0
 rw [ef12_1296 m a1]
 show KEnds p e below s R12_1296.cells R12_1296.slots (Q12_1296 Z a1 a2 a3 p4 p5 k6 k7 h0 n0) s₁ (mkF m 0 #[.val (.ref a1), .val (.int (0 : Int32)), .unset] [])
 refine k_aloadN X0 hx (hb hby d12_0) rfl rfl (pc' := 1) rfl ?_
 refine k_getF X0 hx hZ hown (host := "") (Or.inl (hw _ (List.mem_of_getElem? (i := 68) rfl))) Via.refl e0 F0_9 (hb hby d12_1) (pc' := 4) rfl (fun T1297 X1297 e1297 => ?_)
 refine k_iloadN X1297 hx (hb hby d12_4) rfl (pc' := 5) rfl ?_
 refine k_iaddL X1297 hx (hb hby d12_5) (pc' := 6) rfl (z := (0 : Int32)) (by decide) ?_
 refine k_istoreN X1297 hx (hb hby d12_6) (Ls' := #[.val (.ref a1), .val (.int (0 : Int32)), .val (.int (0 : Int32))]) rfl (pc' := 7) rfl ?_
 refine k_iloadN X1297 hx (hb hby d12_7) rfl (pc' := 8) rfl ?_
 refine k_aloadN X1297 hx (hb hby d12_8) rfl rfl (pc' := 9) rfl ?_
 refine k_getF X1297 hx hZ hown (host := "") (Or.inl (hw _ (List.mem_of_getElem? (i := 11) rfl))) Via.refl e1297 F0_1 (hb hby d12_9) (pc' := 12) rfl (fun T1298 X1298 e1298 => ?_)
 refine k_alen X1298 hx hZ e1298 F0_10 (hb hby d12_12) (pc' := 13) rfl ?_
 refine k_icmp_ge X1298 hx (hb hby d12_13) (pn := 16) rfl (py := 20) (by decide) (fun hc => absurd (by decide) hc) (fun _ => ?_)
 refine k_iloadN X1298 hx (hb hby d12_16) rfl (pc' := 17) rfl ?_
 refine k_goto X1298 hx (hb hby d12_17) (pc' := 27) (by decide) ?_
 exact k_retI X1298 hx Bd.returns (hb hby d12_27) hlk (by decide) (by decide) ⟨N0, e1298, rfl⟩
theorem d7_21 : decode prog_19_method_9_code 21 = .ok (.laload, 1) := by decide +kernel
theorem d7_22 : decode prog_19_method_9_code 22 = .ok (.aload_n 0, 1) := by decide +kernel
theorem d7_23 : decode prog_19_method_9_code 23 = .ok (.getfield 53, 3) := by decide +kernel
theorem d7_26 : decode prog_19_method_9_code 26 = .ok (.lcmp, 1) := by decide +kernel
theorem d7_27 : decode prog_19_method_9_code 27 = .ok (.ifCond .ne 25, 3) := by decide +kernel
theorem d7_30 : decode prog_19_method_9_code 30 = .ok (.aload_n 0, 1) := by decide +kernel
theorem d7_31 : decode prog_19_method_9_code 31 = .ok (.getfield 13, 3) := by decide +kernel
theorem d7_34 : decode prog_19_method_9_code 34 = .ok (.aload_n 0, 1) := by decide +kernel
theorem d7_35 : decode prog_19_method_9_code 35 = .ok (.aload_n 0, 1) := by decide +kernel
theorem d7_36 : decode prog_19_method_9_code 36 = .ok (.getfield 45, 3) := by decide +kernel
theorem d7_39 : decode prog_19_method_9_code 39 = .ok (.iconst 1, 1) := by decide +kernel
theorem d7_40 : decode prog_19_method_9_code 40 = .ok (.isub, 1) := by decide +kernel
theorem d7_41 : decode prog_19_method_9_code 41 = .ok (.invokevirtual 62, 3) := by decide +kernel
theorem d7_44 : decode prog_19_method_9_code 44 = .ok (.dup2, 1) := by decide +kernel
theorem d7_45 : decode prog_19_method_9_code 45 = .ok (.laload, 1) := by decide +kernel
theorem d7_46 : decode prog_19_method_9_code 46 = .ok (.lload_n 1, 1) := by decide +kernel
theorem d7_47 : decode prog_19_method_9_code 47 = .ok (.ladd, 1) := by decide +kernel
theorem d7_48 : decode prog_19_method_9_code 48 = .ok (.lastore, 1) := by decide +kernel
theorem d7_49 : decode prog_19_method_9_code 49 = .ok (.goto 55, 3) := by decide +kernel
abbrev R7_1292 : Room := { frames := 1, cells := 0, slots := 0, locals := 15 }
def Q7_1292 (Z : State) (a1 : Addr) (a2 : Addr) (a3 : Addr) (p4 : Int64) (p5 : Int64) (a6 : Addr) (k7 : ClassId) (a8 : Addr) (k9 : ClassId) (k10 : ClassId) (k11 : ClassId) (h0 : Heap) (n0 : Nat) (v : Option Value) (h : Heap) (L : List Loc) : Prop := Fr n0 L ∧ ((v = none ∧ Exa Z h a1 "com/example/halter/halter/SlidingSum" ∧ Fld Z h a1 "com/example/halter/halter/SlidingSum" "times" "[J" (.ref a2) ∧ Fld Z h a1 "com/example/halter/halter/SlidingSum" "costs" "[J" (.ref a3) ∧ Fld Z h a1 "com/example/halter/halter/SlidingSum" "most" "J" (.long (9223372036854775807 : Int64)) ∧ Fld Z h a1 "com/example/halter/halter/SlidingSum" "length" "J" (.long p4) ∧ Fld Z h a1 "com/example/halter/halter/SlidingSum" "started" "Z" (.int (1 : Int32)) ∧ Fld Z h a1 "com/example/halter/halter/SlidingSum" "latest" "J" (.long p5) ∧ Fld Z h a1 "com/example/halter/halter/SlidingSum" "size" "I" (.int (1 : Int32)) ∧ Fld Z h a1 "com/example/halter/halter/SlidingSum" "sum" "J" (.long (2 : Int64)) ∧ Fld Z h a1 "com/example/halter/halter/SlidingSum" "head" "I" (.int (0 : Int32)) ∧ Arv Z h a6 k7 .long (0 : Int32) [] (.long (0 : Int64)) ∧ Arv Z h a8 k9 .long (0 : Int32) [] (.long (0 : Int64)) ∧ Arv Z h a2 k10 .long (8 : Int32) [(.long p5), (.long (0 : Int64)), (.long (0 : Int64)), (.long (0 : Int64)), (.long (0 : Int64)), (.long (0 : Int64)), (.long (0 : Int64)), (.long (0 : Int64))] (.long (0 : Int64)) ∧ Arv Z h a3 k11 .long (8 : Int32) [(.long (2 : Int64)), (.long (0 : Int64)), (.long (0 : Int64)), (.long (0 : Int64)), (.long (0 : Int64)), (.long (0 : Int64)), (.long (0 : Int64)), (.long (0 : Int64))] (.long (0 : Int64)) ∧ n0 ≤ h.size))
theorem ef7_1292 (m : MethodId) (x0 : Addr) : entryFrame m #[(.ref x0), (.long (1 : Int64))] 4 = mkF m 0 #[.val (.ref x0), .val (.long (1 : Int64)), .second, .unset] [] := by first | (simp [entryFrame, mkF, argsToLocals, Value.category]; done) | rfl
set_option maxRecDepth 65536 in
set_option maxHeartbeats 40000000 in
theorem rm7_1292 (l : Launch) (Z : State) (a0 : Array Value) (hw : ∀ d ∈ tables_1, d.before a0 Z = true) (ws : List Jvm.Cond) (a1 : Addr) (a2 : Addr) (a3 : Addr) (p4 : Int64) (p5 : Int64) (a6 : Addr) (k7 : ClassId) (a8 : Addr) (k9 : ClassId) (k10 : ClassId) (k11 : ClassId) (h0 : Heap) (n0 : Nat) (Z0 : n0 ≤ h0.size) (F0_0 : Exa Z h0 a1 "com/example/halter/halter/SlidingSum") (F0_1 : Fld Z h0 a1 "com/example/halter/halter/SlidingSum" "times" "[J" (.ref a2)) (F0_2 : Fld Z h0 a1 "com/example/halter/halter/SlidingSum" "costs" "[J" (.ref a3)) (F0_3 : Fld Z h0 a1 "com/example/halter/halter/SlidingSum" "most" "J" (.long (9223372036854775807 : Int64))) (F0_4 : Fld Z h0 a1 "com/example/halter/halter/SlidingSum" "length" "J" (.long p4)) (F0_5 : Fld Z h0 a1 "com/example/halter/halter/SlidingSum" "started" "Z" (.int (1 : Int32))) (F0_6 : Fld Z h0 a1 "com/example/halter/halter/SlidingSum" "latest" "J" (.long p5)) (F0_7 : Fld Z h0 a1 "com/example/halter/halter/SlidingSum" "size" "I" (.int (1 : Int32))) (F0_8 : Fld Z h0 a1 "com/example/halter/halter/SlidingSum" "sum" "J" (.long (1 : Int64))) (F0_9 : Fld Z h0 a1 "com/example/halter/halter/SlidingSum" "head" "I" (.int (0 : Int32))) (g_a1 : n0 ≤ a1) (F0_11 : Arv Z h0 a6 k7 .long (0 : Int32) [] (.long (0 : Int64))) (g_a6 : n0 ≤ a6) (F0_13 : Arv Z h0 a8 k9 .long (0 : Int32) [] (.long (0 : Int64))) (g_a8 : n0 ≤ a8) (F0_15 : Arv Z h0 a2 k10 .long (8 : Int32) [(.long p5), (.long (0 : Int64)), (.long (0 : Int64)), (.long (0 : Int64)), (.long (0 : Int64)), (.long (0 : Int64)), (.long (0 : Int64)), (.long (0 : Int64))] (.long (0 : Int64))) (g_a2 : n0 ≤ a2) (F0_17 : Arv Z h0 a3 k11 .long (8 : Int32) [(.long (1 : Int64)), (.long (0 : Int64)), (.long (0 : Int64)), (.long (0 : Int64)), (.long (0 : Int64)), (.long (0 : Int64)), (.long (0 : Int64)), (.long (0 : Int64))] (.long (0 : Int64))) (g_a3 : n0 ≤ a3) (lt0_0 : a1 < a6) (lt0_1 : a6 < a8) (lt0_2 : a8 < a2) (lt0_3 : a2 < a3) :
    MetFree l (⟨"com/example/halter/halter/SlidingSum", "remember", "(J)V"⟩ : MethodName) (head1 (Jvm.Cond.code (⟨"com/example/halter/halter/SlidingSum", "remember", "(J)V"⟩ : MethodName) prog_19_method_9_code 4 none :: ws) R7_1292) (fun a U => a = #[(.ref a1), (.long (1 : Int64))] ∧ Z.Warmed39 U.vm ∧ U.heap = h0) (fun _ _ _ _ _ => True) (fun _ U o U' => ∃ v L, o = .returned v ∧ Q7_1292 Z a1 a2 a3 p4 p5 a6 k7 a8 k9 k10 k11 h0 n0 v U'.heap L ∧ FrameEnd U o U' L R7_1292.cells R7_1292.slots) := by
 refine MetFree.of_bodySF (plainFor_of_name pn_0) hisR ?_
 intro p e s m args below meth c s₁ Bd hml0 hP hK
 obtain ⟨rfl, hZ, hh⟩ := hP
 have hx := Bd.exec
 have hby := Bd.bytes
 have hml : c.maxLocals = 4 := hml0
 have hlk : meth.locks = false := Bd.notSynchronized
 have hown : s.vm.findClass "com/example/halter/halter/SlidingSum" = some m.cls := findClass_of_methodNamed Bd.named
 have hnm := (name_of_methodNamed Bd.named Bd.method).1
 have X0 : Stand p l e R7_1292 s m #[(.ref a1), (.long (1 : Int64))] below meth c s₁ [] 0 0 := Stand.of_body Bd
 have e0 : s₁.heap = h0 := by rw [← hh, Bd.state]; rfl
 have N0 := Fr.nil n0
 rw [ef7_1292 m a1]
 show KEnds p e below s R7_1292.cells R7_1292.slots (Q7_1292 Z a1 a2 a3 p4 p5 a6 k7 a8 k9 k10 k11 h0 n0) s₁ (mkF m 0 #[.val (.ref a1), .val (.long (1 : Int64)), .second, .unset] [])
 refine k_aloadN X0 hx (hb hby d7_0) rfl rfl (pc' := 1) rfl ?_
 refine k_getF X0 hx hZ hown (host := "") (Or.inl (hw _ (List.mem_of_getElem? (i := 41) rfl))) Via.refl e0 F0_7 (hb hby d7_1) (pc' := 4) rfl (fun T1293 X1293 e1293 => ?_)
 refine k_if_le X1293 hx (hb hby d7_4) (pn := 7) rfl (py := 52) (by decide) (fun hc => absurd (by decide) hc) (fun _ => ?_)
 refine k_aloadN X1293 hx (hb hby d7_7) rfl rfl (pc' := 8) rfl ?_
 refine k_getF X1293 hx hZ hown (host := "") (Or.inl (hw _ (List.mem_of_getElem? (i := 11) rfl))) Via.refl e1293 F0_1 (hb hby d7_8) (pc' := 11) rfl (fun T1294 X1294 e1294 => ?_)
 refine k_aloadN X1294 hx (hb hby d7_11) rfl rfl (pc' := 12) rfl ?_
 refine k_aloadN X1294 hx (hb hby d7_12) rfl rfl (pc' := 13) rfl ?_
 refine k_getF X1294 hx hZ hown (host := "") (Or.inl (hw _ (List.mem_of_getElem? (i := 41) rfl))) Via.refl e1294 F0_7 (hb hby d7_13) (pc' := 16) rfl (fun T1295 X1295 e1295 => ?_)
 refine k_iconst X1295 hx (hb hby d7_16) (pc' := 17) rfl (z := (1 : Int32)) rfl ?_
 refine k_isubL X1295 hx (hb hby d7_17) (pc' := 18) rfl (z := (0 : Int32)) (by decide) ?_
 refine k_callP X1295 hx hZ hown (a := a1) (hw _ (List.mem_of_getElem? (i := 70) rfl)) (hw _ (List.mem_of_getElem? (i := 71) rfl)) (hw _ (List.mem_of_getElem? (i := 72) rfl)) (hw _ (List.mem_of_getElem? (i := 1) rfl)) (hw _ (List.mem_of_getElem? (i := 2) rfl)) (hw _ (List.mem_of_getElem? (i := 73) rfl)) (by decide) F0_0 (rm12_1296 l Z a0 hw [] a1 a2 a3 p4 p5 k10 k11 h0 n0 Z0 F0_0 F0_1 F0_2 F0_3 F0_4 F0_5 F0_6 F0_7 F0_8 F0_9 F0_15 F0_17 (Nat.lt_trans (Nat.lt_trans lt0_0 lt0_1) lt0_2) lt0_3) (by decide) (by decide) e1295 (by rw [hml]; rfl) (argsL := [(.int (0 : Int32))]) (rest := [(.ref a2)]) (lenOf pd_7 rfl) rfl (W := 1) (Nat.le_refl _) rfl (hb hby d7_18) (by decide) (by decide) (pc' := 21) rfl (fun T1299 L1299 r1299 X1299 q1299 => ?_)
 obtain ⟨N1299, e1299, q1299⟩ := q1299
 have N1299' := Fr.app N0 N1299
 obtain rfl := q1299
 show KEnds p e below s _ _ _ T1299 (mkF m 21 #[.val (.ref a1), .val (.long (1 : Int64)), .second, .unset] [(.int (0 : Int32)), (.ref a2)])
 refine k_laload X1299 hx hZ e1299 F0_15 ⟨by decide, by decide⟩ (v := (.long p5)) rfl (hb hby d7_21) (pc' := 22) rfl ?_
 refine k_aloadN X1299 hx (hb hby d7_22) rfl rfl (pc' := 23) rfl ?_
 refine k_getF X1299 hx hZ hown (host := "") (Or.inl (hw _ (List.mem_of_getElem? (i := 35) rfl))) Via.refl e1299 F0_6 (hb hby d7_23) (pc' := 26) rfl (fun T1300 X1300 e1300 => ?_)
 refine k_lcif_ne X1300 hx (hb hby d7_26) (pm := 27) rfl (hb hby d7_27) (pn := 30) rfl (py := 52) (by decide) (fun hc => absurd rfl hc) (fun _ => ?_)
 refine k_aloadN X1300 hx (hb hby d7_30) rfl rfl (pc' := 31) rfl ?_
 refine k_getF X1300 hx hZ hown (host := "") (Or.inl (hw _ (List.mem_of_getElem? (i := 13) rfl))) Via.refl e1300 F0_2 (hb hby d7_31) (pc' := 34) rfl (fun T1301 X1301 e1301 => ?_)
 refine k_aloadN X1301 hx (hb hby d7_34) rfl rfl (pc' := 35) rfl ?_
 refine k_aloadN X1301 hx (hb hby d7_35) rfl rfl (pc' := 36) rfl ?_
 refine k_getF X1301 hx hZ hown (host := "") (Or.inl (hw _ (List.mem_of_getElem? (i := 41) rfl))) Via.refl e1301 F0_7 (hb hby d7_36) (pc' := 39) rfl (fun T1302 X1302 e1302 => ?_)
 refine k_iconst X1302 hx (hb hby d7_39) (pc' := 40) rfl (z := (1 : Int32)) rfl ?_
 refine k_isubL X1302 hx (hb hby d7_40) (pc' := 41) rfl (z := (0 : Int32)) (by decide) ?_
 refine k_callP X1302 hx hZ hown (a := a1) (hw _ (List.mem_of_getElem? (i := 70) rfl)) (hw _ (List.mem_of_getElem? (i := 71) rfl)) (hw _ (List.mem_of_getElem? (i := 72) rfl)) (hw _ (List.mem_of_getElem? (i := 1) rfl)) (hw _ (List.mem_of_getElem? (i := 2) rfl)) (hw _ (List.mem_of_getElem? (i := 73) rfl)) (by decide) F0_0 (rm12_1296 l Z a0 hw [] a1 a2 a3 p4 p5 k10 k11 h0 n0 Z0 F0_0 F0_1 F0_2 F0_3 F0_4 F0_5 F0_6 F0_7 F0_8 F0_9 F0_15 F0_17 (Nat.lt_trans (Nat.lt_trans lt0_0 lt0_1) lt0_2) lt0_3) (by decide) (by decide) e1302 (by rw [hml]; rfl) (argsL := [(.int (0 : Int32))]) (rest := [(.ref a3)]) (lenOf pd_7 rfl) rfl (W := 1) (Nat.le_refl _) rfl (hb hby d7_41) (by decide) (by decide) (pc' := 44) rfl (fun T1303 L1303 r1303 X1303 q1303 => ?_)
 obtain ⟨N1303, e1303, q1303⟩ := q1303
 have N1303' := Fr.app N1299' N1303
 obtain rfl := q1303
 show KEnds p e below s _ _ _ T1303 (mkF m 44 #[.val (.ref a1), .val (.long (1 : Int64)), .second, .unset] [(.int (0 : Int32)), (.ref a3)])
 refine k_dup2 X1303 hx (hb hby d7_44) rfl rfl (pc' := 45) rfl ?_
 refine k_laload X1303 hx hZ e1303 F0_17 ⟨by decide, by decide⟩ (v := (.long (1 : Int64))) rfl (hb hby d7_45) (pc' := 46) rfl ?_
 refine k_lloadN X1303 hx (hb hby d7_46) rfl (pc' := 47) rfl ?_
 refine k_laddL X1303 hx (hb hby d7_47) (pc' := 48) rfl (z := (2 : Int64)) (by decide) ?_
 refine k_lastore X1303 hx hZ e1303 F0_17 ⟨by decide, by decide⟩ (i := 0) rfl (Nat.le_of_ble_eq_true rfl) (hb hby d7_48) (pc' := 49) rfl (fun T1304 h1304 X1304 e1304 W1304 V1304 => ?_)
 have Vw1304 : Arv Z h1304 a3 k11 .long (8 : Int32) [(.long (2 : Int64)), (.long (0 : Int64)), (.long (0 : Int64)), (.long (0 : Int64)), (.long (0 : Int64)), (.long (0 : Int64)), (.long (0 : Int64)), (.long (0 : Int64))] (.long (0 : Int64)) := V1304
 have N1304 := Fr.snoc X1304 N1303' g_a3
 have Z1304 : n0 ≤ h1304.size := Nat.le_trans Z0 (Nat.le_of_eq W1304.size.symm)
 refine k_goto X1304 hx (hb hby d7_49) (pc' := 104) (by decide) ?_
 refine k_aloadN X1304 hx (hb hby d7_104) rfl rfl (pc' := 105) rfl ?_
 refine k_dup X1304 hx (hb hby d7_105) rfl (pc' := 106) rfl ?_
 have F1305 := (F0_8.other W1304 (Or.inl (Nat.ne_of_lt (Nat.lt_trans (Nat.lt_trans (Nat.lt_trans lt0_0 lt0_1) lt0_2) lt0_3))))
 refine k_getF X1304 hx hZ hown (host := "") (Or.inl (hw _ (List.mem_of_getElem? (i := 43) rfl))) Via.refl e1304 F1305 (hb hby d7_106) (pc' := 109) rfl (fun T1306 X1306 e1306 => ?_)
 refine k_lloadN X1306 hx (hb hby d7_109) rfl (pc' := 110) rfl ?_
 refine k_laddL X1306 hx (hb hby d7_110) (pc' := 111) rfl (z := (2 : Int64)) (by decide) ?_
 have F1307 := (F0_0.wr W1304)
 refine k_putF X1306 hx hZ hown (host := "") (Or.inl (hw _ (List.mem_of_getElem? (i := 43) rfl))) Via.refl e1306 F1305 F1307 (Or.inl (hw _ (List.mem_of_getElem? (i := 44) rfl))) (hw _ (List.mem_of_getElem? (i := 1) rfl)) (ty := .long) (by decide) rfl rfl (hb hby d7_111) (pc' := 114) rfl (fun T1308 h1308 X1308 e1308 W1308 => ?_)
 have Fw1308 : Fld Z h1308 a1 "com/example/halter/halter/SlidingSum" "sum" "J" (.long (2 : Int64)) := F1305.same W1308
 have N1308 := Fr.snoc X1308 N1304 g_a1
 have Z1308 : n0 ≤ h1308.size := Nat.le_trans Z1304 (Nat.le_of_eq W1308.size.symm)
 have F1309 := (F1307.wr W1308)
 have F1310 := ((F0_1.other W1304 (Or.inl (Nat.ne_of_lt (Nat.lt_trans (Nat.lt_trans (Nat.lt_trans lt0_0 lt0_1) lt0_2) lt0_3)))).other W1308 (Or.inr (slot_ne (Or.inl (hw _ (List.mem_of_getElem? (i := 12) rfl))) (Or.inl (hw _ (List.mem_of_getElem? (i := 44) rfl))) (by decide) (t := (.array .long)) (t' := .long) (by decide) (by decide))))
 have F1311 := ((F0_2.other W1304 (Or.inl (Nat.ne_of_lt (Nat.lt_trans (Nat.lt_trans (Nat.lt_trans lt0_0 lt0_1) lt0_2) lt0_3)))).other W1308 (Or.inr (slot_ne (Or.inl (hw _ (List.mem_of_getElem? (i := 14) rfl))) (Or.inl (hw _ (List.mem_of_getElem? (i := 44) rfl))) (by decide) (t := (.array .long)) (t' := .long) (by decide) (by decide))))
 have F1312 := ((F0_3.other W1304 (Or.inl (Nat.ne_of_lt (Nat.lt_trans (Nat.lt_trans (Nat.lt_trans lt0_0 lt0_1) lt0_2) lt0_3)))).other W1308 (Or.inr (slot_ne (Or.inr (hw _ (List.mem_of_getElem? (i := 16) rfl))) (Or.inl (hw _ (List.mem_of_getElem? (i := 44) rfl))) (by decide) (t := .long) (t' := .long) (by decide) (by decide))))
 have F1313 := ((F0_4.other W1304 (Or.inl (Nat.ne_of_lt (Nat.lt_trans (Nat.lt_trans (Nat.lt_trans lt0_0 lt0_1) lt0_2) lt0_3)))).other W1308 (Or.inr (slot_ne (Or.inr (hw _ (List.mem_of_getElem? (i := 18) rfl))) (Or.inl (hw _ (List.mem_of_getElem? (i := 44) rfl))) (by decide) (t := .long) (t' := .long) (by decide) (by decide))))
 have F1314 := ((F0_5.other W1304 (Or.inl (Nat.ne_of_lt (Nat.lt_trans (Nat.lt_trans (Nat.lt_trans lt0_0 lt0_1) lt0_2) lt0_3)))).other W1308 (Or.inr (slot_ne (Or.inl (hw _ (List.mem_of_getElem? (i := 25) rfl))) (Or.inl (hw _ (List.mem_of_getElem? (i := 44) rfl))) (by decide) (t := .boolean) (t' := .long) (by decide) (by decide))))
 have F1315 := ((F0_6.other W1304 (Or.inl (Nat.ne_of_lt (Nat.lt_trans (Nat.lt_trans (Nat.lt_trans lt0_0 lt0_1) lt0_2) lt0_3)))).other W1308 (Or.inr (slot_ne (Or.inl (hw _ (List.mem_of_getElem? (i := 36) rfl))) (Or.inl (hw _ (List.mem_of_getElem? (i := 44) rfl))) (by decide) (t := .long) (t' := .long) (by decide) (by decide))))
 have F1316 := ((F0_7.other W1304 (Or.inl (Nat.ne_of_lt (Nat.lt_trans (Nat.lt_trans (Nat.lt_trans lt0_0 lt0_1) lt0_2) lt0_3)))).other W1308 (Or.inr (slot_ne (Or.inl (hw _ (List.mem_of_getElem? (i := 42) rfl))) (Or.inl (hw _ (List.mem_of_getElem? (i := 44) rfl))) (by decide) (t := .int) (t' := .long) (by decide) (by decide))))
 have F1317 := ((F0_9.other W1304 (Or.inl (Nat.ne_of_lt (Nat.lt_trans (Nat.lt_trans (Nat.lt_trans lt0_0 lt0_1) lt0_2) lt0_3)))).other W1308 (Or.inr (slot_ne (Or.inl (hw _ (List.mem_of_getElem? (i := 69) rfl))) (Or.inl (hw _ (List.mem_of_getElem? (i := 44) rfl))) (by decide) (t := .int) (t' := .long) (by decide) (by decide))))
 have F1318 := ((F0_11.other W1304 (Nat.ne_of_lt (Nat.lt_trans (Nat.lt_trans lt0_1 lt0_2) lt0_3))).other W1308 (Ne.symm (Nat.ne_of_lt lt0_0)))
 have F1319 := ((F0_13.other W1304 (Nat.ne_of_lt (Nat.lt_trans lt0_2 lt0_3))).other W1308 (Ne.symm (Nat.ne_of_lt (Nat.lt_trans lt0_0 lt0_1))))
 have F1320 := ((F0_15.other W1304 (Nat.ne_of_lt lt0_3)).other W1308 (Ne.symm (Nat.ne_of_lt (Nat.lt_trans (Nat.lt_trans lt0_0 lt0_1) lt0_2))))
 have F1321 := (Vw1304.other W1308 (Ne.symm (Nat.ne_of_lt (Nat.lt_trans (Nat.lt_trans (Nat.lt_trans lt0_0 lt0_1) lt0_2) lt0_3))))
 exact k_ret X1308 hx Bd.returns (hb hby d7_114) hlk (by decide) (by decide) (by rw [e1308]; exact ⟨N1308, ⟨rfl, F1309, F1310, F1311, F1312, F1313, F1314, F1315, F1316, Fw1308, F1317, F1318, F1319, F1320, F1321, Z1308⟩⟩)
abbrev R12_1345 : Room := { frames := 0, cells := 0, slots := 0, locals := 0 }
def Q12_1345 (Z : State) (a1 : Addr) (a2 : Addr) (a3 : Addr) (p4 : Int64) (p5 : Int64) (k6 : ClassId) (k7 : ClassId) (h0 : Heap) (n0 : Nat) (v : Option Value) (h : Heap) (L : List Loc) : Prop := Fr n0 L ∧ h = h0 ∧ ((v = some (.int (1 : Int32))))
theorem ef12_1345 (m : MethodId) (x0 : Addr) : entryFrame m #[(.ref x0), (.int (0 : Int32))] 3 = mkF m 0 #[.val (.ref x0), .val (.int (0 : Int32)), .unset] [] := by first | (simp [entryFrame, mkF, argsToLocals, Value.category]; done) | rfl
set_option maxRecDepth 65536 in
set_option maxHeartbeats 40000000 in
theorem rm12_1345 (l : Launch) (Z : State) (a0 : Array Value) (hw : ∀ d ∈ tables_1, d.before a0 Z = true) (ws : List Jvm.Cond) (a1 : Addr) (a2 : Addr) (a3 : Addr) (p4 : Int64) (p5 : Int64) (k6 : ClassId) (k7 : ClassId) (h0 : Heap) (n0 : Nat) (Z0 : n0 ≤ h0.size) (F0_0 : Exa Z h0 a1 "com/example/halter/halter/SlidingSum") (F0_1 : Fld Z h0 a1 "com/example/halter/halter/SlidingSum" "times" "[J" (.ref a2)) (F0_2 : Fld Z h0 a1 "com/example/halter/halter/SlidingSum" "costs" "[J" (.ref a3)) (F0_3 : Fld Z h0 a1 "com/example/halter/halter/SlidingSum" "most" "J" (.long (9223372036854775807 : Int64))) (F0_4 : Fld Z h0 a1 "com/example/halter/halter/SlidingSum" "length" "J" (.long p4)) (F0_5 : Fld Z h0 a1 "com/example/halter/halter/SlidingSum" "started" "Z" (.int (1 : Int32))) (F0_6 : Fld Z h0 a1 "com/example/halter/halter/SlidingSum" "latest" "J" (.long p5)) (F0_7 : Fld Z h0 a1 "com/example/halter/halter/SlidingSum" "size" "I" (.int (0 : Int32))) (F0_8 : Fld Z h0 a1 "com/example/halter/halter/SlidingSum" "sum" "J" (.long (0 : Int64))) (F0_9 : Fld Z h0 a1 "com/example/halter/halter/SlidingSum" "head" "I" (.int (1 : Int32))) (F0_10 : Arv Z h0 a2 k6 .long (8 : Int32) [(.long p5), (.long (0 : Int64)), (.long (0 : Int64)), (.long (0 : Int64)), (.long (0 : Int64)), (.long (0 : Int64)), (.long (0 : Int64)), (.long (0 : Int64))] (.long (0 : Int64))) (F0_11 : Arv Z h0 a3 k7 .long (8 : Int32) [(.long (1 : Int64)), (.long (0 : Int64)), (.long (0 : Int64)), (.long (0 : Int64)), (.long (0 : Int64)), (.long (0 : Int64)), (.long (0 : Int64)), (.long (0 : Int64))] (.long (0 : Int64))) (lt0_0 : a1 < a2) (lt0_1 : a2 < a3) :
    MetFree l (⟨"com/example/halter/halter/SlidingSum", "place", "(I)I"⟩ : MethodName) (head1 (Jvm.Cond.code (⟨"com/example/halter/halter/SlidingSum", "place", "(I)I"⟩ : MethodName) prog_19_method_12_code 3 (some .int) :: ws) R12_1345) (fun a U => a = #[(.ref a1), (.int (0 : Int32))] ∧ Z.Warmed39 U.vm ∧ U.heap = h0) (fun _ _ _ _ _ => True) (fun _ U o U' => ∃ v L, o = .returned v ∧ Q12_1345 Z a1 a2 a3 p4 p5 k6 k7 h0 n0 v U'.heap L ∧ FrameEnd U o U' L R12_1345.cells R12_1345.slots) := by
 refine MetFree.of_bodySF (plainFor_of_name pn_0) hisR ?_
 intro p e s m args below meth c s₁ Bd hml0 hP hK
 obtain ⟨rfl, hZ, hh⟩ := hP
 have hx := Bd.exec
 have hby := Bd.bytes
 have hml : c.maxLocals = 3 := hml0
 have hlk : meth.locks = false := Bd.notSynchronized
 have hown : s.vm.findClass "com/example/halter/halter/SlidingSum" = some m.cls := findClass_of_methodNamed Bd.named
 have hnm := (name_of_methodNamed Bd.named Bd.method).1
 have X0 : Stand p l e R12_1345 s m #[(.ref a1), (.int (0 : Int32))] below meth c s₁ [] 0 0 := Stand.of_body Bd
 have e0 : s₁.heap = h0 := by rw [← hh, Bd.state]; rfl
 have N0 := Fr.nil n0
 rw [ef12_1345 m a1]
 show KEnds p e below s R12_1345.cells R12_1345.slots (Q12_1345 Z a1 a2 a3 p4 p5 k6 k7 h0 n0) s₁ (mkF m 0 #[.val (.ref a1), .val (.int (0 : Int32)), .unset] [])
 refine k_aloadN X0 hx (hb hby d12_0) rfl rfl (pc' := 1) rfl ?_
 refine k_getF X0 hx hZ hown (host := "") (Or.inl (hw _ (List.mem_of_getElem? (i := 68) rfl))) Via.refl e0 F0_9 (hb hby d12_1) (pc' := 4) rfl (fun T1346 X1346 e1346 => ?_)
 refine k_iloadN X1346 hx (hb hby d12_4) rfl (pc' := 5) rfl ?_
 refine k_iaddL X1346 hx (hb hby d12_5) (pc' := 6) rfl (z := (1 : Int32)) (by decide) ?_
 refine k_istoreN X1346 hx (hb hby d12_6) (Ls' := #[.val (.ref a1), .val (.int (0 : Int32)), .val (.int (1 : Int32))]) rfl (pc' := 7) rfl ?_
 refine k_iloadN X1346 hx (hb hby d12_7) rfl (pc' := 8) rfl ?_
 refine k_aloadN X1346 hx (hb hby d12_8) rfl rfl (pc' := 9) rfl ?_
 refine k_getF X1346 hx hZ hown (host := "") (Or.inl (hw _ (List.mem_of_getElem? (i := 11) rfl))) Via.refl e1346 F0_1 (hb hby d12_9) (pc' := 12) rfl (fun T1347 X1347 e1347 => ?_)
 refine k_alen X1347 hx hZ e1347 F0_10 (hb hby d12_12) (pc' := 13) rfl ?_
 refine k_icmp_ge X1347 hx (hb hby d12_13) (pn := 16) rfl (py := 20) (by decide) (fun hc => absurd (by decide) hc) (fun _ => ?_)
 refine k_iloadN X1347 hx (hb hby d12_16) rfl (pc' := 17) rfl ?_
 refine k_goto X1347 hx (hb hby d12_17) (pc' := 27) (by decide) ?_
 exact k_retI X1347 hx Bd.returns (hb hby d12_27) hlk (by decide) (by decide) ⟨N0, e1347, rfl⟩
abbrev R7_1340 : Room := { frames := 1, cells := 0, slots := 0, locals := 14 }
def Q7_1340 (Z : State) (a1 : Addr) (a2 : Addr) (a3 : Addr) (p4 : Int64) (p5 : Int64) (a6 : Addr) (k7 : ClassId) (a8 : Addr) (k9 : ClassId) (k10 : ClassId) (k11 : ClassId) (h0 : Heap) (n0 : Nat) (v : Option Value) (h : Heap) (L : List Loc) : Prop := Fr n0 L ∧ ((v = none ∧ Exa Z h a1 "com/example/halter/halter/SlidingSum" ∧ Fld Z h a1 "com/example/halter/halter/SlidingSum" "times" "[J" (.ref a2) ∧ Fld Z h a1 "com/example/halter/halter/SlidingSum" "costs" "[J" (.ref a3) ∧ Fld Z h a1 "com/example/halter/halter/SlidingSum" "most" "J" (.long (9223372036854775807 : Int64)) ∧ Fld Z h a1 "com/example/halter/halter/SlidingSum" "length" "J" (.long p4) ∧ Fld Z h a1 "com/example/halter/halter/SlidingSum" "started" "Z" (.int (1 : Int32)) ∧ Fld Z h a1 "com/example/halter/halter/SlidingSum" "latest" "J" (.long p5) ∧ Fld Z h a1 "com/example/halter/halter/SlidingSum" "size" "I" (.int (1 : Int32)) ∧ Fld Z h a1 "com/example/halter/halter/SlidingSum" "sum" "J" (.long (1 : Int64)) ∧ Fld Z h a1 "com/example/halter/halter/SlidingSum" "head" "I" (.int (1 : Int32)) ∧ Arv Z h a6 k7 .long (0 : Int32) [] (.long (0 : Int64)) ∧ Arv Z h a8 k9 .long (0 : Int32) [] (.long (0 : Int64)) ∧ Arv Z h a2 k10 .long (8 : Int32) [(.long p5), (.long p5), (.long (0 : Int64)), (.long (0 : Int64)), (.long (0 : Int64)), (.long (0 : Int64)), (.long (0 : Int64)), (.long (0 : Int64))] (.long (0 : Int64)) ∧ Arv Z h a3 k11 .long (8 : Int32) [(.long (1 : Int64)), (.long (1 : Int64)), (.long (0 : Int64)), (.long (0 : Int64)), (.long (0 : Int64)), (.long (0 : Int64)), (.long (0 : Int64)), (.long (0 : Int64))] (.long (0 : Int64)) ∧ n0 ≤ h.size))
theorem ef7_1340 (m : MethodId) (x0 : Addr) : entryFrame m #[(.ref x0), (.long (1 : Int64))] 4 = mkF m 0 #[.val (.ref x0), .val (.long (1 : Int64)), .second, .unset] [] := by first | (simp [entryFrame, mkF, argsToLocals, Value.category]; done) | rfl
set_option maxRecDepth 65536 in
set_option maxHeartbeats 40000000 in
theorem rm7_1340 (l : Launch) (Z : State) (a0 : Array Value) (hw : ∀ d ∈ tables_1, d.before a0 Z = true) (ws : List Jvm.Cond) (a1 : Addr) (a2 : Addr) (a3 : Addr) (p4 : Int64) (p5 : Int64) (a6 : Addr) (k7 : ClassId) (a8 : Addr) (k9 : ClassId) (k10 : ClassId) (k11 : ClassId) (h0 : Heap) (n0 : Nat) (Z0 : n0 ≤ h0.size) (F0_0 : Exa Z h0 a1 "com/example/halter/halter/SlidingSum") (F0_1 : Fld Z h0 a1 "com/example/halter/halter/SlidingSum" "times" "[J" (.ref a2)) (F0_2 : Fld Z h0 a1 "com/example/halter/halter/SlidingSum" "costs" "[J" (.ref a3)) (F0_3 : Fld Z h0 a1 "com/example/halter/halter/SlidingSum" "most" "J" (.long (9223372036854775807 : Int64))) (F0_4 : Fld Z h0 a1 "com/example/halter/halter/SlidingSum" "length" "J" (.long p4)) (F0_5 : Fld Z h0 a1 "com/example/halter/halter/SlidingSum" "started" "Z" (.int (1 : Int32))) (F0_6 : Fld Z h0 a1 "com/example/halter/halter/SlidingSum" "latest" "J" (.long p5)) (F0_7 : Fld Z h0 a1 "com/example/halter/halter/SlidingSum" "size" "I" (.int (0 : Int32))) (F0_8 : Fld Z h0 a1 "com/example/halter/halter/SlidingSum" "sum" "J" (.long (0 : Int64))) (F0_9 : Fld Z h0 a1 "com/example/halter/halter/SlidingSum" "head" "I" (.int (1 : Int32))) (g_a1 : n0 ≤ a1) (F0_11 : Arv Z h0 a6 k7 .long (0 : Int32) [] (.long (0 : Int64))) (g_a6 : n0 ≤ a6) (F0_13 : Arv Z h0 a8 k9 .long (0 : Int32) [] (.long (0 : Int64))) (g_a8 : n0 ≤ a8) (F0_15 : Arv Z h0 a2 k10 .long (8 : Int32) [(.long p5), (.long (0 : Int64)), (.long (0 : Int64)), (.long (0 : Int64)), (.long (0 : Int64)), (.long (0 : Int64)), (.long (0 : Int64)), (.long (0 : Int64))] (.long (0 : Int64))) (g_a2 : n0 ≤ a2) (F0_17 : Arv Z h0 a3 k11 .long (8 : Int32) [(.long (1 : Int64)), (.long (0 : Int64)), (.long (0 : Int64)), (.long (0 : Int64)), (.long (0 : Int64)), (.long (0 : Int64)), (.long (0 : Int64)), (.long (0 : Int64))] (.long (0 : Int64))) (g_a3 : n0 ≤ a3) (lt0_0 : a1 < a6) (lt0_1 : a6 < a8) (lt0_2 : a8 < a2) (lt0_3 : a2 < a3) :
    MetFree l (⟨"com/example/halter/halter/SlidingSum", "remember", "(J)V"⟩ : MethodName) (head1 (Jvm.Cond.code (⟨"com/example/halter/halter/SlidingSum", "remember", "(J)V"⟩ : MethodName) prog_19_method_9_code 4 none :: ws) R7_1340) (fun a U => a = #[(.ref a1), (.long (1 : Int64))] ∧ Z.Warmed39 U.vm ∧ U.heap = h0) (fun _ _ _ _ _ => True) (fun _ U o U' => ∃ v L, o = .returned v ∧ Q7_1340 Z a1 a2 a3 p4 p5 a6 k7 a8 k9 k10 k11 h0 n0 v U'.heap L ∧ FrameEnd U o U' L R7_1340.cells R7_1340.slots) := by
 refine MetFree.of_bodySF (plainFor_of_name pn_0) hisR ?_
 intro p e s m args below meth c s₁ Bd hml0 hP hK
 obtain ⟨rfl, hZ, hh⟩ := hP
 have hx := Bd.exec
 have hby := Bd.bytes
 have hml : c.maxLocals = 4 := hml0
 have hlk : meth.locks = false := Bd.notSynchronized
 have hown : s.vm.findClass "com/example/halter/halter/SlidingSum" = some m.cls := findClass_of_methodNamed Bd.named
 have hnm := (name_of_methodNamed Bd.named Bd.method).1
 have X0 : Stand p l e R7_1340 s m #[(.ref a1), (.long (1 : Int64))] below meth c s₁ [] 0 0 := Stand.of_body Bd
 have e0 : s₁.heap = h0 := by rw [← hh, Bd.state]; rfl
 have N0 := Fr.nil n0
 rw [ef7_1340 m a1]
 show KEnds p e below s R7_1340.cells R7_1340.slots (Q7_1340 Z a1 a2 a3 p4 p5 a6 k7 a8 k9 k10 k11 h0 n0) s₁ (mkF m 0 #[.val (.ref a1), .val (.long (1 : Int64)), .second, .unset] [])
 refine k_aloadN X0 hx (hb hby d7_0) rfl rfl (pc' := 1) rfl ?_
 refine k_getF X0 hx hZ hown (host := "") (Or.inl (hw _ (List.mem_of_getElem? (i := 41) rfl))) Via.refl e0 F0_7 (hb hby d7_1) (pc' := 4) rfl (fun T1341 X1341 e1341 => ?_)
 refine k_if_le X1341 hx (hb hby d7_4) (pn := 7) rfl (py := 52) (by decide) (fun _ => ?_) (fun hc => absurd hc (by decide))
 refine k_aloadN X1341 hx (hb hby d7_52) rfl rfl (pc' := 53) rfl ?_
 refine k_getF X1341 hx hZ hown (host := "") (Or.inl (hw _ (List.mem_of_getElem? (i := 41) rfl))) Via.refl e1341 F0_7 (hb hby d7_53) (pc' := 56) rfl (fun T1342 X1342 e1342 => ?_)
 refine k_aloadN X1342 hx (hb hby d7_56) rfl rfl (pc' := 57) rfl ?_
 refine k_getF X1342 hx hZ hown (host := "") (Or.inl (hw _ (List.mem_of_getElem? (i := 11) rfl))) Via.refl e1342 F0_1 (hb hby d7_57) (pc' := 60) rfl (fun T1343 X1343 e1343 => ?_)
 refine k_alen X1343 hx hZ e1343 F0_15 (hb hby d7_60) (pc' := 61) rfl ?_
 refine k_icmp_ne X1343 hx (hb hby d7_61) (pn := 64) rfl (py := 68) (by decide) (fun _ => ?_) (fun hc => absurd hc (by decide))
 refine k_aloadN X1343 hx (hb hby d7_68) rfl rfl (pc' := 69) rfl ?_
 refine k_aloadN X1343 hx (hb hby d7_69) rfl rfl (pc' := 70) rfl ?_
 refine k_getF X1343 hx hZ hown (host := "") (Or.inl (hw _ (List.mem_of_getElem? (i := 41) rfl))) Via.refl e1343 F0_7 (hb hby d7_70) (pc' := 73) rfl (fun T1344 X1344 e1344 => ?_)
 refine k_callP X1344 hx hZ hown (a := a1) (hw _ (List.mem_of_getElem? (i := 70) rfl)) (hw _ (List.mem_of_getElem? (i := 71) rfl)) (hw _ (List.mem_of_getElem? (i := 72) rfl)) (hw _ (List.mem_of_getElem? (i := 1) rfl)) (hw _ (List.mem_of_getElem? (i := 2) rfl)) (hw _ (List.mem_of_getElem? (i := 73) rfl)) (by decide) F0_0 (rm12_1345 l Z a0 hw [] a1 a2 a3 p4 p5 k10 k11 h0 n0 Z0 F0_0 F0_1 F0_2 F0_3 F0_4 F0_5 F0_6 F0_7 F0_8 F0_9 F0_15 F0_17 (Nat.lt_trans (Nat.lt_trans lt0_0 lt0_1) lt0_2) lt0_3) (by decide) (by decide) e1344 (by rw [hml]; rfl) (argsL := [(.int (0 : Int32))]) (rest := []) (lenOf pd_7 rfl) rfl (W := 0) (Nat.le_refl _) rfl (hb hby d7_73) (by decide) (by decide) (pc' := 76) rfl (fun T1348 L1348 r1348 X1348 q1348 => ?_)
 obtain ⟨N1348, e1348, q1348⟩ := q1348
 have N1348' := Fr.app N0 N1348
 obtain rfl := q1348
 show KEnds p e below s _ _ _ T1348 (mkF m 76 #[.val (.ref a1), .val (.long (1 : Int64)), .second, .unset] [(.int (1 : Int32))])
 refine k_istoreN X1348 hx (hb hby d7_76) (Ls' := #[.val (.ref a1), .val (.long (1 : Int64)), .second, .val (.int (1 : Int32))]) rfl (pc' := 77) rfl ?_
 refine k_aloadN X1348 hx (hb hby d7_77) rfl rfl (pc' := 78) rfl ?_
 refine k_getF X1348 hx hZ hown (host := "") (Or.inl (hw _ (List.mem_of_getElem? (i := 11) rfl))) Via.refl e1348 F0_1 (hb hby d7_78) (pc' := 81) rfl (fun T1349 X1349 e1349 => ?_)
 refine k_iloadN X1349 hx (hb hby d7_81) rfl (pc' := 82) rfl ?_
 refine k_aloadN X1349 hx (hb hby d7_82) rfl rfl (pc' := 83) rfl ?_
 refine k_getF X1349 hx hZ hown (host := "") (Or.inl (hw _ (List.mem_of_getElem? (i := 35) rfl))) Via.refl e1349 F0_6 (hb hby d7_83) (pc' := 86) rfl (fun T1350 X1350 e1350 => ?_)
 refine k_lastore X1350 hx hZ e1350 F0_15 ⟨by decide, by decide⟩ (i := 1) rfl (Nat.le_of_ble_eq_true rfl) (hb hby d7_86) (pc' := 87) rfl (fun T1351 h1351 X1351 e1351 W1351 V1351 => ?_)
 have Vw1351 : Arv Z h1351 a2 k10 .long (8 : Int32) [(.long p5), (.long p5), (.long (0 : Int64)), (.long (0 : Int64)), (.long (0 : Int64)), (.long (0 : Int64)), (.long (0 : Int64)), (.long (0 : Int64))] (.long (0 : Int64)) := V1351
 have N1351 := Fr.snoc X1351 N1348' g_a2
 have Z1351 : n0 ≤ h1351.size := Nat.le_trans Z0 (Nat.le_of_eq W1351.size.symm)
 refine k_aloadN X1351 hx (hb hby d7_87) rfl rfl (pc' := 88) rfl ?_
 have F1352 := (F0_2.other W1351 (Or.inl (Nat.ne_of_lt (Nat.lt_trans (Nat.lt_trans lt0_0 lt0_1) lt0_2))))
 refine k_getF X1351 hx hZ hown (host := "") (Or.inl (hw _ (List.mem_of_getElem? (i := 13) rfl))) Via.refl e1351 F1352 (hb hby d7_88) (pc' := 91) rfl (fun T1353 X1353 e1353 => ?_)
 refine k_iloadN X1353 hx (hb hby d7_91) rfl (pc' := 92) rfl ?_
 refine k_lloadN X1353 hx (hb hby d7_92) rfl (pc' := 93) rfl ?_
 have F1354 := (F0_17.other W1351 (Ne.symm (Nat.ne_of_lt lt0_3)))
 refine k_lastore X1353 hx hZ e1353 F1354 ⟨by decide, by decide⟩ (i := 1) rfl (Nat.le_of_ble_eq_true rfl) (hb hby d7_93) (pc' := 94) rfl (fun T1355 h1355 X1355 e1355 W1355 V1355 => ?_)
 have Vw1355 : Arv Z h1355 a3 k11 .long (8 : Int32) [(.long (1 : Int64)), (.long (1 : Int64)), (.long (0 : Int64)), (.long (0 : Int64)), (.long (0 : Int64)), (.long (0 : Int64)), (.long (0 : Int64)), (.long (0 : Int64))] (.long (0 : Int64)) := V1355
 have N1355 := Fr.snoc X1355 N1351 g_a3
 have Z1355 : n0 ≤ h1355.size := Nat.le_trans Z1351 (Nat.le_of_eq W1355.size.symm)
 refine k_aloadN X1355 hx (hb hby d7_94) rfl rfl (pc' := 95) rfl ?_
 refine k_dup X1355 hx (hb hby d7_95) rfl (pc' := 96) rfl ?_
 have F1356 := ((F0_7.other W1351 (Or.inl (Nat.ne_of_lt (Nat.lt_trans (Nat.lt_trans lt0_0 lt0_1) lt0_2)))).other W1355 (Or.inl (Nat.ne_of_lt (Nat.lt_trans (Nat.lt_trans (Nat.lt_trans lt0_0 lt0_1) lt0_2) lt0_3))))
 refine k_getF X1355 hx hZ hown (host := "") (Or.inl (hw _ (List.mem_of_getElem? (i := 41) rfl))) Via.refl e1355 F1356 (hb hby d7_96) (pc' := 99) rfl (fun T1357 X1357 e1357 => ?_)
 refine k_iconst X1357 hx (hb hby d7_99) (pc' := 100) rfl (z := (1 : Int32)) rfl ?_
 refine k_iaddL X1357 hx (hb hby d7_100) (pc' := 101) rfl (z := (1 : Int32)) (by decide) ?_
 have F1358 := ((F0_0.wr W1351).wr W1355)
 refine k_putF X1357 hx hZ hown (host := "") (Or.inl (hw _ (List.mem_of_getElem? (i := 41) rfl))) Via.refl e1357 F1356 F1358 (Or.inl (hw _ (List.mem_of_getElem? (i := 42) rfl))) (hw _ (List.mem_of_getElem? (i := 1) rfl)) (ty := .int) (by decide) rfl rfl (hb hby d7_101) (pc' := 104) rfl (fun T1359 h1359 X1359 e1359 W1359 => ?_)
 have Fw1359 : Fld Z h1359 a1 "com/example/halter/halter/SlidingSum" "size" "I" (.int (1 : Int32)) := F1356.same W1359
 have N1359 := Fr.snoc X1359 N1355 g_a1
 have Z1359 : n0 ≤ h1359.size := Nat.le_trans Z1355 (Nat.le_of_eq W1359.size.symm)
 refine k_aloadN X1359 hx (hb hby d7_104) rfl rfl (pc' := 105) rfl ?_
 refine k_dup X1359 hx (hb hby d7_105) rfl (pc' := 106) rfl ?_
 have F1360 := (((F0_8.other W1351 (Or.inl (Nat.ne_of_lt (Nat.lt_trans (Nat.lt_trans lt0_0 lt0_1) lt0_2)))).other W1355 (Or.inl (Nat.ne_of_lt (Nat.lt_trans (Nat.lt_trans (Nat.lt_trans lt0_0 lt0_1) lt0_2) lt0_3)))).other W1359 (Or.inr (slot_ne (Or.inl (hw _ (List.mem_of_getElem? (i := 44) rfl))) (Or.inl (hw _ (List.mem_of_getElem? (i := 42) rfl))) (by decide) (t := .long) (t' := .int) (by decide) (by decide))))
 refine k_getF X1359 hx hZ hown (host := "") (Or.inl (hw _ (List.mem_of_getElem? (i := 43) rfl))) Via.refl e1359 F1360 (hb hby d7_106) (pc' := 109) rfl (fun T1361 X1361 e1361 => ?_)
 refine k_lloadN X1361 hx (hb hby d7_109) rfl (pc' := 110) rfl ?_
 refine k_laddL X1361 hx (hb hby d7_110) (pc' := 111) rfl (z := (1 : Int64)) (by decide) ?_
 have F1362 := (F1358.wr W1359)
 refine k_putF X1361 hx hZ hown (host := "") (Or.inl (hw _ (List.mem_of_getElem? (i := 43) rfl))) Via.refl e1361 F1360 F1362 (Or.inl (hw _ (List.mem_of_getElem? (i := 44) rfl))) (hw _ (List.mem_of_getElem? (i := 1) rfl)) (ty := .long) (by decide) rfl rfl (hb hby d7_111) (pc' := 114) rfl (fun T1363 h1363 X1363 e1363 W1363 => ?_)
 have Fw1363 : Fld Z h1363 a1 "com/example/halter/halter/SlidingSum" "sum" "J" (.long (1 : Int64)) := F1360.same W1363
 have N1363 := Fr.snoc X1363 N1359 g_a1
 have Z1363 : n0 ≤ h1363.size := Nat.le_trans Z1359 (Nat.le_of_eq W1363.size.symm)
 have F1364 := (F1362.wr W1363)
 have F1365 := ((((F0_1.other W1351 (Or.inl (Nat.ne_of_lt (Nat.lt_trans (Nat.lt_trans lt0_0 lt0_1) lt0_2)))).other W1355 (Or.inl (Nat.ne_of_lt (Nat.lt_trans (Nat.lt_trans (Nat.lt_trans lt0_0 lt0_1) lt0_2) lt0_3)))).other W1359 (Or.inr (slot_ne (Or.inl (hw _ (List.mem_of_getElem? (i := 12) rfl))) (Or.inl (hw _ (List.mem_of_getElem? (i := 42) rfl))) (by decide) (t := (.array .long)) (t' := .int) (by decide) (by decide)))).other W1363 (Or.inr (slot_ne (Or.inl (hw _ (List.mem_of_getElem? (i := 12) rfl))) (Or.inl (hw _ (List.mem_of_getElem? (i := 44) rfl))) (by decide) (t := (.array .long)) (t' := .long) (by decide) (by decide))))
 have F1366 := (((F1352.other W1355 (Or.inl (Nat.ne_of_lt (Nat.lt_trans (Nat.lt_trans (Nat.lt_trans lt0_0 lt0_1) lt0_2) lt0_3)))).other W1359 (Or.inr (slot_ne (Or.inl (hw _ (List.mem_of_getElem? (i := 14) rfl))) (Or.inl (hw _ (List.mem_of_getElem? (i := 42) rfl))) (by decide) (t := (.array .long)) (t' := .int) (by decide) (by decide)))).other W1363 (Or.inr (slot_ne (Or.inl (hw _ (List.mem_of_getElem? (i := 14) rfl))) (Or.inl (hw _ (List.mem_of_getElem? (i := 44) rfl))) (by decide) (t := (.array .long)) (t' := .long) (by decide) (by decide))))
 have F1367 := ((((F0_3.other W1351 (Or.inl (Nat.ne_of_lt (Nat.lt_trans (Nat.lt_trans lt0_0 lt0_1) lt0_2)))).other W1355 (Or.inl (Nat.ne_of_lt (Nat.lt_trans (Nat.lt_trans (Nat.lt_trans lt0_0 lt0_1) lt0_2) lt0_3)))).other W1359 (Or.inr (slot_ne (Or.inr (hw _ (List.mem_of_getElem? (i := 16) rfl))) (Or.inl (hw _ (List.mem_of_getElem? (i := 42) rfl))) (by decide) (t := .long) (t' := .int) (by decide) (by decide)))).other W1363 (Or.inr (slot_ne (Or.inr (hw _ (List.mem_of_getElem? (i := 16) rfl))) (Or.inl (hw _ (List.mem_of_getElem? (i := 44) rfl))) (by decide) (t := .long) (t' := .long) (by decide) (by decide))))
 have F1368 := ((((F0_4.other W1351 (Or.inl (Nat.ne_of_lt (Nat.lt_trans (Nat.lt_trans lt0_0 lt0_1) lt0_2)))).other W1355 (Or.inl (Nat.ne_of_lt (Nat.lt_trans (Nat.lt_trans (Nat.lt_trans lt0_0 lt0_1) lt0_2) lt0_3)))).other W1359 (Or.inr (slot_ne (Or.inr (hw _ (List.mem_of_getElem? (i := 18) rfl))) (Or.inl (hw _ (List.mem_of_getElem? (i := 42) rfl))) (by decide) (t := .long) (t' := .int) (by decide) (by decide)))).other W1363 (Or.inr (slot_ne (Or.inr (hw _ (List.mem_of_getElem? (i := 18) rfl))) (Or.inl (hw _ (List.mem_of_getElem? (i := 44) rfl))) (by decide) (t := .long) (t' := .long) (by decide) (by decide))))
 have F1369 := ((((F0_5.other W1351 (Or.inl (Nat.ne_of_lt (Nat.lt_trans (Nat.lt_trans lt0_0 lt0_1) lt0_2)))).other W1355 (Or.inl (Nat.ne_of_lt (Nat.lt_trans (Nat.lt_trans (Nat.lt_trans lt0_0 lt0_1) lt0_2) lt0_3)))).other W1359 (Or.inr (slot_ne (Or.inl (hw _ (List.mem_of_getElem? (i := 25) rfl))) (Or.inl (hw _ (List.mem_of_getElem? (i := 42) rfl))) (by decide) (t := .boolean) (t' := .int) (by decide) (by decide)))).other W1363 (Or.inr (slot_ne (Or.inl (hw _ (List.mem_of_getElem? (i := 25) rfl))) (Or.inl (hw _ (List.mem_of_getElem? (i := 44) rfl))) (by decide) (t := .boolean) (t' := .long) (by decide) (by decide))))
 have F1370 := ((((F0_6.other W1351 (Or.inl (Nat.ne_of_lt (Nat.lt_trans (Nat.lt_trans lt0_0 lt0_1) lt0_2)))).other W1355 (Or.inl (Nat.ne_of_lt (Nat.lt_trans (Nat.lt_trans (Nat.lt_trans lt0_0 lt0_1) lt0_2) lt0_3)))).other W1359 (Or.inr (slot_ne (Or.inl (hw _ (List.mem_of_getElem? (i := 36) rfl))) (Or.inl (hw _ (List.mem_of_getElem? (i := 42) rfl))) (by decide) (t := .long) (t' := .int) (by decide) (by decide)))).other W1363 (Or.inr (slot_ne (Or.inl (hw _ (List.mem_of_getElem? (i := 36) rfl))) (Or.inl (hw _ (List.mem_of_getElem? (i := 44) rfl))) (by decide) (t := .long) (t' := .long) (by decide) (by decide))))
 have F1371 := (Fw1359.other W1363 (Or.inr (slot_ne (Or.inl (hw _ (List.mem_of_getElem? (i := 42) rfl))) (Or.inl (hw _ (List.mem_of_getElem? (i := 44) rfl))) (by decide) (t := .int) (t' := .long) (by decide) (by decide))))
 have F1372 := ((((F0_9.other W1351 (Or.inl (Nat.ne_of_lt (Nat.lt_trans (Nat.lt_trans lt0_0 lt0_1) lt0_2)))).other W1355 (Or.inl (Nat.ne_of_lt (Nat.lt_trans (Nat.lt_trans (Nat.lt_trans lt0_0 lt0_1) lt0_2) lt0_3)))).other W1359 (Or.inr (slot_ne (Or.inl (hw _ (List.mem_of_getElem? (i := 69) rfl))) (Or.inl (hw _ (List.mem_of_getElem? (i := 42) rfl))) (by decide) (t := .int) (t' := .int) (by decide) (by decide)))).other W1363 (Or.inr (slot_ne (Or.inl (hw _ (List.mem_of_getElem? (i := 69) rfl))) (Or.inl (hw _ (List.mem_of_getElem? (i := 44) rfl))) (by decide) (t := .int) (t' := .long) (by decide) (by decide))))
 have F1373 := ((((F0_11.other W1351 (Nat.ne_of_lt (Nat.lt_trans lt0_1 lt0_2))).other W1355 (Nat.ne_of_lt (Nat.lt_trans (Nat.lt_trans lt0_1 lt0_2) lt0_3))).other W1359 (Ne.symm (Nat.ne_of_lt lt0_0))).other W1363 (Ne.symm (Nat.ne_of_lt lt0_0)))
 have F1374 := ((((F0_13.other W1351 (Nat.ne_of_lt lt0_2)).other W1355 (Nat.ne_of_lt (Nat.lt_trans lt0_2 lt0_3))).other W1359 (Ne.symm (Nat.ne_of_lt (Nat.lt_trans lt0_0 lt0_1)))).other W1363 (Ne.symm (Nat.ne_of_lt (Nat.lt_trans lt0_0 lt0_1))))
 have F1375 := (((Vw1351.other W1355 (Nat.ne_of_lt lt0_3)).other W1359 (Ne.symm (Nat.ne_of_lt (Nat.lt_trans (Nat.lt_trans lt0_0 lt0_1) lt0_2)))).other W1363 (Ne.symm (Nat.ne_of_lt (Nat.lt_trans (Nat.lt_trans lt0_0 lt0_1) lt0_2))))
 have F1376 := ((Vw1355.other W1359 (Ne.symm (Nat.ne_of_lt (Nat.lt_trans (Nat.lt_trans (Nat.lt_trans lt0_0 lt0_1) lt0_2) lt0_3)))).other W1363 (Ne.symm (Nat.ne_of_lt (Nat.lt_trans (Nat.lt_trans (Nat.lt_trans lt0_0 lt0_1) lt0_2) lt0_3))))
 exact k_ret X1363 hx Bd.returns (hb hby d7_114) hlk (by decide) (by decide) (by rw [e1363]; exact ⟨N1363, ⟨rfl, F1364, F1365, F1366, F1367, F1368, F1369, F1370, F1371, Fw1363, F1372, F1373, F1374, F1375, F1376, Z1363⟩⟩)
abbrev R12_1399 : Room := { frames := 0, cells := 0, slots := 0, locals := 0 }
def Q12_1399 (Z : State) (a1 : Addr) (a2 : Addr) (a3 : Addr) (p4 : Int64) (p5 : Int64) (k6 : ClassId) (p7 : Int64) (k8 : ClassId) (h0 : Heap) (n0 : Nat) (v : Option Value) (h : Heap) (L : List Loc) : Prop := Fr n0 L ∧ h = h0 ∧ ((v = some (.int (0 : Int32))))
theorem ef12_1399 (m : MethodId) (x0 : Addr) : entryFrame m #[(.ref x0), (.int (0 : Int32))] 3 = mkF m 0 #[.val (.ref x0), .val (.int (0 : Int32)), .unset] [] := by first | (simp [entryFrame, mkF, argsToLocals, Value.category]; done) | rfl
set_option maxRecDepth 65536 in
set_option maxHeartbeats 40000000 in
theorem rm12_1399 (l : Launch) (Z : State) (a0 : Array Value) (hw : ∀ d ∈ tables_1, d.before a0 Z = true) (ws : List Jvm.Cond) (a1 : Addr) (a2 : Addr) (a3 : Addr) (p4 : Int64) (p5 : Int64) (k6 : ClassId) (p7 : Int64) (k8 : ClassId) (h0 : Heap) (n0 : Nat) (Z0 : n0 ≤ h0.size) (F0_0 : Exa Z h0 a1 "com/example/halter/halter/SlidingSum") (F0_1 : Fld Z h0 a1 "com/example/halter/halter/SlidingSum" "times" "[J" (.ref a2)) (F0_2 : Fld Z h0 a1 "com/example/halter/halter/SlidingSum" "costs" "[J" (.ref a3)) (F0_3 : Fld Z h0 a1 "com/example/halter/halter/SlidingSum" "most" "J" (.long (9223372036854775807 : Int64))) (F0_4 : Fld Z h0 a1 "com/example/halter/halter/SlidingSum" "length" "J" (.long p4)) (F0_5 : Fld Z h0 a1 "com/example/halter/halter/SlidingSum" "started" "Z" (.int (1 : Int32))) (F0_6 : Fld Z h0 a1 "com/example/halter/halter/SlidingSum" "latest" "J" (.long p5)) (F0_7 : Fld Z h0 a1 "com/example/halter/halter/SlidingSum" "size" "I" (.int (1 : Int32))) (F0_8 : Fld Z h0 a1 "com/example/halter/halter/SlidingSum" "sum" "J" (.long (1 : Int64))) (F0_9 : Fld Z h0 a1 "com/example/halter/halter/SlidingSum" "head" "I" (.int (0 : Int32))) (F0_10 : Arv Z h0 a2 k6 .long (8 : Int32) [(.long p7), (.long (0 : Int64)), (.long (0 : Int64)), (.long (0 : Int64)), (.long (0 : Int64)), (.long (0 : Int64)), (.long (0 : Int64)), (.long (0 : Int64))] (.long (0 : Int64))) (F0_11 : Arv Z h0 a3 k8 .long (8 : Int32) [(.long (1 : Int64)), (.long (0 : Int64)), (.long (0 : Int64)), (.long (0 : Int64)), (.long (0 : Int64)), (.long (0 : Int64)), (.long (0 : Int64)), (.long (0 : Int64))] (.long (0 : Int64))) (lt0_0 : a1 < a2) (lt0_1 : a2 < a3) :
    MetFree l (⟨"com/example/halter/halter/SlidingSum", "place", "(I)I"⟩ : MethodName) (head1 (Jvm.Cond.code (⟨"com/example/halter/halter/SlidingSum", "place", "(I)I"⟩ : MethodName) prog_19_method_12_code 3 (some .int) :: ws) R12_1399) (fun a U => a = #[(.ref a1), (.int (0 : Int32))] ∧ Z.Warmed39 U.vm ∧ U.heap = h0) (fun _ _ _ _ _ => True) (fun _ U o U' => ∃ v L, o = .returned v ∧ Q12_1399 Z a1 a2 a3 p4 p5 k6 p7 k8 h0 n0 v U'.heap L ∧ FrameEnd U o U' L R12_1399.cells R12_1399.slots) := by
 refine MetFree.of_bodySF (plainFor_of_name pn_0) hisR ?_
 intro p e s m args below meth c s₁ Bd hml0 hP hK
 obtain ⟨rfl, hZ, hh⟩ := hP
 have hx := Bd.exec
 have hby := Bd.bytes
 have hml : c.maxLocals = 3 := hml0
 have hlk : meth.locks = false := Bd.notSynchronized
 have hown : s.vm.findClass "com/example/halter/halter/SlidingSum" = some m.cls := findClass_of_methodNamed Bd.named
 have hnm := (name_of_methodNamed Bd.named Bd.method).1
 have X0 : Stand p l e R12_1399 s m #[(.ref a1), (.int (0 : Int32))] below meth c s₁ [] 0 0 := Stand.of_body Bd
 have e0 : s₁.heap = h0 := by rw [← hh, Bd.state]; rfl
 have N0 := Fr.nil n0
 rw [ef12_1399 m a1]
 show KEnds p e below s R12_1399.cells R12_1399.slots (Q12_1399 Z a1 a2 a3 p4 p5 k6 p7 k8 h0 n0) s₁ (mkF m 0 #[.val (.ref a1), .val (.int (0 : Int32)), .unset] [])
 refine k_aloadN X0 hx (hb hby d12_0) rfl rfl (pc' := 1) rfl ?_
 refine k_getF X0 hx hZ hown (host := "") (Or.inl (hw _ (List.mem_of_getElem? (i := 68) rfl))) Via.refl e0 F0_9 (hb hby d12_1) (pc' := 4) rfl (fun T1400 X1400 e1400 => ?_)
 refine k_iloadN X1400 hx (hb hby d12_4) rfl (pc' := 5) rfl ?_
 refine k_iaddL X1400 hx (hb hby d12_5) (pc' := 6) rfl (z := (0 : Int32)) (by decide) ?_
 refine k_istoreN X1400 hx (hb hby d12_6) (Ls' := #[.val (.ref a1), .val (.int (0 : Int32)), .val (.int (0 : Int32))]) rfl (pc' := 7) rfl ?_
 refine k_iloadN X1400 hx (hb hby d12_7) rfl (pc' := 8) rfl ?_
 refine k_aloadN X1400 hx (hb hby d12_8) rfl rfl (pc' := 9) rfl ?_
 refine k_getF X1400 hx hZ hown (host := "") (Or.inl (hw _ (List.mem_of_getElem? (i := 11) rfl))) Via.refl e1400 F0_1 (hb hby d12_9) (pc' := 12) rfl (fun T1401 X1401 e1401 => ?_)
 refine k_alen X1401 hx hZ e1401 F0_10 (hb hby d12_12) (pc' := 13) rfl ?_
 refine k_icmp_ge X1401 hx (hb hby d12_13) (pn := 16) rfl (py := 20) (by decide) (fun hc => absurd (by decide) hc) (fun _ => ?_)
 refine k_iloadN X1401 hx (hb hby d12_16) rfl (pc' := 17) rfl ?_
 refine k_goto X1401 hx (hb hby d12_17) (pc' := 27) (by decide) ?_
 exact k_retI X1401 hx Bd.returns (hb hby d12_27) hlk (by decide) (by decide) ⟨N0, e1401, rfl⟩
abbrev R12_1408 : Room := { frames := 0, cells := 0, slots := 0, locals := 0 }
def Q12_1408 (Z : State) (a1 : Addr) (a2 : Addr) (a3 : Addr) (p4 : Int64) (p5 : Int64) (k6 : ClassId) (p7 : Int64) (k8 : ClassId) (h0 : Heap) (n0 : Nat) (v : Option Value) (h : Heap) (L : List Loc) : Prop := Fr n0 L ∧ h = h0 ∧ ((v = some (.int (1 : Int32))))
theorem ef12_1408 (m : MethodId) (x0 : Addr) : entryFrame m #[(.ref x0), (.int (1 : Int32))] 3 = mkF m 0 #[.val (.ref x0), .val (.int (1 : Int32)), .unset] [] := by first | (simp [entryFrame, mkF, argsToLocals, Value.category]; done) | rfl
set_option maxRecDepth 65536 in
set_option maxHeartbeats 40000000 in
theorem rm12_1408 (l : Launch) (Z : State) (a0 : Array Value) (hw : ∀ d ∈ tables_1, d.before a0 Z = true) (ws : List Jvm.Cond) (a1 : Addr) (a2 : Addr) (a3 : Addr) (p4 : Int64) (p5 : Int64) (k6 : ClassId) (p7 : Int64) (k8 : ClassId) (h0 : Heap) (n0 : Nat) (Z0 : n0 ≤ h0.size) (F0_0 : Exa Z h0 a1 "com/example/halter/halter/SlidingSum") (F0_1 : Fld Z h0 a1 "com/example/halter/halter/SlidingSum" "times" "[J" (.ref a2)) (F0_2 : Fld Z h0 a1 "com/example/halter/halter/SlidingSum" "costs" "[J" (.ref a3)) (F0_3 : Fld Z h0 a1 "com/example/halter/halter/SlidingSum" "most" "J" (.long (9223372036854775807 : Int64))) (F0_4 : Fld Z h0 a1 "com/example/halter/halter/SlidingSum" "length" "J" (.long p4)) (F0_5 : Fld Z h0 a1 "com/example/halter/halter/SlidingSum" "started" "Z" (.int (1 : Int32))) (F0_6 : Fld Z h0 a1 "com/example/halter/halter/SlidingSum" "latest" "J" (.long p5)) (F0_7 : Fld Z h0 a1 "com/example/halter/halter/SlidingSum" "size" "I" (.int (1 : Int32))) (F0_8 : Fld Z h0 a1 "com/example/halter/halter/SlidingSum" "sum" "J" (.long (1 : Int64))) (F0_9 : Fld Z h0 a1 "com/example/halter/halter/SlidingSum" "head" "I" (.int (0 : Int32))) (F0_10 : Arv Z h0 a2 k6 .long (8 : Int32) [(.long p7), (.long (0 : Int64)), (.long (0 : Int64)), (.long (0 : Int64)), (.long (0 : Int64)), (.long (0 : Int64)), (.long (0 : Int64)), (.long (0 : Int64))] (.long (0 : Int64))) (F0_11 : Arv Z h0 a3 k8 .long (8 : Int32) [(.long (1 : Int64)), (.long (0 : Int64)), (.long (0 : Int64)), (.long (0 : Int64)), (.long (0 : Int64)), (.long (0 : Int64)), (.long (0 : Int64)), (.long (0 : Int64))] (.long (0 : Int64))) (lt0_0 : a1 < a2) (lt0_1 : a2 < a3) :
    MetFree l (⟨"com/example/halter/halter/SlidingSum", "place", "(I)I"⟩ : MethodName) (head1 (Jvm.Cond.code (⟨"com/example/halter/halter/SlidingSum", "place", "(I)I"⟩ : MethodName) prog_19_method_12_code 3 (some .int) :: ws) R12_1408) (fun a U => a = #[(.ref a1), (.int (1 : Int32))] ∧ Z.Warmed39 U.vm ∧ U.heap = h0) (fun _ _ _ _ _ => True) (fun _ U o U' => ∃ v L, o = .returned v ∧ Q12_1408 Z a1 a2 a3 p4 p5 k6 p7 k8 h0 n0 v U'.heap L ∧ FrameEnd U o U' L R12_1408.cells R12_1408.slots) := by
 refine MetFree.of_bodySF (plainFor_of_name pn_0) hisR ?_
 intro p e s m args below meth c s₁ Bd hml0 hP hK
 obtain ⟨rfl, hZ, hh⟩ := hP
 have hx := Bd.exec
 have hby := Bd.bytes
 have hml : c.maxLocals = 3 := hml0
 have hlk : meth.locks = false := Bd.notSynchronized
 have hown : s.vm.findClass "com/example/halter/halter/SlidingSum" = some m.cls := findClass_of_methodNamed Bd.named
 have hnm := (name_of_methodNamed Bd.named Bd.method).1
 have X0 : Stand p l e R12_1408 s m #[(.ref a1), (.int (1 : Int32))] below meth c s₁ [] 0 0 := Stand.of_body Bd
 have e0 : s₁.heap = h0 := by rw [← hh, Bd.state]; rfl
 have N0 := Fr.nil n0
 rw [ef12_1408 m a1]
 show KEnds p e below s R12_1408.cells R12_1408.slots (Q12_1408 Z a1 a2 a3 p4 p5 k6 p7 k8 h0 n0) s₁ (mkF m 0 #[.val (.ref a1), .val (.int (1 : Int32)), .unset] [])
 refine k_aloadN X0 hx (hb hby d12_0) rfl rfl (pc' := 1) rfl ?_
 refine k_getF X0 hx hZ hown (host := "") (Or.inl (hw _ (List.mem_of_getElem? (i := 68) rfl))) Via.refl e0 F0_9 (hb hby d12_1) (pc' := 4) rfl (fun T1409 X1409 e1409 => ?_)
 refine k_iloadN X1409 hx (hb hby d12_4) rfl (pc' := 5) rfl ?_
 refine k_iaddL X1409 hx (hb hby d12_5) (pc' := 6) rfl (z := (1 : Int32)) (by decide) ?_
 refine k_istoreN X1409 hx (hb hby d12_6) (Ls' := #[.val (.ref a1), .val (.int (1 : Int32)), .val (.int (1 : Int32))]) rfl (pc' := 7) rfl ?_
 refine k_iloadN X1409 hx (hb hby d12_7) rfl (pc' := 8) rfl ?_
 refine k_aloadN X1409 hx (hb hby d12_8) rfl rfl (pc' := 9) rfl ?_
 refine k_getF X1409 hx hZ hown (host := "") (Or.inl (hw _ (List.mem_of_getElem? (i := 11) rfl))) Via.refl e1409 F0_1 (hb hby d12_9) (pc' := 12) rfl (fun T1410 X1410 e1410 => ?_)
 refine k_alen X1410 hx hZ e1410 F0_10 (hb hby d12_12) (pc' := 13) rfl ?_
 refine k_icmp_ge X1410 hx (hb hby d12_13) (pn := 16) rfl (py := 20) (by decide) (fun hc => absurd (by decide) hc) (fun _ => ?_)
 refine k_iloadN X1410 hx (hb hby d12_16) rfl (pc' := 17) rfl ?_
 refine k_goto X1410 hx (hb hby d12_17) (pc' := 27) (by decide) ?_
 exact k_retI X1410 hx Bd.returns (hb hby d12_27) hlk (by decide) (by decide) ⟨N0, e1410, rfl⟩
abbrev R7_1395 : Room := { frames := 1, cells := 0, slots := 0, locals := 15 }
def Q7_1395 (Z : State) (a1 : Addr) (a2 : Addr) (a3 : Addr) (p4 : Int64) (p5 : Int64) (a6 : Addr) (k7 : ClassId) (a8 : Addr) (k9 : ClassId) (k10 : ClassId) (p11 : Int64) (k12 : ClassId) (h0 : Heap) (n0 : Nat) (v : Option Value) (h : Heap) (L : List Loc) : Prop := Fr n0 L ∧ ((¬ p11 = p5 ∧ v = none ∧ Exa Z h a1 "com/example/halter/halter/SlidingSum" ∧ Fld Z h a1 "com/example/halter/halter/SlidingSum" "times" "[J" (.ref a2) ∧ Fld Z h a1 "com/example/halter/halter/SlidingSum" "costs" "[J" (.ref a3) ∧ Fld Z h a1 "com/example/halter/halter/SlidingSum" "most" "J" (.long (9223372036854775807 : Int64)) ∧ Fld Z h a1 "com/example/halter/halter/SlidingSum" "length" "J" (.long p4) ∧ Fld Z h a1 "com/example/halter/halter/SlidingSum" "started" "Z" (.int (1 : Int32)) ∧ Fld Z h a1 "com/example/halter/halter/SlidingSum" "latest" "J" (.long p5) ∧ Fld Z h a1 "com/example/halter/halter/SlidingSum" "size" "I" (.int (2 : Int32)) ∧ Fld Z h a1 "com/example/halter/halter/SlidingSum" "sum" "J" (.long (2 : Int64)) ∧ Fld Z h a1 "com/example/halter/halter/SlidingSum" "head" "I" (.int (0 : Int32)) ∧ Arv Z h a6 k7 .long (0 : Int32) [] (.long (0 : Int64)) ∧ Arv Z h a8 k9 .long (0 : Int32) [] (.long (0 : Int64)) ∧ Arv Z h a2 k10 .long (8 : Int32) [(.long p11), (.long p5), (.long (0 : Int64)), (.long (0 : Int64)), (.long (0 : Int64)), (.long (0 : Int64)), (.long (0 : Int64)), (.long (0 : Int64))] (.long (0 : Int64)) ∧ Arv Z h a3 k12 .long (8 : Int32) [(.long (1 : Int64)), (.long (1 : Int64)), (.long (0 : Int64)), (.long (0 : Int64)), (.long (0 : Int64)), (.long (0 : Int64)), (.long (0 : Int64)), (.long (0 : Int64))] (.long (0 : Int64)) ∧ n0 ≤ h.size) ∨ (p11 = p5 ∧ v = none ∧ Exa Z h a1 "com/example/halter/halter/SlidingSum" ∧ Fld Z h a1 "com/example/halter/halter/SlidingSum" "times" "[J" (.ref a2) ∧ Fld Z h a1 "com/example/halter/halter/SlidingSum" "costs" "[J" (.ref a3) ∧ Fld Z h a1 "com/example/halter/halter/SlidingSum" "most" "J" (.long (9223372036854775807 : Int64)) ∧ Fld Z h a1 "com/example/halter/halter/SlidingSum" "length" "J" (.long p4) ∧ Fld Z h a1 "com/example/halter/halter/SlidingSum" "started" "Z" (.int (1 : Int32)) ∧ Fld Z h a1 "com/example/halter/halter/SlidingSum" "latest" "J" (.long p5) ∧ Fld Z h a1 "com/example/halter/halter/SlidingSum" "size" "I" (.int (1 : Int32)) ∧ Fld Z h a1 "com/example/halter/halter/SlidingSum" "sum" "J" (.long (2 : Int64)) ∧ Fld Z h a1 "com/example/halter/halter/SlidingSum" "head" "I" (.int (0 : Int32)) ∧ Arv Z h a6 k7 .long (0 : Int32) [] (.long (0 : Int64)) ∧ Arv Z h a8 k9 .long (0 : Int32) [] (.long (0 : Int64)) ∧ Arv Z h a2 k10 .long (8 : Int32) [(.long p11), (.long (0 : Int64)), (.long (0 : Int64)), (.long (0 : Int64)), (.long (0 : Int64)), (.long (0 : Int64)), (.long (0 : Int64)), (.long (0 : Int64))] (.long (0 : Int64)) ∧ Arv Z h a3 k12 .long (8 : Int32) [(.long (2 : Int64)), (.long (0 : Int64)), (.long (0 : Int64)), (.long (0 : Int64)), (.long (0 : Int64)), (.long (0 : Int64)), (.long (0 : Int64)), (.long (0 : Int64))] (.long (0 : Int64)) ∧ n0 ≤ h.size))
theorem ef7_1395 (m : MethodId) (x0 : Addr) : entryFrame m #[(.ref x0), (.long (1 : Int64))] 4 = mkF m 0 #[.val (.ref x0), .val (.long (1 : Int64)), .second, .unset] [] := by first | (simp [entryFrame, mkF, argsToLocals, Value.category]; done) | rfl
set_option maxRecDepth 65536 in
set_option maxHeartbeats 40000000 in
theorem rm7_1395 (l : Launch) (Z : State) (a0 : Array Value) (hw : ∀ d ∈ tables_1, d.before a0 Z = true) (ws : List Jvm.Cond) (a1 : Addr) (a2 : Addr) (a3 : Addr) (p4 : Int64) (p5 : Int64) (a6 : Addr) (k7 : ClassId) (a8 : Addr) (k9 : ClassId) (k10 : ClassId) (p11 : Int64) (k12 : ClassId) (h0 : Heap) (n0 : Nat) (Z0 : n0 ≤ h0.size) (F0_0 : Exa Z h0 a1 "com/example/halter/halter/SlidingSum") (F0_1 : Fld Z h0 a1 "com/example/halter/halter/SlidingSum" "times" "[J" (.ref a2)) (F0_2 : Fld Z h0 a1 "com/example/halter/halter/SlidingSum" "costs" "[J" (.ref a3)) (F0_3 : Fld Z h0 a1 "com/example/halter/halter/SlidingSum" "most" "J" (.long (9223372036854775807 : Int64))) (F0_4 : Fld Z h0 a1 "com/example/halter/halter/SlidingSum" "length" "J" (.long p4)) (F0_5 : Fld Z h0 a1 "com/example/halter/halter/SlidingSum" "started" "Z" (.int (1 : Int32))) (F0_6 : Fld Z h0 a1 "com/example/halter/halter/SlidingSum" "latest" "J" (.long p5)) (F0_7 : Fld Z h0 a1 "com/example/halter/halter/SlidingSum" "size" "I" (.int (1 : Int32))) (F0_8 : Fld Z h0 a1 "com/example/halter/halter/SlidingSum" "sum" "J" (.long (1 : Int64))) (F0_9 : Fld Z h0 a1 "com/example/halter/halter/SlidingSum" "head" "I" (.int (0 : Int32))) (g_a1 : n0 ≤ a1) (F0_11 : Arv Z h0 a6 k7 .long (0 : Int32) [] (.long (0 : Int64))) (g_a6 : n0 ≤ a6) (F0_13 : Arv Z h0 a8 k9 .long (0 : Int32) [] (.long (0 : Int64))) (g_a8 : n0 ≤ a8) (F0_15 : Arv Z h0 a2 k10 .long (8 : Int32) [(.long p11), (.long (0 : Int64)), (.long (0 : Int64)), (.long (0 : Int64)), (.long (0 : Int64)), (.long (0 : Int64)), (.long (0 : Int64)), (.long (0 : Int64))] (.long (0 : Int64))) (g_a2 : n0 ≤ a2) (F0_17 : Arv Z h0 a3 k12 .long (8 : Int32) [(.long (1 : Int64)), (.long (0 : Int64)), (.long (0 : Int64)), (.long (0 : Int64)), (.long (0 : Int64)), (.long (0 : Int64)), (.long (0 : Int64)), (.long (0 : Int64))] (.long (0 : Int64))) (g_a3 : n0 ≤ a3) (lt0_0 : a1 < a6) (lt0_1 : a6 < a8) (lt0_2 : a8 < a2) (lt0_3 : a2 < a3) :
    MetFree l (⟨"com/example/halter/halter/SlidingSum", "remember", "(J)V"⟩ : MethodName) (head1 (Jvm.Cond.code (⟨"com/example/halter/halter/SlidingSum", "remember", "(J)V"⟩ : MethodName) prog_19_method_9_code 4 none :: ws) R7_1395) (fun a U => a = #[(.ref a1), (.long (1 : Int64))] ∧ Z.Warmed39 U.vm ∧ U.heap = h0) (fun _ _ _ _ _ => True) (fun _ U o U' => ∃ v L, o = .returned v ∧ Q7_1395 Z a1 a2 a3 p4 p5 a6 k7 a8 k9 k10 p11 k12 h0 n0 v U'.heap L ∧ FrameEnd U o U' L R7_1395.cells R7_1395.slots) := by
 refine MetFree.of_bodySF (plainFor_of_name pn_0) hisR ?_
 intro p e s m args below meth c s₁ Bd hml0 hP hK
 obtain ⟨rfl, hZ, hh⟩ := hP
 have hx := Bd.exec
 have hby := Bd.bytes
 have hml : c.maxLocals = 4 := hml0
 have hlk : meth.locks = false := Bd.notSynchronized
 have hown : s.vm.findClass "com/example/halter/halter/SlidingSum" = some m.cls := findClass_of_methodNamed Bd.named
 have hnm := (name_of_methodNamed Bd.named Bd.method).1
 have X0 : Stand p l e R7_1395 s m #[(.ref a1), (.long (1 : Int64))] below meth c s₁ [] 0 0 := Stand.of_body Bd
 have e0 : s₁.heap = h0 := by rw [← hh, Bd.state]; rfl
 have N0 := Fr.nil n0
 rw [ef7_1395 m a1]
 show KEnds p e below s R7_1395.cells R7_1395.slots (Q7_1395 Z a1 a2 a3 p4 p5 a6 k7 a8 k9 k10 p11 k12 h0 n0) s₁ (mkF m 0 #[.val (.ref a1), .val (.long (1 : Int64)), .second, .unset] [])
 refine k_aloadN X0 hx (hb hby d7_0) rfl rfl (pc' := 1) rfl ?_
 refine k_getF X0 hx hZ hown (host := "") (Or.inl (hw _ (List.mem_of_getElem? (i := 41) rfl))) Via.refl e0 F0_7 (hb hby d7_1) (pc' := 4) rfl (fun T1396 X1396 e1396 => ?_)
 refine k_if_le X1396 hx (hb hby d7_4) (pn := 7) rfl (py := 52) (by decide) (fun hc => absurd (by decide) hc) (fun _ => ?_)
 refine k_aloadN X1396 hx (hb hby d7_7) rfl rfl (pc' := 8) rfl ?_
 refine k_getF X1396 hx hZ hown (host := "") (Or.inl (hw _ (List.mem_of_getElem? (i := 11) rfl))) Via.refl e1396 F0_1 (hb hby d7_8) (pc' := 11) rfl (fun T1397 X1397 e1397 => ?_)
 refine k_aloadN X1397 hx (hb hby d7_11) rfl rfl (pc' := 12) rfl ?_
 refine k_aloadN X1397 hx (hb hby d7_12) rfl rfl (pc' := 13) rfl ?_
 refine k_getF X1397 hx hZ hown (host := "") (Or.inl (hw _ (List.mem_of_getElem? (i := 41) rfl))) Via.refl e1397 F0_7 (hb hby d7_13) (pc' := 16) rfl (fun T1398 X1398 e1398 => ?_)
 refine k_iconst X1398 hx (hb hby d7_16) (pc' := 17) rfl (z := (1 : Int32)) rfl ?_
 refine k_isubL X1398 hx (hb hby d7_17) (pc' := 18) rfl (z := (0 : Int32)) (by decide) ?_
 refine k_callP X1398 hx hZ hown (a := a1) (hw _ (List.mem_of_getElem? (i := 70) rfl)) (hw _ (List.mem_of_getElem? (i := 71) rfl)) (hw _ (List.mem_of_getElem? (i := 72) rfl)) (hw _ (List.mem_of_getElem? (i := 1) rfl)) (hw _ (List.mem_of_getElem? (i := 2) rfl)) (hw _ (List.mem_of_getElem? (i := 73) rfl)) (by decide) F0_0 (rm12_1399 l Z a0 hw [] a1 a2 a3 p4 p5 k10 p11 k12 h0 n0 Z0 F0_0 F0_1 F0_2 F0_3 F0_4 F0_5 F0_6 F0_7 F0_8 F0_9 F0_15 F0_17 (Nat.lt_trans (Nat.lt_trans lt0_0 lt0_1) lt0_2) lt0_3) (by decide) (by decide) e1398 (by rw [hml]; rfl) (argsL := [(.int (0 : Int32))]) (rest := [(.ref a2)]) (lenOf pd_7 rfl) rfl (W := 1) (Nat.le_refl _) rfl (hb hby d7_18) (by decide) (by decide) (pc' := 21) rfl (fun T1402 L1402 r1402 X1402 q1402 => ?_)
 obtain ⟨N1402, e1402, q1402⟩ := q1402
 have N1402' := Fr.app N0 N1402
 obtain rfl := q1402
 show KEnds p e below s _ _ _ T1402 (mkF m 21 #[.val (.ref a1), .val (.long (1 : Int64)), .second, .unset] [(.int (0 : Int32)), (.ref a2)])
 refine k_laload X1402 hx hZ e1402 F0_15 ⟨by decide, by decide⟩ (v := (.long p11)) rfl (hb hby d7_21) (pc' := 22) rfl ?_
 refine k_aloadN X1402 hx (hb hby d7_22) rfl rfl (pc' := 23) rfl ?_
 refine k_getF X1402 hx hZ hown (host := "") (Or.inl (hw _ (List.mem_of_getElem? (i := 35) rfl))) Via.refl e1402 F0_6 (hb hby d7_23) (pc' := 26) rfl (fun T1403 X1403 e1403 => ?_)
 refine k_lcif_ne X1403 hx (hb hby d7_26) (pm := 27) rfl (hb hby d7_27) (pn := 30) rfl (py := 52) (by decide) (fun hc1404 => ?_) (fun hc1404 => ?_)
 ·
  refine k_aloadN X1403 hx (hb hby d7_52) rfl rfl (pc' := 53) rfl ?_
  refine k_getF X1403 hx hZ hown (host := "") (Or.inl (hw _ (List.mem_of_getElem? (i := 41) rfl))) Via.refl e1403 F0_7 (hb hby d7_53) (pc' := 56) rfl (fun T1405 X1405 e1405 => ?_)
  refine k_aloadN X1405 hx (hb hby d7_56) rfl rfl (pc' := 57) rfl ?_
  refine k_getF X1405 hx hZ hown (host := "") (Or.inl (hw _ (List.mem_of_getElem? (i := 11) rfl))) Via.refl e1405 F0_1 (hb hby d7_57) (pc' := 60) rfl (fun T1406 X1406 e1406 => ?_)
  refine k_alen X1406 hx hZ e1406 F0_15 (hb hby d7_60) (pc' := 61) rfl ?_
  refine k_icmp_ne X1406 hx (hb hby d7_61) (pn := 64) rfl (py := 68) (by decide) (fun _ => ?_) (fun hc => absurd hc (by decide))
  refine k_aloadN X1406 hx (hb hby d7_68) rfl rfl (pc' := 69) rfl ?_
  refine k_aloadN X1406 hx (hb hby d7_69) rfl rfl (pc' := 70) rfl ?_
  refine k_getF X1406 hx hZ hown (host := "") (Or.inl (hw _ (List.mem_of_getElem? (i := 41) rfl))) Via.refl e1406 F0_7 (hb hby d7_70) (pc' := 73) rfl (fun T1407 X1407 e1407 => ?_)
  refine k_callP X1407 hx hZ hown (a := a1) (hw _ (List.mem_of_getElem? (i := 70) rfl)) (hw _ (List.mem_of_getElem? (i := 71) rfl)) (hw _ (List.mem_of_getElem? (i := 72) rfl)) (hw _ (List.mem_of_getElem? (i := 1) rfl)) (hw _ (List.mem_of_getElem? (i := 2) rfl)) (hw _ (List.mem_of_getElem? (i := 73) rfl)) (by decide) F0_0 (rm12_1408 l Z a0 hw [] a1 a2 a3 p4 p5 k10 p11 k12 h0 n0 Z0 F0_0 F0_1 F0_2 F0_3 F0_4 F0_5 F0_6 F0_7 F0_8 F0_9 F0_15 F0_17 (Nat.lt_trans (Nat.lt_trans lt0_0 lt0_1) lt0_2) lt0_3) (by decide) (by decide) e1407 (by rw [hml]; rfl) (argsL := [(.int (1 : Int32))]) (rest := []) (lenOf pd_7 rfl) rfl (W := 0) (Nat.le_refl _) rfl (hb hby d7_73) (by decide) (by decide) (pc' := 76) rfl (fun T1411 L1411 r1411 X1411 q1411 => ?_)
  obtain ⟨N1411, e1411, q1411⟩ := q1411
  have N1411' := Fr.app N1402' N1411
  obtain rfl := q1411
  show KEnds p e below s _ _ _ T1411 (mkF m 76 #[.val (.ref a1), .val (.long (1 : Int64)), .second, .unset] [(.int (1 : Int32))])
  refine k_istoreN X1411 hx (hb hby d7_76) (Ls' := #[.val (.ref a1), .val (.long (1 : Int64)), .second, .val (.int (1 : Int32))]) rfl (pc' := 77) rfl ?_
  refine k_aloadN X1411 hx (hb hby d7_77) rfl rfl (pc' := 78) rfl ?_
  refine k_getF X1411 hx hZ hown (host := "") (Or.inl (hw _ (List.mem_of_getElem? (i := 11) rfl))) Via.refl e1411 F0_1 (hb hby d7_78) (pc' := 81) rfl (fun T1412 X1412 e1412 => ?_)
  refine k_iloadN X1412 hx (hb hby d7_81) rfl (pc' := 82) rfl ?_
  refine k_aloadN X1412 hx (hb hby d7_82) rfl rfl (pc' := 83) rfl ?_
  refine k_getF X1412 hx hZ hown (host := "") (Or.inl (hw _ (List.mem_of_getElem? (i := 35) rfl))) Via.refl e1412 F0_6 (hb hby d7_83) (pc' := 86) rfl (fun T1413 X1413 e1413 => ?_)
  refine k_lastore X1413 hx hZ e1413 F0_15 ⟨by decide, by decide⟩ (i := 1) rfl (Nat.le_of_ble_eq_true rfl) (hb hby d7_86) (pc' := 87) rfl (fun T1414 h1414 X1414 e1414 W1414 V1414 => ?_)
  have Vw1414 : Arv Z h1414 a2 k10 .long (8 : Int32) [(.long p11), (.long p5), (.long (0 : Int64)), (.long (0 : Int64)), (.long (0 : Int64)), (.long (0 : Int64)), (.long (0 : Int64)), (.long (0 : Int64))] (.long (0 : Int64)) := V1414
  have N1414 := Fr.snoc X1414 N1411' g_a2
  have Z1414 : n0 ≤ h1414.size := Nat.le_trans Z0 (Nat.le_of_eq W1414.size.symm)
  refine k_aloadN X1414 hx (hb hby d7_87) rfl rfl (pc' := 88) rfl ?_
  have F1415 := (F0_2.other W1414 (Or.inl (Nat.ne_of_lt (Nat.lt_trans (Nat.lt_trans lt0_0 lt0_1) lt0_2))))
  refine k_getF X1414 hx hZ hown (host := "") (Or.inl (hw _ (List.mem_of_getElem? (i := 13) rfl))) Via.refl e1414 F1415 (hb hby d7_88) (pc' := 91) rfl (fun T1416 X1416 e1416 => ?_)
  refine k_iloadN X1416 hx (hb hby d7_91) rfl (pc' := 92) rfl ?_
  refine k_lloadN X1416 hx (hb hby d7_92) rfl (pc' := 93) rfl ?_
  have F1417 := (F0_17.other W1414 (Ne.symm (Nat.ne_of_lt lt0_3)))
  refine k_lastore X1416 hx hZ e1416 F1417 ⟨by decide, by decide⟩ (i := 1) rfl (Nat.le_of_ble_eq_true rfl) (hb hby d7_93) (pc' := 94) rfl (fun T1418 h1418 X1418 e1418 W1418 V1418 => ?_)
  have Vw1418 : Arv Z h1418 a3 k12 .long (8 : Int32) [(.long (1 : Int64)), (.long (1 : Int64)), (.long (0 : Int64)), (.long (0 : Int64)), (.long (0 : Int64)), (.long (0 : Int64)), (.long (0 : Int64)), (.long (0 : Int64))] (.long (0 : Int64)) := V1418
  have N1418 := Fr.snoc X1418 N1414 g_a3
  have Z1418 : n0 ≤ h1418.size := Nat.le_trans Z1414 (Nat.le_of_eq W1418.size.symm)
  refine k_aloadN X1418 hx (hb hby d7_94) rfl rfl (pc' := 95) rfl ?_
  refine k_dup X1418 hx (hb hby d7_95) rfl (pc' := 96) rfl ?_
  have F1419 := ((F0_7.other W1414 (Or.inl (Nat.ne_of_lt (Nat.lt_trans (Nat.lt_trans lt0_0 lt0_1) lt0_2)))).other W1418 (Or.inl (Nat.ne_of_lt (Nat.lt_trans (Nat.lt_trans (Nat.lt_trans lt0_0 lt0_1) lt0_2) lt0_3))))
  refine k_getF X1418 hx hZ hown (host := "") (Or.inl (hw _ (List.mem_of_getElem? (i := 41) rfl))) Via.refl e1418 F1419 (hb hby d7_96) (pc' := 99) rfl (fun T1420 X1420 e1420 => ?_)
  refine k_iconst X1420 hx (hb hby d7_99) (pc' := 100) rfl (z := (1 : Int32)) rfl ?_
  refine k_iaddL X1420 hx (hb hby d7_100) (pc' := 101) rfl (z := (2 : Int32)) (by decide) ?_
  have F1421 := ((F0_0.wr W1414).wr W1418)
  refine k_putF X1420 hx hZ hown (host := "") (Or.inl (hw _ (List.mem_of_getElem? (i := 41) rfl))) Via.refl e1420 F1419 F1421 (Or.inl (hw _ (List.mem_of_getElem? (i := 42) rfl))) (hw _ (List.mem_of_getElem? (i := 1) rfl)) (ty := .int) (by decide) rfl rfl (hb hby d7_101) (pc' := 104) rfl (fun T1422 h1422 X1422 e1422 W1422 => ?_)
  have Fw1422 : Fld Z h1422 a1 "com/example/halter/halter/SlidingSum" "size" "I" (.int (2 : Int32)) := F1419.same W1422
  have N1422 := Fr.snoc X1422 N1418 g_a1
  have Z1422 : n0 ≤ h1422.size := Nat.le_trans Z1418 (Nat.le_of_eq W1422.size.symm)
  refine k_aloadN X1422 hx (hb hby d7_104) rfl rfl (pc' := 105) rfl ?_
  refine k_dup X1422 hx (hb hby d7_105) rfl (pc' := 106) rfl ?_
  have F1423 := (((F0_8.other W1414 (Or.inl (Nat.ne_of_lt (Nat.lt_trans (Nat.lt_trans lt0_0 lt0_1) lt0_2)))).other W1418 (Or.inl (Nat.ne_of_lt (Nat.lt_trans (Nat.lt_trans (Nat.lt_trans lt0_0 lt0_1) lt0_2) lt0_3)))).other W1422 (Or.inr (slot_ne (Or.inl (hw _ (List.mem_of_getElem? (i := 44) rfl))) (Or.inl (hw _ (List.mem_of_getElem? (i := 42) rfl))) (by decide) (t := .long) (t' := .int) (by decide) (by decide))))
  refine k_getF X1422 hx hZ hown (host := "") (Or.inl (hw _ (List.mem_of_getElem? (i := 43) rfl))) Via.refl e1422 F1423 (hb hby d7_106) (pc' := 109) rfl (fun T1424 X1424 e1424 => ?_)
  refine k_lloadN X1424 hx (hb hby d7_109) rfl (pc' := 110) rfl ?_
  refine k_laddL X1424 hx (hb hby d7_110) (pc' := 111) rfl (z := (2 : Int64)) (by decide) ?_
  have F1425 := (F1421.wr W1422)
  refine k_putF X1424 hx hZ hown (host := "") (Or.inl (hw _ (List.mem_of_getElem? (i := 43) rfl))) Via.refl e1424 F1423 F1425 (Or.inl (hw _ (List.mem_of_getElem? (i := 44) rfl))) (hw _ (List.mem_of_getElem? (i := 1) rfl)) (ty := .long) (by decide) rfl rfl (hb hby d7_111) (pc' := 114) rfl (fun T1426 h1426 X1426 e1426 W1426 => ?_)
  have Fw1426 : Fld Z h1426 a1 "com/example/halter/halter/SlidingSum" "sum" "J" (.long (2 : Int64)) := F1423.same W1426
  have N1426 := Fr.snoc X1426 N1422 g_a1
  have Z1426 : n0 ≤ h1426.size := Nat.le_trans Z1422 (Nat.le_of_eq W1426.size.symm)
  have F1435 := (F1425.wr W1426)
  have F1436 := ((((F0_1.other W1414 (Or.inl (Nat.ne_of_lt (Nat.lt_trans (Nat.lt_trans lt0_0 lt0_1) lt0_2)))).other W1418 (Or.inl (Nat.ne_of_lt (Nat.lt_trans (Nat.lt_trans (Nat.lt_trans lt0_0 lt0_1) lt0_2) lt0_3)))).other W1422 (Or.inr (slot_ne (Or.inl (hw _ (List.mem_of_getElem? (i := 12) rfl))) (Or.inl (hw _ (List.mem_of_getElem? (i := 42) rfl))) (by decide) (t := (.array .long)) (t' := .int) (by decide) (by decide)))).other W1426 (Or.inr (slot_ne (Or.inl (hw _ (List.mem_of_getElem? (i := 12) rfl))) (Or.inl (hw _ (List.mem_of_getElem? (i := 44) rfl))) (by decide) (t := (.array .long)) (t' := .long) (by decide) (by decide))))
  have F1437 := (((F1415.other W1418 (Or.inl (Nat.ne_of_lt (Nat.lt_trans (Nat.lt_trans (Nat.lt_trans lt0_0 lt0_1) lt0_2) lt0_3)))).other W1422 (Or.inr (slot_ne (Or.inl (hw _ (List.mem_of_getElem? (i := 14) rfl))) (Or.inl (hw _ (List.mem_of_getElem? (i := 42) rfl))) (by decide) (t := (.array .long)) (t' := .int) (by decide) (by decide)))).other W1426 (Or.inr (slot_ne (Or.inl (hw _ (List.mem_of_getElem? (i := 14) rfl))) (Or.inl (hw _ (List.mem_of_getElem? (i := 44) rfl))) (by decide) (t := (.array .long)) (t' := .long) (by decide) (by decide))))
  have F1438 := ((((F0_3.other W1414 (Or.inl (Nat.ne_of_lt (Nat.lt_trans (Nat.lt_trans lt0_0 lt0_1) lt0_2)))).other W1418 (Or.inl (Nat.ne_of_lt (Nat.lt_trans (Nat.lt_trans (Nat.lt_trans lt0_0 lt0_1) lt0_2) lt0_3)))).other W1422 (Or.inr (slot_ne (Or.inr (hw _ (List.mem_of_getElem? (i := 16) rfl))) (Or.inl (hw _ (List.mem_of_getElem? (i := 42) rfl))) (by decide) (t := .long) (t' := .int) (by decide) (by decide)))).other W1426 (Or.inr (slot_ne (Or.inr (hw _ (List.mem_of_getElem? (i := 16) rfl))) (Or.inl (hw _ (List.mem_of_getElem? (i := 44) rfl))) (by decide) (t := .long) (t' := .long) (by decide) (by decide))))
  have F1439 := ((((F0_4.other W1414 (Or.inl (Nat.ne_of_lt (Nat.lt_trans (Nat.lt_trans lt0_0 lt0_1) lt0_2)))).other W1418 (Or.inl (Nat.ne_of_lt (Nat.lt_trans (Nat.lt_trans (Nat.lt_trans lt0_0 lt0_1) lt0_2) lt0_3)))).other W1422 (Or.inr (slot_ne (Or.inr (hw _ (List.mem_of_getElem? (i := 18) rfl))) (Or.inl (hw _ (List.mem_of_getElem? (i := 42) rfl))) (by decide) (t := .long) (t' := .int) (by decide) (by decide)))).other W1426 (Or.inr (slot_ne (Or.inr (hw _ (List.mem_of_getElem? (i := 18) rfl))) (Or.inl (hw _ (List.mem_of_getElem? (i := 44) rfl))) (by decide) (t := .long) (t' := .long) (by decide) (by decide))))
  have F1440 := ((((F0_5.other W1414 (Or.inl (Nat.ne_of_lt (Nat.lt_trans (Nat.lt_trans lt0_0 lt0_1) lt0_2)))).other W1418 (Or.inl (Nat.ne_of_lt (Nat.lt_trans (Nat.lt_trans (Nat.lt_trans lt0_0 lt0_1) lt0_2) lt0_3)))).other W1422 (Or.inr (slot_ne (Or.inl (hw _ (List.mem_of_getElem? (i := 25) rfl))) (Or.inl (hw _ (List.mem_of_getElem? (i := 42) rfl))) (by decide) (t := .boolean) (t' := .int) (by decide) (by decide)))).other W1426 (Or.inr (slot_ne (Or.inl (hw _ (List.mem_of_getElem? (i := 25) rfl))) (Or.inl (hw _ (List.mem_of_getElem? (i := 44) rfl))) (by decide) (t := .boolean) (t' := .long) (by decide) (by decide))))
  have F1441 := ((((F0_6.other W1414 (Or.inl (Nat.ne_of_lt (Nat.lt_trans (Nat.lt_trans lt0_0 lt0_1) lt0_2)))).other W1418 (Or.inl (Nat.ne_of_lt (Nat.lt_trans (Nat.lt_trans (Nat.lt_trans lt0_0 lt0_1) lt0_2) lt0_3)))).other W1422 (Or.inr (slot_ne (Or.inl (hw _ (List.mem_of_getElem? (i := 36) rfl))) (Or.inl (hw _ (List.mem_of_getElem? (i := 42) rfl))) (by decide) (t := .long) (t' := .int) (by decide) (by decide)))).other W1426 (Or.inr (slot_ne (Or.inl (hw _ (List.mem_of_getElem? (i := 36) rfl))) (Or.inl (hw _ (List.mem_of_getElem? (i := 44) rfl))) (by decide) (t := .long) (t' := .long) (by decide) (by decide))))
  have F1442 := (Fw1422.other W1426 (Or.inr (slot_ne (Or.inl (hw _ (List.mem_of_getElem? (i := 42) rfl))) (Or.inl (hw _ (List.mem_of_getElem? (i := 44) rfl))) (by decide) (t := .int) (t' := .long) (by decide) (by decide))))
  have F1443 := ((((F0_9.other W1414 (Or.inl (Nat.ne_of_lt (Nat.lt_trans (Nat.lt_trans lt0_0 lt0_1) lt0_2)))).other W1418 (Or.inl (Nat.ne_of_lt (Nat.lt_trans (Nat.lt_trans (Nat.lt_trans lt0_0 lt0_1) lt0_2) lt0_3)))).other W1422 (Or.inr (slot_ne (Or.inl (hw _ (List.mem_of_getElem? (i := 69) rfl))) (Or.inl (hw _ (List.mem_of_getElem? (i := 42) rfl))) (by decide) (t := .int) (t' := .int) (by decide) (by decide)))).other W1426 (Or.inr (slot_ne (Or.inl (hw _ (List.mem_of_getElem? (i := 69) rfl))) (Or.inl (hw _ (List.mem_of_getElem? (i := 44) rfl))) (by decide) (t := .int) (t' := .long) (by decide) (by decide))))
  have F1444 := ((((F0_11.other W1414 (Nat.ne_of_lt (Nat.lt_trans lt0_1 lt0_2))).other W1418 (Nat.ne_of_lt (Nat.lt_trans (Nat.lt_trans lt0_1 lt0_2) lt0_3))).other W1422 (Ne.symm (Nat.ne_of_lt lt0_0))).other W1426 (Ne.symm (Nat.ne_of_lt lt0_0)))
  have F1445 := ((((F0_13.other W1414 (Nat.ne_of_lt lt0_2)).other W1418 (Nat.ne_of_lt (Nat.lt_trans lt0_2 lt0_3))).other W1422 (Ne.symm (Nat.ne_of_lt (Nat.lt_trans lt0_0 lt0_1)))).other W1426 (Ne.symm (Nat.ne_of_lt (Nat.lt_trans lt0_0 lt0_1))))
  have F1446 := (((Vw1414.other W1418 (Nat.ne_of_lt lt0_3)).other W1422 (Ne.symm (Nat.ne_of_lt (Nat.lt_trans (Nat.lt_trans lt0_0 lt0_1) lt0_2)))).other W1426 (Ne.symm (Nat.ne_of_lt (Nat.lt_trans (Nat.lt_trans lt0_0 lt0_1) lt0_2))))
  have F1447 := ((Vw1418.other W1422 (Ne.symm (Nat.ne_of_lt (Nat.lt_trans (Nat.lt_trans (Nat.lt_trans lt0_0 lt0_1) lt0_2) lt0_3)))).other W1426 (Ne.symm (Nat.ne_of_lt (Nat.lt_trans (Nat.lt_trans (Nat.lt_trans lt0_0 lt0_1) lt0_2) lt0_3))))
  exact k_ret X1426 hx Bd.returns (hb hby d7_114) hlk (by decide) (by decide) (by rw [e1426]; exact ⟨N1426, (Or.inl ⟨hc1404, rfl, F1435, F1436, F1437, F1438, F1439, F1440, F1441, F1442, Fw1426, F1443, F1444, F1445, F1446, F1447, Z1426⟩)⟩)
 ·
  refine k_aloadN X1403 hx (hb hby d7_30) rfl rfl (pc' := 31) rfl ?_
  refine k_getF X1403 hx hZ hown (host := "") (Or.inl (hw _ (List.mem_of_getElem? (i := 13) rfl))) Via.refl e1403 F0_2 (hb hby d7_31) (pc' := 34) rfl (fun T1427 X1427 e1427 => ?_)
  refine k_aloadN X1427 hx (hb hby d7_34) rfl rfl (pc' := 35) rfl ?_
  refine k_aloadN X1427 hx (hb hby d7_35) rfl rfl (pc' := 36) rfl ?_
  refine k_getF X1427 hx hZ hown (host := "") (Or.inl (hw _ (List.mem_of_getElem? (i := 41) rfl))) Via.refl e1427 F0_7 (hb hby d7_36) (pc' := 39) rfl (fun T1428 X1428 e1428 => ?_)
  refine k_iconst X1428 hx (hb hby d7_39) (pc' := 40) rfl (z := (1 : Int32)) rfl ?_
  refine k_isubL X1428 hx (hb hby d7_40) (pc' := 41) rfl (z := (0 : Int32)) (by decide) ?_
  refine k_callP X1428 hx hZ hown (a := a1) (hw _ (List.mem_of_getElem? (i := 70) rfl)) (hw _ (List.mem_of_getElem? (i := 71) rfl)) (hw _ (List.mem_of_getElem? (i := 72) rfl)) (hw _ (List.mem_of_getElem? (i := 1) rfl)) (hw _ (List.mem_of_getElem? (i := 2) rfl)) (hw _ (List.mem_of_getElem? (i := 73) rfl)) (by decide) F0_0 (rm12_1399 l Z a0 hw [] a1 a2 a3 p4 p5 k10 p11 k12 h0 n0 Z0 F0_0 F0_1 F0_2 F0_3 F0_4 F0_5 F0_6 F0_7 F0_8 F0_9 F0_15 F0_17 (Nat.lt_trans (Nat.lt_trans lt0_0 lt0_1) lt0_2) lt0_3) (by decide) (by decide) e1428 (by rw [hml]; rfl) (argsL := [(.int (0 : Int32))]) (rest := [(.ref a3)]) (lenOf pd_7 rfl) rfl (W := 1) (Nat.le_refl _) rfl (hb hby d7_41) (by decide) (by decide) (pc' := 44) rfl (fun T1429 L1429 r1429 X1429 q1429 => ?_)
  obtain ⟨N1429, e1429, q1429⟩ := q1429
  have N1429' := Fr.app N1402' N1429
  obtain rfl := q1429
  show KEnds p e below s _ _ _ T1429 (mkF m 44 #[.val (.ref a1), .val (.long (1 : Int64)), .second, .unset] [(.int (0 : Int32)), (.ref a3)])
  refine k_dup2 X1429 hx (hb hby d7_44) rfl rfl (pc' := 45) rfl ?_
  refine k_laload X1429 hx hZ e1429 F0_17 ⟨by decide, by decide⟩ (v := (.long (1 : Int64))) rfl (hb hby d7_45) (pc' := 46) rfl ?_
  refine k_lloadN X1429 hx (hb hby d7_46) rfl (pc' := 47) rfl ?_
  refine k_laddL X1429 hx (hb hby d7_47) (pc' := 48) rfl (z := (2 : Int64)) (by decide) ?_
  refine k_lastore X1429 hx hZ e1429 F0_17 ⟨by decide, by decide⟩ (i := 0) rfl (Nat.le_of_ble_eq_true rfl) (hb hby d7_48) (pc' := 49) rfl (fun T1430 h1430 X1430 e1430 W1430 V1430 => ?_)
  have Vw1430 : Arv Z h1430 a3 k12 .long (8 : Int32) [(.long (2 : Int64)), (.long (0 : Int64)), (.long (0 : Int64)), (.long (0 : Int64)), (.long (0 : Int64)), (.long (0 : Int64)), (.long (0 : Int64)), (.long (0 : Int64))] (.long (0 : Int64)) := V1430
  have N1430 := Fr.snoc X1430 N1429' g_a3
  have Z1430 : n0 ≤ h1430.size := Nat.le_trans Z0 (Nat.le_of_eq W1430.size.symm)
  refine k_goto X1430 hx (hb hby d7_49) (pc' := 104) (by decide) ?_
  refine k_aloadN X1430 hx (hb hby d7_104) rfl rfl (pc' := 105) rfl ?_
  refine k_dup X1430 hx (hb hby d7_105) rfl (pc' := 106) rfl ?_
  have F1431 := (F0_8.other W1430 (Or.inl (Nat.ne_of_lt (Nat.lt_trans (Nat.lt_trans (Nat.lt_trans lt0_0 lt0_1) lt0_2) lt0_3))))
  refine k_getF X1430 hx hZ hown (host := "") (Or.inl (hw _ (List.mem_of_getElem? (i := 43) rfl))) Via.refl e1430 F1431 (hb hby d7_106) (pc' := 109) rfl (fun T1432 X1432 e1432 => ?_)
  refine k_lloadN X1432 hx (hb hby d7_109) rfl (pc' := 110) rfl ?_
  refine k_laddL X1432 hx (hb hby d7_110) (pc' := 111) rfl (z := (2 : Int64)) (by decide) ?_
  have F1433 := (F0_0.wr W1430)
  refine k_putF X1432 hx hZ hown (host := "") (Or.inl (hw _ (List.mem_of_getElem? (i := 43) rfl))) Via.refl e1432 F1431 F1433 (Or.inl (hw _ (List.mem_of_getElem? (i := 44) rfl))) (hw _ (List.mem_of_getElem? (i := 1) rfl)) (ty := .long) (by decide) rfl rfl (hb hby d7_111) (pc' := 114) rfl (fun T1434 h1434 X1434 e1434 W1434 => ?_)
  have Fw1434 : Fld Z h1434 a1 "com/example/halter/halter/SlidingSum" "sum" "J" (.long (2 : Int64)) := F1431.same W1434
  have N1434 := Fr.snoc X1434 N1430 g_a1
  have Z1434 : n0 ≤ h1434.size := Nat.le_trans Z1430 (Nat.le_of_eq W1434.size.symm)
  have F1448 := (F1433.wr W1434)
  have F1449 := ((F0_1.other W1430 (Or.inl (Nat.ne_of_lt (Nat.lt_trans (Nat.lt_trans (Nat.lt_trans lt0_0 lt0_1) lt0_2) lt0_3)))).other W1434 (Or.inr (slot_ne (Or.inl (hw _ (List.mem_of_getElem? (i := 12) rfl))) (Or.inl (hw _ (List.mem_of_getElem? (i := 44) rfl))) (by decide) (t := (.array .long)) (t' := .long) (by decide) (by decide))))
  have F1450 := ((F0_2.other W1430 (Or.inl (Nat.ne_of_lt (Nat.lt_trans (Nat.lt_trans (Nat.lt_trans lt0_0 lt0_1) lt0_2) lt0_3)))).other W1434 (Or.inr (slot_ne (Or.inl (hw _ (List.mem_of_getElem? (i := 14) rfl))) (Or.inl (hw _ (List.mem_of_getElem? (i := 44) rfl))) (by decide) (t := (.array .long)) (t' := .long) (by decide) (by decide))))
  have F1451 := ((F0_3.other W1430 (Or.inl (Nat.ne_of_lt (Nat.lt_trans (Nat.lt_trans (Nat.lt_trans lt0_0 lt0_1) lt0_2) lt0_3)))).other W1434 (Or.inr (slot_ne (Or.inr (hw _ (List.mem_of_getElem? (i := 16) rfl))) (Or.inl (hw _ (List.mem_of_getElem? (i := 44) rfl))) (by decide) (t := .long) (t' := .long) (by decide) (by decide))))
  have F1452 := ((F0_4.other W1430 (Or.inl (Nat.ne_of_lt (Nat.lt_trans (Nat.lt_trans (Nat.lt_trans lt0_0 lt0_1) lt0_2) lt0_3)))).other W1434 (Or.inr (slot_ne (Or.inr (hw _ (List.mem_of_getElem? (i := 18) rfl))) (Or.inl (hw _ (List.mem_of_getElem? (i := 44) rfl))) (by decide) (t := .long) (t' := .long) (by decide) (by decide))))
  have F1453 := ((F0_5.other W1430 (Or.inl (Nat.ne_of_lt (Nat.lt_trans (Nat.lt_trans (Nat.lt_trans lt0_0 lt0_1) lt0_2) lt0_3)))).other W1434 (Or.inr (slot_ne (Or.inl (hw _ (List.mem_of_getElem? (i := 25) rfl))) (Or.inl (hw _ (List.mem_of_getElem? (i := 44) rfl))) (by decide) (t := .boolean) (t' := .long) (by decide) (by decide))))
  have F1454 := ((F0_6.other W1430 (Or.inl (Nat.ne_of_lt (Nat.lt_trans (Nat.lt_trans (Nat.lt_trans lt0_0 lt0_1) lt0_2) lt0_3)))).other W1434 (Or.inr (slot_ne (Or.inl (hw _ (List.mem_of_getElem? (i := 36) rfl))) (Or.inl (hw _ (List.mem_of_getElem? (i := 44) rfl))) (by decide) (t := .long) (t' := .long) (by decide) (by decide))))
  have F1455 := ((F0_7.other W1430 (Or.inl (Nat.ne_of_lt (Nat.lt_trans (Nat.lt_trans (Nat.lt_trans lt0_0 lt0_1) lt0_2) lt0_3)))).other W1434 (Or.inr (slot_ne (Or.inl (hw _ (List.mem_of_getElem? (i := 42) rfl))) (Or.inl (hw _ (List.mem_of_getElem? (i := 44) rfl))) (by decide) (t := .int) (t' := .long) (by decide) (by decide))))
  have F1456 := ((F0_9.other W1430 (Or.inl (Nat.ne_of_lt (Nat.lt_trans (Nat.lt_trans (Nat.lt_trans lt0_0 lt0_1) lt0_2) lt0_3)))).other W1434 (Or.inr (slot_ne (Or.inl (hw _ (List.mem_of_getElem? (i := 69) rfl))) (Or.inl (hw _ (List.mem_of_getElem? (i := 44) rfl))) (by decide) (t := .int) (t' := .long) (by decide) (by decide))))
  have F1457 := ((F0_11.other W1430 (Nat.ne_of_lt (Nat.lt_trans (Nat.lt_trans lt0_1 lt0_2) lt0_3))).other W1434 (Ne.symm (Nat.ne_of_lt lt0_0)))
  have F1458 := ((F0_13.other W1430 (Nat.ne_of_lt (Nat.lt_trans lt0_2 lt0_3))).other W1434 (Ne.symm (Nat.ne_of_lt (Nat.lt_trans lt0_0 lt0_1))))
  have F1459 := ((F0_15.other W1430 (Nat.ne_of_lt lt0_3)).other W1434 (Ne.symm (Nat.ne_of_lt (Nat.lt_trans (Nat.lt_trans lt0_0 lt0_1) lt0_2))))
  have F1460 := (Vw1430.other W1434 (Ne.symm (Nat.ne_of_lt (Nat.lt_trans (Nat.lt_trans (Nat.lt_trans lt0_0 lt0_1) lt0_2) lt0_3))))
  exact k_ret X1434 hx Bd.returns (hb hby d7_114) hlk (by decide) (by decide) (by rw [e1434]; exact ⟨N1434, (Or.inr ⟨hc1404, rfl, F1448, F1449, F1450, F1451, F1452, F1453, F1454, F1455, Fw1434, F1456, F1457, F1458, F1459, F1460, Z1434⟩)⟩)
abbrev R12_1501 : Room := { frames := 0, cells := 0, slots := 0, locals := 0 }
def Q12_1501 (Z : State) (a1 : Addr) (a2 : Addr) (a3 : Addr) (p4 : Int64) (p5 : Int64) (k6 : ClassId) (p7 : Int64) (k8 : ClassId) (h0 : Heap) (n0 : Nat) (v : Option Value) (h : Heap) (L : List Loc) : Prop := Fr n0 L ∧ h = h0 ∧ ((v = some (.int (1 : Int32))))
theorem ef12_1501 (m : MethodId) (x0 : Addr) : entryFrame m #[(.ref x0), (.int (0 : Int32))] 3 = mkF m 0 #[.val (.ref x0), .val (.int (0 : Int32)), .unset] [] := by first | (simp [entryFrame, mkF, argsToLocals, Value.category]; done) | rfl
set_option maxRecDepth 65536 in
set_option maxHeartbeats 40000000 in
theorem rm12_1501 (l : Launch) (Z : State) (a0 : Array Value) (hw : ∀ d ∈ tables_1, d.before a0 Z = true) (ws : List Jvm.Cond) (a1 : Addr) (a2 : Addr) (a3 : Addr) (p4 : Int64) (p5 : Int64) (k6 : ClassId) (p7 : Int64) (k8 : ClassId) (h0 : Heap) (n0 : Nat) (Z0 : n0 ≤ h0.size) (F0_0 : Exa Z h0 a1 "com/example/halter/halter/SlidingSum") (F0_1 : Fld Z h0 a1 "com/example/halter/halter/SlidingSum" "times" "[J" (.ref a2)) (F0_2 : Fld Z h0 a1 "com/example/halter/halter/SlidingSum" "costs" "[J" (.ref a3)) (F0_3 : Fld Z h0 a1 "com/example/halter/halter/SlidingSum" "most" "J" (.long (9223372036854775807 : Int64))) (F0_4 : Fld Z h0 a1 "com/example/halter/halter/SlidingSum" "length" "J" (.long p4)) (F0_5 : Fld Z h0 a1 "com/example/halter/halter/SlidingSum" "started" "Z" (.int (1 : Int32))) (F0_6 : Fld Z h0 a1 "com/example/halter/halter/SlidingSum" "latest" "J" (.long p5)) (F0_7 : Fld Z h0 a1 "com/example/halter/halter/SlidingSum" "size" "I" (.int (0 : Int32))) (F0_8 : Fld Z h0 a1 "com/example/halter/halter/SlidingSum" "sum" "J" (.long (0 : Int64))) (F0_9 : Fld Z h0 a1 "com/example/halter/halter/SlidingSum" "head" "I" (.int (1 : Int32))) (F0_10 : Arv Z h0 a2 k6 .long (8 : Int32) [(.long p7), (.long (0 : Int64)), (.long (0 : Int64)), (.long (0 : Int64)), (.long (0 : Int64)), (.long (0 : Int64)), (.long (0 : Int64)), (.long (0 : Int64))] (.long (0 : Int64))) (F0_11 : Arv Z h0 a3 k8 .long (8 : Int32) [(.long (1 : Int64)), (.long (0 : Int64)), (.long (0 : Int64)), (.long (0 : Int64)), (.long (0 : Int64)), (.long (0 : Int64)), (.long (0 : Int64)), (.long (0 : Int64))] (.long (0 : Int64))) (lt0_0 : a1 < a2) (lt0_1 : a2 < a3) :
    MetFree l (⟨"com/example/halter/halter/SlidingSum", "place", "(I)I"⟩ : MethodName) (head1 (Jvm.Cond.code (⟨"com/example/halter/halter/SlidingSum", "place", "(I)I"⟩ : MethodName) prog_19_method_12_code 3 (some .int) :: ws) R12_1501) (fun a U => a = #[(.ref a1), (.int (0 : Int32))] ∧ Z.Warmed39 U.vm ∧ U.heap = h0) (fun _ _ _ _ _ => True) (fun _ U o U' => ∃ v L, o = .returned v ∧ Q12_1501 Z a1 a2 a3 p4 p5 k6 p7 k8 h0 n0 v U'.heap L ∧ FrameEnd U o U' L R12_1501.cells R12_1501.slots) := by
 refine MetFree.of_bodySF (plainFor_of_name pn_0) hisR ?_
 intro p e s m args below meth c s₁ Bd hml0 hP hK
 obtain ⟨rfl, hZ, hh⟩ := hP
 have hx := Bd.exec
 have hby := Bd.bytes
 have hml : c.maxLocals = 3 := hml0
 have hlk : meth.locks = false := Bd.notSynchronized
 have hown : s.vm.findClass "com/example/halter/halter/SlidingSum" = some m.cls := findClass_of_methodNamed Bd.named
 have hnm := (name_of_methodNamed Bd.named Bd.method).1
 have X0 : Stand p l e R12_1501 s m #[(.ref a1), (.int (0 : Int32))] below meth c s₁ [] 0 0 := Stand.of_body Bd
 have e0 : s₁.heap = h0 := by rw [← hh, Bd.state]; rfl
 have N0 := Fr.nil n0
 rw [ef12_1501 m a1]
 show KEnds p e below s R12_1501.cells R12_1501.slots (Q12_1501 Z a1 a2 a3 p4 p5 k6 p7 k8 h0 n0) s₁ (mkF m 0 #[.val (.ref a1), .val (.int (0 : Int32)), .unset] [])
 refine k_aloadN X0 hx (hb hby d12_0) rfl rfl (pc' := 1) rfl ?_
 refine k_getF X0 hx hZ hown (host := "") (Or.inl (hw _ (List.mem_of_getElem? (i := 68) rfl))) Via.refl e0 F0_9 (hb hby d12_1) (pc' := 4) rfl (fun T1502 X1502 e1502 => ?_)
 refine k_iloadN X1502 hx (hb hby d12_4) rfl (pc' := 5) rfl ?_
 refine k_iaddL X1502 hx (hb hby d12_5) (pc' := 6) rfl (z := (1 : Int32)) (by decide) ?_
 refine k_istoreN X1502 hx (hb hby d12_6) (Ls' := #[.val (.ref a1), .val (.int (0 : Int32)), .val (.int (1 : Int32))]) rfl (pc' := 7) rfl ?_
 refine k_iloadN X1502 hx (hb hby d12_7) rfl (pc' := 8) rfl ?_
 refine k_aloadN X1502 hx (hb hby d12_8) rfl rfl (pc' := 9) rfl ?_
 refine k_getF X1502 hx hZ hown (host := "") (Or.inl (hw _ (List.mem_of_getElem? (i := 11) rfl))) Via.refl e1502 F0_1 (hb hby d12_9) (pc' := 12) rfl (fun T1503 X1503 e1503 => ?_)
 refine k_alen X1503 hx hZ e1503 F0_10 (hb hby d12_12) (pc' := 13) rfl ?_
 refine k_icmp_ge X1503 hx (hb hby d12_13) (pn := 16) rfl (py := 20) (by decide) (fun hc => absurd (by decide) hc) (fun _ => ?_)
 refine k_iloadN X1503 hx (hb hby d12_16) rfl (pc' := 17) rfl ?_
 refine k_goto X1503 hx (hb hby d12_17) (pc' := 27) (by decide) ?_
 exact k_retI X1503 hx Bd.returns (hb hby d12_27) hlk (by decide) (by decide) ⟨N0, e1503, rfl⟩
abbrev R7_1496 : Room := { frames := 1, cells := 0, slots := 0, locals := 14 }
def Q7_1496 (Z : State) (a1 : Addr) (a2 : Addr) (a3 : Addr) (p4 : Int64) (p5 : Int64) (a6 : Addr) (k7 : ClassId) (a8 : Addr) (k9 : ClassId) (k10 : ClassId) (p11 : Int64) (k12 : ClassId) (h0 : Heap) (n0 : Nat) (v : Option Value) (h : Heap) (L : List Loc) : Prop := Fr n0 L ∧ ((v = none ∧ Exa Z h a1 "com/example/halter/halter/SlidingSum" ∧ Fld Z h a1 "com/example/halter/halter/SlidingSum" "times" "[J" (.ref a2) ∧ Fld Z h a1 "com/example/halter/halter/SlidingSum" "costs" "[J" (.ref a3) ∧ Fld Z h a1 "com/example/halter/halter/SlidingSum" "most" "J" (.long (9223372036854775807 : Int64)) ∧ Fld Z h a1 "com/example/halter/halter/SlidingSum" "length" "J" (.long p4) ∧ Fld Z h a1 "com/example/halter/halter/SlidingSum" "started" "Z" (.int (1 : Int32)) ∧ Fld Z h a1 "com/example/halter/halter/SlidingSum" "latest" "J" (.long p5) ∧ Fld Z h a1 "com/example/halter/halter/SlidingSum" "size" "I" (.int (1 : Int32)) ∧ Fld Z h a1 "com/example/halter/halter/SlidingSum" "sum" "J" (.long (1 : Int64)) ∧ Fld Z h a1 "com/example/halter/halter/SlidingSum" "head" "I" (.int (1 : Int32)) ∧ Arv Z h a6 k7 .long (0 : Int32) [] (.long (0 : Int64)) ∧ Arv Z h a8 k9 .long (0 : Int32) [] (.long (0 : Int64)) ∧ Arv Z h a2 k10 .long (8 : Int32) [(.long p11), (.long p5), (.long (0 : Int64)), (.long (0 : Int64)), (.long (0 : Int64)), (.long (0 : Int64)), (.long (0 : Int64)), (.long (0 : Int64))] (.long (0 : Int64)) ∧ Arv Z h a3 k12 .long (8 : Int32) [(.long (1 : Int64)), (.long (1 : Int64)), (.long (0 : Int64)), (.long (0 : Int64)), (.long (0 : Int64)), (.long (0 : Int64)), (.long (0 : Int64)), (.long (0 : Int64))] (.long (0 : Int64)) ∧ n0 ≤ h.size))
theorem ef7_1496 (m : MethodId) (x0 : Addr) : entryFrame m #[(.ref x0), (.long (1 : Int64))] 4 = mkF m 0 #[.val (.ref x0), .val (.long (1 : Int64)), .second, .unset] [] := by first | (simp [entryFrame, mkF, argsToLocals, Value.category]; done) | rfl
set_option maxRecDepth 65536 in
set_option maxHeartbeats 40000000 in
theorem rm7_1496 (l : Launch) (Z : State) (a0 : Array Value) (hw : ∀ d ∈ tables_1, d.before a0 Z = true) (ws : List Jvm.Cond) (a1 : Addr) (a2 : Addr) (a3 : Addr) (p4 : Int64) (p5 : Int64) (a6 : Addr) (k7 : ClassId) (a8 : Addr) (k9 : ClassId) (k10 : ClassId) (p11 : Int64) (k12 : ClassId) (h0 : Heap) (n0 : Nat) (Z0 : n0 ≤ h0.size) (F0_0 : Exa Z h0 a1 "com/example/halter/halter/SlidingSum") (F0_1 : Fld Z h0 a1 "com/example/halter/halter/SlidingSum" "times" "[J" (.ref a2)) (F0_2 : Fld Z h0 a1 "com/example/halter/halter/SlidingSum" "costs" "[J" (.ref a3)) (F0_3 : Fld Z h0 a1 "com/example/halter/halter/SlidingSum" "most" "J" (.long (9223372036854775807 : Int64))) (F0_4 : Fld Z h0 a1 "com/example/halter/halter/SlidingSum" "length" "J" (.long p4)) (F0_5 : Fld Z h0 a1 "com/example/halter/halter/SlidingSum" "started" "Z" (.int (1 : Int32))) (F0_6 : Fld Z h0 a1 "com/example/halter/halter/SlidingSum" "latest" "J" (.long p5)) (F0_7 : Fld Z h0 a1 "com/example/halter/halter/SlidingSum" "size" "I" (.int (0 : Int32))) (F0_8 : Fld Z h0 a1 "com/example/halter/halter/SlidingSum" "sum" "J" (.long (0 : Int64))) (F0_9 : Fld Z h0 a1 "com/example/halter/halter/SlidingSum" "head" "I" (.int (1 : Int32))) (g_a1 : n0 ≤ a1) (F0_11 : Arv Z h0 a6 k7 .long (0 : Int32) [] (.long (0 : Int64))) (g_a6 : n0 ≤ a6) (F0_13 : Arv Z h0 a8 k9 .long (0 : Int32) [] (.long (0 : Int64))) (g_a8 : n0 ≤ a8) (F0_15 : Arv Z h0 a2 k10 .long (8 : Int32) [(.long p11), (.long (0 : Int64)), (.long (0 : Int64)), (.long (0 : Int64)), (.long (0 : Int64)), (.long (0 : Int64)), (.long (0 : Int64)), (.long (0 : Int64))] (.long (0 : Int64))) (g_a2 : n0 ≤ a2) (F0_17 : Arv Z h0 a3 k12 .long (8 : Int32) [(.long (1 : Int64)), (.long (0 : Int64)), (.long (0 : Int64)), (.long (0 : Int64)), (.long (0 : Int64)), (.long (0 : Int64)), (.long (0 : Int64)), (.long (0 : Int64))] (.long (0 : Int64))) (g_a3 : n0 ≤ a3) (lt0_0 : a1 < a6) (lt0_1 : a6 < a8) (lt0_2 : a8 < a2) (lt0_3 : a2 < a3) :
    MetFree l (⟨"com/example/halter/halter/SlidingSum", "remember", "(J)V"⟩ : MethodName) (head1 (Jvm.Cond.code (⟨"com/example/halter/halter/SlidingSum", "remember", "(J)V"⟩ : MethodName) prog_19_method_9_code 4 none :: ws) R7_1496) (fun a U => a = #[(.ref a1), (.long (1 : Int64))] ∧ Z.Warmed39 U.vm ∧ U.heap = h0) (fun _ _ _ _ _ => True) (fun _ U o U' => ∃ v L, o = .returned v ∧ Q7_1496 Z a1 a2 a3 p4 p5 a6 k7 a8 k9 k10 p11 k12 h0 n0 v U'.heap L ∧ FrameEnd U o U' L R7_1496.cells R7_1496.slots) := by
 refine MetFree.of_bodySF (plainFor_of_name pn_0) hisR ?_
 intro p e s m args below meth c s₁ Bd hml0 hP hK
 obtain ⟨rfl, hZ, hh⟩ := hP
 have hx := Bd.exec
 have hby := Bd.bytes
 have hml : c.maxLocals = 4 := hml0
 have hlk : meth.locks = false := Bd.notSynchronized
 have hown : s.vm.findClass "com/example/halter/halter/SlidingSum" = some m.cls := findClass_of_methodNamed Bd.named
 have hnm := (name_of_methodNamed Bd.named Bd.method).1
 have X0 : Stand p l e R7_1496 s m #[(.ref a1), (.long (1 : Int64))] below meth c s₁ [] 0 0 := Stand.of_body Bd
 have e0 : s₁.heap = h0 := by rw [← hh, Bd.state]; rfl
 have N0 := Fr.nil n0
 rw [ef7_1496 m a1]
 show KEnds p e below s R7_1496.cells R7_1496.slots (Q7_1496 Z a1 a2 a3 p4 p5 a6 k7 a8 k9 k10 p11 k12 h0 n0) s₁ (mkF m 0 #[.val (.ref a1), .val (.long (1 : Int64)), .second, .unset] [])
 refine k_aloadN X0 hx (hb hby d7_0) rfl rfl (pc' := 1) rfl ?_
 refine k_getF X0 hx hZ hown (host := "") (Or.inl (hw _ (List.mem_of_getElem? (i := 41) rfl))) Via.refl e0 F0_7 (hb hby d7_1) (pc' := 4) rfl (fun T1497 X1497 e1497 => ?_)
 refine k_if_le X1497 hx (hb hby d7_4) (pn := 7) rfl (py := 52) (by decide) (fun _ => ?_) (fun hc => absurd hc (by decide))
 refine k_aloadN X1497 hx (hb hby d7_52) rfl rfl (pc' := 53) rfl ?_
 refine k_getF X1497 hx hZ hown (host := "") (Or.inl (hw _ (List.mem_of_getElem? (i := 41) rfl))) Via.refl e1497 F0_7 (hb hby d7_53) (pc' := 56) rfl (fun T1498 X1498 e1498 => ?_)
 refine k_aloadN X1498 hx (hb hby d7_56) rfl rfl (pc' := 57) rfl ?_
 refine k_getF X1498 hx hZ hown (host := "") (Or.inl (hw _ (List.mem_of_getElem? (i := 11) rfl))) Via.refl e1498 F0_1 (hb hby d7_57) (pc' := 60) rfl (fun T1499 X1499 e1499 => ?_)
 refine k_alen X1499 hx hZ e1499 F0_15 (hb hby d7_60) (pc' := 61) rfl ?_
 refine k_icmp_ne X1499 hx (hb hby d7_61) (pn := 64) rfl (py := 68) (by decide) (fun _ => ?_) (fun hc => absurd hc (by decide))
 refine k_aloadN X1499 hx (hb hby d7_68) rfl rfl (pc' := 69) rfl ?_
 refine k_aloadN X1499 hx (hb hby d7_69) rfl rfl (pc' := 70) rfl ?_
 refine k_getF X1499 hx hZ hown (host := "") (Or.inl (hw _ (List.mem_of_getElem? (i := 41) rfl))) Via.refl e1499 F0_7 (hb hby d7_70) (pc' := 73) rfl (fun T1500 X1500 e1500 => ?_)
 refine k_callP X1500 hx hZ hown (a := a1) (hw _ (List.mem_of_getElem? (i := 70) rfl)) (hw _ (List.mem_of_getElem? (i := 71) rfl)) (hw _ (List.mem_of_getElem? (i := 72) rfl)) (hw _ (List.mem_of_getElem? (i := 1) rfl)) (hw _ (List.mem_of_getElem? (i := 2) rfl)) (hw _ (List.mem_of_getElem? (i := 73) rfl)) (by decide) F0_0 (rm12_1501 l Z a0 hw [] a1 a2 a3 p4 p5 k10 p11 k12 h0 n0 Z0 F0_0 F0_1 F0_2 F0_3 F0_4 F0_5 F0_6 F0_7 F0_8 F0_9 F0_15 F0_17 (Nat.lt_trans (Nat.lt_trans lt0_0 lt0_1) lt0_2) lt0_3) (by decide) (by decide) e1500 (by rw [hml]; rfl) (argsL := [(.int (0 : Int32))]) (rest := []) (lenOf pd_7 rfl) rfl (W := 0) (Nat.le_refl _) rfl (hb hby d7_73) (by decide) (by decide) (pc' := 76) rfl (fun T1504 L1504 r1504 X1504 q1504 => ?_)
 obtain ⟨N1504, e1504, q1504⟩ := q1504
 have N1504' := Fr.app N0 N1504
 obtain rfl := q1504
 show KEnds p e below s _ _ _ T1504 (mkF m 76 #[.val (.ref a1), .val (.long (1 : Int64)), .second, .unset] [(.int (1 : Int32))])
 refine k_istoreN X1504 hx (hb hby d7_76) (Ls' := #[.val (.ref a1), .val (.long (1 : Int64)), .second, .val (.int (1 : Int32))]) rfl (pc' := 77) rfl ?_
 refine k_aloadN X1504 hx (hb hby d7_77) rfl rfl (pc' := 78) rfl ?_
 refine k_getF X1504 hx hZ hown (host := "") (Or.inl (hw _ (List.mem_of_getElem? (i := 11) rfl))) Via.refl e1504 F0_1 (hb hby d7_78) (pc' := 81) rfl (fun T1505 X1505 e1505 => ?_)
 refine k_iloadN X1505 hx (hb hby d7_81) rfl (pc' := 82) rfl ?_
 refine k_aloadN X1505 hx (hb hby d7_82) rfl rfl (pc' := 83) rfl ?_
 refine k_getF X1505 hx hZ hown (host := "") (Or.inl (hw _ (List.mem_of_getElem? (i := 35) rfl))) Via.refl e1505 F0_6 (hb hby d7_83) (pc' := 86) rfl (fun T1506 X1506 e1506 => ?_)
 refine k_lastore X1506 hx hZ e1506 F0_15 ⟨by decide, by decide⟩ (i := 1) rfl (Nat.le_of_ble_eq_true rfl) (hb hby d7_86) (pc' := 87) rfl (fun T1507 h1507 X1507 e1507 W1507 V1507 => ?_)
 have Vw1507 : Arv Z h1507 a2 k10 .long (8 : Int32) [(.long p11), (.long p5), (.long (0 : Int64)), (.long (0 : Int64)), (.long (0 : Int64)), (.long (0 : Int64)), (.long (0 : Int64)), (.long (0 : Int64))] (.long (0 : Int64)) := V1507
 have N1507 := Fr.snoc X1507 N1504' g_a2
 have Z1507 : n0 ≤ h1507.size := Nat.le_trans Z0 (Nat.le_of_eq W1507.size.symm)
 refine k_aloadN X1507 hx (hb hby d7_87) rfl rfl (pc' := 88) rfl ?_
 have F1508 := (F0_2.other W1507 (Or.inl (Nat.ne_of_lt (Nat.lt_trans (Nat.lt_trans lt0_0 lt0_1) lt0_2))))
 refine k_getF X1507 hx hZ hown (host := "") (Or.inl (hw _ (List.mem_of_getElem? (i := 13) rfl))) Via.refl e1507 F1508 (hb hby d7_88) (pc' := 91) rfl (fun T1509 X1509 e1509 => ?_)
 refine k_iloadN X1509 hx (hb hby d7_91) rfl (pc' := 92) rfl ?_
 refine k_lloadN X1509 hx (hb hby d7_92) rfl (pc' := 93) rfl ?_
 have F1510 := (F0_17.other W1507 (Ne.symm (Nat.ne_of_lt lt0_3)))
 refine k_lastore X1509 hx hZ e1509 F1510 ⟨by decide, by decide⟩ (i := 1) rfl (Nat.le_of_ble_eq_true rfl) (hb hby d7_93) (pc' := 94) rfl (fun T1511 h1511 X1511 e1511 W1511 V1511 => ?_)
 have Vw1511 : Arv Z h1511 a3 k12 .long (8 : Int32) [(.long (1 : Int64)), (.long (1 : Int64)), (.long (0 : Int64)), (.long (0 : Int64)), (.long (0 : Int64)), (.long (0 : Int64)), (.long (0 : Int64)), (.long (0 : Int64))] (.long (0 : Int64)) := V1511
 have N1511 := Fr.snoc X1511 N1507 g_a3
 have Z1511 : n0 ≤ h1511.size := Nat.le_trans Z1507 (Nat.le_of_eq W1511.size.symm)
 refine k_aloadN X1511 hx (hb hby d7_94) rfl rfl (pc' := 95) rfl ?_
 refine k_dup X1511 hx (hb hby d7_95) rfl (pc' := 96) rfl ?_
 have F1512 := ((F0_7.other W1507 (Or.inl (Nat.ne_of_lt (Nat.lt_trans (Nat.lt_trans lt0_0 lt0_1) lt0_2)))).other W1511 (Or.inl (Nat.ne_of_lt (Nat.lt_trans (Nat.lt_trans (Nat.lt_trans lt0_0 lt0_1) lt0_2) lt0_3))))
 refine k_getF X1511 hx hZ hown (host := "") (Or.inl (hw _ (List.mem_of_getElem? (i := 41) rfl))) Via.refl e1511 F1512 (hb hby d7_96) (pc' := 99) rfl (fun T1513 X1513 e1513 => ?_)
 refine k_iconst X1513 hx (hb hby d7_99) (pc' := 100) rfl (z := (1 : Int32)) rfl ?_
 refine k_iaddL X1513 hx (hb hby d7_100) (pc' := 101) rfl (z := (1 : Int32)) (by decide) ?_
 have F1514 := ((F0_0.wr W1507).wr W1511)
 refine k_putF X1513 hx hZ hown (host := "") (Or.inl (hw _ (List.mem_of_getElem? (i := 41) rfl))) Via.refl e1513 F1512 F1514 (Or.inl (hw _ (List.mem_of_getElem? (i := 42) rfl))) (hw _ (List.mem_of_getElem? (i := 1) rfl)) (ty := .int) (by decide) rfl rfl (hb hby d7_101) (pc' := 104) rfl (fun T1515 h1515 X1515 e1515 W1515 => ?_)
 have Fw1515 : Fld Z h1515 a1 "com/example/halter/halter/SlidingSum" "size" "I" (.int (1 : Int32)) := F1512.same W1515
 have N1515 := Fr.snoc X1515 N1511 g_a1
 have Z1515 : n0 ≤ h1515.size := Nat.le_trans Z1511 (Nat.le_of_eq W1515.size.symm)
 refine k_aloadN X1515 hx (hb hby d7_104) rfl rfl (pc' := 105) rfl ?_
 refine k_dup X1515 hx (hb hby d7_105) rfl (pc' := 106) rfl ?_
 have F1516 := (((F0_8.other W1507 (Or.inl (Nat.ne_of_lt (Nat.lt_trans (Nat.lt_trans lt0_0 lt0_1) lt0_2)))).other W1511 (Or.inl (Nat.ne_of_lt (Nat.lt_trans (Nat.lt_trans (Nat.lt_trans lt0_0 lt0_1) lt0_2) lt0_3)))).other W1515 (Or.inr (slot_ne (Or.inl (hw _ (List.mem_of_getElem? (i := 44) rfl))) (Or.inl (hw _ (List.mem_of_getElem? (i := 42) rfl))) (by decide) (t := .long) (t' := .int) (by decide) (by decide))))
 refine k_getF X1515 hx hZ hown (host := "") (Or.inl (hw _ (List.mem_of_getElem? (i := 43) rfl))) Via.refl e1515 F1516 (hb hby d7_106) (pc' := 109) rfl (fun T1517 X1517 e1517 => ?_)
 refine k_lloadN X1517 hx (hb hby d7_109) rfl (pc' := 110) rfl ?_
 refine k_laddL X1517 hx (hb hby d7_110) (pc' := 111) rfl (z := (1 : Int64)) (by decide) ?_
 have F1518 := (F1514.wr W1515)
 refine k_putF X1517 hx hZ hown (host := "") (Or.inl (hw _ (List.mem_of_getElem? (i := 43) rfl))) Via.refl e1517 F1516 F1518 (Or.inl (hw _ (List.mem_of_getElem? (i := 44) rfl))) (hw _ (List.mem_of_getElem? (i := 1) rfl)) (ty := .long) (by decide) rfl rfl (hb hby d7_111) (pc' := 114) rfl (fun T1519 h1519 X1519 e1519 W1519 => ?_)
 have Fw1519 : Fld Z h1519 a1 "com/example/halter/halter/SlidingSum" "sum" "J" (.long (1 : Int64)) := F1516.same W1519
 have N1519 := Fr.snoc X1519 N1515 g_a1
 have Z1519 : n0 ≤ h1519.size := Nat.le_trans Z1515 (Nat.le_of_eq W1519.size.symm)
 have F1520 := (F1518.wr W1519)
 have F1521 := ((((F0_1.other W1507 (Or.inl (Nat.ne_of_lt (Nat.lt_trans (Nat.lt_trans lt0_0 lt0_1) lt0_2)))).other W1511 (Or.inl (Nat.ne_of_lt (Nat.lt_trans (Nat.lt_trans (Nat.lt_trans lt0_0 lt0_1) lt0_2) lt0_3)))).other W1515 (Or.inr (slot_ne (Or.inl (hw _ (List.mem_of_getElem? (i := 12) rfl))) (Or.inl (hw _ (List.mem_of_getElem? (i := 42) rfl))) (by decide) (t := (.array .long)) (t' := .int) (by decide) (by decide)))).other W1519 (Or.inr (slot_ne (Or.inl (hw _ (List.mem_of_getElem? (i := 12) rfl))) (Or.inl (hw _ (List.mem_of_getElem? (i := 44) rfl))) (by decide) (t := (.array .long)) (t' := .long) (by decide) (by decide))))
 have F1522 := (((F1508.other W1511 (Or.inl (Nat.ne_of_lt (Nat.lt_trans (Nat.lt_trans (Nat.lt_trans lt0_0 lt0_1) lt0_2) lt0_3)))).other W1515 (Or.inr (slot_ne (Or.inl (hw _ (List.mem_of_getElem? (i := 14) rfl))) (Or.inl (hw _ (List.mem_of_getElem? (i := 42) rfl))) (by decide) (t := (.array .long)) (t' := .int) (by decide) (by decide)))).other W1519 (Or.inr (slot_ne (Or.inl (hw _ (List.mem_of_getElem? (i := 14) rfl))) (Or.inl (hw _ (List.mem_of_getElem? (i := 44) rfl))) (by decide) (t := (.array .long)) (t' := .long) (by decide) (by decide))))
 have F1523 := ((((F0_3.other W1507 (Or.inl (Nat.ne_of_lt (Nat.lt_trans (Nat.lt_trans lt0_0 lt0_1) lt0_2)))).other W1511 (Or.inl (Nat.ne_of_lt (Nat.lt_trans (Nat.lt_trans (Nat.lt_trans lt0_0 lt0_1) lt0_2) lt0_3)))).other W1515 (Or.inr (slot_ne (Or.inr (hw _ (List.mem_of_getElem? (i := 16) rfl))) (Or.inl (hw _ (List.mem_of_getElem? (i := 42) rfl))) (by decide) (t := .long) (t' := .int) (by decide) (by decide)))).other W1519 (Or.inr (slot_ne (Or.inr (hw _ (List.mem_of_getElem? (i := 16) rfl))) (Or.inl (hw _ (List.mem_of_getElem? (i := 44) rfl))) (by decide) (t := .long) (t' := .long) (by decide) (by decide))))
 have F1524 := ((((F0_4.other W1507 (Or.inl (Nat.ne_of_lt (Nat.lt_trans (Nat.lt_trans lt0_0 lt0_1) lt0_2)))).other W1511 (Or.inl (Nat.ne_of_lt (Nat.lt_trans (Nat.lt_trans (Nat.lt_trans lt0_0 lt0_1) lt0_2) lt0_3)))).other W1515 (Or.inr (slot_ne (Or.inr (hw _ (List.mem_of_getElem? (i := 18) rfl))) (Or.inl (hw _ (List.mem_of_getElem? (i := 42) rfl))) (by decide) (t := .long) (t' := .int) (by decide) (by decide)))).other W1519 (Or.inr (slot_ne (Or.inr (hw _ (List.mem_of_getElem? (i := 18) rfl))) (Or.inl (hw _ (List.mem_of_getElem? (i := 44) rfl))) (by decide) (t := .long) (t' := .long) (by decide) (by decide))))
 have F1525 := ((((F0_5.other W1507 (Or.inl (Nat.ne_of_lt (Nat.lt_trans (Nat.lt_trans lt0_0 lt0_1) lt0_2)))).other W1511 (Or.inl (Nat.ne_of_lt (Nat.lt_trans (Nat.lt_trans (Nat.lt_trans lt0_0 lt0_1) lt0_2) lt0_3)))).other W1515 (Or.inr (slot_ne (Or.inl (hw _ (List.mem_of_getElem? (i := 25) rfl))) (Or.inl (hw _ (List.mem_of_getElem? (i := 42) rfl))) (by decide) (t := .boolean) (t' := .int) (by decide) (by decide)))).other W1519 (Or.inr (slot_ne (Or.inl (hw _ (List.mem_of_getElem? (i := 25) rfl))) (Or.inl (hw _ (List.mem_of_getElem? (i := 44) rfl))) (by decide) (t := .boolean) (t' := .long) (by decide) (by decide))))
 have F1526 := ((((F0_6.other W1507 (Or.inl (Nat.ne_of_lt (Nat.lt_trans (Nat.lt_trans lt0_0 lt0_1) lt0_2)))).other W1511 (Or.inl (Nat.ne_of_lt (Nat.lt_trans (Nat.lt_trans (Nat.lt_trans lt0_0 lt0_1) lt0_2) lt0_3)))).other W1515 (Or.inr (slot_ne (Or.inl (hw _ (List.mem_of_getElem? (i := 36) rfl))) (Or.inl (hw _ (List.mem_of_getElem? (i := 42) rfl))) (by decide) (t := .long) (t' := .int) (by decide) (by decide)))).other W1519 (Or.inr (slot_ne (Or.inl (hw _ (List.mem_of_getElem? (i := 36) rfl))) (Or.inl (hw _ (List.mem_of_getElem? (i := 44) rfl))) (by decide) (t := .long) (t' := .long) (by decide) (by decide))))
 have F1527 := (Fw1515.other W1519 (Or.inr (slot_ne (Or.inl (hw _ (List.mem_of_getElem? (i := 42) rfl))) (Or.inl (hw _ (List.mem_of_getElem? (i := 44) rfl))) (by decide) (t := .int) (t' := .long) (by decide) (by decide))))
 have F1528 := ((((F0_9.other W1507 (Or.inl (Nat.ne_of_lt (Nat.lt_trans (Nat.lt_trans lt0_0 lt0_1) lt0_2)))).other W1511 (Or.inl (Nat.ne_of_lt (Nat.lt_trans (Nat.lt_trans (Nat.lt_trans lt0_0 lt0_1) lt0_2) lt0_3)))).other W1515 (Or.inr (slot_ne (Or.inl (hw _ (List.mem_of_getElem? (i := 69) rfl))) (Or.inl (hw _ (List.mem_of_getElem? (i := 42) rfl))) (by decide) (t := .int) (t' := .int) (by decide) (by decide)))).other W1519 (Or.inr (slot_ne (Or.inl (hw _ (List.mem_of_getElem? (i := 69) rfl))) (Or.inl (hw _ (List.mem_of_getElem? (i := 44) rfl))) (by decide) (t := .int) (t' := .long) (by decide) (by decide))))
 have F1529 := ((((F0_11.other W1507 (Nat.ne_of_lt (Nat.lt_trans lt0_1 lt0_2))).other W1511 (Nat.ne_of_lt (Nat.lt_trans (Nat.lt_trans lt0_1 lt0_2) lt0_3))).other W1515 (Ne.symm (Nat.ne_of_lt lt0_0))).other W1519 (Ne.symm (Nat.ne_of_lt lt0_0)))
 have F1530 := ((((F0_13.other W1507 (Nat.ne_of_lt lt0_2)).other W1511 (Nat.ne_of_lt (Nat.lt_trans lt0_2 lt0_3))).other W1515 (Ne.symm (Nat.ne_of_lt (Nat.lt_trans lt0_0 lt0_1)))).other W1519 (Ne.symm (Nat.ne_of_lt (Nat.lt_trans lt0_0 lt0_1))))
 have F1531 := (((Vw1507.other W1511 (Nat.ne_of_lt lt0_3)).other W1515 (Ne.symm (Nat.ne_of_lt (Nat.lt_trans (Nat.lt_trans lt0_0 lt0_1) lt0_2)))).other W1519 (Ne.symm (Nat.ne_of_lt (Nat.lt_trans (Nat.lt_trans lt0_0 lt0_1) lt0_2))))
 have F1532 := ((Vw1511.other W1515 (Ne.symm (Nat.ne_of_lt (Nat.lt_trans (Nat.lt_trans (Nat.lt_trans lt0_0 lt0_1) lt0_2) lt0_3)))).other W1519 (Ne.symm (Nat.ne_of_lt (Nat.lt_trans (Nat.lt_trans (Nat.lt_trans lt0_0 lt0_1) lt0_2) lt0_3))))
 exact k_ret X1519 hx Bd.returns (hb hby d7_114) hlk (by decide) (by decide) (by rw [e1519]; exact ⟨N1519, ⟨rfl, F1520, F1521, F1522, F1523, F1524, F1525, F1526, F1527, Fw1519, F1528, F1529, F1530, F1531, F1532, Z1519⟩⟩)
abbrev R4_1208 : Room := { frames := 3, cells := 0, slots := 0, locals := 42 }
def Q4_1208 (Z : State) (a1 : Addr) (p2 : Int64) (a3 : Addr) (a4 : Addr) (p5 : Int64) (p6 : Int64) (a7 : Addr) (k8 : ClassId) (a9 : Addr) (k10 : ClassId) (k11 : ClassId) (k12 : ClassId) (h0 : Heap) (n0 : Nat) (v : Option Value) (h : Heap) (L : List Loc) : Prop := Fr n0 L ∧ ((∃ (v1210 : Int64) (v1211 : Int64), v1210 = p2 - p6 ∧ v1211 = p6 - p6 ∧ ¬ (0 : Int64) < v1210 ∧ v1211 < p5 ∧ v = none ∧ Exa Z h a1 "com/example/halter/halter/SlidingSum" ∧ Fld Z h a1 "com/example/halter/halter/SlidingSum" "times" "[J" (.ref a3) ∧ Fld Z h a1 "com/example/halter/halter/SlidingSum" "costs" "[J" (.ref a4) ∧ Fld Z h a1 "com/example/halter/halter/SlidingSum" "most" "J" (.long (9223372036854775807 : Int64)) ∧ Fld Z h a1 "com/example/halter/halter/SlidingSum" "length" "J" (.long p5) ∧ Fld Z h a1 "com/example/halter/halter/SlidingSum" "started" "Z" (.int (1 : Int32)) ∧ Fld Z h a1 "com/example/halter/halter/SlidingSum" "latest" "J" (.long p6) ∧ Fld Z h a1 "com/example/halter/halter/SlidingSum" "size" "I" (.int (1 : Int32)) ∧ Fld Z h a1 "com/example/halter/halter/SlidingSum" "sum" "J" (.long (2 : Int64)) ∧ Fld Z h a1 "com/example/halter/halter/SlidingSum" "head" "I" (.int (0 : Int32)) ∧ Arv Z h a7 k8 .long (0 : Int32) [] (.long (0 : Int64)) ∧ Arv Z h a9 k10 .long (0 : Int32) [] (.long (0 : Int64)) ∧ Arv Z h a3 k11 .long (8 : Int32) [(.long p6), (.long (0 : Int64)), (.long (0 : Int64)), (.long (0 : Int64)), (.long (0 : Int64)), (.long (0 : Int64)), (.long (0 : Int64)), (.long (0 : Int64))] (.long (0 : Int64)) ∧ Arv Z h a4 k12 .long (8 : Int32) [(.long (2 : Int64)), (.long (0 : Int64)), (.long (0 : Int64)), (.long (0 : Int64)), (.long (0 : Int64)), (.long (0 : Int64)), (.long (0 : Int64)), (.long (0 : Int64))] (.long (0 : Int64)) ∧ n0 ≤ h.size) ∨ (∃ (v1231 : Int64) (v1232 : Int64), v1231 = p2 - p6 ∧ v1232 = p6 - p6 ∧ ¬ (0 : Int64) < v1231 ∧ ¬ v1232 < p5 ∧ v = none ∧ Exa Z h a1 "com/example/halter/halter/SlidingSum" ∧ Fld Z h a1 "com/example/halter/halter/SlidingSum" "times" "[J" (.ref a3) ∧ Fld Z h a1 "com/example/halter/halter/SlidingSum" "costs" "[J" (.ref a4) ∧ Fld Z h a1 "com/example/halter/halter/SlidingSum" "most" "J" (.long (9223372036854775807 : Int64)) ∧ Fld Z h a1 "com/example/halter/halter/SlidingSum" "length" "J" (.long p5) ∧ Fld Z h a1 "com/example/halter/halter/SlidingSum" "started" "Z" (.int (1 : Int32)) ∧ Fld Z h a1 "com/example/halter/halter/SlidingSum" "latest" "J" (.long p6) ∧ Fld Z h a1 "com/example/halter/halter/SlidingSum" "size" "I" (.int (1 : Int32)) ∧ Fld Z h a1 "com/example/halter/halter/SlidingSum" "sum" "J" (.long (1 : Int64)) ∧ Fld Z h a1 "com/example/halter/halter/SlidingSum" "head" "I" (.int (1 : Int32)) ∧ Arv Z h a7 k8 .long (0 : Int32) [] (.long (0 : Int64)) ∧ Arv Z h a9 k10 .long (0 : Int32) [] (.long (0 : Int64)) ∧ Arv Z h a3 k11 .long (8 : Int32) [(.long p6), (.long p6), (.long (0 : Int64)), (.long (0 : Int64)), (.long (0 : Int64)), (.long (0 : Int64)), (.long (0 : Int64)), (.long (0 : Int64))] (.long (0 : Int64)) ∧ Arv Z h a4 k12 .long (8 : Int32) [(.long (1 : Int64)), (.long (1 : Int64)), (.long (0 : Int64)), (.long (0 : Int64)), (.long (0 : Int64)), (.long (0 : Int64)), (.long (0 : Int64)), (.long (0 : Int64))] (.long (0 : Int64)) ∧ n0 ≤ h.size) ∨ (∃ (v1252 : Int64), v1252 = p2 - p6 ∧ (0 : Int64) < v1252 ∧ v1252 < p5 ∧ ¬ p6 = p2 ∧ v = none ∧ Exa Z h a1 "com/example/halter/halter/SlidingSum" ∧ Fld Z h a1 "com/example/halter/halter/SlidingSum" "times" "[J" (.ref a3) ∧ Fld Z h a1 "com/example/halter/halter/SlidingSum" "costs" "[J" (.ref a4) ∧ Fld Z h a1 "com/example/halter/halter/SlidingSum" "most" "J" (.long (9223372036854775807 : Int64)) ∧ Fld Z h a1 "com/example/halter/halter/SlidingSum" "length" "J" (.long p5) ∧ Fld Z h a1 "com/example/halter/halter/SlidingSum" "started" "Z" (.int (1 : Int32)) ∧ Fld Z h a1 "com/example/halter/halter/SlidingSum" "latest" "J" (.long p2) ∧ Fld Z h a1 "com/example/halter/halter/SlidingSum" "size" "I" (.int (2 : Int32)) ∧ Fld Z h a1 "com/example/halter/halter/SlidingSum" "sum" "J" (.long (2 : Int64)) ∧ Fld Z h a1 "com/example/halter/halter/SlidingSum" "head" "I" (.int (0 : Int32)) ∧ Arv Z h a7 k8 .long (0 : Int32) [] (.long (0 : Int64)) ∧ Arv Z h a9 k10 .long (0 : Int32) [] (.long (0 : Int64)) ∧ Arv Z h a3 k11 .long (8 : Int32) [(.long p6), (.long p2), (.long (0 : Int64)), (.long (0 : Int64)), (.long (0 : Int64)), (.long (0 : Int64)), (.long (0 : Int64)), (.long (0 : Int64))] (.long (0 : Int64)) ∧ Arv Z h a4 k12 .long (8 : Int32) [(.long (1 : Int64)), (.long (1 : Int64)), (.long (0 : Int64)), (.long (0 : Int64)), (.long (0 : Int64)), (.long (0 : Int64)), (.long (0 : Int64)), (.long (0 : Int64))] (.long (0 : Int64)) ∧ n0 ≤ h.size) ∨ (∃ (v1252 : Int64), v1252 = p2 - p6 ∧ (0 : Int64) < v1252 ∧ v1252 < p5 ∧ p6 = p2 ∧ v = none ∧ Exa Z h a1 "com/example/halter/halter/SlidingSum" ∧ Fld Z h a1 "com/example/halter/halter/SlidingSum" "times" "[J" (.ref a3) ∧ Fld Z h a1 "com/example/halter/halter/SlidingSum" "costs" "[J" (.ref a4) ∧ Fld Z h a1 "com/example/halter/halter/SlidingSum" "most" "J" (.long (9223372036854775807 : Int64)) ∧ Fld Z h a1 "com/example/halter/halter/SlidingSum" "length" "J" (.long p5) ∧ Fld Z h a1 "com/example/halter/halter/SlidingSum" "started" "Z" (.int (1 : Int32)) ∧ Fld Z h a1 "com/example/halter/halter/SlidingSum" "latest" "J" (.long p2) ∧ Fld Z h a1 "com/example/halter/halter/SlidingSum" "size" "I" (.int (1 : Int32)) ∧ Fld Z h a1 "com/example/halter/halter/SlidingSum" "sum" "J" (.long (2 : Int64)) ∧ Fld Z h a1 "com/example/halter/halter/SlidingSum" "head" "I" (.int (0 : Int32)) ∧ Arv Z h a7 k8 .long (0 : Int32) [] (.long (0 : Int64)) ∧ Arv Z h a9 k10 .long (0 : Int32) [] (.long (0 : Int64)) ∧ Arv Z h a3 k11 .long (8 : Int32) [(.long p6), (.long (0 : Int64)), (.long (0 : Int64)), (.long (0 : Int64)), (.long (0 : Int64)), (.long (0 : Int64)), (.long (0 : Int64)), (.long (0 : Int64))] (.long (0 : Int64)) ∧ Arv Z h a4 k12 .long (8 : Int32) [(.long (2 : Int64)), (.long (0 : Int64)), (.long (0 : Int64)), (.long (0 : Int64)), (.long (0 : Int64)), (.long (0 : Int64)), (.long (0 : Int64)), (.long (0 : Int64))] (.long (0 : Int64)) ∧ n0 ≤ h.size) ∨ (∃ (v1271 : Int64), v1271 = p2 - p6 ∧ (0 : Int64) < v1271 ∧ ¬ v1271 < p5 ∧ v = none ∧ Exa Z h a1 "com/example/halter/halter/SlidingSum" ∧ Fld Z h a1 "com/example/halter/halter/SlidingSum" "times" "[J" (.ref a3) ∧ Fld Z h a1 "com/example/halter/halter/SlidingSum" "costs" "[J" (.ref a4) ∧ Fld Z h a1 "com/example/halter/halter/SlidingSum" "most" "J" (.long (9223372036854775807 : Int64)) ∧ Fld Z h a1 "com/example/halter/halter/SlidingSum" "length" "J" (.long p5) ∧ Fld Z h a1 "com/example/halter/halter/SlidingSum" "started" "Z" (.int (1 : Int32)) ∧ Fld Z h a1 "com/example/halter/halter/SlidingSum" "latest" "J" (.long p2) ∧ Fld Z h a1 "com/example/halter/halter/SlidingSum" "size" "I" (.int (1 : Int32)) ∧ Fld Z h a1 "com/example/halter/halter/SlidingSum" "sum" "J" (.long (1 : Int64)) ∧ Fld Z h a1 "com/example/halter/halter/SlidingSum" "head" "I" (.int (1 : Int32)) ∧ Arv Z h a7 k8 .long (0 : Int32) [] (.long (0 : Int64)) ∧ Arv Z h a9 k10 .long (0 : Int32) [] (.long (0 : Int64)) ∧ Arv Z h a3 k11 .long (8 : Int32) [(.long p6), (.long p2), (.long (0 : Int64)), (.long (0 : Int64)), (.long (0 : Int64)), (.long (0 : Int64)), (.long (0 : Int64)), (.long (0 : Int64))] (.long (0 : Int64)) ∧ Arv Z h a4 k12 .long (8 : Int32) [(.long (1 : Int64)), (.long (1 : Int64)), (.long (0 : Int64)), (.long (0 : Int64)), (.long (0 : Int64)), (.long (0 : Int64)), (.long (0 : Int64)), (.long (0 : Int64))] (.long (0 : Int64)) ∧ n0 ≤ h.size))
theorem ef4_1208 (m : MethodId) (x0 : Addr) (x2 : Int64) : entryFrame m #[(.ref x0), (.long (1 : Int64)), (.long x2)] 5 = mkF m 0 #[.val (.ref x0), .val (.long (1 : Int64)), .second, .val (.long x2), .second] [] := by first | (simp [entryFrame, mkF, argsToLocals, Value.category]; done) | rfl
set_option maxRecDepth 65536 in
set_option maxHeartbeats 40000000 in
theorem rm4_1208 (l : Launch) (Z : State) (a0 : Array Value) (hw : ∀ d ∈ tables_1, d.before a0 Z = true) (ws : List Jvm.Cond) (a1 : Addr) (p2 : Int64) (a3 : Addr) (a4 : Addr) (p5 : Int64) (p6 : Int64) (a7 : Addr) (k8 : ClassId) (a9 : Addr) (k10 : ClassId) (k11 : ClassId) (k12 : ClassId) (h0 : Heap) (n0 : Nat) (Z0 : n0 ≤ h0.size) (F0_0 : Exa Z h0 a1 "com/example/halter/halter/SlidingSum") (F0_1 : Fld Z h0 a1 "com/example/halter/halter/SlidingSum" "times" "[J" (.ref a3)) (F0_2 : Fld Z h0 a1 "com/example/halter/halter/SlidingSum" "costs" "[J" (.ref a4)) (F0_3 : Fld Z h0 a1 "com/example/halter/halter/SlidingSum" "most" "J" (.long (9223372036854775807 : Int64))) (F0_4 : Fld Z h0 a1 "com/example/halter/halter/SlidingSum" "length" "J" (.long p5)) (F0_5 : Fld Z h0 a1 "com/example/halter/halter/SlidingSum" "started" "Z" (.int (1 : Int32))) (F0_6 : Fld Z h0 a1 "com/example/halter/halter/SlidingSum" "latest" "J" (.long p6)) (F0_7 : Fld Z h0 a1 "com/example/halter/halter/SlidingSum" "size" "I" (.int (1 : Int32))) (F0_8 : Fld Z h0 a1 "com/example/halter/halter/SlidingSum" "sum" "J" (.long (1 : Int64))) (F0_9 : Fld Z h0 a1 "com/example/halter/halter/SlidingSum" "head" "I" (.int (0 : Int32))) (g_a1 : n0 ≤ a1) (F0_11 : Arv Z h0 a7 k8 .long (0 : Int32) [] (.long (0 : Int64))) (g_a7 : n0 ≤ a7) (F0_13 : Arv Z h0 a9 k10 .long (0 : Int32) [] (.long (0 : Int64))) (g_a9 : n0 ≤ a9) (F0_15 : Arv Z h0 a3 k11 .long (8 : Int32) [(.long p6), (.long (0 : Int64)), (.long (0 : Int64)), (.long (0 : Int64)), (.long (0 : Int64)), (.long (0 : Int64)), (.long (0 : Int64)), (.long (0 : Int64))] (.long (0 : Int64))) (g_a3 : n0 ≤ a3) (F0_17 : Arv Z h0 a4 k12 .long (8 : Int32) [(.long (1 : Int64)), (.long (0 : Int64)), (.long (0 : Int64)), (.long (0 : Int64)), (.long (0 : Int64)), (.long (0 : Int64)), (.long (0 : Int64)), (.long (0 : Int64))] (.long (0 : Int64))) (g_a4 : n0 ≤ a4) (lt0_0 : a1 < a7) (lt0_1 : a7 < a9) (lt0_2 : a9 < a3) (lt0_3 : a3 < a4) :
    MetFree l (⟨"com/example/halter/halter/SlidingSum", "add", "(JJ)V"⟩ : MethodName) (head1 (Jvm.Cond.code (⟨"com/example/halter/halter/SlidingSum", "add", "(JJ)V"⟩ : MethodName) prog_19_method_3_code 5 none :: ws) R4_1208) (fun a U => a = #[(.ref a1), (.long (1 : Int64)), (.long p2)] ∧ Z.Warmed39 U.vm ∧ U.heap = h0) (fun _ _ _ _ _ => True) (fun _ U o U' => ∃ v L, o = .returned v ∧ Q4_1208 Z a1 p2 a3 a4 p5 p6 a7 k8 a9 k10 k11 k12 h0 n0 v U'.heap L ∧ FrameEnd U o U' L R4_1208.cells R4_1208.slots) := by
 refine MetFree.of_bodySF (plainFor_of_name pn_0) hisR ?_
 intro p e s m args below meth c s₁ Bd hml0 hP hK
 obtain ⟨rfl, hZ, hh⟩ := hP
 have hx := Bd.exec
 have hby := Bd.bytes
 have hml : c.maxLocals = 5 := hml0
 have hlk : meth.locks = false := Bd.notSynchronized
 have hown : s.vm.findClass "com/example/halter/halter/SlidingSum" = some m.cls := findClass_of_methodNamed Bd.named
 have hnm := (name_of_methodNamed Bd.named Bd.method).1
 have X0 : Stand p l e R4_1208 s m #[(.ref a1), (.long (1 : Int64)), (.long p2)] below meth c s₁ [] 0 0 := Stand.of_body Bd
 have e0 : s₁.heap = h0 := by rw [← hh, Bd.state]; rfl
 have N0 := Fr.nil n0
 rw [ef4_1208 m a1 p2]
 show KEnds p e below s R4_1208.cells R4_1208.slots (Q4_1208 Z a1 p2 a3 a4 p5 p6 a7 k8 a9 k10 k11 k12 h0 n0) s₁ (mkF m 0 #[.val (.ref a1), .val (.long (1 : Int64)), .second, .val (.long p2), .second] [])
 refine k_aloadN X0 hx (hb hby d4_0) rfl rfl (pc' := 1) rfl ?_
 refine k_lloadN X0 hx (hb hby d4_1) rfl (pc' := 2) rfl ?_
 refine k_callP X0 hx hZ hown (a := a1) (hw _ (List.mem_of_getElem? (i := 31) rfl)) (hw _ (List.mem_of_getElem? (i := 32) rfl)) (hw _ (List.mem_of_getElem? (i := 33) rfl)) (hw _ (List.mem_of_getElem? (i := 1) rfl)) (hw _ (List.mem_of_getElem? (i := 2) rfl)) (hw _ (List.mem_of_getElem? (i := 34) rfl)) (by decide) F0_0 (rm5_749 l Z a0 hw [] a1 p2 a3 a4 p5 p6 a7 k8 a9 k10 k11 k12 h0 n0 Z0 F0_0 F0_1 F0_2 F0_3 F0_4 F0_5 F0_6 F0_7 F0_8 F0_9 g_a1 F0_11 g_a7 F0_13 g_a9 F0_15 g_a3 F0_17 g_a4 lt0_0 lt0_1 lt0_2 lt0_3) (by decide) (by decide) e0 (by rw [hml]; rfl) (argsL := [(.long p2)]) (rest := []) (lenOf pd_3 rfl) rfl (W := 0) (Nat.le_refl _) rfl (hb hby d4_2) (by decide) (by decide) (pc' := 5) rfl (fun T1209 L1209 r1209 X1209 q1209 => ?_)
 obtain ⟨N1209, q1209⟩ := q1209
 have N1209' := Fr.app N0 N1209
 rcases q1209 with ⟨v1210, v1211, h1212, h1213, hc1214, hc1215, rfl, F1216, F1217, F1218, F1219, F1220, F1221, F1222, F1223, F1224, F1225, F1226, F1227, F1228, F1229, Z1230⟩ | ⟨v1231, v1232, h1233, h1234, hc1235, hc1236, rfl, F1237, F1238, F1239, F1240, F1241, F1242, F1243, F1244, F1245, F1246, F1247, F1248, F1249, F1250, Z1251⟩ | ⟨v1252, h1253, hc1254, hc1255, rfl, F1256, F1257, F1258, F1259, F1260, F1261, F1262, F1263, F1264, F1265, F1266, F1267, F1268, F1269, Z1270⟩ | ⟨v1271, h1272, hc1273, hc1274, rfl, F1275, F1276, F1277, F1278, F1279, F1280, F1281, F1282, F1283, F1284, F1285, F1286, F1287, F1288, Z1289⟩
 ·
  show KEnds p e below s _ _ _ T1209 (mkF m 5 #[.val (.ref a1), .val (.long (1 : Int64)), .second, .val (.long p2), .second] [])
  refine k_lloadN X1209 hx (hb hby d4_5) rfl (pc' := 6) rfl ?_
  refine k_lconst X1209 hx (hb hby d4_6) (pc' := 7) rfl (z := (1 : Int64)) rfl ?_
  refine k_lcif_lt X1209 hx (hb hby d4_7) (pm := 8) rfl (hb hby d4_8) (pn := 11) rfl (py := 25) (by decide) (fun hc => absurd hc (by decide)) (fun _ => ?_)
  refine k_lloadN X1209 hx (hb hby d4_11) rfl (pc' := 12) rfl ?_
  refine k_aloadN X1209 hx (hb hby d4_12) rfl rfl (pc' := 13) rfl ?_
  refine k_getF X1209 hx hZ hown (host := "") (Or.inl (hw _ (List.mem_of_getElem? (i := 15) rfl))) Via.refl rfl F1219 (hb hby d4_13) (pc' := 16) rfl (fun T1290 X1290 e1290 => ?_)
  refine k_aloadN X1290 hx (hb hby d4_16) rfl rfl (pc' := 17) rfl ?_
  refine k_getF X1290 hx hZ hown (host := "") (Or.inl (hw _ (List.mem_of_getElem? (i := 43) rfl))) Via.refl e1290 F1224 (hb hby d4_17) (pc' := 20) rfl (fun T1291 X1291 e1291 => ?_)
  refine k_lsubL X1291 hx (hb hby d4_20) (pc' := 21) rfl (z := (9223372036854775806 : Int64)) (by decide) ?_
  refine k_lcif_le X1291 hx (hb hby d4_21) (pm := 22) rfl (hb hby d4_22) (pn := 25) rfl (py := 47) (by decide) (fun _ => ?_) (fun hc => absurd hc (by decide))
  refine k_aloadN X1291 hx (hb hby d4_47) rfl rfl (pc' := 48) rfl ?_
  refine k_lloadN X1291 hx (hb hby d4_48) rfl (pc' := 49) rfl ?_
  refine k_callP X1291 hx hZ hown (a := a1) (hw _ (List.mem_of_getElem? (i := 45) rfl)) (hw _ (List.mem_of_getElem? (i := 46) rfl)) (hw _ (List.mem_of_getElem? (i := 47) rfl)) (hw _ (List.mem_of_getElem? (i := 1) rfl)) (hw _ (List.mem_of_getElem? (i := 2) rfl)) (hw _ (List.mem_of_getElem? (i := 48) rfl)) (by decide) F1216 (rm7_1292 l Z a0 hw [] a1 a3 a4 p5 p6 a7 k8 a9 k10 k11 k12 T1209.heap n0 Z1230 F1216 F1217 F1218 F1219 F1220 F1221 F1222 F1223 F1224 F1225 g_a1 F1226 g_a7 F1227 g_a9 F1228 g_a3 F1229 g_a4 lt0_0 lt0_1 lt0_2 lt0_3) (by decide) (by decide) e1291 (by rw [hml]; rfl) (argsL := [(.long (1 : Int64))]) (rest := []) (lenOf pd_3 rfl) rfl (W := 0) (Nat.le_refl _) rfl (hb hby d4_49) (by decide) (by decide) (pc' := 52) rfl (fun T1322 L1322 r1322 X1322 q1322 => ?_)
  obtain ⟨N1322, q1322⟩ := q1322
  have N1322' := Fr.app N1209' N1322
  obtain ⟨rfl, F1323, F1324, F1325, F1326, F1327, F1328, F1329, F1330, F1331, F1332, F1333, F1334, F1335, F1336, Z1337⟩ := q1322
  show KEnds p e below s _ _ _ T1322 (mkF m 52 #[.val (.ref a1), .val (.long (1 : Int64)), .second, .val (.long p2), .second] [])
  exact k_ret X1322 hx Bd.returns (hb hby d4_52) hlk (by decide) (by decide) ⟨N1322', (Or.inl ⟨v1210, v1211, h1212, h1213, hc1214, hc1215, rfl, F1323, F1324, F1325, F1326, F1327, F1328, F1329, F1330, F1331, F1332, F1333, F1334, F1335, F1336, Z1337⟩)⟩
 ·
  show KEnds p e below s _ _ _ T1209 (mkF m 5 #[.val (.ref a1), .val (.long (1 : Int64)), .second, .val (.long p2), .second] [])
  refine k_lloadN X1209 hx (hb hby d4_5) rfl (pc' := 6) rfl ?_
  refine k_lconst X1209 hx (hb hby d4_6) (pc' := 7) rfl (z := (1 : Int64)) rfl ?_
  refine k_lcif_lt X1209 hx (hb hby d4_7) (pm := 8) rfl (hb hby d4_8) (pn := 11) rfl (py := 25) (by decide) (fun hc => absurd hc (by decide)) (fun _ => ?_)
  refine k_lloadN X1209 hx (hb hby d4_11) rfl (pc' := 12) rfl ?_
  refine k_aloadN X1209 hx (hb hby d4_12) rfl rfl (pc' := 13) rfl ?_
  refine k_getF X1209 hx hZ hown (host := "") (Or.inl (hw _ (List.mem_of_getElem? (i := 15) rfl))) Via.refl rfl F1240 (hb hby d4_13) (pc' := 16) rfl (fun T1338 X1338 e1338 => ?_)
  refine k_aloadN X1338 hx (hb hby d4_16) rfl rfl (pc' := 17) rfl ?_
  refine k_getF X1338 hx hZ hown (host := "") (Or.inl (hw _ (List.mem_of_getElem? (i := 43) rfl))) Via.refl e1338 F1245 (hb hby d4_17) (pc' := 20) rfl (fun T1339 X1339 e1339 => ?_)
  refine k_lsubL X1339 hx (hb hby d4_20) (pc' := 21) rfl (z := (9223372036854775807 : Int64)) (by decide) ?_
  refine k_lcif_le X1339 hx (hb hby d4_21) (pm := 22) rfl (hb hby d4_22) (pn := 25) rfl (py := 47) (by decide) (fun _ => ?_) (fun hc => absurd hc (by decide))
  refine k_aloadN X1339 hx (hb hby d4_47) rfl rfl (pc' := 48) rfl ?_
  refine k_lloadN X1339 hx (hb hby d4_48) rfl (pc' := 49) rfl ?_
  refine k_callP X1339 hx hZ hown (a := a1) (hw _ (List.mem_of_getElem? (i := 45) rfl)) (hw _ (List.mem_of_getElem? (i := 46) rfl)) (hw _ (List.mem_of_getElem? (i := 47) rfl)) (hw _ (List.mem_of_getElem? (i := 1) rfl)) (hw _ (List.mem_of_getElem? (i := 2) rfl)) (hw _ (List.mem_of_getElem? (i := 48) rfl)) (by decide) F1237 (rm7_1340 l Z a0 hw [] a1 a3 a4 p5 p6 a7 k8 a9 k10 k11 k12 T1209.heap n0 Z1251 F1237 F1238 F1239 F1240 F1241 F1242 F1243 F1244 F1245 F1246 g_a1 F1247 g_a7 F1248 g_a9 F1249 g_a3 F1250 g_a4 lt0_0 lt0_1 lt0_2 lt0_3) (by decide) (by decide) e1339 (by rw [hml]; rfl) (argsL := [(.long (1 : Int64))]) (rest := []) (lenOf pd_3 rfl) rfl (W := 0) (Nat.le_refl _) rfl (hb hby d4_49) (by decide) (by decide) (pc' := 52) rfl (fun T1377 L1377 r1377 X1377 q1377 => ?_)
  obtain ⟨N1377, q1377⟩ := q1377
  have N1377' := Fr.app N1209' N1377
  obtain ⟨rfl, F1378, F1379, F1380, F1381, F1382, F1383, F1384, F1385, F1386, F1387, F1388, F1389, F1390, F1391, Z1392⟩ := q1377
  show KEnds p e below s _ _ _ T1377 (mkF m 52 #[.val (.ref a1), .val (.long (1 : Int64)), .second, .val (.long p2), .second] [])
  exact k_ret X1377 hx Bd.returns (hb hby d4_52) hlk (by decide) (by decide) ⟨N1377', (Or.inr (Or.inl ⟨v1231, v1232, h1233, h1234, hc1235, hc1236, rfl, F1378, F1379, F1380, F1381, F1382, F1383, F1384, F1385, F1386, F1387, F1388, F1389, F1390, F1391, Z1392⟩))⟩
 ·
  show KEnds p e below s _ _ _ T1209 (mkF m 5 #[.val (.ref a1), .val (.long (1 : Int64)), .second, .val (.long p2), .second] [])
  refine k_lloadN X1209 hx (hb hby d4_5) rfl (pc' := 6) rfl ?_
  refine k_lconst X1209 hx (hb hby d4_6) (pc' := 7) rfl (z := (1 : Int64)) rfl ?_
  refine k_lcif_lt X1209 hx (hb hby d4_7) (pm := 8) rfl (hb hby d4_8) (pn := 11) rfl (py := 25) (by decide) (fun hc => absurd hc (by decide)) (fun _ => ?_)
  refine k_lloadN X1209 hx (hb hby d4_11) rfl (pc' := 12) rfl ?_
  refine k_aloadN X1209 hx (hb hby d4_12) rfl rfl (pc' := 13) rfl ?_
  refine k_getF X1209 hx hZ hown (host := "") (Or.inl (hw _ (List.mem_of_getElem? (i := 15) rfl))) Via.refl rfl F1259 (hb hby d4_13) (pc' := 16) rfl (fun T1393 X1393 e1393 => ?_)
  refine k_aloadN X1393 hx (hb hby d4_16) rfl rfl (pc' := 17) rfl ?_
  refine k_getF X1393 hx hZ hown (host := "") (Or.inl (hw _ (List.mem_of_getElem? (i := 43) rfl))) Via.refl e1393 F1264 (hb hby d4_17) (pc' := 20) rfl (fun T1394 X1394 e1394 => ?_)
  refine k_lsubL X1394 hx (hb hby d4_20) (pc' := 21) rfl (z := (9223372036854775806 : Int64)) (by decide) ?_
  refine k_lcif_le X1394 hx (hb hby d4_21) (pm := 22) rfl (hb hby d4_22) (pn := 25) rfl (py := 47) (by decide) (fun _ => ?_) (fun hc => absurd hc (by decide))
  refine k_aloadN X1394 hx (hb hby d4_47) rfl rfl (pc' := 48) rfl ?_
  refine k_lloadN X1394 hx (hb hby d4_48) rfl (pc' := 49) rfl ?_
  refine k_callP X1394 hx hZ hown (a := a1) (hw _ (List.mem_of_getElem? (i := 45) rfl)) (hw _ (List.mem_of_getElem? (i := 46) rfl)) (hw _ (List.mem_of_getElem? (i := 47) rfl)) (hw _ (List.mem_of_getElem? (i := 1) rfl)) (hw _ (List.mem_of_getElem? (i := 2) rfl)) (hw _ (List.mem_of_getElem? (i := 48) rfl)) (by decide) F1256 (rm7_1395 l Z a0 hw [] a1 a3 a4 p5 p2 a7 k8 a9 k10 k11 p6 k12 T1209.heap n0 Z1270 F1256 F1257 F1258 F1259 F1260 F1261 F1262 F1263 F1264 F1265 g_a1 F1266 g_a7 F1267 g_a9 F1268 g_a3 F1269 g_a4 lt0_0 lt0_1 lt0_2 lt0_3) (by decide) (by decide) e1394 (by rw [hml]; rfl) (argsL := [(.long (1 : Int64))]) (rest := []) (lenOf pd_3 rfl) rfl (W := 0) (Nat.le_refl _) rfl (hb hby d4_49) (by decide) (by decide) (pc' := 52) rfl (fun T1461 L1461 r1461 X1461 q1461 => ?_)
  obtain ⟨N1461, q1461⟩ := q1461
  have N1461' := Fr.app N1209' N1461
  rcases q1461 with ⟨hc1462, rfl, F1463, F1464, F1465, F1466, F1467, F1468, F1469, F1470, F1471, F1472, F1473, F1474, F1475, F1476, Z1477⟩ | ⟨hc1478, rfl, F1479, F1480, F1481, F1482, F1483, F1484, F1485, F1486, F1487, F1488, F1489, F1490, F1491, F1492, Z1493⟩
  ·
   show KEnds p e below s _ _ _ T1461 (mkF m 52 #[.val (.ref a1), .val (.long (1 : Int64)), .second, .val (.long p2), .second] [])
   exact k_ret X1461 hx Bd.returns (hb hby d4_52) hlk (by decide) (by decide) ⟨N1461', (Or.inr (Or.inr (Or.inl ⟨v1252, h1253, hc1254, hc1255, hc1462, rfl, F1463, F1464, F1465, F1466, F1467, F1468, F1469, F1470, F1471, F1472, F1473, F1474, F1475, F1476, Z1477⟩)))⟩
  ·
   show KEnds p e below s _ _ _ T1461 (mkF m 52 #[.val (.ref a1), .val (.long (1 : Int64)), .second, .val (.long p2), .second] [])
   exact k_ret X1461 hx Bd.returns (hb hby d4_52) hlk (by decide) (by decide) ⟨N1461', (Or.inr (Or.inr (Or.inr (Or.inl ⟨v1252, h1253, hc1254, hc1255, hc1478, rfl, F1479, F1480, F1481, F1482, F1483, F1484, F1485, F1486, F1487, F1488, F1489, F1490, F1491, F1492, Z1493⟩))))⟩
 ·
  show KEnds p e below s _ _ _ T1209 (mkF m 5 #[.val (.ref a1), .val (.long (1 : Int64)), .second, .val (.long p2), .second] [])
  refine k_lloadN X1209 hx (hb hby d4_5) rfl (pc' := 6) rfl ?_
  refine k_lconst X1209 hx (hb hby d4_6) (pc' := 7) rfl (z := (1 : Int64)) rfl ?_
  refine k_lcif_lt X1209 hx (hb hby d4_7) (pm := 8) rfl (hb hby d4_8) (pn := 11) rfl (py := 25) (by decide) (fun hc => absurd hc (by decide)) (fun _ => ?_)
  refine k_lloadN X1209 hx (hb hby d4_11) rfl (pc' := 12) rfl ?_
  refine k_aloadN X1209 hx (hb hby d4_12) rfl rfl (pc' := 13) rfl ?_
  refine k_getF X1209 hx hZ hown (host := "") (Or.inl (hw _ (List.mem_of_getElem? (i := 15) rfl))) Via.refl rfl F1278 (hb hby d4_13) (pc' := 16) rfl (fun T1494 X1494 e1494 => ?_)
  refine k_aloadN X1494 hx (hb hby d4_16) rfl rfl (pc' := 17) rfl ?_
  refine k_getF X1494 hx hZ hown (host := "") (Or.inl (hw _ (List.mem_of_getElem? (i := 43) rfl))) Via.refl e1494 F1283 (hb hby d4_17) (pc' := 20) rfl (fun T1495 X1495 e1495 => ?_)
  refine k_lsubL X1495 hx (hb hby d4_20) (pc' := 21) rfl (z := (9223372036854775807 : Int64)) (by decide) ?_
  refine k_lcif_le X1495 hx (hb hby d4_21) (pm := 22) rfl (hb hby d4_22) (pn := 25) rfl (py := 47) (by decide) (fun _ => ?_) (fun hc => absurd hc (by decide))
  refine k_aloadN X1495 hx (hb hby d4_47) rfl rfl (pc' := 48) rfl ?_
  refine k_lloadN X1495 hx (hb hby d4_48) rfl (pc' := 49) rfl ?_
  refine k_callP X1495 hx hZ hown (a := a1) (hw _ (List.mem_of_getElem? (i := 45) rfl)) (hw _ (List.mem_of_getElem? (i := 46) rfl)) (hw _ (List.mem_of_getElem? (i := 47) rfl)) (hw _ (List.mem_of_getElem? (i := 1) rfl)) (hw _ (List.mem_of_getElem? (i := 2) rfl)) (hw _ (List.mem_of_getElem? (i := 48) rfl)) (by decide) F1275 (rm7_1496 l Z a0 hw [] a1 a3 a4 p5 p2 a7 k8 a9 k10 k11 p6 k12 T1209.heap n0 Z1289 F1275 F1276 F1277 F1278 F1279 F1280 F1281 F1282 F1283 F1284 g_a1 F1285 g_a7 F1286 g_a9 F1287 g_a3 F1288 g_a4 lt0_0 lt0_1 lt0_2 lt0_3) (by decide) (by decide) e1495 (by rw [hml]; rfl) (argsL := [(.long (1 : Int64))]) (rest := []) (lenOf pd_3 rfl) rfl (W := 0) (Nat.le_refl _) rfl (hb hby d4_49) (by decide) (by decide) (pc' := 52) rfl (fun T1533 L1533 r1533 X1533 q1533 => ?_)
  obtain ⟨N1533, q1533⟩ := q1533
  have N1533' := Fr.app N1209' N1533
  obtain ⟨rfl, F1534, F1535, F1536, F1537, F1538, F1539, F1540, F1541, F1542, F1543, F1544, F1545, F1546, F1547, Z1548⟩ := q1533
  show KEnds p e below s _ _ _ T1533 (mkF m 52 #[.val (.ref a1), .val (.long (1 : Int64)), .second, .val (.long p2), .second] [])
  exact k_ret X1533 hx Bd.returns (hb hby d4_52) hlk (by decide) (by decide) ⟨N1533', (Or.inr (Or.inr (Or.inr (Or.inr ⟨v1271, h1272, hc1273, hc1274, rfl, F1534, F1535, F1536, F1537, F1538, F1539, F1540, F1541, F1542, F1543, F1544, F1545, F1546, F1547, Z1548⟩))))⟩
abbrev R3_1653 : Room := { frames := 0, cells := 0, slots := 0, locals := 0 }
def Q3_1653 (Z : State) (a1 : Addr) (p2 : Int64) (a3 : Addr) (a4 : Addr) (p5 : Int64) (p6 : Int64) (k7 : ClassId) (k8 : ClassId) (h0 : Heap) (n0 : Nat) (v : Option Value) (h : Heap) (L : List Loc) : Prop := Fr n0 L ∧ h = h0 ∧ ((∃ (v1656 : Int64), v1656 = p6 - p2 ∧ ¬ (0 : Int64) < v1656 ∧ v = some (.int (0 : Int32))) ∨ (∃ (v1656 : Int64), v1656 = p6 - p2 ∧ (0 : Int64) < v1656 ∧ v = some (.int (1 : Int32))))
theorem ef3_1653 (m : MethodId) (x0 : Addr) (x1 : Int64) : entryFrame m #[(.ref x0), (.long x1)] 3 = mkF m 0 #[.val (.ref x0), .val (.long x1), .second] [] := by first | (simp [entryFrame, mkF, argsToLocals, Value.category]; done) | rfl
set_option maxRecDepth 65536 in
set_option maxHeartbeats 40000000 in
theorem rm3_1653 (l : Launch) (Z : State) (a0 : Array Value) (hw : ∀ d ∈ tables_1, d.before a0 Z = true) (ws : List Jvm.Cond) (a1 : Addr) (p2 : Int64) (a3 : Addr) (a4 : Addr) (p5 : Int64) (p6 : Int64) (k7 : ClassId) (k8 : ClassId) (h0 : Heap) (n0 : Nat) (Z0 : n0 ≤ h0.size) (F0_0 : Exa Z h0 a1 "com/example/halter/halter/SlidingSum") (F0_1 : Fld Z h0 a1 "com/example/halter/halter/SlidingSum" "times" "[J" (.ref a3)) (F0_2 : Fld Z h0 a1 "com/example/halter/halter/SlidingSum" "costs" "[J" (.ref a4)) (F0_3 : Fld Z h0 a1 "com/example/halter/halter/SlidingSum" "most" "J" (.long (9223372036854775807 : Int64))) (F0_4 : Fld Z h0 a1 "com/example/halter/halter/SlidingSum" "length" "J" (.long p5)) (F0_5 : Fld Z h0 a1 "com/example/halter/halter/SlidingSum" "started" "Z" (.int (1 : Int32))) (F0_6 : Fld Z h0 a1 "com/example/halter/halter/SlidingSum" "latest" "J" (.long p6)) (F0_7 : Fld Z h0 a1 "com/example/halter/halter/SlidingSum" "size" "I" (.int (1 : Int32))) (F0_8 : Fld Z h0 a1 "com/example/halter/halter/SlidingSum" "sum" "J" (.long (2 : Int64))) (F0_9 : Fld Z h0 a1 "com/example/halter/halter/SlidingSum" "head" "I" (.int (0 : Int32))) (F0_10 : Arv Z h0 a3 k7 .long (8 : Int32) [(.long p6), (.long (0 : Int64)), (.long (0 : Int64)), (.long (0 : Int64)), (.long (0 : Int64)), (.long (0 : Int64)), (.long (0 : Int64)), (.long (0 : Int64))] (.long (0 : Int64))) (F0_11 : Arv Z h0 a4 k8 .long (8 : Int32) [(.long (2 : Int64)), (.long (0 : Int64)), (.long (0 : Int64)), (.long (0 : Int64)), (.long (0 : Int64)), (.long (0 : Int64)), (.long (0 : Int64)), (.long (0 : Int64))] (.long (0 : Int64))) (lt0_0 : a1 < a3) (lt0_1 : a3 < a4) :
    MetFree l (⟨"com/example/halter/halter/SlidingSum", "givenAfter", "(J)Z"⟩ : MethodName) (head1 (Jvm.Cond.code (⟨"com/example/halter/halter/SlidingSum", "givenAfter", "(J)Z"⟩ : MethodName) prog_19_method_5_code 3 (some .boolean) :: ws) R3_1653) (fun a U => a = #[(.ref a1), (.long p2)] ∧ Z.Warmed39 U.vm ∧ U.heap = h0) (fun _ _ _ _ _ => True) (fun _ U o U' => ∃ v L, o = .returned v ∧ Q3_1653 Z a1 p2 a3 a4 p5 p6 k7 k8 h0 n0 v U'.heap L ∧ FrameEnd U o U' L R3_1653.cells R3_1653.slots) := by
 refine MetFree.of_bodySF (plainFor_of_name pn_0) hisR ?_
 intro p e s m args below meth c s₁ Bd hml0 hP hK
 obtain ⟨rfl, hZ, hh⟩ := hP
 have hx := Bd.exec
 have hby := Bd.bytes
 have hml : c.maxLocals = 3 := hml0
 have hlk : meth.locks = false := Bd.notSynchronized
 have hown : s.vm.findClass "com/example/halter/halter/SlidingSum" = some m.cls := findClass_of_methodNamed Bd.named
 have hnm := (name_of_methodNamed Bd.named Bd.method).1
 have X0 : Stand p l e R3_1653 s m #[(.ref a1), (.long p2)] below meth c s₁ [] 0 0 := Stand.of_body Bd
 have e0 : s₁.heap = h0 := by rw [← hh, Bd.state]; rfl
 have N0 := Fr.nil n0
 rw [ef3_1653 m a1 p2]
 show KEnds p e below s R3_1653.cells R3_1653.slots (Q3_1653 Z a1 p2 a3 a4 p5 p6 k7 k8 h0 n0) s₁ (mkF m 0 #[.val (.ref a1), .val (.long p2), .second] [])
 refine k_aloadN X0 hx (hb hby d3_0) rfl rfl (pc' := 1) rfl ?_
 refine k_getF X0 hx hZ hown (host := "") (Or.inl (hw _ (List.mem_of_getElem? (i := 24) rfl))) Via.refl e0 F0_5 (hb hby d3_1) (pc' := 4) rfl (fun T1654 X1654 e1654 => ?_)
 refine k_if_eq X1654 hx (hb hby d3_4) (pn := 7) rfl (py := 22) (by decide) (fun hc => absurd hc (by decide)) (fun _ => ?_)
 refine k_aloadN X1654 hx (hb hby d3_7) rfl rfl (pc' := 8) rfl ?_
 refine k_getF X1654 hx hZ hown (host := "") (Or.inl (hw _ (List.mem_of_getElem? (i := 35) rfl))) Via.refl e1654 F0_6 (hb hby d3_8) (pc' := 11) rfl (fun T1655 X1655 e1655 => ?_)
 refine k_lloadN X1655 hx (hb hby d3_11) rfl (pc' := 12) rfl ?_
 refine k_lsub X1655 hx (hb hby d3_12) (pc' := 13) rfl (fun v1656 hv1656 => ?_)
 refine k_lconst X1655 hx (hb hby d3_13) (pc' := 14) rfl (z := (0 : Int64)) rfl ?_
 refine k_lcif_le X1655 hx (hb hby d3_14) (pm := 15) rfl (hb hby d3_15) (pn := 18) rfl (py := 22) (by decide) (fun hc1657 => ?_) (fun hc1657 => ?_)
 ·
  refine k_iconst X1655 hx (hb hby d3_22) (pc' := 23) rfl (z := (0 : Int32)) rfl ?_
  exact k_retN X1655 hx (t := .boolean) Bd.returns (by simp) (hb hby d3_23) hlk (by decide) (by decide) (z' := (0 : Int32)) rfl ⟨N0, e1655, (Or.inl ⟨v1656, hv1656, hc1657, rfl⟩)⟩
 ·
  refine k_iconst X1655 hx (hb hby d3_18) (pc' := 19) rfl (z := (1 : Int32)) rfl ?_
  refine k_goto X1655 hx (hb hby d3_19) (pc' := 23) (by decide) ?_
  exact k_retN X1655 hx (t := .boolean) Bd.returns (by simp) (hb hby d3_23) hlk (by decide) (by decide) (z' := (1 : Int32)) rfl ⟨N0, e1655, (Or.inr ⟨v1656, hv1656, hc1657, rfl⟩)⟩
abbrev R3_1678 : Room := { frames := 0, cells := 0, slots := 0, locals := 0 }
def Q3_1678 (Z : State) (a1 : Addr) (p2 : Int64) (a3 : Addr) (a4 : Addr) (p5 : Int64) (p6 : Int64) (k7 : ClassId) (k8 : ClassId) (h0 : Heap) (n0 : Nat) (v : Option Value) (h : Heap) (L : List Loc) : Prop := Fr n0 L ∧ h = h0 ∧ ((∃ (v1681 : Int64), v1681 = p6 - p2 ∧ ¬ (0 : Int64) < v1681 ∧ v = some (.int (0 : Int32))) ∨ (∃ (v1681 : Int64), v1681 = p6 - p2 ∧ (0 : Int64) < v1681 ∧ v = some (.int (1 : Int32))))
theorem ef3_1678 (m : MethodId) (x0 : Addr) (x1 : Int64) : entryFrame m #[(.ref x0), (.long x1)] 3 = mkF m 0 #[.val (.ref x0), .val (.long x1), .second] [] := by first | (simp [entryFrame, mkF, argsToLocals, Value.category]; done) | rfl
set_option maxRecDepth 65536 in
set_option maxHeartbeats 40000000 in
theorem rm3_1678 (l : Launch) (Z : State) (a0 : Array Value) (hw : ∀ d ∈ tables_1, d.before a0 Z = true) (ws : List Jvm.Cond) (a1 : Addr) (p2 : Int64) (a3 : Addr) (a4 : Addr) (p5 : Int64) (p6 : Int64) (k7 : ClassId) (k8 : ClassId) (h0 : Heap) (n0 : Nat) (Z0 : n0 ≤ h0.size) (F0_0 : Exa Z h0 a1 "com/example/halter/halter/SlidingSum") (F0_1 : Fld Z h0 a1 "com/example/halter/halter/SlidingSum" "times" "[J" (.ref a3)) (F0_2 : Fld Z h0 a1 "com/example/halter/halter/SlidingSum" "costs" "[J" (.ref a4)) (F0_3 : Fld Z h0 a1 "com/example/halter/halter/SlidingSum" "most" "J" (.long (9223372036854775807 : Int64))) (F0_4 : Fld Z h0 a1 "com/example/halter/halter/SlidingSum" "length" "J" (.long p5)) (F0_5 : Fld Z h0 a1 "com/example/halter/halter/SlidingSum" "started" "Z" (.int (1 : Int32))) (F0_6 : Fld Z h0 a1 "com/example/halter/halter/SlidingSum" "latest" "J" (.long p6)) (F0_7 : Fld Z h0 a1 "com/example/halter/halter/SlidingSum" "size" "I" (.int (1 : Int32))) (F0_8 : Fld Z h0 a1 "com/example/halter/halter/SlidingSum" "sum" "J" (.long (1 : Int64))) (F0_9 : Fld Z h0 a1 "com/example/halter/halter/SlidingSum" "head" "I" (.int (1 : Int32))) (F0_10 : Arv Z h0 a3 k7 .long (8 : Int32) [(.long p6), (.long p6), (.long (0 : Int64)), (.long (0 : Int64)), (.long (0 : Int64)), (.long (0 : Int64)), (.long (0 : Int64)), (.long (0 : Int64))] (.long (0 : Int64))) (F0_11 : Arv Z h0 a4 k8 .long (8 : Int32) [(.long (1 : Int64)), (.long (1 : Int64)), (.long (0 : Int64)), (.long (0 : Int64)), (.long (0 : Int64)), (.long (0 : Int64)), (.long (0 : Int64)), (.long (0 : Int64))] (.long (0 : Int64))) (lt0_0 : a1 < a3) (lt0_1 : a3 < a4) :
    MetFree l (⟨"com/example/halter/halter/SlidingSum", "givenAfter", "(J)Z"⟩ : MethodName) (head1 (Jvm.Cond.code (⟨"com/example/halter/halter/SlidingSum", "givenAfter", "(J)Z"⟩ : MethodName) prog_19_method_5_code 3 (some .boolean) :: ws) R3_1678) (fun a U => a = #[(.ref a1), (.long p2)] ∧ Z.Warmed39 U.vm ∧ U.heap = h0) (fun _ _ _ _ _ => True) (fun _ U o U' => ∃ v L, o = .returned v ∧ Q3_1678 Z a1 p2 a3 a4 p5 p6 k7 k8 h0 n0 v U'.heap L ∧ FrameEnd U o U' L R3_1678.cells R3_1678.slots) := by
 refine MetFree.of_bodySF (plainFor_of_name pn_0) hisR ?_
 intro p e s m args below meth c s₁ Bd hml0 hP hK
 obtain ⟨rfl, hZ, hh⟩ := hP
 have hx := Bd.exec
 have hby := Bd.bytes
 have hml : c.maxLocals = 3 := hml0
 have hlk : meth.locks = false := Bd.notSynchronized
 have hown : s.vm.findClass "com/example/halter/halter/SlidingSum" = some m.cls := findClass_of_methodNamed Bd.named
 have hnm := (name_of_methodNamed Bd.named Bd.method).1
 have X0 : Stand p l e R3_1678 s m #[(.ref a1), (.long p2)] below meth c s₁ [] 0 0 := Stand.of_body Bd
 have e0 : s₁.heap = h0 := by rw [← hh, Bd.state]; rfl
 have N0 := Fr.nil n0
 rw [ef3_1678 m a1 p2]
 show KEnds p e below s R3_1678.cells R3_1678.slots (Q3_1678 Z a1 p2 a3 a4 p5 p6 k7 k8 h0 n0) s₁ (mkF m 0 #[.val (.ref a1), .val (.long p2), .second] [])
 refine k_aloadN X0 hx (hb hby d3_0) rfl rfl (pc' := 1) rfl ?_
 refine k_getF X0 hx hZ hown (host := "") (Or.inl (hw _ (List.mem_of_getElem? (i := 24) rfl))) Via.refl e0 F0_5 (hb hby d3_1) (pc' := 4) rfl (fun T1679 X1679 e1679 => ?_)
 refine k_if_eq X1679 hx (hb hby d3_4) (pn := 7) rfl (py := 22) (by decide) (fun hc => absurd hc (by decide)) (fun _ => ?_)
 refine k_aloadN X1679 hx (hb hby d3_7) rfl rfl (pc' := 8) rfl ?_
 refine k_getF X1679 hx hZ hown (host := "") (Or.inl (hw _ (List.mem_of_getElem? (i := 35) rfl))) Via.refl e1679 F0_6 (hb hby d3_8) (pc' := 11) rfl (fun T1680 X1680 e1680 => ?_)
 refine k_lloadN X1680 hx (hb hby d3_11) rfl (pc' := 12) rfl ?_
 refine k_lsub X1680 hx (hb hby d3_12) (pc' := 13) rfl (fun v1681 hv1681 => ?_)
 refine k_lconst X1680 hx (hb hby d3_13) (pc' := 14) rfl (z := (0 : Int64)) rfl ?_
 refine k_lcif_le X1680 hx (hb hby d3_14) (pm := 15) rfl (hb hby d3_15) (pn := 18) rfl (py := 22) (by decide) (fun hc1682 => ?_) (fun hc1682 => ?_)
 ·
  refine k_iconst X1680 hx (hb hby d3_22) (pc' := 23) rfl (z := (0 : Int32)) rfl ?_
  exact k_retN X1680 hx (t := .boolean) Bd.returns (by simp) (hb hby d3_23) hlk (by decide) (by decide) (z' := (0 : Int32)) rfl ⟨N0, e1680, (Or.inl ⟨v1681, hv1681, hc1682, rfl⟩)⟩
 ·
  refine k_iconst X1680 hx (hb hby d3_18) (pc' := 19) rfl (z := (1 : Int32)) rfl ?_
  refine k_goto X1680 hx (hb hby d3_19) (pc' := 23) (by decide) ?_
  exact k_retN X1680 hx (t := .boolean) Bd.returns (by simp) (hb hby d3_23) hlk (by decide) (by decide) (z' := (1 : Int32)) rfl ⟨N0, e1680, (Or.inr ⟨v1681, hv1681, hc1682, rfl⟩)⟩
abbrev R3_1703 : Room := { frames := 0, cells := 0, slots := 0, locals := 0 }
def Q3_1703 (Z : State) (a1 : Addr) (p2 : Int64) (a3 : Addr) (a4 : Addr) (p5 : Int64) (p6 : Int64) (k7 : ClassId) (p8 : Int64) (k9 : ClassId) (h0 : Heap) (n0 : Nat) (v : Option Value) (h : Heap) (L : List Loc) : Prop := Fr n0 L ∧ h = h0 ∧ ((∃ (v1706 : Int64), v1706 = p6 - p2 ∧ ¬ (0 : Int64) < v1706 ∧ v = some (.int (0 : Int32))) ∨ (∃ (v1706 : Int64), v1706 = p6 - p2 ∧ (0 : Int64) < v1706 ∧ v = some (.int (1 : Int32))))
theorem ef3_1703 (m : MethodId) (x0 : Addr) (x1 : Int64) : entryFrame m #[(.ref x0), (.long x1)] 3 = mkF m 0 #[.val (.ref x0), .val (.long x1), .second] [] := by first | (simp [entryFrame, mkF, argsToLocals, Value.category]; done) | rfl
set_option maxRecDepth 65536 in
set_option maxHeartbeats 40000000 in
theorem rm3_1703 (l : Launch) (Z : State) (a0 : Array Value) (hw : ∀ d ∈ tables_1, d.before a0 Z = true) (ws : List Jvm.Cond) (a1 : Addr) (p2 : Int64) (a3 : Addr) (a4 : Addr) (p5 : Int64) (p6 : Int64) (k7 : ClassId) (p8 : Int64) (k9 : ClassId) (h0 : Heap) (n0 : Nat) (Z0 : n0 ≤ h0.size) (F0_0 : Exa Z h0 a1 "com/example/halter/halter/SlidingSum") (F0_1 : Fld Z h0 a1 "com/example/halter/halter/SlidingSum" "times" "[J" (.ref a3)) (F0_2 : Fld Z h0 a1 "com/example/halter/halter/SlidingSum" "costs" "[J" (.ref a4)) (F0_3 : Fld Z h0 a1 "com/example/halter/halter/SlidingSum" "most" "J" (.long (9223372036854775807 : Int64))) (F0_4 : Fld Z h0 a1 "com/example/halter/halter/SlidingSum" "length" "J" (.long p5)) (F0_5 : Fld Z h0 a1 "com/example/halter/halter/SlidingSum" "started" "Z" (.int (1 : Int32))) (F0_6 : Fld Z h0 a1 "com/example/halter/halter/SlidingSum" "latest" "J" (.long p6)) (F0_7 : Fld Z h0 a1 "com/example/halter/halter/SlidingSum" "size" "I" (.int (2 : Int32))) (F0_8 : Fld Z h0 a1 "com/example/halter/halter/SlidingSum" "sum" "J" (.long (2 : Int64))) (F0_9 : Fld Z h0 a1 "com/example/halter/halter/SlidingSum" "head" "I" (.int (0 : Int32))) (F0_10 : Arv Z h0 a3 k7 .long (8 : Int32) [(.long p8), (.long p6), (.long (0 : Int64)), (.long (0 : Int64)), (.long (0 : Int64)), (.long (0 : Int64)), (.long (0 : Int64)), (.long (0 : Int64))] (.long (0 : Int64))) (F0_11 : Arv Z h0 a4 k9 .long (8 : Int32) [(.long (1 : Int64)), (.long (1 : Int64)), (.long (0 : Int64)), (.long (0 : Int64)), (.long (0 : Int64)), (.long (0 : Int64)), (.long (0 : Int64)), (.long (0 : Int64))] (.long (0 : Int64))) (lt0_0 : a1 < a3) (lt0_1 : a3 < a4) :
    MetFree l (⟨"com/example/halter/halter/SlidingSum", "givenAfter", "(J)Z"⟩ : MethodName) (head1 (Jvm.Cond.code (⟨"com/example/halter/halter/SlidingSum", "givenAfter", "(J)Z"⟩ : MethodName) prog_19_method_5_code 3 (some .boolean) :: ws) R3_1703) (fun a U => a = #[(.ref a1), (.long p2)] ∧ Z.Warmed39 U.vm ∧ U.heap = h0) (fun _ _ _ _ _ => True) (fun _ U o U' => ∃ v L, o = .returned v ∧ Q3_1703 Z a1 p2 a3 a4 p5 p6 k7 p8 k9 h0 n0 v U'.heap L ∧ FrameEnd U o U' L R3_1703.cells R3_1703.slots) := by
 refine MetFree.of_bodySF (plainFor_of_name pn_0) hisR ?_
 intro p e s m args below meth c s₁ Bd hml0 hP hK
 obtain ⟨rfl, hZ, hh⟩ := hP
 have hx := Bd.exec
 have hby := Bd.bytes
 have hml : c.maxLocals = 3 := hml0
 have hlk : meth.locks = false := Bd.notSynchronized
 have hown : s.vm.findClass "com/example/halter/halter/SlidingSum" = some m.cls := findClass_of_methodNamed Bd.named
 have hnm := (name_of_methodNamed Bd.named Bd.method).1
 have X0 : Stand p l e R3_1703 s m #[(.ref a1), (.long p2)] below meth c s₁ [] 0 0 := Stand.of_body Bd
 have e0 : s₁.heap = h0 := by rw [← hh, Bd.state]; rfl
 have N0 := Fr.nil n0
 rw [ef3_1703 m a1 p2]
 show KEnds p e below s R3_1703.cells R3_1703.slots (Q3_1703 Z a1 p2 a3 a4 p5 p6 k7 p8 k9 h0 n0) s₁ (mkF m 0 #[.val (.ref a1), .val (.long p2), .second] [])
 refine k_aloadN X0 hx (hb hby d3_0) rfl rfl (pc' := 1) rfl ?_
 refine k_getF X0 hx hZ hown (host := "") (Or.inl (hw _ (List.mem_of_getElem? (i := 24) rfl))) Via.refl e0 F0_5 (hb hby d3_1) (pc' := 4) rfl (fun T1704 X1704 e1704 => ?_)
 refine k_if_eq X1704 hx (hb hby d3_4) (pn := 7) rfl (py := 22) (by decide) (fun hc => absurd hc (by decide)) (fun _ => ?_)
 refine k_aloadN X1704 hx (hb hby d3_7) rfl rfl (pc' := 8) rfl ?_
 refine k_getF X1704 hx hZ hown (host := "") (Or.inl (hw _ (List.mem_of_getElem? (i := 35) rfl))) Via.refl e1704 F0_6 (hb hby d3_8) (pc' := 11) rfl (fun T1705 X1705 e1705 => ?_)
 refine k_lloadN X1705 hx (hb hby d3_11) rfl (pc' := 12) rfl ?_
 refine k_lsub X1705 hx (hb hby d3_12) (pc' := 13) rfl (fun v1706 hv1706 => ?_)
 refine k_lconst X1705 hx (hb hby d3_13) (pc' := 14) rfl (z := (0 : Int64)) rfl ?_
 refine k_lcif_le X1705 hx (hb hby d3_14) (pm := 15) rfl (hb hby d3_15) (pn := 18) rfl (py := 22) (by decide) (fun hc1707 => ?_) (fun hc1707 => ?_)
 ·
  refine k_iconst X1705 hx (hb hby d3_22) (pc' := 23) rfl (z := (0 : Int32)) rfl ?_
  exact k_retN X1705 hx (t := .boolean) Bd.returns (by simp) (hb hby d3_23) hlk (by decide) (by decide) (z' := (0 : Int32)) rfl ⟨N0, e1705, (Or.inl ⟨v1706, hv1706, hc1707, rfl⟩)⟩
 ·
  refine k_iconst X1705 hx (hb hby d3_18) (pc' := 19) rfl (z := (1 : Int32)) rfl ?_
  refine k_goto X1705 hx (hb hby d3_19) (pc' := 23) (by decide) ?_
  exact k_retN X1705 hx (t := .boolean) Bd.returns (by simp) (hb hby d3_23) hlk (by decide) (by decide) (z' := (1 : Int32)) rfl ⟨N0, e1705, (Or.inr ⟨v1706, hv1706, hc1707, rfl⟩)⟩
abbrev R3_1728 : Room := { frames := 0, cells := 0, slots := 0, locals := 0 }
def Q3_1728 (Z : State) (a1 : Addr) (p2 : Int64) (a3 : Addr) (a4 : Addr) (p5 : Int64) (p6 : Int64) (k7 : ClassId) (p8 : Int64) (k9 : ClassId) (h0 : Heap) (n0 : Nat) (v : Option Value) (h : Heap) (L : List Loc) : Prop := Fr n0 L ∧ h = h0 ∧ ((∃ (v1731 : Int64), v1731 = p6 - p2 ∧ ¬ (0 : Int64) < v1731 ∧ v = some (.int (0 : Int32))) ∨ (∃ (v1731 : Int64), v1731 = p6 - p2 ∧ (0 : Int64) < v1731 ∧ v = some (.int (1 : Int32))))
theorem ef3_1728 (m : MethodId) (x0 : Addr) (x1 : Int64) : entryFrame m #[(.ref x0), (.long x1)] 3 = mkF m 0 #[.val (.ref x0), .val (.long x1), .second] [] := by first | (simp [entryFrame, mkF, argsToLocals, Value.category]; done) | rfl
set_option maxRecDepth 65536 in
set_option maxHeartbeats 40000000 in
theorem rm3_1728 (l : Launch) (Z : State) (a0 : Array Value) (hw : ∀ d ∈ tables_1, d.before a0 Z = true) (ws : List Jvm.Cond) (a1 : Addr) (p2 : Int64) (a3 : Addr) (a4 : Addr) (p5 : Int64) (p6 : Int64) (k7 : ClassId) (p8 : Int64) (k9 : ClassId) (h0 : Heap) (n0 : Nat) (Z0 : n0 ≤ h0.size) (F0_0 : Exa Z h0 a1 "com/example/halter/halter/SlidingSum") (F0_1 : Fld Z h0 a1 "com/example/halter/halter/SlidingSum" "times" "[J" (.ref a3)) (F0_2 : Fld Z h0 a1 "com/example/halter/halter/SlidingSum" "costs" "[J" (.ref a4)) (F0_3 : Fld Z h0 a1 "com/example/halter/halter/SlidingSum" "most" "J" (.long (9223372036854775807 : Int64))) (F0_4 : Fld Z h0 a1 "com/example/halter/halter/SlidingSum" "length" "J" (.long p5)) (F0_5 : Fld Z h0 a1 "com/example/halter/halter/SlidingSum" "started" "Z" (.int (1 : Int32))) (F0_6 : Fld Z h0 a1 "com/example/halter/halter/SlidingSum" "latest" "J" (.long p6)) (F0_7 : Fld Z h0 a1 "com/example/halter/halter/SlidingSum" "size" "I" (.int (1 : Int32))) (F0_8 : Fld Z h0 a1 "com/example/halter/halter/SlidingSum" "sum" "J" (.long (2 : Int64))) (F0_9 : Fld Z h0 a1 "com/example/halter/halter/SlidingSum" "head" "I" (.int (0 : Int32))) (F0_10 : Arv Z h0 a3 k7 .long (8 : Int32) [(.long p8), (.long (0 : Int64)), (.long (0 : Int64)), (.long (0 : Int64)), (.long (0 : Int64)), (.long (0 : Int64)), (.long (0 : Int64)), (.long (0 : Int64))] (.long (0 : Int64))) (F0_11 : Arv Z h0 a4 k9 .long (8 : Int32) [(.long (2 : Int64)), (.long (0 : Int64)), (.long (0 : Int64)), (.long (0 : Int64)), (.long (0 : Int64)), (.long (0 : Int64)), (.long (0 : Int64)), (.long (0 : Int64))] (.long (0 : Int64))) (lt0_0 : a1 < a3) (lt0_1 : a3 < a4) :
    MetFree l (⟨"com/example/halter/halter/SlidingSum", "givenAfter", "(J)Z"⟩ : MethodName) (head1 (Jvm.Cond.code (⟨"com/example/halter/halter/SlidingSum", "givenAfter", "(J)Z"⟩ : MethodName) prog_19_method_5_code 3 (some .boolean) :: ws) R3_1728) (fun a U => a = #[(.ref a1), (.long p2)] ∧ Z.Warmed39 U.vm ∧ U.heap = h0) (fun _ _ _ _ _ => True) (fun _ U o U' => ∃ v L, o = .returned v ∧ Q3_1728 Z a1 p2 a3 a4 p5 p6 k7 p8 k9 h0 n0 v U'.heap L ∧ FrameEnd U o U' L R3_1728.cells R3_1728.slots) := by
 refine MetFree.of_bodySF (plainFor_of_name pn_0) hisR ?_
 intro p e s m args below meth c s₁ Bd hml0 hP hK
 obtain ⟨rfl, hZ, hh⟩ := hP
 have hx := Bd.exec
 have hby := Bd.bytes
 have hml : c.maxLocals = 3 := hml0
 have hlk : meth.locks = false := Bd.notSynchronized
 have hown : s.vm.findClass "com/example/halter/halter/SlidingSum" = some m.cls := findClass_of_methodNamed Bd.named
 have hnm := (name_of_methodNamed Bd.named Bd.method).1
 have X0 : Stand p l e R3_1728 s m #[(.ref a1), (.long p2)] below meth c s₁ [] 0 0 := Stand.of_body Bd
 have e0 : s₁.heap = h0 := by rw [← hh, Bd.state]; rfl
 have N0 := Fr.nil n0
 rw [ef3_1728 m a1 p2]
 show KEnds p e below s R3_1728.cells R3_1728.slots (Q3_1728 Z a1 p2 a3 a4 p5 p6 k7 p8 k9 h0 n0) s₁ (mkF m 0 #[.val (.ref a1), .val (.long p2), .second] [])
 refine k_aloadN X0 hx (hb hby d3_0) rfl rfl (pc' := 1) rfl ?_
 refine k_getF X0 hx hZ hown (host := "") (Or.inl (hw _ (List.mem_of_getElem? (i := 24) rfl))) Via.refl e0 F0_5 (hb hby d3_1) (pc' := 4) rfl (fun T1729 X1729 e1729 => ?_)
 refine k_if_eq X1729 hx (hb hby d3_4) (pn := 7) rfl (py := 22) (by decide) (fun hc => absurd hc (by decide)) (fun _ => ?_)
 refine k_aloadN X1729 hx (hb hby d3_7) rfl rfl (pc' := 8) rfl ?_
 refine k_getF X1729 hx hZ hown (host := "") (Or.inl (hw _ (List.mem_of_getElem? (i := 35) rfl))) Via.refl e1729 F0_6 (hb hby d3_8) (pc' := 11) rfl (fun T1730 X1730 e1730 => ?_)
 refine k_lloadN X1730 hx (hb hby d3_11) rfl (pc' := 12) rfl ?_
 refine k_lsub X1730 hx (hb hby d3_12) (pc' := 13) rfl (fun v1731 hv1731 => ?_)
 refine k_lconst X1730 hx (hb hby d3_13) (pc' := 14) rfl (z := (0 : Int64)) rfl ?_
 refine k_lcif_le X1730 hx (hb hby d3_14) (pm := 15) rfl (hb hby d3_15) (pn := 18) rfl (py := 22) (by decide) (fun hc1732 => ?_) (fun hc1732 => ?_)
 ·
  refine k_iconst X1730 hx (hb hby d3_22) (pc' := 23) rfl (z := (0 : Int32)) rfl ?_
  exact k_retN X1730 hx (t := .boolean) Bd.returns (by simp) (hb hby d3_23) hlk (by decide) (by decide) (z' := (0 : Int32)) rfl ⟨N0, e1730, (Or.inl ⟨v1731, hv1731, hc1732, rfl⟩)⟩
 ·
  refine k_iconst X1730 hx (hb hby d3_18) (pc' := 19) rfl (z := (1 : Int32)) rfl ?_
  refine k_goto X1730 hx (hb hby d3_19) (pc' := 23) (by decide) ?_
  exact k_retN X1730 hx (t := .boolean) Bd.returns (by simp) (hb hby d3_23) hlk (by decide) (by decide) (z' := (1 : Int32)) rfl ⟨N0, e1730, (Or.inr ⟨v1731, hv1731, hc1732, rfl⟩)⟩
abbrev R3_1753 : Room := { frames := 0, cells := 0, slots := 0, locals := 0 }
def Q3_1753 (Z : State) (a1 : Addr) (p2 : Int64) (a3 : Addr) (a4 : Addr) (p5 : Int64) (p6 : Int64) (k7 : ClassId) (p8 : Int64) (k9 : ClassId) (h0 : Heap) (n0 : Nat) (v : Option Value) (h : Heap) (L : List Loc) : Prop := Fr n0 L ∧ h = h0 ∧ ((∃ (v1756 : Int64), v1756 = p6 - p2 ∧ ¬ (0 : Int64) < v1756 ∧ v = some (.int (0 : Int32))) ∨ (∃ (v1756 : Int64), v1756 = p6 - p2 ∧ (0 : Int64) < v1756 ∧ v = some (.int (1 : Int32))))
theorem ef3_1753 (m : MethodId) (x0 : Addr) (x1 : Int64) : entryFrame m #[(.ref x0), (.long x1)] 3 = mkF m 0 #[.val (.ref x0), .val (.long x1), .second] [] := by first | (simp [entryFrame, mkF, argsToLocals, Value.category]; done) | rfl
set_option maxRecDepth 65536 in
set_option maxHeartbeats 40000000 in
theorem rm3_1753 (l : Launch) (Z : State) (a0 : Array Value) (hw : ∀ d ∈ tables_1, d.before a0 Z = true) (ws : List Jvm.Cond) (a1 : Addr) (p2 : Int64) (a3 : Addr) (a4 : Addr) (p5 : Int64) (p6 : Int64) (k7 : ClassId) (p8 : Int64) (k9 : ClassId) (h0 : Heap) (n0 : Nat) (Z0 : n0 ≤ h0.size) (F0_0 : Exa Z h0 a1 "com/example/halter/halter/SlidingSum") (F0_1 : Fld Z h0 a1 "com/example/halter/halter/SlidingSum" "times" "[J" (.ref a3)) (F0_2 : Fld Z h0 a1 "com/example/halter/halter/SlidingSum" "costs" "[J" (.ref a4)) (F0_3 : Fld Z h0 a1 "com/example/halter/halter/SlidingSum" "most" "J" (.long (9223372036854775807 : Int64))) (F0_4 : Fld Z h0 a1 "com/example/halter/halter/SlidingSum" "length" "J" (.long p5)) (F0_5 : Fld Z h0 a1 "com/example/halter/halter/SlidingSum" "started" "Z" (.int (1 : Int32))) (F0_6 : Fld Z h0 a1 "com/example/halter/halter/SlidingSum" "latest" "J" (.long p6)) (F0_7 : Fld Z h0 a1 "com/example/halter/halter/SlidingSum" "size" "I" (.int (1 : Int32))) (F0_8 : Fld Z h0 a1 "com/example/halter/halter/SlidingSum" "sum" "J" (.long (1 : Int64))) (F0_9 : Fld Z h0 a1 "com/example/halter/halter/SlidingSum" "head" "I" (.int (1 : Int32))) (F0_10 : Arv Z h0 a3 k7 .long (8 : Int32) [(.long p8), (.long p6), (.long (0 : Int64)), (.long (0 : Int64)), (.long (0 : Int64)), (.long (0 : Int64)), (.long (0 : Int64)), (.long (0 : Int64))] (.long (0 : Int64))) (F0_11 : Arv Z h0 a4 k9 .long (8 : Int32) [(.long (1 : Int64)), (.long (1 : Int64)), (.long (0 : Int64)), (.long (0 : Int64)), (.long (0 : Int64)), (.long (0 : Int64)), (.long (0 : Int64)), (.long (0 : Int64))] (.long (0 : Int64))) (lt0_0 : a1 < a3) (lt0_1 : a3 < a4) :
    MetFree l (⟨"com/example/halter/halter/SlidingSum", "givenAfter", "(J)Z"⟩ : MethodName) (head1 (Jvm.Cond.code (⟨"com/example/halter/halter/SlidingSum", "givenAfter", "(J)Z"⟩ : MethodName) prog_19_method_5_code 3 (some .boolean) :: ws) R3_1753) (fun a U => a = #[(.ref a1), (.long p2)] ∧ Z.Warmed39 U.vm ∧ U.heap = h0) (fun _ _ _ _ _ => True) (fun _ U o U' => ∃ v L, o = .returned v ∧ Q3_1753 Z a1 p2 a3 a4 p5 p6 k7 p8 k9 h0 n0 v U'.heap L ∧ FrameEnd U o U' L R3_1753.cells R3_1753.slots) := by
 refine MetFree.of_bodySF (plainFor_of_name pn_0) hisR ?_
 intro p e s m args below meth c s₁ Bd hml0 hP hK
 obtain ⟨rfl, hZ, hh⟩ := hP
 have hx := Bd.exec
 have hby := Bd.bytes
 have hml : c.maxLocals = 3 := hml0
 have hlk : meth.locks = false := Bd.notSynchronized
 have hown : s.vm.findClass "com/example/halter/halter/SlidingSum" = some m.cls := findClass_of_methodNamed Bd.named
 have hnm := (name_of_methodNamed Bd.named Bd.method).1
 have X0 : Stand p l e R3_1753 s m #[(.ref a1), (.long p2)] below meth c s₁ [] 0 0 := Stand.of_body Bd
 have e0 : s₁.heap = h0 := by rw [← hh, Bd.state]; rfl
 have N0 := Fr.nil n0
 rw [ef3_1753 m a1 p2]
 show KEnds p e below s R3_1753.cells R3_1753.slots (Q3_1753 Z a1 p2 a3 a4 p5 p6 k7 p8 k9 h0 n0) s₁ (mkF m 0 #[.val (.ref a1), .val (.long p2), .second] [])
 refine k_aloadN X0 hx (hb hby d3_0) rfl rfl (pc' := 1) rfl ?_
 refine k_getF X0 hx hZ hown (host := "") (Or.inl (hw _ (List.mem_of_getElem? (i := 24) rfl))) Via.refl e0 F0_5 (hb hby d3_1) (pc' := 4) rfl (fun T1754 X1754 e1754 => ?_)
 refine k_if_eq X1754 hx (hb hby d3_4) (pn := 7) rfl (py := 22) (by decide) (fun hc => absurd hc (by decide)) (fun _ => ?_)
 refine k_aloadN X1754 hx (hb hby d3_7) rfl rfl (pc' := 8) rfl ?_
 refine k_getF X1754 hx hZ hown (host := "") (Or.inl (hw _ (List.mem_of_getElem? (i := 35) rfl))) Via.refl e1754 F0_6 (hb hby d3_8) (pc' := 11) rfl (fun T1755 X1755 e1755 => ?_)
 refine k_lloadN X1755 hx (hb hby d3_11) rfl (pc' := 12) rfl ?_
 refine k_lsub X1755 hx (hb hby d3_12) (pc' := 13) rfl (fun v1756 hv1756 => ?_)
 refine k_lconst X1755 hx (hb hby d3_13) (pc' := 14) rfl (z := (0 : Int64)) rfl ?_
 refine k_lcif_le X1755 hx (hb hby d3_14) (pm := 15) rfl (hb hby d3_15) (pn := 18) rfl (py := 22) (by decide) (fun hc1757 => ?_) (fun hc1757 => ?_)
 ·
  refine k_iconst X1755 hx (hb hby d3_22) (pc' := 23) rfl (z := (0 : Int32)) rfl ?_
  exact k_retN X1755 hx (t := .boolean) Bd.returns (by simp) (hb hby d3_23) hlk (by decide) (by decide) (z' := (0 : Int32)) rfl ⟨N0, e1755, (Or.inl ⟨v1756, hv1756, hc1757, rfl⟩)⟩
 ·
  refine k_iconst X1755 hx (hb hby d3_18) (pc' := 19) rfl (z := (1 : Int32)) rfl ?_
  refine k_goto X1755 hx (hb hby d3_19) (pc' := 23) (by decide) ?_
  exact k_retN X1755 hx (t := .boolean) Bd.returns (by simp) (hb hby d3_23) hlk (by decide) (by decide) (z' := (1 : Int32)) rfl ⟨N0, e1755, (Or.inr ⟨v1756, hv1756, hc1757, rfl⟩)⟩
theorem ef0 (m : MethodId) (x0 : Int32) (x1 : Int64) (x2 : Int64) (x3 : Int64) : entryFrame m #[(.int x0), (.long x1), (.long x2), (.long x3)] maxLocals = mkF m 0 #[.val (.int x0), .val (.long x1), .second, .val (.long x2), .second, .val (.long x3), .second, .unset, .unset, .unset, .unset, .unset, .unset, .unset, .unset, .unset] [] := by first | (simp [entryFrame, mkF, argsToLocals, Value.category, maxLocals]; done) | rfl
theorem pn_1 : plainName "com/example/halter/halter/SlidingSumGivenAfterPinLaw" = true := by first | (simp [plainName, overriddenIn]; done) | decide +kernel
def Q0 (n0 : Nat) (v : Option Value) (h : Heap) (L : List Loc) : Prop := v = some (.int 1) ∧ Fr n0 L
set_option maxRecDepth 65536 in
set_option maxHeartbeats 40000000 in
theorem rm0 (l : Launch) (Z : State) (a0 : Array Value) (hw : ∀ d ∈ tables_1, d.before a0 Z = true) (ws : List Jvm.Cond) (i0 : Int32) (i1 : Int64) (i2 : Int64) (i3 : Int64) (h0 : Heap) (n0 : Nat) (Z0 : n0 ≤ h0.size) :
    MetFree l x (head1 (Jvm.Cond.code x code maxLocals ret :: ws) room_1) (fun a U => a = #[(.int i0), (.long i1), (.long i2), (.long i3)] ∧ Z.Warmed39 U.vm ∧ U.heap = h0) (fun _ _ _ _ _ => True) (fun _ U o U' => ∃ v L, o = .returned v ∧ Q0 n0 v U'.heap L ∧ FrameEnd U o U' L 24 128) := by
 refine MetFree.of_bodySF (plainFor_of_name pn_1) hisR ?_
 intro p e s m args below meth c s₁ Bd hml0 hP hK
 obtain ⟨rfl, hZ, hh⟩ := hP
 have hx := Bd.exec
 have hby := Bd.bytes
 have hml : c.maxLocals = 16 := hml0
 have hlk : meth.locks = false := Bd.notSynchronized
 have hown : s.vm.findClass "com/example/halter/halter/SlidingSumGivenAfterPinLaw" = some m.cls := findClass_of_methodNamed Bd.named
 have hnm := (name_of_methodNamed Bd.named Bd.method).1
 have X0 : Stand p l e room_1 s m #[(.int i0), (.long i1), (.long i2), (.long i3)] below meth c s₁ [] 0 0 := Stand.of_body Bd
 have e0 : s₁.heap = h0 := by rw [← hh, Bd.state]; rfl
 have N0 := Fr.nil n0
 rw [show entryFrame m #[(.int i0), (.long i1), (.long i2), (.long i3)] maxLocals = _ from ef0 m i0 i1 i2 i3]
 show KEnds p e below s 24 128 (Q0 n0) s₁ (mkF m 0 #[.val (.int i0), .val (.long i1), .second, .val (.long i2), .second, .val (.long i3), .second, .unset, .unset, .unset, .unset, .unset, .unset, .unset, .unset, .unset] [])
 refine k_lconst X0 hx (hb hby at_0) (pc' := 1) rfl (z := (1 : Int64)) rfl ?_
 refine k_iloadN X0 hx (hb hby at_1) rfl (pc' := 2) rfl ?_
 refine k_iconst X0 hx (hb hby at_2) (pc' := 3) rfl (z := (4 : Int32)) rfl ?_
 refine k_iushr X0 hx (hb hby at_3) (pc' := 4) rfl (fun v1 hv1 => ?_)
 refine k_bipush X0 hx (hb hby at_4) (pc' := 6) rfl (z := (15 : Int32)) rfl ?_
 refine k_iand X0 hx (hb hby at_6) (pc' := 7) rfl (fun v2 hv2 => ?_)
 refine k_i2l X0 hx (hb hby at_7) (pc' := 8) rfl (fun v3 hv3 => ?_)
 refine k_ladd X0 hx (hb hby at_8) (pc' := 9) rfl (fun v4 hv4 => ?_)
 refine k_lstore X0 hx (hb hby at_9) (Ls' := #[.val (.int i0), .val (.long i1), .second, .val (.long i2), .second, .val (.long i3), .second, .val (.long v4), .second, .unset, .unset, .unset, .unset, .unset, .unset, .unset]) rfl (pc' := 11) rfl ?_
 refine k_newO X0 hx hZ hown (hw _ (List.mem_of_getElem? (i := 0) rfl)) (hw _ (List.mem_of_getElem? (i := 1) rfl)) (hw _ (List.mem_of_getElem? (i := 2) rfl)) e0 (hb hby at_11) (by decide) (by decide) (pc' := 14) rfl (fun T5 h5 b5 g5 X5 e5 E5 A5 D5 => ?_)
 have g_b5 : n0 ≤ b5 := Nat.le_trans Z0 (Nat.le_of_eq g5.symm)
 have Z5 : n0 ≤ h5.size := Nat.le_trans Z0 E5.1
 have F6 : Fld Z h5 b5 "com/example/halter/halter/SlidingSum" "times" "[J" .null := D5 (Or.inl (hw _ (List.mem_of_getElem? (i := 12) rfl))) (ty := (.array .long)) (by decide)
 have F7 : Fld Z h5 b5 "com/example/halter/halter/SlidingSum" "costs" "[J" .null := D5 (Or.inl (hw _ (List.mem_of_getElem? (i := 14) rfl))) (ty := (.array .long)) (by decide)
 have F8 : Fld Z h5 b5 "com/example/halter/halter/SlidingSum" "most" "J" (.long (0 : Int64)) := D5 (Or.inr (hw _ (List.mem_of_getElem? (i := 16) rfl))) (ty := .long) (by decide)
 have F9 : Fld Z h5 b5 "com/example/halter/halter/SlidingSum" "length" "J" (.long (0 : Int64)) := D5 (Or.inr (hw _ (List.mem_of_getElem? (i := 18) rfl))) (ty := .long) (by decide)
 have F10 : Fld Z h5 b5 "com/example/halter/halter/SlidingSum" "started" "Z" (.int (0 : Int32)) := D5 (Or.inl (hw _ (List.mem_of_getElem? (i := 25) rfl))) (ty := .boolean) (by decide)
 have F11 : Fld Z h5 b5 "com/example/halter/halter/SlidingSum" "latest" "J" (.long (0 : Int64)) := D5 (Or.inl (hw _ (List.mem_of_getElem? (i := 36) rfl))) (ty := .long) (by decide)
 have F12 : Fld Z h5 b5 "com/example/halter/halter/SlidingSum" "size" "I" (.int (0 : Int32)) := D5 (Or.inl (hw _ (List.mem_of_getElem? (i := 42) rfl))) (ty := .int) (by decide)
 have F13 : Fld Z h5 b5 "com/example/halter/halter/SlidingSum" "sum" "J" (.long (0 : Int64)) := D5 (Or.inl (hw _ (List.mem_of_getElem? (i := 44) rfl))) (ty := .long) (by decide)
 have F14 : Fld Z h5 b5 "com/example/halter/halter/SlidingSum" "head" "I" (.int (0 : Int32)) := D5 (Or.inl (hw _ (List.mem_of_getElem? (i := 69) rfl))) (ty := .int) (by decide)
 refine k_dup X5 hx (hb hby at_14) rfl (pc' := 15) rfl ?_
 refine k_ldcL X5 hx hZ hown (hw _ (List.mem_of_getElem? (i := 3) rfl)) (hb hby at_15) (pc' := 18) rfl ?_
 refine k_lload X5 hx (hb hby at_18) rfl (pc' := 20) rfl ?_
 have hp15 : ¬ v4 < (1 : Int64) := by
  intro hq16
  have := rng64 v4
  have : (1 : Int64).toInt = 1 := (by decide)
  have := rng64 v3
  have := rng32 v2
  have := rng32 v1
  have := rng32 i0
  have : (4 : Int32).toInt = 4 := (by decide)
  have q17 : v1.toInt = (i0.toInt % 4294967296) / 16 := (by rw [hv1]; exact c_iushr _ _ 4 (by decide) (by decide))
  have : (15 : Int32).toInt = 15 := (by decide)
  have q18 : v2.toInt = v1.toInt % 16 := (by rw [hv2]; exact c_mask _ _ 4 (by decide) (by decide))
  have q19 : v3.toInt = v2.toInt := (by rw [hv3]; exact c_i2l _)
  have q20 : (v4.toInt - ((1 : Int64).toInt + v3.toInt)) % 18446744073709551616 = 0 := (by rw [hv4]; exact c_ladd _ _)
  have q21 := hq16; rw [Int64.lt_iff_toInt_lt] at q21
  omega
 refine k_callI X5 hx hZ hown (a := b5) rfl (hw _ (List.mem_of_getElem? (i := 4) rfl)) (hw _ (List.mem_of_getElem? (i := 5) rfl)) (hw _ (List.mem_of_getElem? (i := 2) rfl)) (hw _ (List.mem_of_getElem? (i := 6) rfl)) rfl (by decide) (rm1_22 l Z a0 hw [] b5 v4 h5 n0 Z5 A5 F6 F7 F8 F9 F10 F11 F12 F13 F14 g_b5 hp15) (by decide) (by decide) e5 (by rw [hml]; rfl) (argsL := [(.long (9223372036854775807 : Int64)), (.long v4)]) (rest := [(.ref b5)]) (lenOf pd_0 rfl) rfl (W := 1) (Nat.le_refl _) rfl (hb hby at_20) (by decide) (by decide) (pc' := 23) rfl (fun T50 L50 r50 X50 q50 => ?_)
 obtain ⟨N50, q50⟩ := q50
 have N50' := Fr.app N0 N50
 obtain ⟨b51, k52, b53, k54, rfl, F55, F56, F57, F58, F59, F60, F61, F62, F63, F64, F65, F66, g_b51, lt67, g_b53, lt68, Z69⟩ := q50
 show KEnds p e below s _ _ _ T50 (mkF m 23 #[.val (.int i0), .val (.long i1), .second, .val (.long i2), .second, .val (.long i3), .second, .val (.long v4), .second, .unset, .unset, .unset, .unset, .unset, .unset, .unset] [(.ref b5)])
 refine k_astore X50 hx (hb hby at_23) rfl (Ls' := #[.val (.int i0), .val (.long i1), .second, .val (.long i2), .second, .val (.long i3), .second, .val (.long v4), .second, .val (.ref b5), .unset, .unset, .unset, .unset, .unset, .unset]) rfl (pc' := 25) rfl ?_
 refine k_iloadN X50 hx (hb hby at_25) rfl (pc' := 26) rfl ?_
 refine k_iconst X50 hx (hb hby at_26) (pc' := 27) rfl (z := (3 : Int32)) rfl ?_
 refine k_iand X50 hx (hb hby at_27) (pc' := 28) rfl (fun v70 hv70 => ?_)
 have hs71 : v70 = (0 : Int32) ∨ v70 = (1 : Int32) ∨ v70 = (2 : Int32) ∨ v70 = (3 : Int32) := by
  have := rng32 v70
  have := rng32 i0
  have : (3 : Int32).toInt = 3 := (by decide)
  have q72 : v70.toInt = i0.toInt % 4 := (by rw [hv70]; exact c_mask _ _ 2 (by decide) (by decide))
  rcases (by omega : v70.toInt = 0 ∨ v70.toInt = 1 ∨ v70.toInt = 2 ∨ v70.toInt = 3) with hq | hq | hq | hq
  · exact Or.inl (Int32.toInt_inj.mp hq)
  · exact Or.inr (Or.inl (Int32.toInt_inj.mp hq))
  · exact Or.inr (Or.inr (Or.inl (Int32.toInt_inj.mp hq)))
  · exact Or.inr (Or.inr (Or.inr ((Int32.toInt_inj.mp hq))))
 rcases hs71 with rfl | rfl | rfl | rfl
 ·
  show KEnds p e below s _ _ _ T50 (mkF m 28 #[.val (.int i0), .val (.long i1), .second, .val (.long i2), .second, .val (.long i3), .second, .val (.long v4), .second, .val (.ref b5), .unset, .unset, .unset, .unset, .unset, .unset] [(.int (0 : Int32))])
  refine k_istore X50 hx (hb hby at_28) (Ls' := #[.val (.int i0), .val (.long i1), .second, .val (.long i2), .second, .val (.long i3), .second, .val (.long v4), .second, .val (.ref b5), .val (.int (0 : Int32)), .unset, .unset, .unset, .unset, .unset]) rfl (pc' := 30) rfl ?_
  refine k_iload X50 hx (hb hby at_30) rfl (pc' := 32) rfl ?_
  refine k_iconst X50 hx (hb hby at_32) (pc' := 33) rfl (z := (3 : Int32)) rfl ?_
  refine k_icmp_ne X50 hx (hb hby at_33) (pn := 36) rfl (py := 39) (by decide) (fun _ => ?_) (fun hc => absurd hc (by decide))
  refine k_aload X50 hx (hb hby at_39) rfl rfl (pc' := 41) rfl ?_
  refine k_lload X50 hx (hb hby at_41) rfl (pc' := 43) rfl ?_
  refine k_callV X50 hx hZ hown (a := b5) (hw _ (List.mem_of_getElem? (i := 19) rfl)) (hw _ (List.mem_of_getElem? (i := 20) rfl)) (hw _ (List.mem_of_getElem? (i := 22) rfl)) (hw _ (List.mem_of_getElem? (i := 21) rfl)) (hw _ (List.mem_of_getElem? (i := 2) rfl)) (hw _ (List.mem_of_getElem? (i := 23) rfl)) (by decide) F55 (rm3_74 l Z a0 hw [] b5 i3 b51 b53 v4 k52 k54 T50.heap n0 Z69 F55 F56 F57 F58 F59 F60 F61 F62 F63 F64 F65 F66 lt67 lt68) (by decide) (by decide) rfl (by rw [hml]; rfl) (argsL := [(.long i3)]) (rest := []) (lenOf pd_1 rfl) rfl (W := 0) (Nat.le_refl _) rfl (hb hby at_43) (by decide) (by decide) (pc' := 46) rfl (fun T76 L76 r76 X76 q76 => ?_)
  obtain ⟨N76, e76, q76⟩ := q76
  have N76' := Fr.app N50' N76
  obtain rfl := q76
  show KEnds p e below s _ _ _ T76 (mkF m 46 #[.val (.int i0), .val (.long i1), .second, .val (.long i2), .second, .val (.long i3), .second, .val (.long v4), .second, .val (.ref b5), .val (.int (0 : Int32)), .unset, .unset, .unset, .unset, .unset] [(.int (0 : Int32))])
  refine k_istore X76 hx (hb hby at_46) (Ls' := #[.val (.int i0), .val (.long i1), .second, .val (.long i2), .second, .val (.long i3), .second, .val (.long v4), .second, .val (.ref b5), .val (.int (0 : Int32)), .val (.int (0 : Int32)), .unset, .unset, .unset, .unset]) rfl (pc' := 48) rfl ?_
  refine k_iload X76 hx (hb hby at_48) rfl (pc' := 50) rfl ?_
  refine k_iconst X76 hx (hb hby at_50) (pc' := 51) rfl (z := (1 : Int32)) rfl ?_
  refine k_icmp_lt X76 hx (hb hby at_51) (pn := 54) rfl (py := 77) (by decide) (fun _ => ?_) (fun hc => absurd (by decide) hc)
  refine k_iload X76 hx (hb hby at_77) rfl (pc' := 79) rfl ?_
  refine k_iconst X76 hx (hb hby at_79) (pc' := 80) rfl (z := (2 : Int32)) rfl ?_
  refine k_icmp_lt X76 hx (hb hby at_80) (pn := 83) rfl (py := 107) (by decide) (fun _ => ?_) (fun hc => absurd (by decide) hc)
  refine k_iload X76 hx (hb hby at_107) rfl (pc' := 109) rfl ?_
  refine k_iconst X76 hx (hb hby at_109) (pc' := 110) rfl (z := (1 : Int32)) rfl ?_
  refine k_icmp_lt X76 hx (hb hby at_110) (pn := 113) rfl (py := 117) (by decide) (fun _ => ?_) (fun hc => absurd (by decide) hc)
  refine k_iconst X76 hx (hb hby at_117) (pc' := 118) rfl (z := (0 : Int32)) rfl ?_
  refine k_istore X76 hx (hb hby at_118) (Ls' := #[.val (.int i0), .val (.long i1), .second, .val (.long i2), .second, .val (.long i3), .second, .val (.long v4), .second, .val (.ref b5), .val (.int (0 : Int32)), .val (.int (0 : Int32)), .val (.int (0 : Int32)), .unset, .unset, .unset]) rfl (pc' := 120) rfl ?_
  refine k_lloadN X76 hx (hb hby at_120) rfl (pc' := 121) rfl ?_
  refine k_lstore X76 hx (hb hby at_121) (Ls' := #[.val (.int i0), .val (.long i1), .second, .val (.long i2), .second, .val (.long i3), .second, .val (.long v4), .second, .val (.ref b5), .val (.int (0 : Int32)), .val (.int (0 : Int32)), .val (.int (0 : Int32)), .val (.long i1), .second, .unset]) rfl (pc' := 123) rfl ?_
  refine k_iload X76 hx (hb hby at_123) rfl (pc' := 125) rfl ?_
  refine k_iconst X76 hx (hb hby at_125) (pc' := 126) rfl (z := (2 : Int32)) rfl ?_
  refine k_icmp_lt X76 hx (hb hby at_126) (pn := 129) rfl (py := 140) (by decide) (fun _ => ?_) (fun hc => absurd (by decide) hc)
  refine k_iload X76 hx (hb hby at_140) rfl (pc' := 142) rfl ?_
  refine k_if_eq X76 hx (hb hby at_142) (pn := 145) rfl (py := 159) (by decide) (fun _ => ?_) (fun hc => absurd (by decide) hc)
  refine k_iconst X76 hx (hb hby at_159) (pc' := 160) rfl (z := (0 : Int32)) rfl ?_
  refine k_istore X76 hx (hb hby at_160) (Ls' := #[.val (.int i0), .val (.long i1), .second, .val (.long i2), .second, .val (.long i3), .second, .val (.long v4), .second, .val (.ref b5), .val (.int (0 : Int32)), .val (.int (0 : Int32)), .val (.int (0 : Int32)), .val (.long i1), .second, .val (.int (0 : Int32))]) rfl (pc' := 162) rfl ?_
  refine k_iload X76 hx (hb hby at_162) rfl (pc' := 164) rfl ?_
  refine k_if_ne X76 hx (hb hby at_164) (pn := 167) rfl (py := 183) (by decide) (fun hc => absurd (by decide) hc) (fun _ => ?_)
  refine k_aload X76 hx (hb hby at_167) rfl rfl (pc' := 169) rfl ?_
  refine k_lload X76 hx (hb hby at_169) rfl (pc' := 171) rfl ?_
  refine k_callV X76 hx hZ hown (a := b5) (hw _ (List.mem_of_getElem? (i := 19) rfl)) (hw _ (List.mem_of_getElem? (i := 20) rfl)) (hw _ (List.mem_of_getElem? (i := 22) rfl)) (hw _ (List.mem_of_getElem? (i := 21) rfl)) (hw _ (List.mem_of_getElem? (i := 2) rfl)) (hw _ (List.mem_of_getElem? (i := 23) rfl)) (by decide) F55 (rm3_74 l Z a0 hw [] b5 i3 b51 b53 v4 k52 k54 T50.heap n0 Z69 F55 F56 F57 F58 F59 F60 F61 F62 F63 F64 F65 F66 lt67 lt68) (by decide) (by decide) e76 (by rw [hml]; rfl) (argsL := [(.long i3)]) (rest := []) (lenOf pd_1 rfl) rfl (W := 0) (Nat.le_refl _) rfl (hb hby at_171) (by decide) (by decide) (pc' := 174) rfl (fun T77 L77 r77 X77 q77 => ?_)
  obtain ⟨N77, e77, q77⟩ := q77
  have N77' := Fr.app N76' N77
  obtain rfl := q77
  show KEnds p e below s _ _ _ T77 (mkF m 174 #[.val (.int i0), .val (.long i1), .second, .val (.long i2), .second, .val (.long i3), .second, .val (.long v4), .second, .val (.ref b5), .val (.int (0 : Int32)), .val (.int (0 : Int32)), .val (.int (0 : Int32)), .val (.long i1), .second, .val (.int (0 : Int32))] [(.int (0 : Int32))])
  refine k_iload X77 hx (hb hby at_174) rfl (pc' := 176) rfl ?_
  refine k_icmp_ne X77 hx (hb hby at_176) (pn := 179) rfl (py := 183) (by decide) (fun hc => absurd (by decide) hc) (fun _ => ?_)
  refine k_iconst X77 hx (hb hby at_179) (pc' := 180) rfl (z := (1 : Int32)) rfl ?_
  refine k_goto X77 hx (hb hby at_180) (pc' := 184) (by decide) ?_
  exact k_retN X77 hx (t := .boolean) Bd.returns (by simp) (hb hby at_184) hlk (by decide) (by decide) (z' := (1 : Int32)) rfl ⟨rfl, N77'⟩
 ·
  show KEnds p e below s _ _ _ T50 (mkF m 28 #[.val (.int i0), .val (.long i1), .second, .val (.long i2), .second, .val (.long i3), .second, .val (.long v4), .second, .val (.ref b5), .unset, .unset, .unset, .unset, .unset, .unset] [(.int (1 : Int32))])
  refine k_istore X50 hx (hb hby at_28) (Ls' := #[.val (.int i0), .val (.long i1), .second, .val (.long i2), .second, .val (.long i3), .second, .val (.long v4), .second, .val (.ref b5), .val (.int (1 : Int32)), .unset, .unset, .unset, .unset, .unset]) rfl (pc' := 30) rfl ?_
  refine k_iload X50 hx (hb hby at_30) rfl (pc' := 32) rfl ?_
  refine k_iconst X50 hx (hb hby at_32) (pc' := 33) rfl (z := (3 : Int32)) rfl ?_
  refine k_icmp_ne X50 hx (hb hby at_33) (pn := 36) rfl (py := 39) (by decide) (fun _ => ?_) (fun hc => absurd hc (by decide))
  refine k_aload X50 hx (hb hby at_39) rfl rfl (pc' := 41) rfl ?_
  refine k_lload X50 hx (hb hby at_41) rfl (pc' := 43) rfl ?_
  refine k_callV X50 hx hZ hown (a := b5) (hw _ (List.mem_of_getElem? (i := 19) rfl)) (hw _ (List.mem_of_getElem? (i := 20) rfl)) (hw _ (List.mem_of_getElem? (i := 22) rfl)) (hw _ (List.mem_of_getElem? (i := 21) rfl)) (hw _ (List.mem_of_getElem? (i := 2) rfl)) (hw _ (List.mem_of_getElem? (i := 23) rfl)) (by decide) F55 (rm3_74 l Z a0 hw [] b5 i3 b51 b53 v4 k52 k54 T50.heap n0 Z69 F55 F56 F57 F58 F59 F60 F61 F62 F63 F64 F65 F66 lt67 lt68) (by decide) (by decide) rfl (by rw [hml]; rfl) (argsL := [(.long i3)]) (rest := []) (lenOf pd_1 rfl) rfl (W := 0) (Nat.le_refl _) rfl (hb hby at_43) (by decide) (by decide) (pc' := 46) rfl (fun T79 L79 r79 X79 q79 => ?_)
  obtain ⟨N79, e79, q79⟩ := q79
  have N79' := Fr.app N50' N79
  obtain rfl := q79
  show KEnds p e below s _ _ _ T79 (mkF m 46 #[.val (.int i0), .val (.long i1), .second, .val (.long i2), .second, .val (.long i3), .second, .val (.long v4), .second, .val (.ref b5), .val (.int (1 : Int32)), .unset, .unset, .unset, .unset, .unset] [(.int (0 : Int32))])
  refine k_istore X79 hx (hb hby at_46) (Ls' := #[.val (.int i0), .val (.long i1), .second, .val (.long i2), .second, .val (.long i3), .second, .val (.long v4), .second, .val (.ref b5), .val (.int (1 : Int32)), .val (.int (0 : Int32)), .unset, .unset, .unset, .unset]) rfl (pc' := 48) rfl ?_
  refine k_iload X79 hx (hb hby at_48) rfl (pc' := 50) rfl ?_
  refine k_iconst X79 hx (hb hby at_50) (pc' := 51) rfl (z := (1 : Int32)) rfl ?_
  refine k_icmp_lt X79 hx (hb hby at_51) (pn := 54) rfl (py := 77) (by decide) (fun hc => absurd hc (by decide)) (fun _ => ?_)
  refine k_iloadN X79 hx (hb hby at_54) rfl (pc' := 55) rfl ?_
  refine k_iconst X79 hx (hb hby at_55) (pc' := 56) rfl (z := (4 : Int32)) rfl ?_
  refine k_iand X79 hx (hb hby at_56) (pc' := 57) rfl (fun v80 hv80 => ?_)
  refine k_if_eq X79 hx (hb hby at_57) (pn := 60) rfl (py := 70) (by decide) (fun hc81 => ?_) (fun hc81 => ?_)
  ·
   refine k_aload X79 hx (hb hby at_70) rfl rfl (pc' := 72) rfl ?_
   refine k_lloadN X79 hx (hb hby at_72) rfl (pc' := 73) rfl ?_
   refine k_callV X79 hx hZ hown (a := b5) (hw _ (List.mem_of_getElem? (i := 74) rfl)) (hw _ (List.mem_of_getElem? (i := 75) rfl)) (hw _ (List.mem_of_getElem? (i := 77) rfl)) (hw _ (List.mem_of_getElem? (i := 76) rfl)) (hw _ (List.mem_of_getElem? (i := 2) rfl)) (hw _ (List.mem_of_getElem? (i := 78) rfl)) (by decide) F55 (rm13_82 l Z a0 hw [] b5 i1 b51 b53 v4 k52 k54 T50.heap n0 Z69 F55 F56 F57 F58 F59 F60 F61 F62 F63 F64 g_b5 F65 g_b51 F66 g_b53 lt67 lt68) (by decide) (by decide) e79 (by rw [hml]; rfl) (argsL := [(.long i1)]) (rest := []) (lenOf pd_4 rfl) rfl (W := 0) (Nat.le_refl _) rfl (hb hby at_73) (by decide) (by decide) (pc' := 76) rfl (fun T133 L133 r133 X133 q133 => ?_)
   obtain ⟨N133, q133⟩ := q133
   have N133' := Fr.app N79' N133
   obtain ⟨rfl, F134, F135, F136, F137, F138, F139, F140, F141, F142, F143, F144, F145, Z146⟩ := q133
   show KEnds p e below s _ _ _ T133 (mkF m 76 #[.val (.int i0), .val (.long i1), .second, .val (.long i2), .second, .val (.long i3), .second, .val (.long v4), .second, .val (.ref b5), .val (.int (1 : Int32)), .val (.int (0 : Int32)), .unset, .unset, .unset, .unset] [(.long (0 : Int64))])
   refine k_pop2L X133 hx (hb hby at_76) (pc' := 77) rfl ?_
   refine k_iload X133 hx (hb hby at_77) rfl (pc' := 79) rfl ?_
   refine k_iconst X133 hx (hb hby at_79) (pc' := 80) rfl (z := (2 : Int32)) rfl ?_
   refine k_icmp_lt X133 hx (hb hby at_80) (pn := 83) rfl (py := 107) (by decide) (fun _ => ?_) (fun hc => absurd (by decide) hc)
   refine k_iload X133 hx (hb hby at_107) rfl (pc' := 109) rfl ?_
   refine k_iconst X133 hx (hb hby at_109) (pc' := 110) rfl (z := (1 : Int32)) rfl ?_
   refine k_icmp_lt X133 hx (hb hby at_110) (pn := 113) rfl (py := 117) (by decide) (fun hc => absurd hc (by decide)) (fun _ => ?_)
   refine k_iconst X133 hx (hb hby at_113) (pc' := 114) rfl (z := (1 : Int32)) rfl ?_
   refine k_goto X133 hx (hb hby at_114) (pc' := 118) (by decide) ?_
   refine k_istore X133 hx (hb hby at_118) (Ls' := #[.val (.int i0), .val (.long i1), .second, .val (.long i2), .second, .val (.long i3), .second, .val (.long v4), .second, .val (.ref b5), .val (.int (1 : Int32)), .val (.int (0 : Int32)), .val (.int (1 : Int32)), .unset, .unset, .unset]) rfl (pc' := 120) rfl ?_
   refine k_lloadN X133 hx (hb hby at_120) rfl (pc' := 121) rfl ?_
   refine k_lstore X133 hx (hb hby at_121) (Ls' := #[.val (.int i0), .val (.long i1), .second, .val (.long i2), .second, .val (.long i3), .second, .val (.long v4), .second, .val (.ref b5), .val (.int (1 : Int32)), .val (.int (0 : Int32)), .val (.int (1 : Int32)), .val (.long i1), .second, .unset]) rfl (pc' := 123) rfl ?_
   refine k_iload X133 hx (hb hby at_123) rfl (pc' := 125) rfl ?_
   refine k_iconst X133 hx (hb hby at_125) (pc' := 126) rfl (z := (2 : Int32)) rfl ?_
   refine k_icmp_lt X133 hx (hb hby at_126) (pn := 129) rfl (py := 140) (by decide) (fun _ => ?_) (fun hc => absurd (by decide) hc)
   refine k_iload X133 hx (hb hby at_140) rfl (pc' := 142) rfl ?_
   refine k_if_eq X133 hx (hb hby at_142) (pn := 145) rfl (py := 159) (by decide) (fun hc => absurd hc (by decide)) (fun _ => ?_)
   refine k_lload X133 hx (hb hby at_145) rfl (pc' := 147) rfl ?_
   refine k_lload X133 hx (hb hby at_147) rfl (pc' := 149) rfl ?_
   refine k_lsub X133 hx (hb hby at_149) (pc' := 150) rfl (fun v147 hv147 => ?_)
   refine k_lconst X133 hx (hb hby at_150) (pc' := 151) rfl (z := (0 : Int64)) rfl ?_
   refine k_lcif_le X133 hx (hb hby at_151) (pm := 152) rfl (hb hby at_152) (pn := 155) rfl (py := 159) (by decide) (fun hc148 => ?_) (fun hc148 => ?_)
   ·
    refine k_iconst X133 hx (hb hby at_159) (pc' := 160) rfl (z := (0 : Int32)) rfl ?_
    refine k_istore X133 hx (hb hby at_160) (Ls' := #[.val (.int i0), .val (.long i1), .second, .val (.long i2), .second, .val (.long i3), .second, .val (.long v4), .second, .val (.ref b5), .val (.int (1 : Int32)), .val (.int (0 : Int32)), .val (.int (1 : Int32)), .val (.long i1), .second, .val (.int (0 : Int32))]) rfl (pc' := 162) rfl ?_
    refine k_iload X133 hx (hb hby at_162) rfl (pc' := 164) rfl ?_
    refine k_if_ne X133 hx (hb hby at_164) (pn := 167) rfl (py := 183) (by decide) (fun hc => absurd (by decide) hc) (fun _ => ?_)
    refine k_aload X133 hx (hb hby at_167) rfl rfl (pc' := 169) rfl ?_
    refine k_lload X133 hx (hb hby at_169) rfl (pc' := 171) rfl ?_
    refine k_callV X133 hx hZ hown (a := b5) (hw _ (List.mem_of_getElem? (i := 19) rfl)) (hw _ (List.mem_of_getElem? (i := 20) rfl)) (hw _ (List.mem_of_getElem? (i := 22) rfl)) (hw _ (List.mem_of_getElem? (i := 21) rfl)) (hw _ (List.mem_of_getElem? (i := 2) rfl)) (hw _ (List.mem_of_getElem? (i := 23) rfl)) (by decide) F134 (rm3_149 l Z a0 hw [] b5 i3 b51 b53 v4 i1 k52 k54 T133.heap n0 Z146 F134 F135 F136 F137 F138 F139 F140 F141 F142 F143 F144 F145 lt67 lt68) (by decide) (by decide) rfl (by rw [hml]; rfl) (argsL := [(.long i3)]) (rest := []) (lenOf pd_1 rfl) rfl (W := 0) (Nat.le_refl _) rfl (hb hby at_171) (by decide) (by decide) (pc' := 174) rfl (fun T154 L154 r154 X154 q154 => ?_)
    obtain ⟨N154, e154, q154⟩ := q154
    have N154' := Fr.app N133' N154
    rcases q154 with ⟨v155, h156, hc157, rfl⟩ | ⟨v158, h159, hc160, rfl⟩
    ·
     have hh161 : v147 = v155 := hv147.trans h156.symm
     subst hh161
     show KEnds p e below s _ _ _ T154 (mkF m 174 #[.val (.int i0), .val (.long i1), .second, .val (.long i2), .second, .val (.long i3), .second, .val (.long v4), .second, .val (.ref b5), .val (.int (1 : Int32)), .val (.int (0 : Int32)), .val (.int (1 : Int32)), .val (.long i1), .second, .val (.int (0 : Int32))] [(.int (0 : Int32))])
     refine k_iload X154 hx (hb hby at_174) rfl (pc' := 176) rfl ?_
     refine k_icmp_ne X154 hx (hb hby at_176) (pn := 179) rfl (py := 183) (by decide) (fun hc => absurd (by decide) hc) (fun _ => ?_)
     refine k_iconst X154 hx (hb hby at_179) (pc' := 180) rfl (z := (1 : Int32)) rfl ?_
     refine k_goto X154 hx (hb hby at_180) (pc' := 184) (by decide) ?_
     exact k_retN X154 hx (t := .boolean) Bd.returns (by simp) (hb hby at_184) hlk (by decide) (by decide) (z' := (1 : Int32)) rfl ⟨rfl, N154'⟩
    ·
     have hh162 : v147 = v158 := hv147.trans h159.symm
     subst hh162
     show KEnds p e below s _ _ _ T154 (mkF m 174 #[.val (.int i0), .val (.long i1), .second, .val (.long i2), .second, .val (.long i3), .second, .val (.long v4), .second, .val (.ref b5), .val (.int (1 : Int32)), .val (.int (0 : Int32)), .val (.int (1 : Int32)), .val (.long i1), .second, .val (.int (0 : Int32))] [(.int (1 : Int32))])
     exact absurd hc160 hc148
   ·
    refine k_iconst X133 hx (hb hby at_155) (pc' := 156) rfl (z := (1 : Int32)) rfl ?_
    refine k_goto X133 hx (hb hby at_156) (pc' := 160) (by decide) ?_
    refine k_istore X133 hx (hb hby at_160) (Ls' := #[.val (.int i0), .val (.long i1), .second, .val (.long i2), .second, .val (.long i3), .second, .val (.long v4), .second, .val (.ref b5), .val (.int (1 : Int32)), .val (.int (0 : Int32)), .val (.int (1 : Int32)), .val (.long i1), .second, .val (.int (1 : Int32))]) rfl (pc' := 162) rfl ?_
    refine k_iload X133 hx (hb hby at_162) rfl (pc' := 164) rfl ?_
    refine k_if_ne X133 hx (hb hby at_164) (pn := 167) rfl (py := 183) (by decide) (fun hc => absurd (by decide) hc) (fun _ => ?_)
    refine k_aload X133 hx (hb hby at_167) rfl rfl (pc' := 169) rfl ?_
    refine k_lload X133 hx (hb hby at_169) rfl (pc' := 171) rfl ?_
    refine k_callV X133 hx hZ hown (a := b5) (hw _ (List.mem_of_getElem? (i := 19) rfl)) (hw _ (List.mem_of_getElem? (i := 20) rfl)) (hw _ (List.mem_of_getElem? (i := 22) rfl)) (hw _ (List.mem_of_getElem? (i := 21) rfl)) (hw _ (List.mem_of_getElem? (i := 2) rfl)) (hw _ (List.mem_of_getElem? (i := 23) rfl)) (by decide) F134 (rm3_149 l Z a0 hw [] b5 i3 b51 b53 v4 i1 k52 k54 T133.heap n0 Z146 F134 F135 F136 F137 F138 F139 F140 F141 F142 F143 F144 F145 lt67 lt68) (by decide) (by decide) rfl (by rw [hml]; rfl) (argsL := [(.long i3)]) (rest := []) (lenOf pd_1 rfl) rfl (W := 0) (Nat.le_refl _) rfl (hb hby at_171) (by decide) (by decide) (pc' := 174) rfl (fun T163 L163 r163 X163 q163 => ?_)
    obtain ⟨N163, e163, q163⟩ := q163
    have N163' := Fr.app N133' N163
    rcases q163 with ⟨v164, h165, hc166, rfl⟩ | ⟨v167, h168, hc169, rfl⟩
    ·
     have hh170 : v147 = v164 := hv147.trans h165.symm
     subst hh170
     show KEnds p e below s _ _ _ T163 (mkF m 174 #[.val (.int i0), .val (.long i1), .second, .val (.long i2), .second, .val (.long i3), .second, .val (.long v4), .second, .val (.ref b5), .val (.int (1 : Int32)), .val (.int (0 : Int32)), .val (.int (1 : Int32)), .val (.long i1), .second, .val (.int (1 : Int32))] [(.int (0 : Int32))])
     exact absurd hc148 hc166
    ·
     have hh171 : v147 = v167 := hv147.trans h168.symm
     subst hh171
     show KEnds p e below s _ _ _ T163 (mkF m 174 #[.val (.int i0), .val (.long i1), .second, .val (.long i2), .second, .val (.long i3), .second, .val (.long v4), .second, .val (.ref b5), .val (.int (1 : Int32)), .val (.int (0 : Int32)), .val (.int (1 : Int32)), .val (.long i1), .second, .val (.int (1 : Int32))] [(.int (1 : Int32))])
     refine k_iload X163 hx (hb hby at_174) rfl (pc' := 176) rfl ?_
     refine k_icmp_ne X163 hx (hb hby at_176) (pn := 179) rfl (py := 183) (by decide) (fun hc => absurd (by decide) hc) (fun _ => ?_)
     refine k_iconst X163 hx (hb hby at_179) (pc' := 180) rfl (z := (1 : Int32)) rfl ?_
     refine k_goto X163 hx (hb hby at_180) (pc' := 184) (by decide) ?_
     exact k_retN X163 hx (t := .boolean) Bd.returns (by simp) (hb hby at_184) hlk (by decide) (by decide) (z' := (1 : Int32)) rfl ⟨rfl, N163'⟩
  ·
   refine k_aload X79 hx (hb hby at_60) rfl rfl (pc' := 62) rfl ?_
   refine k_lconst X79 hx (hb hby at_62) (pc' := 63) rfl (z := (1 : Int64)) rfl ?_
   refine k_lloadN X79 hx (hb hby at_63) rfl (pc' := 64) rfl ?_
   refine k_callV X79 hx hZ hown (a := b5) (hw _ (List.mem_of_getElem? (i := 26) rfl)) (hw _ (List.mem_of_getElem? (i := 27) rfl)) (hw _ (List.mem_of_getElem? (i := 29) rfl)) (hw _ (List.mem_of_getElem? (i := 28) rfl)) (hw _ (List.mem_of_getElem? (i := 2) rfl)) (hw _ (List.mem_of_getElem? (i := 30) rfl)) (by decide) F55 (rm4_172 l Z a0 hw [] b5 i1 b51 b53 v4 k52 k54 T50.heap n0 Z69 F55 F56 F57 F58 F59 F60 F61 F62 F63 F64 g_b5 F65 g_b51 F66 g_b53 lt67 lt68) (by decide) (by decide) e79 (by rw [hml]; rfl) (argsL := [(.long (1 : Int64)), (.long i1)]) (rest := []) (lenOf pd_0 rfl) rfl (W := 0) (Nat.le_refl _) rfl (hb hby at_64) (by decide) (by decide) (pc' := 67) rfl (fun T329 L329 r329 X329 q329 => ?_)
   obtain ⟨N329, q329⟩ := q329
   have N329' := Fr.app N79' N329
   obtain ⟨b330, k331, b332, k333, rfl, F334, F335, F336, F337, F338, F339, F340, F341, F342, F343, F344, F345, F346, F347, g_b330, lt348, g_b332, lt349, Z350⟩ := q329
   show KEnds p e below s _ _ _ T329 (mkF m 67 #[.val (.int i0), .val (.long i1), .second, .val (.long i2), .second, .val (.long i3), .second, .val (.long v4), .second, .val (.ref b5), .val (.int (1 : Int32)), .val (.int (0 : Int32)), .unset, .unset, .unset, .unset] [])
   refine k_goto X329 hx (hb hby at_67) (pc' := 77) (by decide) ?_
   refine k_iload X329 hx (hb hby at_77) rfl (pc' := 79) rfl ?_
   refine k_iconst X329 hx (hb hby at_79) (pc' := 80) rfl (z := (2 : Int32)) rfl ?_
   refine k_icmp_lt X329 hx (hb hby at_80) (pn := 83) rfl (py := 107) (by decide) (fun _ => ?_) (fun hc => absurd (by decide) hc)
   refine k_iload X329 hx (hb hby at_107) rfl (pc' := 109) rfl ?_
   refine k_iconst X329 hx (hb hby at_109) (pc' := 110) rfl (z := (1 : Int32)) rfl ?_
   refine k_icmp_lt X329 hx (hb hby at_110) (pn := 113) rfl (py := 117) (by decide) (fun hc => absurd hc (by decide)) (fun _ => ?_)
   refine k_iconst X329 hx (hb hby at_113) (pc' := 114) rfl (z := (1 : Int32)) rfl ?_
   refine k_goto X329 hx (hb hby at_114) (pc' := 118) (by decide) ?_
   refine k_istore X329 hx (hb hby at_118) (Ls' := #[.val (.int i0), .val (.long i1), .second, .val (.long i2), .second, .val (.long i3), .second, .val (.long v4), .second, .val (.ref b5), .val (.int (1 : Int32)), .val (.int (0 : Int32)), .val (.int (1 : Int32)), .unset, .unset, .unset]) rfl (pc' := 120) rfl ?_
   refine k_lloadN X329 hx (hb hby at_120) rfl (pc' := 121) rfl ?_
   refine k_lstore X329 hx (hb hby at_121) (Ls' := #[.val (.int i0), .val (.long i1), .second, .val (.long i2), .second, .val (.long i3), .second, .val (.long v4), .second, .val (.ref b5), .val (.int (1 : Int32)), .val (.int (0 : Int32)), .val (.int (1 : Int32)), .val (.long i1), .second, .unset]) rfl (pc' := 123) rfl ?_
   refine k_iload X329 hx (hb hby at_123) rfl (pc' := 125) rfl ?_
   refine k_iconst X329 hx (hb hby at_125) (pc' := 126) rfl (z := (2 : Int32)) rfl ?_
   refine k_icmp_lt X329 hx (hb hby at_126) (pn := 129) rfl (py := 140) (by decide) (fun _ => ?_) (fun hc => absurd (by decide) hc)
   refine k_iload X329 hx (hb hby at_140) rfl (pc' := 142) rfl ?_
   refine k_if_eq X329 hx (hb hby at_142) (pn := 145) rfl (py := 159) (by decide) (fun hc => absurd hc (by decide)) (fun _ => ?_)
   refine k_lload X329 hx (hb hby at_145) rfl (pc' := 147) rfl ?_
   refine k_lload X329 hx (hb hby at_147) rfl (pc' := 149) rfl ?_
   refine k_lsub X329 hx (hb hby at_149) (pc' := 150) rfl (fun v351 hv351 => ?_)
   refine k_lconst X329 hx (hb hby at_150) (pc' := 151) rfl (z := (0 : Int64)) rfl ?_
   refine k_lcif_le X329 hx (hb hby at_151) (pm := 152) rfl (hb hby at_152) (pn := 155) rfl (py := 159) (by decide) (fun hc352 => ?_) (fun hc352 => ?_)
   ·
    refine k_iconst X329 hx (hb hby at_159) (pc' := 160) rfl (z := (0 : Int32)) rfl ?_
    refine k_istore X329 hx (hb hby at_160) (Ls' := #[.val (.int i0), .val (.long i1), .second, .val (.long i2), .second, .val (.long i3), .second, .val (.long v4), .second, .val (.ref b5), .val (.int (1 : Int32)), .val (.int (0 : Int32)), .val (.int (1 : Int32)), .val (.long i1), .second, .val (.int (0 : Int32))]) rfl (pc' := 162) rfl ?_
    refine k_iload X329 hx (hb hby at_162) rfl (pc' := 164) rfl ?_
    refine k_if_ne X329 hx (hb hby at_164) (pn := 167) rfl (py := 183) (by decide) (fun hc => absurd (by decide) hc) (fun _ => ?_)
    refine k_aload X329 hx (hb hby at_167) rfl rfl (pc' := 169) rfl ?_
    refine k_lload X329 hx (hb hby at_169) rfl (pc' := 171) rfl ?_
    refine k_callV X329 hx hZ hown (a := b5) (hw _ (List.mem_of_getElem? (i := 19) rfl)) (hw _ (List.mem_of_getElem? (i := 20) rfl)) (hw _ (List.mem_of_getElem? (i := 22) rfl)) (hw _ (List.mem_of_getElem? (i := 21) rfl)) (hw _ (List.mem_of_getElem? (i := 2) rfl)) (hw _ (List.mem_of_getElem? (i := 23) rfl)) (by decide) F334 (rm3_353 l Z a0 hw [] b5 i3 b330 b332 v4 i1 k331 k333 T329.heap n0 Z350 F334 F335 F336 F337 F338 F339 F340 F341 F342 F343 F346 F347 (Nat.lt_trans (Nat.lt_trans lt67 lt68) lt348) lt349) (by decide) (by decide) rfl (by rw [hml]; rfl) (argsL := [(.long i3)]) (rest := []) (lenOf pd_1 rfl) rfl (W := 0) (Nat.le_refl _) rfl (hb hby at_171) (by decide) (by decide) (pc' := 174) rfl (fun T358 L358 r358 X358 q358 => ?_)
    obtain ⟨N358, e358, q358⟩ := q358
    have N358' := Fr.app N329' N358
    rcases q358 with ⟨v359, h360, hc361, rfl⟩ | ⟨v362, h363, hc364, rfl⟩
    ·
     have hh365 : v351 = v359 := hv351.trans h360.symm
     subst hh365
     show KEnds p e below s _ _ _ T358 (mkF m 174 #[.val (.int i0), .val (.long i1), .second, .val (.long i2), .second, .val (.long i3), .second, .val (.long v4), .second, .val (.ref b5), .val (.int (1 : Int32)), .val (.int (0 : Int32)), .val (.int (1 : Int32)), .val (.long i1), .second, .val (.int (0 : Int32))] [(.int (0 : Int32))])
     refine k_iload X358 hx (hb hby at_174) rfl (pc' := 176) rfl ?_
     refine k_icmp_ne X358 hx (hb hby at_176) (pn := 179) rfl (py := 183) (by decide) (fun hc => absurd (by decide) hc) (fun _ => ?_)
     refine k_iconst X358 hx (hb hby at_179) (pc' := 180) rfl (z := (1 : Int32)) rfl ?_
     refine k_goto X358 hx (hb hby at_180) (pc' := 184) (by decide) ?_
     exact k_retN X358 hx (t := .boolean) Bd.returns (by simp) (hb hby at_184) hlk (by decide) (by decide) (z' := (1 : Int32)) rfl ⟨rfl, N358'⟩
    ·
     have hh366 : v351 = v362 := hv351.trans h363.symm
     subst hh366
     show KEnds p e below s _ _ _ T358 (mkF m 174 #[.val (.int i0), .val (.long i1), .second, .val (.long i2), .second, .val (.long i3), .second, .val (.long v4), .second, .val (.ref b5), .val (.int (1 : Int32)), .val (.int (0 : Int32)), .val (.int (1 : Int32)), .val (.long i1), .second, .val (.int (0 : Int32))] [(.int (1 : Int32))])
     exact absurd hc364 hc352
   ·
    refine k_iconst X329 hx (hb hby at_155) (pc' := 156) rfl (z := (1 : Int32)) rfl ?_
    refine k_goto X329 hx (hb hby at_156) (pc' := 160) (by decide) ?_
    refine k_istore X329 hx (hb hby at_160) (Ls' := #[.val (.int i0), .val (.long i1), .second, .val (.long i2), .second, .val (.long i3), .second, .val (.long v4), .second, .val (.ref b5), .val (.int (1 : Int32)), .val (.int (0 : Int32)), .val (.int (1 : Int32)), .val (.long i1), .second, .val (.int (1 : Int32))]) rfl (pc' := 162) rfl ?_
    refine k_iload X329 hx (hb hby at_162) rfl (pc' := 164) rfl ?_
    refine k_if_ne X329 hx (hb hby at_164) (pn := 167) rfl (py := 183) (by decide) (fun hc => absurd (by decide) hc) (fun _ => ?_)
    refine k_aload X329 hx (hb hby at_167) rfl rfl (pc' := 169) rfl ?_
    refine k_lload X329 hx (hb hby at_169) rfl (pc' := 171) rfl ?_
    refine k_callV X329 hx hZ hown (a := b5) (hw _ (List.mem_of_getElem? (i := 19) rfl)) (hw _ (List.mem_of_getElem? (i := 20) rfl)) (hw _ (List.mem_of_getElem? (i := 22) rfl)) (hw _ (List.mem_of_getElem? (i := 21) rfl)) (hw _ (List.mem_of_getElem? (i := 2) rfl)) (hw _ (List.mem_of_getElem? (i := 23) rfl)) (by decide) F334 (rm3_353 l Z a0 hw [] b5 i3 b330 b332 v4 i1 k331 k333 T329.heap n0 Z350 F334 F335 F336 F337 F338 F339 F340 F341 F342 F343 F346 F347 (Nat.lt_trans (Nat.lt_trans lt67 lt68) lt348) lt349) (by decide) (by decide) rfl (by rw [hml]; rfl) (argsL := [(.long i3)]) (rest := []) (lenOf pd_1 rfl) rfl (W := 0) (Nat.le_refl _) rfl (hb hby at_171) (by decide) (by decide) (pc' := 174) rfl (fun T367 L367 r367 X367 q367 => ?_)
    obtain ⟨N367, e367, q367⟩ := q367
    have N367' := Fr.app N329' N367
    rcases q367 with ⟨v368, h369, hc370, rfl⟩ | ⟨v371, h372, hc373, rfl⟩
    ·
     have hh374 : v351 = v368 := hv351.trans h369.symm
     subst hh374
     show KEnds p e below s _ _ _ T367 (mkF m 174 #[.val (.int i0), .val (.long i1), .second, .val (.long i2), .second, .val (.long i3), .second, .val (.long v4), .second, .val (.ref b5), .val (.int (1 : Int32)), .val (.int (0 : Int32)), .val (.int (1 : Int32)), .val (.long i1), .second, .val (.int (1 : Int32))] [(.int (0 : Int32))])
     exact absurd hc352 hc370
    ·
     have hh375 : v351 = v371 := hv351.trans h372.symm
     subst hh375
     show KEnds p e below s _ _ _ T367 (mkF m 174 #[.val (.int i0), .val (.long i1), .second, .val (.long i2), .second, .val (.long i3), .second, .val (.long v4), .second, .val (.ref b5), .val (.int (1 : Int32)), .val (.int (0 : Int32)), .val (.int (1 : Int32)), .val (.long i1), .second, .val (.int (1 : Int32))] [(.int (1 : Int32))])
     refine k_iload X367 hx (hb hby at_174) rfl (pc' := 176) rfl ?_
     refine k_icmp_ne X367 hx (hb hby at_176) (pn := 179) rfl (py := 183) (by decide) (fun hc => absurd (by decide) hc) (fun _ => ?_)
     refine k_iconst X367 hx (hb hby at_179) (pc' := 180) rfl (z := (1 : Int32)) rfl ?_
     refine k_goto X367 hx (hb hby at_180) (pc' := 184) (by decide) ?_
     exact k_retN X367 hx (t := .boolean) Bd.returns (by simp) (hb hby at_184) hlk (by decide) (by decide) (z' := (1 : Int32)) rfl ⟨rfl, N367'⟩
 ·
  show KEnds p e below s _ _ _ T50 (mkF m 28 #[.val (.int i0), .val (.long i1), .second, .val (.long i2), .second, .val (.long i3), .second, .val (.long v4), .second, .val (.ref b5), .unset, .unset, .unset, .unset, .unset, .unset] [(.int (2 : Int32))])
  refine k_istore X50 hx (hb hby at_28) (Ls' := #[.val (.int i0), .val (.long i1), .second, .val (.long i2), .second, .val (.long i3), .second, .val (.long v4), .second, .val (.ref b5), .val (.int (2 : Int32)), .unset, .unset, .unset, .unset, .unset]) rfl (pc' := 30) rfl ?_
  refine k_iload X50 hx (hb hby at_30) rfl (pc' := 32) rfl ?_
  refine k_iconst X50 hx (hb hby at_32) (pc' := 33) rfl (z := (3 : Int32)) rfl ?_
  refine k_icmp_ne X50 hx (hb hby at_33) (pn := 36) rfl (py := 39) (by decide) (fun _ => ?_) (fun hc => absurd hc (by decide))
  refine k_aload X50 hx (hb hby at_39) rfl rfl (pc' := 41) rfl ?_
  refine k_lload X50 hx (hb hby at_41) rfl (pc' := 43) rfl ?_
  refine k_callV X50 hx hZ hown (a := b5) (hw _ (List.mem_of_getElem? (i := 19) rfl)) (hw _ (List.mem_of_getElem? (i := 20) rfl)) (hw _ (List.mem_of_getElem? (i := 22) rfl)) (hw _ (List.mem_of_getElem? (i := 21) rfl)) (hw _ (List.mem_of_getElem? (i := 2) rfl)) (hw _ (List.mem_of_getElem? (i := 23) rfl)) (by decide) F55 (rm3_74 l Z a0 hw [] b5 i3 b51 b53 v4 k52 k54 T50.heap n0 Z69 F55 F56 F57 F58 F59 F60 F61 F62 F63 F64 F65 F66 lt67 lt68) (by decide) (by decide) rfl (by rw [hml]; rfl) (argsL := [(.long i3)]) (rest := []) (lenOf pd_1 rfl) rfl (W := 0) (Nat.le_refl _) rfl (hb hby at_43) (by decide) (by decide) (pc' := 46) rfl (fun T377 L377 r377 X377 q377 => ?_)
  obtain ⟨N377, e377, q377⟩ := q377
  have N377' := Fr.app N50' N377
  obtain rfl := q377
  show KEnds p e below s _ _ _ T377 (mkF m 46 #[.val (.int i0), .val (.long i1), .second, .val (.long i2), .second, .val (.long i3), .second, .val (.long v4), .second, .val (.ref b5), .val (.int (2 : Int32)), .unset, .unset, .unset, .unset, .unset] [(.int (0 : Int32))])
  refine k_istore X377 hx (hb hby at_46) (Ls' := #[.val (.int i0), .val (.long i1), .second, .val (.long i2), .second, .val (.long i3), .second, .val (.long v4), .second, .val (.ref b5), .val (.int (2 : Int32)), .val (.int (0 : Int32)), .unset, .unset, .unset, .unset]) rfl (pc' := 48) rfl ?_
  refine k_iload X377 hx (hb hby at_48) rfl (pc' := 50) rfl ?_
  refine k_iconst X377 hx (hb hby at_50) (pc' := 51) rfl (z := (1 : Int32)) rfl ?_
  refine k_icmp_lt X377 hx (hb hby at_51) (pn := 54) rfl (py := 77) (by decide) (fun hc => absurd hc (by decide)) (fun _ => ?_)
  refine k_iloadN X377 hx (hb hby at_54) rfl (pc' := 55) rfl ?_
  refine k_iconst X377 hx (hb hby at_55) (pc' := 56) rfl (z := (4 : Int32)) rfl ?_
  refine k_iand X377 hx (hb hby at_56) (pc' := 57) rfl (fun v378 hv378 => ?_)
  refine k_if_eq X377 hx (hb hby at_57) (pn := 60) rfl (py := 70) (by decide) (fun hc379 => ?_) (fun hc379 => ?_)
  ·
   refine k_aload X377 hx (hb hby at_70) rfl rfl (pc' := 72) rfl ?_
   refine k_lloadN X377 hx (hb hby at_72) rfl (pc' := 73) rfl ?_
   refine k_callV X377 hx hZ hown (a := b5) (hw _ (List.mem_of_getElem? (i := 74) rfl)) (hw _ (List.mem_of_getElem? (i := 75) rfl)) (hw _ (List.mem_of_getElem? (i := 77) rfl)) (hw _ (List.mem_of_getElem? (i := 76) rfl)) (hw _ (List.mem_of_getElem? (i := 2) rfl)) (hw _ (List.mem_of_getElem? (i := 78) rfl)) (by decide) F55 (rm13_82 l Z a0 hw [] b5 i1 b51 b53 v4 k52 k54 T50.heap n0 Z69 F55 F56 F57 F58 F59 F60 F61 F62 F63 F64 g_b5 F65 g_b51 F66 g_b53 lt67 lt68) (by decide) (by decide) e377 (by rw [hml]; rfl) (argsL := [(.long i1)]) (rest := []) (lenOf pd_4 rfl) rfl (W := 0) (Nat.le_refl _) rfl (hb hby at_73) (by decide) (by decide) (pc' := 76) rfl (fun T380 L380 r380 X380 q380 => ?_)
   obtain ⟨N380, q380⟩ := q380
   have N380' := Fr.app N377' N380
   obtain ⟨rfl, F381, F382, F383, F384, F385, F386, F387, F388, F389, F390, F391, F392, Z393⟩ := q380
   show KEnds p e below s _ _ _ T380 (mkF m 76 #[.val (.int i0), .val (.long i1), .second, .val (.long i2), .second, .val (.long i3), .second, .val (.long v4), .second, .val (.ref b5), .val (.int (2 : Int32)), .val (.int (0 : Int32)), .unset, .unset, .unset, .unset] [(.long (0 : Int64))])
   refine k_pop2L X380 hx (hb hby at_76) (pc' := 77) rfl ?_
   refine k_iload X380 hx (hb hby at_77) rfl (pc' := 79) rfl ?_
   refine k_iconst X380 hx (hb hby at_79) (pc' := 80) rfl (z := (2 : Int32)) rfl ?_
   refine k_icmp_lt X380 hx (hb hby at_80) (pn := 83) rfl (py := 107) (by decide) (fun hc => absurd hc (by decide)) (fun _ => ?_)
   refine k_iloadN X380 hx (hb hby at_83) rfl (pc' := 84) rfl ?_
   refine k_bipush X380 hx (hb hby at_84) (pc' := 86) rfl (z := (8 : Int32)) rfl ?_
   refine k_iand X380 hx (hb hby at_86) (pc' := 87) rfl (fun v394 hv394 => ?_)
   refine k_if_eq X380 hx (hb hby at_87) (pn := 90) rfl (py := 100) (by decide) (fun hc395 => ?_) (fun hc395 => ?_)
   ·
    refine k_aload X380 hx (hb hby at_100) rfl rfl (pc' := 102) rfl ?_
    refine k_lloadN X380 hx (hb hby at_102) rfl (pc' := 103) rfl ?_
    refine k_callV X380 hx hZ hown (a := b5) (hw _ (List.mem_of_getElem? (i := 74) rfl)) (hw _ (List.mem_of_getElem? (i := 75) rfl)) (hw _ (List.mem_of_getElem? (i := 77) rfl)) (hw _ (List.mem_of_getElem? (i := 76) rfl)) (hw _ (List.mem_of_getElem? (i := 2) rfl)) (hw _ (List.mem_of_getElem? (i := 78) rfl)) (by decide) F381 (rm13_396 l Z a0 hw [] b5 i2 b51 b53 v4 i1 k52 k54 T380.heap n0 Z393 F381 F382 F383 F384 F385 F386 F387 F388 F389 F390 g_b5 F391 g_b51 F392 g_b53 lt67 lt68) (by decide) (by decide) rfl (by rw [hml]; rfl) (argsL := [(.long i2)]) (rest := []) (lenOf pd_4 rfl) rfl (W := 0) (Nat.le_refl _) rfl (hb hby at_103) (by decide) (by decide) (pc' := 106) rfl (fun T480 L480 r480 X480 q480 => ?_)
    obtain ⟨N480, q480⟩ := q480
    have N480' := Fr.app N380' N480
    rcases q480 with ⟨v481, h482, hc483, rfl, F484, F485, F486, F487, F488, F489, F490, F491, F492, F493, F494, F495, Z496⟩ | ⟨v497, h498, hc499, rfl, F500, F501, F502, F503, F504, F505, F506, F507, F508, F509, F510, F511, Z512⟩
    ·
     show KEnds p e below s _ _ _ T480 (mkF m 106 #[.val (.int i0), .val (.long i1), .second, .val (.long i2), .second, .val (.long i3), .second, .val (.long v4), .second, .val (.ref b5), .val (.int (2 : Int32)), .val (.int (0 : Int32)), .unset, .unset, .unset, .unset] [(.long (0 : Int64))])
     refine k_pop2L X480 hx (hb hby at_106) (pc' := 107) rfl ?_
     refine k_iload X480 hx (hb hby at_107) rfl (pc' := 109) rfl ?_
     refine k_iconst X480 hx (hb hby at_109) (pc' := 110) rfl (z := (1 : Int32)) rfl ?_
     refine k_icmp_lt X480 hx (hb hby at_110) (pn := 113) rfl (py := 117) (by decide) (fun hc => absurd hc (by decide)) (fun _ => ?_)
     refine k_iconst X480 hx (hb hby at_113) (pc' := 114) rfl (z := (1 : Int32)) rfl ?_
     refine k_goto X480 hx (hb hby at_114) (pc' := 118) (by decide) ?_
     refine k_istore X480 hx (hb hby at_118) (Ls' := #[.val (.int i0), .val (.long i1), .second, .val (.long i2), .second, .val (.long i3), .second, .val (.long v4), .second, .val (.ref b5), .val (.int (2 : Int32)), .val (.int (0 : Int32)), .val (.int (1 : Int32)), .unset, .unset, .unset]) rfl (pc' := 120) rfl ?_
     refine k_lloadN X480 hx (hb hby at_120) rfl (pc' := 121) rfl ?_
     refine k_lstore X480 hx (hb hby at_121) (Ls' := #[.val (.int i0), .val (.long i1), .second, .val (.long i2), .second, .val (.long i3), .second, .val (.long v4), .second, .val (.ref b5), .val (.int (2 : Int32)), .val (.int (0 : Int32)), .val (.int (1 : Int32)), .val (.long i1), .second, .unset]) rfl (pc' := 123) rfl ?_
     refine k_iload X480 hx (hb hby at_123) rfl (pc' := 125) rfl ?_
     refine k_iconst X480 hx (hb hby at_125) (pc' := 126) rfl (z := (2 : Int32)) rfl ?_
     refine k_icmp_lt X480 hx (hb hby at_126) (pn := 129) rfl (py := 140) (by decide) (fun hc => absurd hc (by decide)) (fun _ => ?_)
     refine k_lloadN X480 hx (hb hby at_129) rfl (pc' := 130) rfl ?_
     refine k_lloadN X480 hx (hb hby at_130) rfl (pc' := 131) rfl ?_
     refine k_lsubL X480 hx (hb hby at_131) (pc' := 132) rfl (z := v481) h482.symm ?_
     refine k_lconst X480 hx (hb hby at_132) (pc' := 133) rfl (z := (0 : Int64)) rfl ?_
     refine k_lcif_le X480 hx (hb hby at_133) (pm := 134) rfl (hb hby at_134) (pn := 137) rfl (py := 140) (by decide) (fun _ => ?_) (fun hc => absurd hc hc483)
     refine k_iload X480 hx (hb hby at_140) rfl (pc' := 142) rfl ?_
     refine k_if_eq X480 hx (hb hby at_142) (pn := 145) rfl (py := 159) (by decide) (fun hc => absurd hc (by decide)) (fun _ => ?_)
     refine k_lload X480 hx (hb hby at_145) rfl (pc' := 147) rfl ?_
     refine k_lload X480 hx (hb hby at_147) rfl (pc' := 149) rfl ?_
     refine k_lsub X480 hx (hb hby at_149) (pc' := 150) rfl (fun v513 hv513 => ?_)
     refine k_lconst X480 hx (hb hby at_150) (pc' := 151) rfl (z := (0 : Int64)) rfl ?_
     refine k_lcif_le X480 hx (hb hby at_151) (pm := 152) rfl (hb hby at_152) (pn := 155) rfl (py := 159) (by decide) (fun hc514 => ?_) (fun hc514 => ?_)
     ·
      refine k_iconst X480 hx (hb hby at_159) (pc' := 160) rfl (z := (0 : Int32)) rfl ?_
      refine k_istore X480 hx (hb hby at_160) (Ls' := #[.val (.int i0), .val (.long i1), .second, .val (.long i2), .second, .val (.long i3), .second, .val (.long v4), .second, .val (.ref b5), .val (.int (2 : Int32)), .val (.int (0 : Int32)), .val (.int (1 : Int32)), .val (.long i1), .second, .val (.int (0 : Int32))]) rfl (pc' := 162) rfl ?_
      refine k_iload X480 hx (hb hby at_162) rfl (pc' := 164) rfl ?_
      refine k_if_ne X480 hx (hb hby at_164) (pn := 167) rfl (py := 183) (by decide) (fun hc => absurd (by decide) hc) (fun _ => ?_)
      refine k_aload X480 hx (hb hby at_167) rfl rfl (pc' := 169) rfl ?_
      refine k_lload X480 hx (hb hby at_169) rfl (pc' := 171) rfl ?_
      refine k_callV X480 hx hZ hown (a := b5) (hw _ (List.mem_of_getElem? (i := 19) rfl)) (hw _ (List.mem_of_getElem? (i := 20) rfl)) (hw _ (List.mem_of_getElem? (i := 22) rfl)) (hw _ (List.mem_of_getElem? (i := 21) rfl)) (hw _ (List.mem_of_getElem? (i := 2) rfl)) (hw _ (List.mem_of_getElem? (i := 23) rfl)) (by decide) F484 (rm3_149 l Z a0 hw [] b5 i3 b51 b53 v4 i1 k52 k54 T480.heap n0 Z496 F484 F485 F486 F487 F488 F489 F490 F491 F492 F493 F494 F495 lt67 lt68) (by decide) (by decide) rfl (by rw [hml]; rfl) (argsL := [(.long i3)]) (rest := []) (lenOf pd_1 rfl) rfl (W := 0) (Nat.le_refl _) rfl (hb hby at_171) (by decide) (by decide) (pc' := 174) rfl (fun T515 L515 r515 X515 q515 => ?_)
      obtain ⟨N515, e515, q515⟩ := q515
      have N515' := Fr.app N480' N515
      rcases q515 with ⟨v516, h517, hc518, rfl⟩ | ⟨v519, h520, hc521, rfl⟩
      ·
       have hh522 : v513 = v516 := hv513.trans h517.symm
       subst hh522
       show KEnds p e below s _ _ _ T515 (mkF m 174 #[.val (.int i0), .val (.long i1), .second, .val (.long i2), .second, .val (.long i3), .second, .val (.long v4), .second, .val (.ref b5), .val (.int (2 : Int32)), .val (.int (0 : Int32)), .val (.int (1 : Int32)), .val (.long i1), .second, .val (.int (0 : Int32))] [(.int (0 : Int32))])
       refine k_iload X515 hx (hb hby at_174) rfl (pc' := 176) rfl ?_
       refine k_icmp_ne X515 hx (hb hby at_176) (pn := 179) rfl (py := 183) (by decide) (fun hc => absurd (by decide) hc) (fun _ => ?_)
       refine k_iconst X515 hx (hb hby at_179) (pc' := 180) rfl (z := (1 : Int32)) rfl ?_
       refine k_goto X515 hx (hb hby at_180) (pc' := 184) (by decide) ?_
       exact k_retN X515 hx (t := .boolean) Bd.returns (by simp) (hb hby at_184) hlk (by decide) (by decide) (z' := (1 : Int32)) rfl ⟨rfl, N515'⟩
      ·
       have hh523 : v513 = v519 := hv513.trans h520.symm
       subst hh523
       show KEnds p e below s _ _ _ T515 (mkF m 174 #[.val (.int i0), .val (.long i1), .second, .val (.long i2), .second, .val (.long i3), .second, .val (.long v4), .second, .val (.ref b5), .val (.int (2 : Int32)), .val (.int (0 : Int32)), .val (.int (1 : Int32)), .val (.long i1), .second, .val (.int (0 : Int32))] [(.int (1 : Int32))])
       exact absurd hc521 hc514
     ·
      refine k_iconst X480 hx (hb hby at_155) (pc' := 156) rfl (z := (1 : Int32)) rfl ?_
      refine k_goto X480 hx (hb hby at_156) (pc' := 160) (by decide) ?_
      refine k_istore X480 hx (hb hby at_160) (Ls' := #[.val (.int i0), .val (.long i1), .second, .val (.long i2), .second, .val (.long i3), .second, .val (.long v4), .second, .val (.ref b5), .val (.int (2 : Int32)), .val (.int (0 : Int32)), .val (.int (1 : Int32)), .val (.long i1), .second, .val (.int (1 : Int32))]) rfl (pc' := 162) rfl ?_
      refine k_iload X480 hx (hb hby at_162) rfl (pc' := 164) rfl ?_
      refine k_if_ne X480 hx (hb hby at_164) (pn := 167) rfl (py := 183) (by decide) (fun hc => absurd (by decide) hc) (fun _ => ?_)
      refine k_aload X480 hx (hb hby at_167) rfl rfl (pc' := 169) rfl ?_
      refine k_lload X480 hx (hb hby at_169) rfl (pc' := 171) rfl ?_
      refine k_callV X480 hx hZ hown (a := b5) (hw _ (List.mem_of_getElem? (i := 19) rfl)) (hw _ (List.mem_of_getElem? (i := 20) rfl)) (hw _ (List.mem_of_getElem? (i := 22) rfl)) (hw _ (List.mem_of_getElem? (i := 21) rfl)) (hw _ (List.mem_of_getElem? (i := 2) rfl)) (hw _ (List.mem_of_getElem? (i := 23) rfl)) (by decide) F484 (rm3_149 l Z a0 hw [] b5 i3 b51 b53 v4 i1 k52 k54 T480.heap n0 Z496 F484 F485 F486 F487 F488 F489 F490 F491 F492 F493 F494 F495 lt67 lt68) (by decide) (by decide) rfl (by rw [hml]; rfl) (argsL := [(.long i3)]) (rest := []) (lenOf pd_1 rfl) rfl (W := 0) (Nat.le_refl _) rfl (hb hby at_171) (by decide) (by decide) (pc' := 174) rfl (fun T524 L524 r524 X524 q524 => ?_)
      obtain ⟨N524, e524, q524⟩ := q524
      have N524' := Fr.app N480' N524
      rcases q524 with ⟨v525, h526, hc527, rfl⟩ | ⟨v528, h529, hc530, rfl⟩
      ·
       have hh531 : v513 = v525 := hv513.trans h526.symm
       subst hh531
       show KEnds p e below s _ _ _ T524 (mkF m 174 #[.val (.int i0), .val (.long i1), .second, .val (.long i2), .second, .val (.long i3), .second, .val (.long v4), .second, .val (.ref b5), .val (.int (2 : Int32)), .val (.int (0 : Int32)), .val (.int (1 : Int32)), .val (.long i1), .second, .val (.int (1 : Int32))] [(.int (0 : Int32))])
       exact absurd hc514 hc527
      ·
       have hh532 : v513 = v528 := hv513.trans h529.symm
       subst hh532
       show KEnds p e below s _ _ _ T524 (mkF m 174 #[.val (.int i0), .val (.long i1), .second, .val (.long i2), .second, .val (.long i3), .second, .val (.long v4), .second, .val (.ref b5), .val (.int (2 : Int32)), .val (.int (0 : Int32)), .val (.int (1 : Int32)), .val (.long i1), .second, .val (.int (1 : Int32))] [(.int (1 : Int32))])
       refine k_iload X524 hx (hb hby at_174) rfl (pc' := 176) rfl ?_
       refine k_icmp_ne X524 hx (hb hby at_176) (pn := 179) rfl (py := 183) (by decide) (fun hc => absurd (by decide) hc) (fun _ => ?_)
       refine k_iconst X524 hx (hb hby at_179) (pc' := 180) rfl (z := (1 : Int32)) rfl ?_
       refine k_goto X524 hx (hb hby at_180) (pc' := 184) (by decide) ?_
       exact k_retN X524 hx (t := .boolean) Bd.returns (by simp) (hb hby at_184) hlk (by decide) (by decide) (z' := (1 : Int32)) rfl ⟨rfl, N524'⟩
    ·
     show KEnds p e below s _ _ _ T480 (mkF m 106 #[.val (.int i0), .val (.long i1), .second, .val (.long i2), .second, .val (.long i3), .second, .val (.long v4), .second, .val (.ref b5), .val (.int (2 : Int32)), .val (.int (0 : Int32)), .unset, .unset, .unset, .unset] [(.long (0 : Int64))])
     refine k_pop2L X480 hx (hb hby at_106) (pc' := 107) rfl ?_
     refine k_iload X480 hx (hb hby at_107) rfl (pc' := 109) rfl ?_
     refine k_iconst X480 hx (hb hby at_109) (pc' := 110) rfl (z := (1 : Int32)) rfl ?_
     refine k_icmp_lt X480 hx (hb hby at_110) (pn := 113) rfl (py := 117) (by decide) (fun hc => absurd hc (by decide)) (fun _ => ?_)
     refine k_iconst X480 hx (hb hby at_113) (pc' := 114) rfl (z := (1 : Int32)) rfl ?_
     refine k_goto X480 hx (hb hby at_114) (pc' := 118) (by decide) ?_
     refine k_istore X480 hx (hb hby at_118) (Ls' := #[.val (.int i0), .val (.long i1), .second, .val (.long i2), .second, .val (.long i3), .second, .val (.long v4), .second, .val (.ref b5), .val (.int (2 : Int32)), .val (.int (0 : Int32)), .val (.int (1 : Int32)), .unset, .unset, .unset]) rfl (pc' := 120) rfl ?_
     refine k_lloadN X480 hx (hb hby at_120) rfl (pc' := 121) rfl ?_
     refine k_lstore X480 hx (hb hby at_121) (Ls' := #[.val (.int i0), .val (.long i1), .second, .val (.long i2), .second, .val (.long i3), .second, .val (.long v4), .second, .val (.ref b5), .val (.int (2 : Int32)), .val (.int (0 : Int32)), .val (.int (1 : Int32)), .val (.long i1), .second, .unset]) rfl (pc' := 123) rfl ?_
     refine k_iload X480 hx (hb hby at_123) rfl (pc' := 125) rfl ?_
     refine k_iconst X480 hx (hb hby at_125) (pc' := 126) rfl (z := (2 : Int32)) rfl ?_
     refine k_icmp_lt X480 hx (hb hby at_126) (pn := 129) rfl (py := 140) (by decide) (fun hc => absurd hc (by decide)) (fun _ => ?_)
     refine k_lloadN X480 hx (hb hby at_129) rfl (pc' := 130) rfl ?_
     refine k_lloadN X480 hx (hb hby at_130) rfl (pc' := 131) rfl ?_
     refine k_lsubL X480 hx (hb hby at_131) (pc' := 132) rfl (z := v497) h498.symm ?_
     refine k_lconst X480 hx (hb hby at_132) (pc' := 133) rfl (z := (0 : Int64)) rfl ?_
     refine k_lcif_le X480 hx (hb hby at_133) (pm := 134) rfl (hb hby at_134) (pn := 137) rfl (py := 140) (by decide) (fun hc => absurd hc499 hc) (fun _ => ?_)
     refine k_lloadN X480 hx (hb hby at_137) rfl (pc' := 138) rfl ?_
     refine k_lstore X480 hx (hb hby at_138) (Ls' := #[.val (.int i0), .val (.long i1), .second, .val (.long i2), .second, .val (.long i3), .second, .val (.long v4), .second, .val (.ref b5), .val (.int (2 : Int32)), .val (.int (0 : Int32)), .val (.int (1 : Int32)), .val (.long i2), .second, .unset]) rfl (pc' := 140) rfl ?_
     refine k_iload X480 hx (hb hby at_140) rfl (pc' := 142) rfl ?_
     refine k_if_eq X480 hx (hb hby at_142) (pn := 145) rfl (py := 159) (by decide) (fun hc => absurd hc (by decide)) (fun _ => ?_)
     refine k_lload X480 hx (hb hby at_145) rfl (pc' := 147) rfl ?_
     refine k_lload X480 hx (hb hby at_147) rfl (pc' := 149) rfl ?_
     refine k_lsub X480 hx (hb hby at_149) (pc' := 150) rfl (fun v533 hv533 => ?_)
     refine k_lconst X480 hx (hb hby at_150) (pc' := 151) rfl (z := (0 : Int64)) rfl ?_
     refine k_lcif_le X480 hx (hb hby at_151) (pm := 152) rfl (hb hby at_152) (pn := 155) rfl (py := 159) (by decide) (fun hc534 => ?_) (fun hc534 => ?_)
     ·
      refine k_iconst X480 hx (hb hby at_159) (pc' := 160) rfl (z := (0 : Int32)) rfl ?_
      refine k_istore X480 hx (hb hby at_160) (Ls' := #[.val (.int i0), .val (.long i1), .second, .val (.long i2), .second, .val (.long i3), .second, .val (.long v4), .second, .val (.ref b5), .val (.int (2 : Int32)), .val (.int (0 : Int32)), .val (.int (1 : Int32)), .val (.long i2), .second, .val (.int (0 : Int32))]) rfl (pc' := 162) rfl ?_
      refine k_iload X480 hx (hb hby at_162) rfl (pc' := 164) rfl ?_
      refine k_if_ne X480 hx (hb hby at_164) (pn := 167) rfl (py := 183) (by decide) (fun hc => absurd (by decide) hc) (fun _ => ?_)
      refine k_aload X480 hx (hb hby at_167) rfl rfl (pc' := 169) rfl ?_
      refine k_lload X480 hx (hb hby at_169) rfl (pc' := 171) rfl ?_
      refine k_callV X480 hx hZ hown (a := b5) (hw _ (List.mem_of_getElem? (i := 19) rfl)) (hw _ (List.mem_of_getElem? (i := 20) rfl)) (hw _ (List.mem_of_getElem? (i := 22) rfl)) (hw _ (List.mem_of_getElem? (i := 21) rfl)) (hw _ (List.mem_of_getElem? (i := 2) rfl)) (hw _ (List.mem_of_getElem? (i := 23) rfl)) (by decide) F500 (rm3_149 l Z a0 hw [] b5 i3 b51 b53 v4 i2 k52 k54 T480.heap n0 Z512 F500 F501 F502 F503 F504 F505 F506 F507 F508 F509 F510 F511 lt67 lt68) (by decide) (by decide) rfl (by rw [hml]; rfl) (argsL := [(.long i3)]) (rest := []) (lenOf pd_1 rfl) rfl (W := 0) (Nat.le_refl _) rfl (hb hby at_171) (by decide) (by decide) (pc' := 174) rfl (fun T535 L535 r535 X535 q535 => ?_)
      obtain ⟨N535, e535, q535⟩ := q535
      have N535' := Fr.app N480' N535
      rcases q535 with ⟨v536, h537, hc538, rfl⟩ | ⟨v539, h540, hc541, rfl⟩
      ·
       have hh542 : v533 = v536 := hv533.trans h537.symm
       subst hh542
       show KEnds p e below s _ _ _ T535 (mkF m 174 #[.val (.int i0), .val (.long i1), .second, .val (.long i2), .second, .val (.long i3), .second, .val (.long v4), .second, .val (.ref b5), .val (.int (2 : Int32)), .val (.int (0 : Int32)), .val (.int (1 : Int32)), .val (.long i2), .second, .val (.int (0 : Int32))] [(.int (0 : Int32))])
       refine k_iload X535 hx (hb hby at_174) rfl (pc' := 176) rfl ?_
       refine k_icmp_ne X535 hx (hb hby at_176) (pn := 179) rfl (py := 183) (by decide) (fun hc => absurd (by decide) hc) (fun _ => ?_)
       refine k_iconst X535 hx (hb hby at_179) (pc' := 180) rfl (z := (1 : Int32)) rfl ?_
       refine k_goto X535 hx (hb hby at_180) (pc' := 184) (by decide) ?_
       exact k_retN X535 hx (t := .boolean) Bd.returns (by simp) (hb hby at_184) hlk (by decide) (by decide) (z' := (1 : Int32)) rfl ⟨rfl, N535'⟩
      ·
       have hh543 : v533 = v539 := hv533.trans h540.symm
       subst hh543
       show KEnds p e below s _ _ _ T535 (mkF m 174 #[.val (.int i0), .val (.long i1), .second, .val (.long i2), .second, .val (.long i3), .second, .val (.long v4), .second, .val (.ref b5), .val (.int (2 : Int32)), .val (.int (0 : Int32)), .val (.int (1 : Int32)), .val (.long i2), .second, .val (.int (0 : Int32))] [(.int (1 : Int32))])
       exact absurd hc541 hc534
     ·
      refine k_iconst X480 hx (hb hby at_155) (pc' := 156) rfl (z := (1 : Int32)) rfl ?_
      refine k_goto X480 hx (hb hby at_156) (pc' := 160) (by decide) ?_
      refine k_istore X480 hx (hb hby at_160) (Ls' := #[.val (.int i0), .val (.long i1), .second, .val (.long i2), .second, .val (.long i3), .second, .val (.long v4), .second, .val (.ref b5), .val (.int (2 : Int32)), .val (.int (0 : Int32)), .val (.int (1 : Int32)), .val (.long i2), .second, .val (.int (1 : Int32))]) rfl (pc' := 162) rfl ?_
      refine k_iload X480 hx (hb hby at_162) rfl (pc' := 164) rfl ?_
      refine k_if_ne X480 hx (hb hby at_164) (pn := 167) rfl (py := 183) (by decide) (fun hc => absurd (by decide) hc) (fun _ => ?_)
      refine k_aload X480 hx (hb hby at_167) rfl rfl (pc' := 169) rfl ?_
      refine k_lload X480 hx (hb hby at_169) rfl (pc' := 171) rfl ?_
      refine k_callV X480 hx hZ hown (a := b5) (hw _ (List.mem_of_getElem? (i := 19) rfl)) (hw _ (List.mem_of_getElem? (i := 20) rfl)) (hw _ (List.mem_of_getElem? (i := 22) rfl)) (hw _ (List.mem_of_getElem? (i := 21) rfl)) (hw _ (List.mem_of_getElem? (i := 2) rfl)) (hw _ (List.mem_of_getElem? (i := 23) rfl)) (by decide) F500 (rm3_149 l Z a0 hw [] b5 i3 b51 b53 v4 i2 k52 k54 T480.heap n0 Z512 F500 F501 F502 F503 F504 F505 F506 F507 F508 F509 F510 F511 lt67 lt68) (by decide) (by decide) rfl (by rw [hml]; rfl) (argsL := [(.long i3)]) (rest := []) (lenOf pd_1 rfl) rfl (W := 0) (Nat.le_refl _) rfl (hb hby at_171) (by decide) (by decide) (pc' := 174) rfl (fun T544 L544 r544 X544 q544 => ?_)
      obtain ⟨N544, e544, q544⟩ := q544
      have N544' := Fr.app N480' N544
      rcases q544 with ⟨v545, h546, hc547, rfl⟩ | ⟨v548, h549, hc550, rfl⟩
      ·
       have hh551 : v533 = v545 := hv533.trans h546.symm
       subst hh551
       show KEnds p e below s _ _ _ T544 (mkF m 174 #[.val (.int i0), .val (.long i1), .second, .val (.long i2), .second, .val (.long i3), .second, .val (.long v4), .second, .val (.ref b5), .val (.int (2 : Int32)), .val (.int (0 : Int32)), .val (.int (1 : Int32)), .val (.long i2), .second, .val (.int (1 : Int32))] [(.int (0 : Int32))])
       exact absurd hc534 hc547
      ·
       have hh552 : v533 = v548 := hv533.trans h549.symm
       subst hh552
       show KEnds p e below s _ _ _ T544 (mkF m 174 #[.val (.int i0), .val (.long i1), .second, .val (.long i2), .second, .val (.long i3), .second, .val (.long v4), .second, .val (.ref b5), .val (.int (2 : Int32)), .val (.int (0 : Int32)), .val (.int (1 : Int32)), .val (.long i2), .second, .val (.int (1 : Int32))] [(.int (1 : Int32))])
       refine k_iload X544 hx (hb hby at_174) rfl (pc' := 176) rfl ?_
       refine k_icmp_ne X544 hx (hb hby at_176) (pn := 179) rfl (py := 183) (by decide) (fun hc => absurd (by decide) hc) (fun _ => ?_)
       refine k_iconst X544 hx (hb hby at_179) (pc' := 180) rfl (z := (1 : Int32)) rfl ?_
       refine k_goto X544 hx (hb hby at_180) (pc' := 184) (by decide) ?_
       exact k_retN X544 hx (t := .boolean) Bd.returns (by simp) (hb hby at_184) hlk (by decide) (by decide) (z' := (1 : Int32)) rfl ⟨rfl, N544'⟩
   ·
    refine k_aload X380 hx (hb hby at_90) rfl rfl (pc' := 92) rfl ?_
    refine k_lconst X380 hx (hb hby at_92) (pc' := 93) rfl (z := (1 : Int64)) rfl ?_
    refine k_lloadN X380 hx (hb hby at_93) rfl (pc' := 94) rfl ?_
    refine k_callV X380 hx hZ hown (a := b5) (hw _ (List.mem_of_getElem? (i := 26) rfl)) (hw _ (List.mem_of_getElem? (i := 27) rfl)) (hw _ (List.mem_of_getElem? (i := 29) rfl)) (hw _ (List.mem_of_getElem? (i := 28) rfl)) (hw _ (List.mem_of_getElem? (i := 2) rfl)) (hw _ (List.mem_of_getElem? (i := 30) rfl)) (by decide) F381 (rm4_553 l Z a0 hw [] b5 i2 b51 b53 v4 i1 k52 k54 T380.heap n0 Z393 F381 F382 F383 F384 F385 F386 F387 F388 F389 F390 g_b5 F391 g_b51 F392 g_b53 lt67 lt68) (by decide) (by decide) rfl (by rw [hml]; rfl) (argsL := [(.long (1 : Int64)), (.long i2)]) (rest := []) (lenOf pd_0 rfl) rfl (W := 0) (Nat.le_refl _) rfl (hb hby at_94) (by decide) (by decide) (pc' := 97) rfl (fun T635 L635 r635 X635 q635 => ?_)
    obtain ⟨N635, q635⟩ := q635
    have N635' := Fr.app N380' N635
    rcases q635 with ⟨v636, b637, k638, b639, k640, h641, hc642, rfl, F643, F644, F645, F646, F647, F648, F649, F650, F651, F652, F653, F654, F655, F656, g_b637, lt657, g_b639, lt658, Z659⟩ | ⟨v660, b661, k662, b663, k664, h665, hc666, rfl, F667, F668, F669, F670, F671, F672, F673, F674, F675, F676, F677, F678, F679, F680, g_b661, lt681, g_b663, lt682, Z683⟩
    ·
     show KEnds p e below s _ _ _ T635 (mkF m 97 #[.val (.int i0), .val (.long i1), .second, .val (.long i2), .second, .val (.long i3), .second, .val (.long v4), .second, .val (.ref b5), .val (.int (2 : Int32)), .val (.int (0 : Int32)), .unset, .unset, .unset, .unset] [])
     refine k_goto X635 hx (hb hby at_97) (pc' := 107) (by decide) ?_
     refine k_iload X635 hx (hb hby at_107) rfl (pc' := 109) rfl ?_
     refine k_iconst X635 hx (hb hby at_109) (pc' := 110) rfl (z := (1 : Int32)) rfl ?_
     refine k_icmp_lt X635 hx (hb hby at_110) (pn := 113) rfl (py := 117) (by decide) (fun hc => absurd hc (by decide)) (fun _ => ?_)
     refine k_iconst X635 hx (hb hby at_113) (pc' := 114) rfl (z := (1 : Int32)) rfl ?_
     refine k_goto X635 hx (hb hby at_114) (pc' := 118) (by decide) ?_
     refine k_istore X635 hx (hb hby at_118) (Ls' := #[.val (.int i0), .val (.long i1), .second, .val (.long i2), .second, .val (.long i3), .second, .val (.long v4), .second, .val (.ref b5), .val (.int (2 : Int32)), .val (.int (0 : Int32)), .val (.int (1 : Int32)), .unset, .unset, .unset]) rfl (pc' := 120) rfl ?_
     refine k_lloadN X635 hx (hb hby at_120) rfl (pc' := 121) rfl ?_
     refine k_lstore X635 hx (hb hby at_121) (Ls' := #[.val (.int i0), .val (.long i1), .second, .val (.long i2), .second, .val (.long i3), .second, .val (.long v4), .second, .val (.ref b5), .val (.int (2 : Int32)), .val (.int (0 : Int32)), .val (.int (1 : Int32)), .val (.long i1), .second, .unset]) rfl (pc' := 123) rfl ?_
     refine k_iload X635 hx (hb hby at_123) rfl (pc' := 125) rfl ?_
     refine k_iconst X635 hx (hb hby at_125) (pc' := 126) rfl (z := (2 : Int32)) rfl ?_
     refine k_icmp_lt X635 hx (hb hby at_126) (pn := 129) rfl (py := 140) (by decide) (fun hc => absurd hc (by decide)) (fun _ => ?_)
     refine k_lloadN X635 hx (hb hby at_129) rfl (pc' := 130) rfl ?_
     refine k_lloadN X635 hx (hb hby at_130) rfl (pc' := 131) rfl ?_
     refine k_lsubL X635 hx (hb hby at_131) (pc' := 132) rfl (z := v636) h641.symm ?_
     refine k_lconst X635 hx (hb hby at_132) (pc' := 133) rfl (z := (0 : Int64)) rfl ?_
     refine k_lcif_le X635 hx (hb hby at_133) (pm := 134) rfl (hb hby at_134) (pn := 137) rfl (py := 140) (by decide) (fun _ => ?_) (fun hc => absurd hc hc642)
     refine k_iload X635 hx (hb hby at_140) rfl (pc' := 142) rfl ?_
     refine k_if_eq X635 hx (hb hby at_142) (pn := 145) rfl (py := 159) (by decide) (fun hc => absurd hc (by decide)) (fun _ => ?_)
     refine k_lload X635 hx (hb hby at_145) rfl (pc' := 147) rfl ?_
     refine k_lload X635 hx (hb hby at_147) rfl (pc' := 149) rfl ?_
     refine k_lsub X635 hx (hb hby at_149) (pc' := 150) rfl (fun v684 hv684 => ?_)
     refine k_lconst X635 hx (hb hby at_150) (pc' := 151) rfl (z := (0 : Int64)) rfl ?_
     refine k_lcif_le X635 hx (hb hby at_151) (pm := 152) rfl (hb hby at_152) (pn := 155) rfl (py := 159) (by decide) (fun hc685 => ?_) (fun hc685 => ?_)
     ·
      refine k_iconst X635 hx (hb hby at_159) (pc' := 160) rfl (z := (0 : Int32)) rfl ?_
      refine k_istore X635 hx (hb hby at_160) (Ls' := #[.val (.int i0), .val (.long i1), .second, .val (.long i2), .second, .val (.long i3), .second, .val (.long v4), .second, .val (.ref b5), .val (.int (2 : Int32)), .val (.int (0 : Int32)), .val (.int (1 : Int32)), .val (.long i1), .second, .val (.int (0 : Int32))]) rfl (pc' := 162) rfl ?_
      refine k_iload X635 hx (hb hby at_162) rfl (pc' := 164) rfl ?_
      refine k_if_ne X635 hx (hb hby at_164) (pn := 167) rfl (py := 183) (by decide) (fun hc => absurd (by decide) hc) (fun _ => ?_)
      refine k_aload X635 hx (hb hby at_167) rfl rfl (pc' := 169) rfl ?_
      refine k_lload X635 hx (hb hby at_169) rfl (pc' := 171) rfl ?_
      refine k_callV X635 hx hZ hown (a := b5) (hw _ (List.mem_of_getElem? (i := 19) rfl)) (hw _ (List.mem_of_getElem? (i := 20) rfl)) (hw _ (List.mem_of_getElem? (i := 22) rfl)) (hw _ (List.mem_of_getElem? (i := 21) rfl)) (hw _ (List.mem_of_getElem? (i := 2) rfl)) (hw _ (List.mem_of_getElem? (i := 23) rfl)) (by decide) F643 (rm3_353 l Z a0 hw [] b5 i3 b637 b639 v4 i1 k638 k640 T635.heap n0 Z659 F643 F644 F645 F646 F647 F648 F649 F650 F651 F652 F655 F656 (Nat.lt_trans (Nat.lt_trans lt67 lt68) lt657) lt658) (by decide) (by decide) rfl (by rw [hml]; rfl) (argsL := [(.long i3)]) (rest := []) (lenOf pd_1 rfl) rfl (W := 0) (Nat.le_refl _) rfl (hb hby at_171) (by decide) (by decide) (pc' := 174) rfl (fun T686 L686 r686 X686 q686 => ?_)
      obtain ⟨N686, e686, q686⟩ := q686
      have N686' := Fr.app N635' N686
      rcases q686 with ⟨v687, h688, hc689, rfl⟩ | ⟨v690, h691, hc692, rfl⟩
      ·
       have hh693 : v684 = v687 := hv684.trans h688.symm
       subst hh693
       show KEnds p e below s _ _ _ T686 (mkF m 174 #[.val (.int i0), .val (.long i1), .second, .val (.long i2), .second, .val (.long i3), .second, .val (.long v4), .second, .val (.ref b5), .val (.int (2 : Int32)), .val (.int (0 : Int32)), .val (.int (1 : Int32)), .val (.long i1), .second, .val (.int (0 : Int32))] [(.int (0 : Int32))])
       refine k_iload X686 hx (hb hby at_174) rfl (pc' := 176) rfl ?_
       refine k_icmp_ne X686 hx (hb hby at_176) (pn := 179) rfl (py := 183) (by decide) (fun hc => absurd (by decide) hc) (fun _ => ?_)
       refine k_iconst X686 hx (hb hby at_179) (pc' := 180) rfl (z := (1 : Int32)) rfl ?_
       refine k_goto X686 hx (hb hby at_180) (pc' := 184) (by decide) ?_
       exact k_retN X686 hx (t := .boolean) Bd.returns (by simp) (hb hby at_184) hlk (by decide) (by decide) (z' := (1 : Int32)) rfl ⟨rfl, N686'⟩
      ·
       have hh694 : v684 = v690 := hv684.trans h691.symm
       subst hh694
       show KEnds p e below s _ _ _ T686 (mkF m 174 #[.val (.int i0), .val (.long i1), .second, .val (.long i2), .second, .val (.long i3), .second, .val (.long v4), .second, .val (.ref b5), .val (.int (2 : Int32)), .val (.int (0 : Int32)), .val (.int (1 : Int32)), .val (.long i1), .second, .val (.int (0 : Int32))] [(.int (1 : Int32))])
       exact absurd hc692 hc685
     ·
      refine k_iconst X635 hx (hb hby at_155) (pc' := 156) rfl (z := (1 : Int32)) rfl ?_
      refine k_goto X635 hx (hb hby at_156) (pc' := 160) (by decide) ?_
      refine k_istore X635 hx (hb hby at_160) (Ls' := #[.val (.int i0), .val (.long i1), .second, .val (.long i2), .second, .val (.long i3), .second, .val (.long v4), .second, .val (.ref b5), .val (.int (2 : Int32)), .val (.int (0 : Int32)), .val (.int (1 : Int32)), .val (.long i1), .second, .val (.int (1 : Int32))]) rfl (pc' := 162) rfl ?_
      refine k_iload X635 hx (hb hby at_162) rfl (pc' := 164) rfl ?_
      refine k_if_ne X635 hx (hb hby at_164) (pn := 167) rfl (py := 183) (by decide) (fun hc => absurd (by decide) hc) (fun _ => ?_)
      refine k_aload X635 hx (hb hby at_167) rfl rfl (pc' := 169) rfl ?_
      refine k_lload X635 hx (hb hby at_169) rfl (pc' := 171) rfl ?_
      refine k_callV X635 hx hZ hown (a := b5) (hw _ (List.mem_of_getElem? (i := 19) rfl)) (hw _ (List.mem_of_getElem? (i := 20) rfl)) (hw _ (List.mem_of_getElem? (i := 22) rfl)) (hw _ (List.mem_of_getElem? (i := 21) rfl)) (hw _ (List.mem_of_getElem? (i := 2) rfl)) (hw _ (List.mem_of_getElem? (i := 23) rfl)) (by decide) F643 (rm3_353 l Z a0 hw [] b5 i3 b637 b639 v4 i1 k638 k640 T635.heap n0 Z659 F643 F644 F645 F646 F647 F648 F649 F650 F651 F652 F655 F656 (Nat.lt_trans (Nat.lt_trans lt67 lt68) lt657) lt658) (by decide) (by decide) rfl (by rw [hml]; rfl) (argsL := [(.long i3)]) (rest := []) (lenOf pd_1 rfl) rfl (W := 0) (Nat.le_refl _) rfl (hb hby at_171) (by decide) (by decide) (pc' := 174) rfl (fun T695 L695 r695 X695 q695 => ?_)
      obtain ⟨N695, e695, q695⟩ := q695
      have N695' := Fr.app N635' N695
      rcases q695 with ⟨v696, h697, hc698, rfl⟩ | ⟨v699, h700, hc701, rfl⟩
      ·
       have hh702 : v684 = v696 := hv684.trans h697.symm
       subst hh702
       show KEnds p e below s _ _ _ T695 (mkF m 174 #[.val (.int i0), .val (.long i1), .second, .val (.long i2), .second, .val (.long i3), .second, .val (.long v4), .second, .val (.ref b5), .val (.int (2 : Int32)), .val (.int (0 : Int32)), .val (.int (1 : Int32)), .val (.long i1), .second, .val (.int (1 : Int32))] [(.int (0 : Int32))])
       exact absurd hc685 hc698
      ·
       have hh703 : v684 = v699 := hv684.trans h700.symm
       subst hh703
       show KEnds p e below s _ _ _ T695 (mkF m 174 #[.val (.int i0), .val (.long i1), .second, .val (.long i2), .second, .val (.long i3), .second, .val (.long v4), .second, .val (.ref b5), .val (.int (2 : Int32)), .val (.int (0 : Int32)), .val (.int (1 : Int32)), .val (.long i1), .second, .val (.int (1 : Int32))] [(.int (1 : Int32))])
       refine k_iload X695 hx (hb hby at_174) rfl (pc' := 176) rfl ?_
       refine k_icmp_ne X695 hx (hb hby at_176) (pn := 179) rfl (py := 183) (by decide) (fun hc => absurd (by decide) hc) (fun _ => ?_)
       refine k_iconst X695 hx (hb hby at_179) (pc' := 180) rfl (z := (1 : Int32)) rfl ?_
       refine k_goto X695 hx (hb hby at_180) (pc' := 184) (by decide) ?_
       exact k_retN X695 hx (t := .boolean) Bd.returns (by simp) (hb hby at_184) hlk (by decide) (by decide) (z' := (1 : Int32)) rfl ⟨rfl, N695'⟩
    ·
     show KEnds p e below s _ _ _ T635 (mkF m 97 #[.val (.int i0), .val (.long i1), .second, .val (.long i2), .second, .val (.long i3), .second, .val (.long v4), .second, .val (.ref b5), .val (.int (2 : Int32)), .val (.int (0 : Int32)), .unset, .unset, .unset, .unset] [])
     refine k_goto X635 hx (hb hby at_97) (pc' := 107) (by decide) ?_
     refine k_iload X635 hx (hb hby at_107) rfl (pc' := 109) rfl ?_
     refine k_iconst X635 hx (hb hby at_109) (pc' := 110) rfl (z := (1 : Int32)) rfl ?_
     refine k_icmp_lt X635 hx (hb hby at_110) (pn := 113) rfl (py := 117) (by decide) (fun hc => absurd hc (by decide)) (fun _ => ?_)
     refine k_iconst X635 hx (hb hby at_113) (pc' := 114) rfl (z := (1 : Int32)) rfl ?_
     refine k_goto X635 hx (hb hby at_114) (pc' := 118) (by decide) ?_
     refine k_istore X635 hx (hb hby at_118) (Ls' := #[.val (.int i0), .val (.long i1), .second, .val (.long i2), .second, .val (.long i3), .second, .val (.long v4), .second, .val (.ref b5), .val (.int (2 : Int32)), .val (.int (0 : Int32)), .val (.int (1 : Int32)), .unset, .unset, .unset]) rfl (pc' := 120) rfl ?_
     refine k_lloadN X635 hx (hb hby at_120) rfl (pc' := 121) rfl ?_
     refine k_lstore X635 hx (hb hby at_121) (Ls' := #[.val (.int i0), .val (.long i1), .second, .val (.long i2), .second, .val (.long i3), .second, .val (.long v4), .second, .val (.ref b5), .val (.int (2 : Int32)), .val (.int (0 : Int32)), .val (.int (1 : Int32)), .val (.long i1), .second, .unset]) rfl (pc' := 123) rfl ?_
     refine k_iload X635 hx (hb hby at_123) rfl (pc' := 125) rfl ?_
     refine k_iconst X635 hx (hb hby at_125) (pc' := 126) rfl (z := (2 : Int32)) rfl ?_
     refine k_icmp_lt X635 hx (hb hby at_126) (pn := 129) rfl (py := 140) (by decide) (fun hc => absurd hc (by decide)) (fun _ => ?_)
     refine k_lloadN X635 hx (hb hby at_129) rfl (pc' := 130) rfl ?_
     refine k_lloadN X635 hx (hb hby at_130) rfl (pc' := 131) rfl ?_
     refine k_lsubL X635 hx (hb hby at_131) (pc' := 132) rfl (z := v660) h665.symm ?_
     refine k_lconst X635 hx (hb hby at_132) (pc' := 133) rfl (z := (0 : Int64)) rfl ?_
     refine k_lcif_le X635 hx (hb hby at_133) (pm := 134) rfl (hb hby at_134) (pn := 137) rfl (py := 140) (by decide) (fun hc => absurd hc666 hc) (fun _ => ?_)
     refine k_lloadN X635 hx (hb hby at_137) rfl (pc' := 138) rfl ?_
     refine k_lstore X635 hx (hb hby at_138) (Ls' := #[.val (.int i0), .val (.long i1), .second, .val (.long i2), .second, .val (.long i3), .second, .val (.long v4), .second, .val (.ref b5), .val (.int (2 : Int32)), .val (.int (0 : Int32)), .val (.int (1 : Int32)), .val (.long i2), .second, .unset]) rfl (pc' := 140) rfl ?_
     refine k_iload X635 hx (hb hby at_140) rfl (pc' := 142) rfl ?_
     refine k_if_eq X635 hx (hb hby at_142) (pn := 145) rfl (py := 159) (by decide) (fun hc => absurd hc (by decide)) (fun _ => ?_)
     refine k_lload X635 hx (hb hby at_145) rfl (pc' := 147) rfl ?_
     refine k_lload X635 hx (hb hby at_147) rfl (pc' := 149) rfl ?_
     refine k_lsub X635 hx (hb hby at_149) (pc' := 150) rfl (fun v704 hv704 => ?_)
     refine k_lconst X635 hx (hb hby at_150) (pc' := 151) rfl (z := (0 : Int64)) rfl ?_
     refine k_lcif_le X635 hx (hb hby at_151) (pm := 152) rfl (hb hby at_152) (pn := 155) rfl (py := 159) (by decide) (fun hc705 => ?_) (fun hc705 => ?_)
     ·
      refine k_iconst X635 hx (hb hby at_159) (pc' := 160) rfl (z := (0 : Int32)) rfl ?_
      refine k_istore X635 hx (hb hby at_160) (Ls' := #[.val (.int i0), .val (.long i1), .second, .val (.long i2), .second, .val (.long i3), .second, .val (.long v4), .second, .val (.ref b5), .val (.int (2 : Int32)), .val (.int (0 : Int32)), .val (.int (1 : Int32)), .val (.long i2), .second, .val (.int (0 : Int32))]) rfl (pc' := 162) rfl ?_
      refine k_iload X635 hx (hb hby at_162) rfl (pc' := 164) rfl ?_
      refine k_if_ne X635 hx (hb hby at_164) (pn := 167) rfl (py := 183) (by decide) (fun hc => absurd (by decide) hc) (fun _ => ?_)
      refine k_aload X635 hx (hb hby at_167) rfl rfl (pc' := 169) rfl ?_
      refine k_lload X635 hx (hb hby at_169) rfl (pc' := 171) rfl ?_
      refine k_callV X635 hx hZ hown (a := b5) (hw _ (List.mem_of_getElem? (i := 19) rfl)) (hw _ (List.mem_of_getElem? (i := 20) rfl)) (hw _ (List.mem_of_getElem? (i := 22) rfl)) (hw _ (List.mem_of_getElem? (i := 21) rfl)) (hw _ (List.mem_of_getElem? (i := 2) rfl)) (hw _ (List.mem_of_getElem? (i := 23) rfl)) (by decide) F667 (rm3_353 l Z a0 hw [] b5 i3 b661 b663 v4 i2 k662 k664 T635.heap n0 Z683 F667 F668 F669 F670 F671 F672 F673 F674 F675 F676 F679 F680 (Nat.lt_trans (Nat.lt_trans lt67 lt68) lt681) lt682) (by decide) (by decide) rfl (by rw [hml]; rfl) (argsL := [(.long i3)]) (rest := []) (lenOf pd_1 rfl) rfl (W := 0) (Nat.le_refl _) rfl (hb hby at_171) (by decide) (by decide) (pc' := 174) rfl (fun T706 L706 r706 X706 q706 => ?_)
      obtain ⟨N706, e706, q706⟩ := q706
      have N706' := Fr.app N635' N706
      rcases q706 with ⟨v707, h708, hc709, rfl⟩ | ⟨v710, h711, hc712, rfl⟩
      ·
       have hh713 : v704 = v707 := hv704.trans h708.symm
       subst hh713
       show KEnds p e below s _ _ _ T706 (mkF m 174 #[.val (.int i0), .val (.long i1), .second, .val (.long i2), .second, .val (.long i3), .second, .val (.long v4), .second, .val (.ref b5), .val (.int (2 : Int32)), .val (.int (0 : Int32)), .val (.int (1 : Int32)), .val (.long i2), .second, .val (.int (0 : Int32))] [(.int (0 : Int32))])
       refine k_iload X706 hx (hb hby at_174) rfl (pc' := 176) rfl ?_
       refine k_icmp_ne X706 hx (hb hby at_176) (pn := 179) rfl (py := 183) (by decide) (fun hc => absurd (by decide) hc) (fun _ => ?_)
       refine k_iconst X706 hx (hb hby at_179) (pc' := 180) rfl (z := (1 : Int32)) rfl ?_
       refine k_goto X706 hx (hb hby at_180) (pc' := 184) (by decide) ?_
       exact k_retN X706 hx (t := .boolean) Bd.returns (by simp) (hb hby at_184) hlk (by decide) (by decide) (z' := (1 : Int32)) rfl ⟨rfl, N706'⟩
      ·
       have hh714 : v704 = v710 := hv704.trans h711.symm
       subst hh714
       show KEnds p e below s _ _ _ T706 (mkF m 174 #[.val (.int i0), .val (.long i1), .second, .val (.long i2), .second, .val (.long i3), .second, .val (.long v4), .second, .val (.ref b5), .val (.int (2 : Int32)), .val (.int (0 : Int32)), .val (.int (1 : Int32)), .val (.long i2), .second, .val (.int (0 : Int32))] [(.int (1 : Int32))])
       exact absurd hc712 hc705
     ·
      refine k_iconst X635 hx (hb hby at_155) (pc' := 156) rfl (z := (1 : Int32)) rfl ?_
      refine k_goto X635 hx (hb hby at_156) (pc' := 160) (by decide) ?_
      refine k_istore X635 hx (hb hby at_160) (Ls' := #[.val (.int i0), .val (.long i1), .second, .val (.long i2), .second, .val (.long i3), .second, .val (.long v4), .second, .val (.ref b5), .val (.int (2 : Int32)), .val (.int (0 : Int32)), .val (.int (1 : Int32)), .val (.long i2), .second, .val (.int (1 : Int32))]) rfl (pc' := 162) rfl ?_
      refine k_iload X635 hx (hb hby at_162) rfl (pc' := 164) rfl ?_
      refine k_if_ne X635 hx (hb hby at_164) (pn := 167) rfl (py := 183) (by decide) (fun hc => absurd (by decide) hc) (fun _ => ?_)
      refine k_aload X635 hx (hb hby at_167) rfl rfl (pc' := 169) rfl ?_
      refine k_lload X635 hx (hb hby at_169) rfl (pc' := 171) rfl ?_
      refine k_callV X635 hx hZ hown (a := b5) (hw _ (List.mem_of_getElem? (i := 19) rfl)) (hw _ (List.mem_of_getElem? (i := 20) rfl)) (hw _ (List.mem_of_getElem? (i := 22) rfl)) (hw _ (List.mem_of_getElem? (i := 21) rfl)) (hw _ (List.mem_of_getElem? (i := 2) rfl)) (hw _ (List.mem_of_getElem? (i := 23) rfl)) (by decide) F667 (rm3_353 l Z a0 hw [] b5 i3 b661 b663 v4 i2 k662 k664 T635.heap n0 Z683 F667 F668 F669 F670 F671 F672 F673 F674 F675 F676 F679 F680 (Nat.lt_trans (Nat.lt_trans lt67 lt68) lt681) lt682) (by decide) (by decide) rfl (by rw [hml]; rfl) (argsL := [(.long i3)]) (rest := []) (lenOf pd_1 rfl) rfl (W := 0) (Nat.le_refl _) rfl (hb hby at_171) (by decide) (by decide) (pc' := 174) rfl (fun T715 L715 r715 X715 q715 => ?_)
      obtain ⟨N715, e715, q715⟩ := q715
      have N715' := Fr.app N635' N715
      rcases q715 with ⟨v716, h717, hc718, rfl⟩ | ⟨v719, h720, hc721, rfl⟩
      ·
       have hh722 : v704 = v716 := hv704.trans h717.symm
       subst hh722
       show KEnds p e below s _ _ _ T715 (mkF m 174 #[.val (.int i0), .val (.long i1), .second, .val (.long i2), .second, .val (.long i3), .second, .val (.long v4), .second, .val (.ref b5), .val (.int (2 : Int32)), .val (.int (0 : Int32)), .val (.int (1 : Int32)), .val (.long i2), .second, .val (.int (1 : Int32))] [(.int (0 : Int32))])
       exact absurd hc705 hc718
      ·
       have hh723 : v704 = v719 := hv704.trans h720.symm
       subst hh723
       show KEnds p e below s _ _ _ T715 (mkF m 174 #[.val (.int i0), .val (.long i1), .second, .val (.long i2), .second, .val (.long i3), .second, .val (.long v4), .second, .val (.ref b5), .val (.int (2 : Int32)), .val (.int (0 : Int32)), .val (.int (1 : Int32)), .val (.long i2), .second, .val (.int (1 : Int32))] [(.int (1 : Int32))])
       refine k_iload X715 hx (hb hby at_174) rfl (pc' := 176) rfl ?_
       refine k_icmp_ne X715 hx (hb hby at_176) (pn := 179) rfl (py := 183) (by decide) (fun hc => absurd (by decide) hc) (fun _ => ?_)
       refine k_iconst X715 hx (hb hby at_179) (pc' := 180) rfl (z := (1 : Int32)) rfl ?_
       refine k_goto X715 hx (hb hby at_180) (pc' := 184) (by decide) ?_
       exact k_retN X715 hx (t := .boolean) Bd.returns (by simp) (hb hby at_184) hlk (by decide) (by decide) (z' := (1 : Int32)) rfl ⟨rfl, N715'⟩
  ·
   refine k_aload X377 hx (hb hby at_60) rfl rfl (pc' := 62) rfl ?_
   refine k_lconst X377 hx (hb hby at_62) (pc' := 63) rfl (z := (1 : Int64)) rfl ?_
   refine k_lloadN X377 hx (hb hby at_63) rfl (pc' := 64) rfl ?_
   refine k_callV X377 hx hZ hown (a := b5) (hw _ (List.mem_of_getElem? (i := 26) rfl)) (hw _ (List.mem_of_getElem? (i := 27) rfl)) (hw _ (List.mem_of_getElem? (i := 29) rfl)) (hw _ (List.mem_of_getElem? (i := 28) rfl)) (hw _ (List.mem_of_getElem? (i := 2) rfl)) (hw _ (List.mem_of_getElem? (i := 30) rfl)) (by decide) F55 (rm4_172 l Z a0 hw [] b5 i1 b51 b53 v4 k52 k54 T50.heap n0 Z69 F55 F56 F57 F58 F59 F60 F61 F62 F63 F64 g_b5 F65 g_b51 F66 g_b53 lt67 lt68) (by decide) (by decide) e377 (by rw [hml]; rfl) (argsL := [(.long (1 : Int64)), (.long i1)]) (rest := []) (lenOf pd_0 rfl) rfl (W := 0) (Nat.le_refl _) rfl (hb hby at_64) (by decide) (by decide) (pc' := 67) rfl (fun T724 L724 r724 X724 q724 => ?_)
   obtain ⟨N724, q724⟩ := q724
   have N724' := Fr.app N377' N724
   obtain ⟨b725, k726, b727, k728, rfl, F729, F730, F731, F732, F733, F734, F735, F736, F737, F738, F739, F740, F741, F742, g_b725, lt743, g_b727, lt744, Z745⟩ := q724
   show KEnds p e below s _ _ _ T724 (mkF m 67 #[.val (.int i0), .val (.long i1), .second, .val (.long i2), .second, .val (.long i3), .second, .val (.long v4), .second, .val (.ref b5), .val (.int (2 : Int32)), .val (.int (0 : Int32)), .unset, .unset, .unset, .unset] [])
   refine k_goto X724 hx (hb hby at_67) (pc' := 77) (by decide) ?_
   refine k_iload X724 hx (hb hby at_77) rfl (pc' := 79) rfl ?_
   refine k_iconst X724 hx (hb hby at_79) (pc' := 80) rfl (z := (2 : Int32)) rfl ?_
   refine k_icmp_lt X724 hx (hb hby at_80) (pn := 83) rfl (py := 107) (by decide) (fun hc => absurd hc (by decide)) (fun _ => ?_)
   refine k_iloadN X724 hx (hb hby at_83) rfl (pc' := 84) rfl ?_
   refine k_bipush X724 hx (hb hby at_84) (pc' := 86) rfl (z := (8 : Int32)) rfl ?_
   refine k_iand X724 hx (hb hby at_86) (pc' := 87) rfl (fun v746 hv746 => ?_)
   refine k_if_eq X724 hx (hb hby at_87) (pn := 90) rfl (py := 100) (by decide) (fun hc747 => ?_) (fun hc747 => ?_)
   ·
    refine k_aload X724 hx (hb hby at_100) rfl rfl (pc' := 102) rfl ?_
    refine k_lloadN X724 hx (hb hby at_102) rfl (pc' := 103) rfl ?_
    refine k_callV X724 hx hZ hown (a := b5) (hw _ (List.mem_of_getElem? (i := 74) rfl)) (hw _ (List.mem_of_getElem? (i := 75) rfl)) (hw _ (List.mem_of_getElem? (i := 77) rfl)) (hw _ (List.mem_of_getElem? (i := 76) rfl)) (hw _ (List.mem_of_getElem? (i := 2) rfl)) (hw _ (List.mem_of_getElem? (i := 78) rfl)) (by decide) F729 (rm13_748 l Z a0 hw [] b5 i2 b725 b727 v4 i1 b51 k52 b53 k54 k726 k728 T724.heap n0 Z745 F729 F730 F731 F732 F733 F734 F735 F736 F737 F738 g_b5 F739 g_b51 F740 g_b53 F741 g_b725 F742 g_b727 lt67 lt68 lt743 lt744) (by decide) (by decide) rfl (by rw [hml]; rfl) (argsL := [(.long i2)]) (rest := []) (lenOf pd_4 rfl) rfl (W := 0) (Nat.le_refl _) rfl (hb hby at_103) (by decide) (by decide) (pc' := 106) rfl (fun T1032 L1032 r1032 X1032 q1032 => ?_)
    obtain ⟨N1032, q1032⟩ := q1032
    have N1032' := Fr.app N724' N1032
    rcases q1032 with ⟨v1033, v1034, h1035, h1036, hc1037, hc1038, rfl, F1039, F1040, F1041, F1042, F1043, F1044, F1045, F1046, F1047, F1048, F1049, F1050, F1051, F1052, Z1053⟩ | ⟨v1054, v1055, h1056, h1057, hc1058, hc1059, rfl, F1060, F1061, F1062, F1063, F1064, F1065, F1066, F1067, F1068, F1069, F1070, F1071, F1072, F1073, Z1074⟩ | ⟨v1075, h1076, hc1077, hc1078, rfl, F1079, F1080, F1081, F1082, F1083, F1084, F1085, F1086, F1087, F1088, F1089, F1090, F1091, F1092, Z1093⟩ | ⟨v1094, h1095, hc1096, hc1097, rfl, F1098, F1099, F1100, F1101, F1102, F1103, F1104, F1105, F1106, F1107, F1108, F1109, F1110, F1111, Z1112⟩
    ·
     show KEnds p e below s _ _ _ T1032 (mkF m 106 #[.val (.int i0), .val (.long i1), .second, .val (.long i2), .second, .val (.long i3), .second, .val (.long v4), .second, .val (.ref b5), .val (.int (2 : Int32)), .val (.int (0 : Int32)), .unset, .unset, .unset, .unset] [(.long (1 : Int64))])
     refine k_pop2L X1032 hx (hb hby at_106) (pc' := 107) rfl ?_
     refine k_iload X1032 hx (hb hby at_107) rfl (pc' := 109) rfl ?_
     refine k_iconst X1032 hx (hb hby at_109) (pc' := 110) rfl (z := (1 : Int32)) rfl ?_
     refine k_icmp_lt X1032 hx (hb hby at_110) (pn := 113) rfl (py := 117) (by decide) (fun hc => absurd hc (by decide)) (fun _ => ?_)
     refine k_iconst X1032 hx (hb hby at_113) (pc' := 114) rfl (z := (1 : Int32)) rfl ?_
     refine k_goto X1032 hx (hb hby at_114) (pc' := 118) (by decide) ?_
     refine k_istore X1032 hx (hb hby at_118) (Ls' := #[.val (.int i0), .val (.long i1), .second, .val (.long i2), .second, .val (.long i3), .second, .val (.long v4), .second, .val (.ref b5), .val (.int (2 : Int32)), .val (.int (0 : Int32)), .val (.int (1 : Int32)), .unset, .unset, .unset]) rfl (pc' := 120) rfl ?_
     refine k_lloadN X1032 hx (hb hby at_120) rfl (pc' := 121) rfl ?_
     refine k_lstore X1032 hx (hb hby at_121) (Ls' := #[.val (.int i0), .val (.long i1), .second, .val (.long i2), .second, .val (.long i3), .second, .val (.long v4), .second, .val (.ref b5), .val (.int (2 : Int32)), .val (.int (0 : Int32)), .val (.int (1 : Int32)), .val (.long i1), .second, .unset]) rfl (pc' := 123) rfl ?_
     refine k_iload X1032 hx (hb hby at_123) rfl (pc' := 125) rfl ?_
     refine k_iconst X1032 hx (hb hby at_125) (pc' := 126) rfl (z := (2 : Int32)) rfl ?_
     refine k_icmp_lt X1032 hx (hb hby at_126) (pn := 129) rfl (py := 140) (by decide) (fun hc => absurd hc (by decide)) (fun _ => ?_)
     refine k_lloadN X1032 hx (hb hby at_129) rfl (pc' := 130) rfl ?_
     refine k_lloadN X1032 hx (hb hby at_130) rfl (pc' := 131) rfl ?_
     refine k_lsubL X1032 hx (hb hby at_131) (pc' := 132) rfl (z := v1033) h1035.symm ?_
     refine k_lconst X1032 hx (hb hby at_132) (pc' := 133) rfl (z := (0 : Int64)) rfl ?_
     refine k_lcif_le X1032 hx (hb hby at_133) (pm := 134) rfl (hb hby at_134) (pn := 137) rfl (py := 140) (by decide) (fun _ => ?_) (fun hc => absurd hc hc1037)
     refine k_iload X1032 hx (hb hby at_140) rfl (pc' := 142) rfl ?_
     refine k_if_eq X1032 hx (hb hby at_142) (pn := 145) rfl (py := 159) (by decide) (fun hc => absurd hc (by decide)) (fun _ => ?_)
     refine k_lload X1032 hx (hb hby at_145) rfl (pc' := 147) rfl ?_
     refine k_lload X1032 hx (hb hby at_147) rfl (pc' := 149) rfl ?_
     refine k_lsub X1032 hx (hb hby at_149) (pc' := 150) rfl (fun v1113 hv1113 => ?_)
     refine k_lconst X1032 hx (hb hby at_150) (pc' := 151) rfl (z := (0 : Int64)) rfl ?_
     refine k_lcif_le X1032 hx (hb hby at_151) (pm := 152) rfl (hb hby at_152) (pn := 155) rfl (py := 159) (by decide) (fun hc1114 => ?_) (fun hc1114 => ?_)
     ·
      refine k_iconst X1032 hx (hb hby at_159) (pc' := 160) rfl (z := (0 : Int32)) rfl ?_
      refine k_istore X1032 hx (hb hby at_160) (Ls' := #[.val (.int i0), .val (.long i1), .second, .val (.long i2), .second, .val (.long i3), .second, .val (.long v4), .second, .val (.ref b5), .val (.int (2 : Int32)), .val (.int (0 : Int32)), .val (.int (1 : Int32)), .val (.long i1), .second, .val (.int (0 : Int32))]) rfl (pc' := 162) rfl ?_
      refine k_iload X1032 hx (hb hby at_162) rfl (pc' := 164) rfl ?_
      refine k_if_ne X1032 hx (hb hby at_164) (pn := 167) rfl (py := 183) (by decide) (fun hc => absurd (by decide) hc) (fun _ => ?_)
      refine k_aload X1032 hx (hb hby at_167) rfl rfl (pc' := 169) rfl ?_
      refine k_lload X1032 hx (hb hby at_169) rfl (pc' := 171) rfl ?_
      refine k_callV X1032 hx hZ hown (a := b5) (hw _ (List.mem_of_getElem? (i := 19) rfl)) (hw _ (List.mem_of_getElem? (i := 20) rfl)) (hw _ (List.mem_of_getElem? (i := 22) rfl)) (hw _ (List.mem_of_getElem? (i := 21) rfl)) (hw _ (List.mem_of_getElem? (i := 2) rfl)) (hw _ (List.mem_of_getElem? (i := 23) rfl)) (by decide) F1039 (rm3_353 l Z a0 hw [] b5 i3 b725 b727 v4 i1 k726 k728 T1032.heap n0 Z1053 F1039 F1040 F1041 F1042 F1043 F1044 F1045 F1046 F1047 F1048 F1051 F1052 (Nat.lt_trans (Nat.lt_trans lt67 lt68) lt743) lt744) (by decide) (by decide) rfl (by rw [hml]; rfl) (argsL := [(.long i3)]) (rest := []) (lenOf pd_1 rfl) rfl (W := 0) (Nat.le_refl _) rfl (hb hby at_171) (by decide) (by decide) (pc' := 174) rfl (fun T1115 L1115 r1115 X1115 q1115 => ?_)
      obtain ⟨N1115, e1115, q1115⟩ := q1115
      have N1115' := Fr.app N1032' N1115
      rcases q1115 with ⟨v1116, h1117, hc1118, rfl⟩ | ⟨v1119, h1120, hc1121, rfl⟩
      ·
       have hh1122 : v1113 = v1116 := hv1113.trans h1117.symm
       subst hh1122
       show KEnds p e below s _ _ _ T1115 (mkF m 174 #[.val (.int i0), .val (.long i1), .second, .val (.long i2), .second, .val (.long i3), .second, .val (.long v4), .second, .val (.ref b5), .val (.int (2 : Int32)), .val (.int (0 : Int32)), .val (.int (1 : Int32)), .val (.long i1), .second, .val (.int (0 : Int32))] [(.int (0 : Int32))])
       refine k_iload X1115 hx (hb hby at_174) rfl (pc' := 176) rfl ?_
       refine k_icmp_ne X1115 hx (hb hby at_176) (pn := 179) rfl (py := 183) (by decide) (fun hc => absurd (by decide) hc) (fun _ => ?_)
       refine k_iconst X1115 hx (hb hby at_179) (pc' := 180) rfl (z := (1 : Int32)) rfl ?_
       refine k_goto X1115 hx (hb hby at_180) (pc' := 184) (by decide) ?_
       exact k_retN X1115 hx (t := .boolean) Bd.returns (by simp) (hb hby at_184) hlk (by decide) (by decide) (z' := (1 : Int32)) rfl ⟨rfl, N1115'⟩
      ·
       have hh1123 : v1113 = v1119 := hv1113.trans h1120.symm
       subst hh1123
       show KEnds p e below s _ _ _ T1115 (mkF m 174 #[.val (.int i0), .val (.long i1), .second, .val (.long i2), .second, .val (.long i3), .second, .val (.long v4), .second, .val (.ref b5), .val (.int (2 : Int32)), .val (.int (0 : Int32)), .val (.int (1 : Int32)), .val (.long i1), .second, .val (.int (0 : Int32))] [(.int (1 : Int32))])
       exact absurd hc1121 hc1114
     ·
      refine k_iconst X1032 hx (hb hby at_155) (pc' := 156) rfl (z := (1 : Int32)) rfl ?_
      refine k_goto X1032 hx (hb hby at_156) (pc' := 160) (by decide) ?_
      refine k_istore X1032 hx (hb hby at_160) (Ls' := #[.val (.int i0), .val (.long i1), .second, .val (.long i2), .second, .val (.long i3), .second, .val (.long v4), .second, .val (.ref b5), .val (.int (2 : Int32)), .val (.int (0 : Int32)), .val (.int (1 : Int32)), .val (.long i1), .second, .val (.int (1 : Int32))]) rfl (pc' := 162) rfl ?_
      refine k_iload X1032 hx (hb hby at_162) rfl (pc' := 164) rfl ?_
      refine k_if_ne X1032 hx (hb hby at_164) (pn := 167) rfl (py := 183) (by decide) (fun hc => absurd (by decide) hc) (fun _ => ?_)
      refine k_aload X1032 hx (hb hby at_167) rfl rfl (pc' := 169) rfl ?_
      refine k_lload X1032 hx (hb hby at_169) rfl (pc' := 171) rfl ?_
      refine k_callV X1032 hx hZ hown (a := b5) (hw _ (List.mem_of_getElem? (i := 19) rfl)) (hw _ (List.mem_of_getElem? (i := 20) rfl)) (hw _ (List.mem_of_getElem? (i := 22) rfl)) (hw _ (List.mem_of_getElem? (i := 21) rfl)) (hw _ (List.mem_of_getElem? (i := 2) rfl)) (hw _ (List.mem_of_getElem? (i := 23) rfl)) (by decide) F1039 (rm3_353 l Z a0 hw [] b5 i3 b725 b727 v4 i1 k726 k728 T1032.heap n0 Z1053 F1039 F1040 F1041 F1042 F1043 F1044 F1045 F1046 F1047 F1048 F1051 F1052 (Nat.lt_trans (Nat.lt_trans lt67 lt68) lt743) lt744) (by decide) (by decide) rfl (by rw [hml]; rfl) (argsL := [(.long i3)]) (rest := []) (lenOf pd_1 rfl) rfl (W := 0) (Nat.le_refl _) rfl (hb hby at_171) (by decide) (by decide) (pc' := 174) rfl (fun T1124 L1124 r1124 X1124 q1124 => ?_)
      obtain ⟨N1124, e1124, q1124⟩ := q1124
      have N1124' := Fr.app N1032' N1124
      rcases q1124 with ⟨v1125, h1126, hc1127, rfl⟩ | ⟨v1128, h1129, hc1130, rfl⟩
      ·
       have hh1131 : v1113 = v1125 := hv1113.trans h1126.symm
       subst hh1131
       show KEnds p e below s _ _ _ T1124 (mkF m 174 #[.val (.int i0), .val (.long i1), .second, .val (.long i2), .second, .val (.long i3), .second, .val (.long v4), .second, .val (.ref b5), .val (.int (2 : Int32)), .val (.int (0 : Int32)), .val (.int (1 : Int32)), .val (.long i1), .second, .val (.int (1 : Int32))] [(.int (0 : Int32))])
       exact absurd hc1114 hc1127
      ·
       have hh1132 : v1113 = v1128 := hv1113.trans h1129.symm
       subst hh1132
       show KEnds p e below s _ _ _ T1124 (mkF m 174 #[.val (.int i0), .val (.long i1), .second, .val (.long i2), .second, .val (.long i3), .second, .val (.long v4), .second, .val (.ref b5), .val (.int (2 : Int32)), .val (.int (0 : Int32)), .val (.int (1 : Int32)), .val (.long i1), .second, .val (.int (1 : Int32))] [(.int (1 : Int32))])
       refine k_iload X1124 hx (hb hby at_174) rfl (pc' := 176) rfl ?_
       refine k_icmp_ne X1124 hx (hb hby at_176) (pn := 179) rfl (py := 183) (by decide) (fun hc => absurd (by decide) hc) (fun _ => ?_)
       refine k_iconst X1124 hx (hb hby at_179) (pc' := 180) rfl (z := (1 : Int32)) rfl ?_
       refine k_goto X1124 hx (hb hby at_180) (pc' := 184) (by decide) ?_
       exact k_retN X1124 hx (t := .boolean) Bd.returns (by simp) (hb hby at_184) hlk (by decide) (by decide) (z' := (1 : Int32)) rfl ⟨rfl, N1124'⟩
    ·
     show KEnds p e below s _ _ _ T1032 (mkF m 106 #[.val (.int i0), .val (.long i1), .second, .val (.long i2), .second, .val (.long i3), .second, .val (.long v4), .second, .val (.ref b5), .val (.int (2 : Int32)), .val (.int (0 : Int32)), .unset, .unset, .unset, .unset] [(.long (0 : Int64))])
     refine k_pop2L X1032 hx (hb hby at_106) (pc' := 107) rfl ?_
     refine k_iload X1032 hx (hb hby at_107) rfl (pc' := 109) rfl ?_
     refine k_iconst X1032 hx (hb hby at_109) (pc' := 110) rfl (z := (1 : Int32)) rfl ?_
     refine k_icmp_lt X1032 hx (hb hby at_110) (pn := 113) rfl (py := 117) (by decide) (fun hc => absurd hc (by decide)) (fun _ => ?_)
     refine k_iconst X1032 hx (hb hby at_113) (pc' := 114) rfl (z := (1 : Int32)) rfl ?_
     refine k_goto X1032 hx (hb hby at_114) (pc' := 118) (by decide) ?_
     refine k_istore X1032 hx (hb hby at_118) (Ls' := #[.val (.int i0), .val (.long i1), .second, .val (.long i2), .second, .val (.long i3), .second, .val (.long v4), .second, .val (.ref b5), .val (.int (2 : Int32)), .val (.int (0 : Int32)), .val (.int (1 : Int32)), .unset, .unset, .unset]) rfl (pc' := 120) rfl ?_
     refine k_lloadN X1032 hx (hb hby at_120) rfl (pc' := 121) rfl ?_
     refine k_lstore X1032 hx (hb hby at_121) (Ls' := #[.val (.int i0), .val (.long i1), .second, .val (.long i2), .second, .val (.long i3), .second, .val (.long v4), .second, .val (.ref b5), .val (.int (2 : Int32)), .val (.int (0 : Int32)), .val (.int (1 : Int32)), .val (.long i1), .second, .unset]) rfl (pc' := 123) rfl ?_
     refine k_iload X1032 hx (hb hby at_123) rfl (pc' := 125) rfl ?_
     refine k_iconst X1032 hx (hb hby at_125) (pc' := 126) rfl (z := (2 : Int32)) rfl ?_
     refine k_icmp_lt X1032 hx (hb hby at_126) (pn := 129) rfl (py := 140) (by decide) (fun hc => absurd hc (by decide)) (fun _ => ?_)
     refine k_lloadN X1032 hx (hb hby at_129) rfl (pc' := 130) rfl ?_
     refine k_lloadN X1032 hx (hb hby at_130) rfl (pc' := 131) rfl ?_
     refine k_lsubL X1032 hx (hb hby at_131) (pc' := 132) rfl (z := v1054) h1056.symm ?_
     refine k_lconst X1032 hx (hb hby at_132) (pc' := 133) rfl (z := (0 : Int64)) rfl ?_
     refine k_lcif_le X1032 hx (hb hby at_133) (pm := 134) rfl (hb hby at_134) (pn := 137) rfl (py := 140) (by decide) (fun _ => ?_) (fun hc => absurd hc hc1058)
     refine k_iload X1032 hx (hb hby at_140) rfl (pc' := 142) rfl ?_
     refine k_if_eq X1032 hx (hb hby at_142) (pn := 145) rfl (py := 159) (by decide) (fun hc => absurd hc (by decide)) (fun _ => ?_)
     refine k_lload X1032 hx (hb hby at_145) rfl (pc' := 147) rfl ?_
     refine k_lload X1032 hx (hb hby at_147) rfl (pc' := 149) rfl ?_
     refine k_lsub X1032 hx (hb hby at_149) (pc' := 150) rfl (fun v1133 hv1133 => ?_)
     refine k_lconst X1032 hx (hb hby at_150) (pc' := 151) rfl (z := (0 : Int64)) rfl ?_
     refine k_lcif_le X1032 hx (hb hby at_151) (pm := 152) rfl (hb hby at_152) (pn := 155) rfl (py := 159) (by decide) (fun hc1134 => ?_) (fun hc1134 => ?_)
     ·
      refine k_iconst X1032 hx (hb hby at_159) (pc' := 160) rfl (z := (0 : Int32)) rfl ?_
      refine k_istore X1032 hx (hb hby at_160) (Ls' := #[.val (.int i0), .val (.long i1), .second, .val (.long i2), .second, .val (.long i3), .second, .val (.long v4), .second, .val (.ref b5), .val (.int (2 : Int32)), .val (.int (0 : Int32)), .val (.int (1 : Int32)), .val (.long i1), .second, .val (.int (0 : Int32))]) rfl (pc' := 162) rfl ?_
      refine k_iload X1032 hx (hb hby at_162) rfl (pc' := 164) rfl ?_
      refine k_if_ne X1032 hx (hb hby at_164) (pn := 167) rfl (py := 183) (by decide) (fun hc => absurd (by decide) hc) (fun _ => ?_)
      refine k_aload X1032 hx (hb hby at_167) rfl rfl (pc' := 169) rfl ?_
      refine k_lload X1032 hx (hb hby at_169) rfl (pc' := 171) rfl ?_
      refine k_callV X1032 hx hZ hown (a := b5) (hw _ (List.mem_of_getElem? (i := 19) rfl)) (hw _ (List.mem_of_getElem? (i := 20) rfl)) (hw _ (List.mem_of_getElem? (i := 22) rfl)) (hw _ (List.mem_of_getElem? (i := 21) rfl)) (hw _ (List.mem_of_getElem? (i := 2) rfl)) (hw _ (List.mem_of_getElem? (i := 23) rfl)) (by decide) F1060 (rm3_1135 l Z a0 hw [] b5 i3 b725 b727 v4 i1 k726 k728 T1032.heap n0 Z1074 F1060 F1061 F1062 F1063 F1064 F1065 F1066 F1067 F1068 F1069 F1072 F1073 (Nat.lt_trans (Nat.lt_trans lt67 lt68) lt743) lt744) (by decide) (by decide) rfl (by rw [hml]; rfl) (argsL := [(.long i3)]) (rest := []) (lenOf pd_1 rfl) rfl (W := 0) (Nat.le_refl _) rfl (hb hby at_171) (by decide) (by decide) (pc' := 174) rfl (fun T1140 L1140 r1140 X1140 q1140 => ?_)
      obtain ⟨N1140, e1140, q1140⟩ := q1140
      have N1140' := Fr.app N1032' N1140
      rcases q1140 with ⟨v1141, h1142, hc1143, rfl⟩ | ⟨v1144, h1145, hc1146, rfl⟩
      ·
       have hh1147 : v1133 = v1141 := hv1133.trans h1142.symm
       subst hh1147
       show KEnds p e below s _ _ _ T1140 (mkF m 174 #[.val (.int i0), .val (.long i1), .second, .val (.long i2), .second, .val (.long i3), .second, .val (.long v4), .second, .val (.ref b5), .val (.int (2 : Int32)), .val (.int (0 : Int32)), .val (.int (1 : Int32)), .val (.long i1), .second, .val (.int (0 : Int32))] [(.int (0 : Int32))])
       refine k_iload X1140 hx (hb hby at_174) rfl (pc' := 176) rfl ?_
       refine k_icmp_ne X1140 hx (hb hby at_176) (pn := 179) rfl (py := 183) (by decide) (fun hc => absurd (by decide) hc) (fun _ => ?_)
       refine k_iconst X1140 hx (hb hby at_179) (pc' := 180) rfl (z := (1 : Int32)) rfl ?_
       refine k_goto X1140 hx (hb hby at_180) (pc' := 184) (by decide) ?_
       exact k_retN X1140 hx (t := .boolean) Bd.returns (by simp) (hb hby at_184) hlk (by decide) (by decide) (z' := (1 : Int32)) rfl ⟨rfl, N1140'⟩
      ·
       have hh1148 : v1133 = v1144 := hv1133.trans h1145.symm
       subst hh1148
       show KEnds p e below s _ _ _ T1140 (mkF m 174 #[.val (.int i0), .val (.long i1), .second, .val (.long i2), .second, .val (.long i3), .second, .val (.long v4), .second, .val (.ref b5), .val (.int (2 : Int32)), .val (.int (0 : Int32)), .val (.int (1 : Int32)), .val (.long i1), .second, .val (.int (0 : Int32))] [(.int (1 : Int32))])
       exact absurd hc1146 hc1134
     ·
      refine k_iconst X1032 hx (hb hby at_155) (pc' := 156) rfl (z := (1 : Int32)) rfl ?_
      refine k_goto X1032 hx (hb hby at_156) (pc' := 160) (by decide) ?_
      refine k_istore X1032 hx (hb hby at_160) (Ls' := #[.val (.int i0), .val (.long i1), .second, .val (.long i2), .second, .val (.long i3), .second, .val (.long v4), .second, .val (.ref b5), .val (.int (2 : Int32)), .val (.int (0 : Int32)), .val (.int (1 : Int32)), .val (.long i1), .second, .val (.int (1 : Int32))]) rfl (pc' := 162) rfl ?_
      refine k_iload X1032 hx (hb hby at_162) rfl (pc' := 164) rfl ?_
      refine k_if_ne X1032 hx (hb hby at_164) (pn := 167) rfl (py := 183) (by decide) (fun hc => absurd (by decide) hc) (fun _ => ?_)
      refine k_aload X1032 hx (hb hby at_167) rfl rfl (pc' := 169) rfl ?_
      refine k_lload X1032 hx (hb hby at_169) rfl (pc' := 171) rfl ?_
      refine k_callV X1032 hx hZ hown (a := b5) (hw _ (List.mem_of_getElem? (i := 19) rfl)) (hw _ (List.mem_of_getElem? (i := 20) rfl)) (hw _ (List.mem_of_getElem? (i := 22) rfl)) (hw _ (List.mem_of_getElem? (i := 21) rfl)) (hw _ (List.mem_of_getElem? (i := 2) rfl)) (hw _ (List.mem_of_getElem? (i := 23) rfl)) (by decide) F1060 (rm3_1135 l Z a0 hw [] b5 i3 b725 b727 v4 i1 k726 k728 T1032.heap n0 Z1074 F1060 F1061 F1062 F1063 F1064 F1065 F1066 F1067 F1068 F1069 F1072 F1073 (Nat.lt_trans (Nat.lt_trans lt67 lt68) lt743) lt744) (by decide) (by decide) rfl (by rw [hml]; rfl) (argsL := [(.long i3)]) (rest := []) (lenOf pd_1 rfl) rfl (W := 0) (Nat.le_refl _) rfl (hb hby at_171) (by decide) (by decide) (pc' := 174) rfl (fun T1149 L1149 r1149 X1149 q1149 => ?_)
      obtain ⟨N1149, e1149, q1149⟩ := q1149
      have N1149' := Fr.app N1032' N1149
      rcases q1149 with ⟨v1150, h1151, hc1152, rfl⟩ | ⟨v1153, h1154, hc1155, rfl⟩
      ·
       have hh1156 : v1133 = v1150 := hv1133.trans h1151.symm
       subst hh1156
       show KEnds p e below s _ _ _ T1149 (mkF m 174 #[.val (.int i0), .val (.long i1), .second, .val (.long i2), .second, .val (.long i3), .second, .val (.long v4), .second, .val (.ref b5), .val (.int (2 : Int32)), .val (.int (0 : Int32)), .val (.int (1 : Int32)), .val (.long i1), .second, .val (.int (1 : Int32))] [(.int (0 : Int32))])
       exact absurd hc1134 hc1152
      ·
       have hh1157 : v1133 = v1153 := hv1133.trans h1154.symm
       subst hh1157
       show KEnds p e below s _ _ _ T1149 (mkF m 174 #[.val (.int i0), .val (.long i1), .second, .val (.long i2), .second, .val (.long i3), .second, .val (.long v4), .second, .val (.ref b5), .val (.int (2 : Int32)), .val (.int (0 : Int32)), .val (.int (1 : Int32)), .val (.long i1), .second, .val (.int (1 : Int32))] [(.int (1 : Int32))])
       refine k_iload X1149 hx (hb hby at_174) rfl (pc' := 176) rfl ?_
       refine k_icmp_ne X1149 hx (hb hby at_176) (pn := 179) rfl (py := 183) (by decide) (fun hc => absurd (by decide) hc) (fun _ => ?_)
       refine k_iconst X1149 hx (hb hby at_179) (pc' := 180) rfl (z := (1 : Int32)) rfl ?_
       refine k_goto X1149 hx (hb hby at_180) (pc' := 184) (by decide) ?_
       exact k_retN X1149 hx (t := .boolean) Bd.returns (by simp) (hb hby at_184) hlk (by decide) (by decide) (z' := (1 : Int32)) rfl ⟨rfl, N1149'⟩
    ·
     show KEnds p e below s _ _ _ T1032 (mkF m 106 #[.val (.int i0), .val (.long i1), .second, .val (.long i2), .second, .val (.long i3), .second, .val (.long v4), .second, .val (.ref b5), .val (.int (2 : Int32)), .val (.int (0 : Int32)), .unset, .unset, .unset, .unset] [(.long (1 : Int64))])
     refine k_pop2L X1032 hx (hb hby at_106) (pc' := 107) rfl ?_
     refine k_iload X1032 hx (hb hby at_107) rfl (pc' := 109) rfl ?_
     refine k_iconst X1032 hx (hb hby at_109) (pc' := 110) rfl (z := (1 : Int32)) rfl ?_
     refine k_icmp_lt X1032 hx (hb hby at_110) (pn := 113) rfl (py := 117) (by decide) (fun hc => absurd hc (by decide)) (fun _ => ?_)
     refine k_iconst X1032 hx (hb hby at_113) (pc' := 114) rfl (z := (1 : Int32)) rfl ?_
     refine k_goto X1032 hx (hb hby at_114) (pc' := 118) (by decide) ?_
     refine k_istore X1032 hx (hb hby at_118) (Ls' := #[.val (.int i0), .val (.long i1), .second, .val (.long i2), .second, .val (.long i3), .second, .val (.long v4), .second, .val (.ref b5), .val (.int (2 : Int32)), .val (.int (0 : Int32)), .val (.int (1 : Int32)), .unset, .unset, .unset]) rfl (pc' := 120) rfl ?_
     refine k_lloadN X1032 hx (hb hby at_120) rfl (pc' := 121) rfl ?_
     refine k_lstore X1032 hx (hb hby at_121) (Ls' := #[.val (.int i0), .val (.long i1), .second, .val (.long i2), .second, .val (.long i3), .second, .val (.long v4), .second, .val (.ref b5), .val (.int (2 : Int32)), .val (.int (0 : Int32)), .val (.int (1 : Int32)), .val (.long i1), .second, .unset]) rfl (pc' := 123) rfl ?_
     refine k_iload X1032 hx (hb hby at_123) rfl (pc' := 125) rfl ?_
     refine k_iconst X1032 hx (hb hby at_125) (pc' := 126) rfl (z := (2 : Int32)) rfl ?_
     refine k_icmp_lt X1032 hx (hb hby at_126) (pn := 129) rfl (py := 140) (by decide) (fun hc => absurd hc (by decide)) (fun _ => ?_)
     refine k_lloadN X1032 hx (hb hby at_129) rfl (pc' := 130) rfl ?_
     refine k_lloadN X1032 hx (hb hby at_130) rfl (pc' := 131) rfl ?_
     refine k_lsubL X1032 hx (hb hby at_131) (pc' := 132) rfl (z := v1075) h1076.symm ?_
     refine k_lconst X1032 hx (hb hby at_132) (pc' := 133) rfl (z := (0 : Int64)) rfl ?_
     refine k_lcif_le X1032 hx (hb hby at_133) (pm := 134) rfl (hb hby at_134) (pn := 137) rfl (py := 140) (by decide) (fun hc => absurd hc1077 hc) (fun _ => ?_)
     refine k_lloadN X1032 hx (hb hby at_137) rfl (pc' := 138) rfl ?_
     refine k_lstore X1032 hx (hb hby at_138) (Ls' := #[.val (.int i0), .val (.long i1), .second, .val (.long i2), .second, .val (.long i3), .second, .val (.long v4), .second, .val (.ref b5), .val (.int (2 : Int32)), .val (.int (0 : Int32)), .val (.int (1 : Int32)), .val (.long i2), .second, .unset]) rfl (pc' := 140) rfl ?_
     refine k_iload X1032 hx (hb hby at_140) rfl (pc' := 142) rfl ?_
     refine k_if_eq X1032 hx (hb hby at_142) (pn := 145) rfl (py := 159) (by decide) (fun hc => absurd hc (by decide)) (fun _ => ?_)
     refine k_lload X1032 hx (hb hby at_145) rfl (pc' := 147) rfl ?_
     refine k_lload X1032 hx (hb hby at_147) rfl (pc' := 149) rfl ?_
     refine k_lsub X1032 hx (hb hby at_149) (pc' := 150) rfl (fun v1158 hv1158 => ?_)
     refine k_lconst X1032 hx (hb hby at_150) (pc' := 151) rfl (z := (0 : Int64)) rfl ?_
     refine k_lcif_le X1032 hx (hb hby at_151) (pm := 152) rfl (hb hby at_152) (pn := 155) rfl (py := 159) (by decide) (fun hc1159 => ?_) (fun hc1159 => ?_)
     ·
      refine k_iconst X1032 hx (hb hby at_159) (pc' := 160) rfl (z := (0 : Int32)) rfl ?_
      refine k_istore X1032 hx (hb hby at_160) (Ls' := #[.val (.int i0), .val (.long i1), .second, .val (.long i2), .second, .val (.long i3), .second, .val (.long v4), .second, .val (.ref b5), .val (.int (2 : Int32)), .val (.int (0 : Int32)), .val (.int (1 : Int32)), .val (.long i2), .second, .val (.int (0 : Int32))]) rfl (pc' := 162) rfl ?_
      refine k_iload X1032 hx (hb hby at_162) rfl (pc' := 164) rfl ?_
      refine k_if_ne X1032 hx (hb hby at_164) (pn := 167) rfl (py := 183) (by decide) (fun hc => absurd (by decide) hc) (fun _ => ?_)
      refine k_aload X1032 hx (hb hby at_167) rfl rfl (pc' := 169) rfl ?_
      refine k_lload X1032 hx (hb hby at_169) rfl (pc' := 171) rfl ?_
      refine k_callV X1032 hx hZ hown (a := b5) (hw _ (List.mem_of_getElem? (i := 19) rfl)) (hw _ (List.mem_of_getElem? (i := 20) rfl)) (hw _ (List.mem_of_getElem? (i := 22) rfl)) (hw _ (List.mem_of_getElem? (i := 21) rfl)) (hw _ (List.mem_of_getElem? (i := 2) rfl)) (hw _ (List.mem_of_getElem? (i := 23) rfl)) (by decide) F1079 (rm3_1160 l Z a0 hw [] b5 i3 b725 b727 v4 i2 k726 i1 k728 T1032.heap n0 Z1093 F1079 F1080 F1081 F1082 F1083 F1084 F1085 F1086 F1087 F1088 F1091 F1092 (Nat.lt_trans (Nat.lt_trans lt67 lt68) lt743) lt744) (by decide) (by decide) rfl (by rw [hml]; rfl) (argsL := [(.long i3)]) (rest := []) (lenOf pd_1 rfl) rfl (W := 0) (Nat.le_refl _) rfl (hb hby at_171) (by decide) (by decide) (pc' := 174) rfl (fun T1165 L1165 r1165 X1165 q1165 => ?_)
      obtain ⟨N1165, e1165, q1165⟩ := q1165
      have N1165' := Fr.app N1032' N1165
      rcases q1165 with ⟨v1166, h1167, hc1168, rfl⟩ | ⟨v1169, h1170, hc1171, rfl⟩
      ·
       have hh1172 : v1158 = v1166 := hv1158.trans h1167.symm
       subst hh1172
       show KEnds p e below s _ _ _ T1165 (mkF m 174 #[.val (.int i0), .val (.long i1), .second, .val (.long i2), .second, .val (.long i3), .second, .val (.long v4), .second, .val (.ref b5), .val (.int (2 : Int32)), .val (.int (0 : Int32)), .val (.int (1 : Int32)), .val (.long i2), .second, .val (.int (0 : Int32))] [(.int (0 : Int32))])
       refine k_iload X1165 hx (hb hby at_174) rfl (pc' := 176) rfl ?_
       refine k_icmp_ne X1165 hx (hb hby at_176) (pn := 179) rfl (py := 183) (by decide) (fun hc => absurd (by decide) hc) (fun _ => ?_)
       refine k_iconst X1165 hx (hb hby at_179) (pc' := 180) rfl (z := (1 : Int32)) rfl ?_
       refine k_goto X1165 hx (hb hby at_180) (pc' := 184) (by decide) ?_
       exact k_retN X1165 hx (t := .boolean) Bd.returns (by simp) (hb hby at_184) hlk (by decide) (by decide) (z' := (1 : Int32)) rfl ⟨rfl, N1165'⟩
      ·
       have hh1173 : v1158 = v1169 := hv1158.trans h1170.symm
       subst hh1173
       show KEnds p e below s _ _ _ T1165 (mkF m 174 #[.val (.int i0), .val (.long i1), .second, .val (.long i2), .second, .val (.long i3), .second, .val (.long v4), .second, .val (.ref b5), .val (.int (2 : Int32)), .val (.int (0 : Int32)), .val (.int (1 : Int32)), .val (.long i2), .second, .val (.int (0 : Int32))] [(.int (1 : Int32))])
       exact absurd hc1171 hc1159
     ·
      refine k_iconst X1032 hx (hb hby at_155) (pc' := 156) rfl (z := (1 : Int32)) rfl ?_
      refine k_goto X1032 hx (hb hby at_156) (pc' := 160) (by decide) ?_
      refine k_istore X1032 hx (hb hby at_160) (Ls' := #[.val (.int i0), .val (.long i1), .second, .val (.long i2), .second, .val (.long i3), .second, .val (.long v4), .second, .val (.ref b5), .val (.int (2 : Int32)), .val (.int (0 : Int32)), .val (.int (1 : Int32)), .val (.long i2), .second, .val (.int (1 : Int32))]) rfl (pc' := 162) rfl ?_
      refine k_iload X1032 hx (hb hby at_162) rfl (pc' := 164) rfl ?_
      refine k_if_ne X1032 hx (hb hby at_164) (pn := 167) rfl (py := 183) (by decide) (fun hc => absurd (by decide) hc) (fun _ => ?_)
      refine k_aload X1032 hx (hb hby at_167) rfl rfl (pc' := 169) rfl ?_
      refine k_lload X1032 hx (hb hby at_169) rfl (pc' := 171) rfl ?_
      refine k_callV X1032 hx hZ hown (a := b5) (hw _ (List.mem_of_getElem? (i := 19) rfl)) (hw _ (List.mem_of_getElem? (i := 20) rfl)) (hw _ (List.mem_of_getElem? (i := 22) rfl)) (hw _ (List.mem_of_getElem? (i := 21) rfl)) (hw _ (List.mem_of_getElem? (i := 2) rfl)) (hw _ (List.mem_of_getElem? (i := 23) rfl)) (by decide) F1079 (rm3_1160 l Z a0 hw [] b5 i3 b725 b727 v4 i2 k726 i1 k728 T1032.heap n0 Z1093 F1079 F1080 F1081 F1082 F1083 F1084 F1085 F1086 F1087 F1088 F1091 F1092 (Nat.lt_trans (Nat.lt_trans lt67 lt68) lt743) lt744) (by decide) (by decide) rfl (by rw [hml]; rfl) (argsL := [(.long i3)]) (rest := []) (lenOf pd_1 rfl) rfl (W := 0) (Nat.le_refl _) rfl (hb hby at_171) (by decide) (by decide) (pc' := 174) rfl (fun T1174 L1174 r1174 X1174 q1174 => ?_)
      obtain ⟨N1174, e1174, q1174⟩ := q1174
      have N1174' := Fr.app N1032' N1174
      rcases q1174 with ⟨v1175, h1176, hc1177, rfl⟩ | ⟨v1178, h1179, hc1180, rfl⟩
      ·
       have hh1181 : v1158 = v1175 := hv1158.trans h1176.symm
       subst hh1181
       show KEnds p e below s _ _ _ T1174 (mkF m 174 #[.val (.int i0), .val (.long i1), .second, .val (.long i2), .second, .val (.long i3), .second, .val (.long v4), .second, .val (.ref b5), .val (.int (2 : Int32)), .val (.int (0 : Int32)), .val (.int (1 : Int32)), .val (.long i2), .second, .val (.int (1 : Int32))] [(.int (0 : Int32))])
       exact absurd hc1159 hc1177
      ·
       have hh1182 : v1158 = v1178 := hv1158.trans h1179.symm
       subst hh1182
       show KEnds p e below s _ _ _ T1174 (mkF m 174 #[.val (.int i0), .val (.long i1), .second, .val (.long i2), .second, .val (.long i3), .second, .val (.long v4), .second, .val (.ref b5), .val (.int (2 : Int32)), .val (.int (0 : Int32)), .val (.int (1 : Int32)), .val (.long i2), .second, .val (.int (1 : Int32))] [(.int (1 : Int32))])
       refine k_iload X1174 hx (hb hby at_174) rfl (pc' := 176) rfl ?_
       refine k_icmp_ne X1174 hx (hb hby at_176) (pn := 179) rfl (py := 183) (by decide) (fun hc => absurd (by decide) hc) (fun _ => ?_)
       refine k_iconst X1174 hx (hb hby at_179) (pc' := 180) rfl (z := (1 : Int32)) rfl ?_
       refine k_goto X1174 hx (hb hby at_180) (pc' := 184) (by decide) ?_
       exact k_retN X1174 hx (t := .boolean) Bd.returns (by simp) (hb hby at_184) hlk (by decide) (by decide) (z' := (1 : Int32)) rfl ⟨rfl, N1174'⟩
    ·
     show KEnds p e below s _ _ _ T1032 (mkF m 106 #[.val (.int i0), .val (.long i1), .second, .val (.long i2), .second, .val (.long i3), .second, .val (.long v4), .second, .val (.ref b5), .val (.int (2 : Int32)), .val (.int (0 : Int32)), .unset, .unset, .unset, .unset] [(.long (0 : Int64))])
     refine k_pop2L X1032 hx (hb hby at_106) (pc' := 107) rfl ?_
     refine k_iload X1032 hx (hb hby at_107) rfl (pc' := 109) rfl ?_
     refine k_iconst X1032 hx (hb hby at_109) (pc' := 110) rfl (z := (1 : Int32)) rfl ?_
     refine k_icmp_lt X1032 hx (hb hby at_110) (pn := 113) rfl (py := 117) (by decide) (fun hc => absurd hc (by decide)) (fun _ => ?_)
     refine k_iconst X1032 hx (hb hby at_113) (pc' := 114) rfl (z := (1 : Int32)) rfl ?_
     refine k_goto X1032 hx (hb hby at_114) (pc' := 118) (by decide) ?_
     refine k_istore X1032 hx (hb hby at_118) (Ls' := #[.val (.int i0), .val (.long i1), .second, .val (.long i2), .second, .val (.long i3), .second, .val (.long v4), .second, .val (.ref b5), .val (.int (2 : Int32)), .val (.int (0 : Int32)), .val (.int (1 : Int32)), .unset, .unset, .unset]) rfl (pc' := 120) rfl ?_
     refine k_lloadN X1032 hx (hb hby at_120) rfl (pc' := 121) rfl ?_
     refine k_lstore X1032 hx (hb hby at_121) (Ls' := #[.val (.int i0), .val (.long i1), .second, .val (.long i2), .second, .val (.long i3), .second, .val (.long v4), .second, .val (.ref b5), .val (.int (2 : Int32)), .val (.int (0 : Int32)), .val (.int (1 : Int32)), .val (.long i1), .second, .unset]) rfl (pc' := 123) rfl ?_
     refine k_iload X1032 hx (hb hby at_123) rfl (pc' := 125) rfl ?_
     refine k_iconst X1032 hx (hb hby at_125) (pc' := 126) rfl (z := (2 : Int32)) rfl ?_
     refine k_icmp_lt X1032 hx (hb hby at_126) (pn := 129) rfl (py := 140) (by decide) (fun hc => absurd hc (by decide)) (fun _ => ?_)
     refine k_lloadN X1032 hx (hb hby at_129) rfl (pc' := 130) rfl ?_
     refine k_lloadN X1032 hx (hb hby at_130) rfl (pc' := 131) rfl ?_
     refine k_lsubL X1032 hx (hb hby at_131) (pc' := 132) rfl (z := v1094) h1095.symm ?_
     refine k_lconst X1032 hx (hb hby at_132) (pc' := 133) rfl (z := (0 : Int64)) rfl ?_
     refine k_lcif_le X1032 hx (hb hby at_133) (pm := 134) rfl (hb hby at_134) (pn := 137) rfl (py := 140) (by decide) (fun hc => absurd hc1096 hc) (fun _ => ?_)
     refine k_lloadN X1032 hx (hb hby at_137) rfl (pc' := 138) rfl ?_
     refine k_lstore X1032 hx (hb hby at_138) (Ls' := #[.val (.int i0), .val (.long i1), .second, .val (.long i2), .second, .val (.long i3), .second, .val (.long v4), .second, .val (.ref b5), .val (.int (2 : Int32)), .val (.int (0 : Int32)), .val (.int (1 : Int32)), .val (.long i2), .second, .unset]) rfl (pc' := 140) rfl ?_
     refine k_iload X1032 hx (hb hby at_140) rfl (pc' := 142) rfl ?_
     refine k_if_eq X1032 hx (hb hby at_142) (pn := 145) rfl (py := 159) (by decide) (fun hc => absurd hc (by decide)) (fun _ => ?_)
     refine k_lload X1032 hx (hb hby at_145) rfl (pc' := 147) rfl ?_
     refine k_lload X1032 hx (hb hby at_147) rfl (pc' := 149) rfl ?_
     refine k_lsub X1032 hx (hb hby at_149) (pc' := 150) rfl (fun v1183 hv1183 => ?_)
     refine k_lconst X1032 hx (hb hby at_150) (pc' := 151) rfl (z := (0 : Int64)) rfl ?_
     refine k_lcif_le X1032 hx (hb hby at_151) (pm := 152) rfl (hb hby at_152) (pn := 155) rfl (py := 159) (by decide) (fun hc1184 => ?_) (fun hc1184 => ?_)
     ·
      refine k_iconst X1032 hx (hb hby at_159) (pc' := 160) rfl (z := (0 : Int32)) rfl ?_
      refine k_istore X1032 hx (hb hby at_160) (Ls' := #[.val (.int i0), .val (.long i1), .second, .val (.long i2), .second, .val (.long i3), .second, .val (.long v4), .second, .val (.ref b5), .val (.int (2 : Int32)), .val (.int (0 : Int32)), .val (.int (1 : Int32)), .val (.long i2), .second, .val (.int (0 : Int32))]) rfl (pc' := 162) rfl ?_
      refine k_iload X1032 hx (hb hby at_162) rfl (pc' := 164) rfl ?_
      refine k_if_ne X1032 hx (hb hby at_164) (pn := 167) rfl (py := 183) (by decide) (fun hc => absurd (by decide) hc) (fun _ => ?_)
      refine k_aload X1032 hx (hb hby at_167) rfl rfl (pc' := 169) rfl ?_
      refine k_lload X1032 hx (hb hby at_169) rfl (pc' := 171) rfl ?_
      refine k_callV X1032 hx hZ hown (a := b5) (hw _ (List.mem_of_getElem? (i := 19) rfl)) (hw _ (List.mem_of_getElem? (i := 20) rfl)) (hw _ (List.mem_of_getElem? (i := 22) rfl)) (hw _ (List.mem_of_getElem? (i := 21) rfl)) (hw _ (List.mem_of_getElem? (i := 2) rfl)) (hw _ (List.mem_of_getElem? (i := 23) rfl)) (by decide) F1098 (rm3_1185 l Z a0 hw [] b5 i3 b725 b727 v4 i2 k726 i1 k728 T1032.heap n0 Z1112 F1098 F1099 F1100 F1101 F1102 F1103 F1104 F1105 F1106 F1107 F1110 F1111 (Nat.lt_trans (Nat.lt_trans lt67 lt68) lt743) lt744) (by decide) (by decide) rfl (by rw [hml]; rfl) (argsL := [(.long i3)]) (rest := []) (lenOf pd_1 rfl) rfl (W := 0) (Nat.le_refl _) rfl (hb hby at_171) (by decide) (by decide) (pc' := 174) rfl (fun T1190 L1190 r1190 X1190 q1190 => ?_)
      obtain ⟨N1190, e1190, q1190⟩ := q1190
      have N1190' := Fr.app N1032' N1190
      rcases q1190 with ⟨v1191, h1192, hc1193, rfl⟩ | ⟨v1194, h1195, hc1196, rfl⟩
      ·
       have hh1197 : v1183 = v1191 := hv1183.trans h1192.symm
       subst hh1197
       show KEnds p e below s _ _ _ T1190 (mkF m 174 #[.val (.int i0), .val (.long i1), .second, .val (.long i2), .second, .val (.long i3), .second, .val (.long v4), .second, .val (.ref b5), .val (.int (2 : Int32)), .val (.int (0 : Int32)), .val (.int (1 : Int32)), .val (.long i2), .second, .val (.int (0 : Int32))] [(.int (0 : Int32))])
       refine k_iload X1190 hx (hb hby at_174) rfl (pc' := 176) rfl ?_
       refine k_icmp_ne X1190 hx (hb hby at_176) (pn := 179) rfl (py := 183) (by decide) (fun hc => absurd (by decide) hc) (fun _ => ?_)
       refine k_iconst X1190 hx (hb hby at_179) (pc' := 180) rfl (z := (1 : Int32)) rfl ?_
       refine k_goto X1190 hx (hb hby at_180) (pc' := 184) (by decide) ?_
       exact k_retN X1190 hx (t := .boolean) Bd.returns (by simp) (hb hby at_184) hlk (by decide) (by decide) (z' := (1 : Int32)) rfl ⟨rfl, N1190'⟩
      ·
       have hh1198 : v1183 = v1194 := hv1183.trans h1195.symm
       subst hh1198
       show KEnds p e below s _ _ _ T1190 (mkF m 174 #[.val (.int i0), .val (.long i1), .second, .val (.long i2), .second, .val (.long i3), .second, .val (.long v4), .second, .val (.ref b5), .val (.int (2 : Int32)), .val (.int (0 : Int32)), .val (.int (1 : Int32)), .val (.long i2), .second, .val (.int (0 : Int32))] [(.int (1 : Int32))])
       exact absurd hc1196 hc1184
     ·
      refine k_iconst X1032 hx (hb hby at_155) (pc' := 156) rfl (z := (1 : Int32)) rfl ?_
      refine k_goto X1032 hx (hb hby at_156) (pc' := 160) (by decide) ?_
      refine k_istore X1032 hx (hb hby at_160) (Ls' := #[.val (.int i0), .val (.long i1), .second, .val (.long i2), .second, .val (.long i3), .second, .val (.long v4), .second, .val (.ref b5), .val (.int (2 : Int32)), .val (.int (0 : Int32)), .val (.int (1 : Int32)), .val (.long i2), .second, .val (.int (1 : Int32))]) rfl (pc' := 162) rfl ?_
      refine k_iload X1032 hx (hb hby at_162) rfl (pc' := 164) rfl ?_
      refine k_if_ne X1032 hx (hb hby at_164) (pn := 167) rfl (py := 183) (by decide) (fun hc => absurd (by decide) hc) (fun _ => ?_)
      refine k_aload X1032 hx (hb hby at_167) rfl rfl (pc' := 169) rfl ?_
      refine k_lload X1032 hx (hb hby at_169) rfl (pc' := 171) rfl ?_
      refine k_callV X1032 hx hZ hown (a := b5) (hw _ (List.mem_of_getElem? (i := 19) rfl)) (hw _ (List.mem_of_getElem? (i := 20) rfl)) (hw _ (List.mem_of_getElem? (i := 22) rfl)) (hw _ (List.mem_of_getElem? (i := 21) rfl)) (hw _ (List.mem_of_getElem? (i := 2) rfl)) (hw _ (List.mem_of_getElem? (i := 23) rfl)) (by decide) F1098 (rm3_1185 l Z a0 hw [] b5 i3 b725 b727 v4 i2 k726 i1 k728 T1032.heap n0 Z1112 F1098 F1099 F1100 F1101 F1102 F1103 F1104 F1105 F1106 F1107 F1110 F1111 (Nat.lt_trans (Nat.lt_trans lt67 lt68) lt743) lt744) (by decide) (by decide) rfl (by rw [hml]; rfl) (argsL := [(.long i3)]) (rest := []) (lenOf pd_1 rfl) rfl (W := 0) (Nat.le_refl _) rfl (hb hby at_171) (by decide) (by decide) (pc' := 174) rfl (fun T1199 L1199 r1199 X1199 q1199 => ?_)
      obtain ⟨N1199, e1199, q1199⟩ := q1199
      have N1199' := Fr.app N1032' N1199
      rcases q1199 with ⟨v1200, h1201, hc1202, rfl⟩ | ⟨v1203, h1204, hc1205, rfl⟩
      ·
       have hh1206 : v1183 = v1200 := hv1183.trans h1201.symm
       subst hh1206
       show KEnds p e below s _ _ _ T1199 (mkF m 174 #[.val (.int i0), .val (.long i1), .second, .val (.long i2), .second, .val (.long i3), .second, .val (.long v4), .second, .val (.ref b5), .val (.int (2 : Int32)), .val (.int (0 : Int32)), .val (.int (1 : Int32)), .val (.long i2), .second, .val (.int (1 : Int32))] [(.int (0 : Int32))])
       exact absurd hc1184 hc1202
      ·
       have hh1207 : v1183 = v1203 := hv1183.trans h1204.symm
       subst hh1207
       show KEnds p e below s _ _ _ T1199 (mkF m 174 #[.val (.int i0), .val (.long i1), .second, .val (.long i2), .second, .val (.long i3), .second, .val (.long v4), .second, .val (.ref b5), .val (.int (2 : Int32)), .val (.int (0 : Int32)), .val (.int (1 : Int32)), .val (.long i2), .second, .val (.int (1 : Int32))] [(.int (1 : Int32))])
       refine k_iload X1199 hx (hb hby at_174) rfl (pc' := 176) rfl ?_
       refine k_icmp_ne X1199 hx (hb hby at_176) (pn := 179) rfl (py := 183) (by decide) (fun hc => absurd (by decide) hc) (fun _ => ?_)
       refine k_iconst X1199 hx (hb hby at_179) (pc' := 180) rfl (z := (1 : Int32)) rfl ?_
       refine k_goto X1199 hx (hb hby at_180) (pc' := 184) (by decide) ?_
       exact k_retN X1199 hx (t := .boolean) Bd.returns (by simp) (hb hby at_184) hlk (by decide) (by decide) (z' := (1 : Int32)) rfl ⟨rfl, N1199'⟩
   ·
    refine k_aload X724 hx (hb hby at_90) rfl rfl (pc' := 92) rfl ?_
    refine k_lconst X724 hx (hb hby at_92) (pc' := 93) rfl (z := (1 : Int64)) rfl ?_
    refine k_lloadN X724 hx (hb hby at_93) rfl (pc' := 94) rfl ?_
    refine k_callV X724 hx hZ hown (a := b5) (hw _ (List.mem_of_getElem? (i := 26) rfl)) (hw _ (List.mem_of_getElem? (i := 27) rfl)) (hw _ (List.mem_of_getElem? (i := 29) rfl)) (hw _ (List.mem_of_getElem? (i := 28) rfl)) (hw _ (List.mem_of_getElem? (i := 2) rfl)) (hw _ (List.mem_of_getElem? (i := 30) rfl)) (by decide) F729 (rm4_1208 l Z a0 hw [] b5 i2 b725 b727 v4 i1 b51 k52 b53 k54 k726 k728 T724.heap n0 Z745 F729 F730 F731 F732 F733 F734 F735 F736 F737 F738 g_b5 F739 g_b51 F740 g_b53 F741 g_b725 F742 g_b727 lt67 lt68 lt743 lt744) (by decide) (by decide) rfl (by rw [hml]; rfl) (argsL := [(.long (1 : Int64)), (.long i2)]) (rest := []) (lenOf pd_0 rfl) rfl (W := 0) (Nat.le_refl _) rfl (hb hby at_94) (by decide) (by decide) (pc' := 97) rfl (fun T1549 L1549 r1549 X1549 q1549 => ?_)
    obtain ⟨N1549, q1549⟩ := q1549
    have N1549' := Fr.app N724' N1549
    rcases q1549 with ⟨v1550, v1551, h1552, h1553, hc1554, hc1555, rfl, F1556, F1557, F1558, F1559, F1560, F1561, F1562, F1563, F1564, F1565, F1566, F1567, F1568, F1569, Z1570⟩ | ⟨v1571, v1572, h1573, h1574, hc1575, hc1576, rfl, F1577, F1578, F1579, F1580, F1581, F1582, F1583, F1584, F1585, F1586, F1587, F1588, F1589, F1590, Z1591⟩ | ⟨v1592, h1593, hc1594, hc1595, hc1596, rfl, F1597, F1598, F1599, F1600, F1601, F1602, F1603, F1604, F1605, F1606, F1607, F1608, F1609, F1610, Z1611⟩ | ⟨v1612, h1613, hc1614, hc1615, hc1616, rfl, F1617, F1618, F1619, F1620, F1621, F1622, F1623, F1624, F1625, F1626, F1627, F1628, F1629, F1630, Z1631⟩ | ⟨v1632, h1633, hc1634, hc1635, rfl, F1636, F1637, F1638, F1639, F1640, F1641, F1642, F1643, F1644, F1645, F1646, F1647, F1648, F1649, Z1650⟩
    ·
     show KEnds p e below s _ _ _ T1549 (mkF m 97 #[.val (.int i0), .val (.long i1), .second, .val (.long i2), .second, .val (.long i3), .second, .val (.long v4), .second, .val (.ref b5), .val (.int (2 : Int32)), .val (.int (0 : Int32)), .unset, .unset, .unset, .unset] [])
     refine k_goto X1549 hx (hb hby at_97) (pc' := 107) (by decide) ?_
     refine k_iload X1549 hx (hb hby at_107) rfl (pc' := 109) rfl ?_
     refine k_iconst X1549 hx (hb hby at_109) (pc' := 110) rfl (z := (1 : Int32)) rfl ?_
     refine k_icmp_lt X1549 hx (hb hby at_110) (pn := 113) rfl (py := 117) (by decide) (fun hc => absurd hc (by decide)) (fun _ => ?_)
     refine k_iconst X1549 hx (hb hby at_113) (pc' := 114) rfl (z := (1 : Int32)) rfl ?_
     refine k_goto X1549 hx (hb hby at_114) (pc' := 118) (by decide) ?_
     refine k_istore X1549 hx (hb hby at_118) (Ls' := #[.val (.int i0), .val (.long i1), .second, .val (.long i2), .second, .val (.long i3), .second, .val (.long v4), .second, .val (.ref b5), .val (.int (2 : Int32)), .val (.int (0 : Int32)), .val (.int (1 : Int32)), .unset, .unset, .unset]) rfl (pc' := 120) rfl ?_
     refine k_lloadN X1549 hx (hb hby at_120) rfl (pc' := 121) rfl ?_
     refine k_lstore X1549 hx (hb hby at_121) (Ls' := #[.val (.int i0), .val (.long i1), .second, .val (.long i2), .second, .val (.long i3), .second, .val (.long v4), .second, .val (.ref b5), .val (.int (2 : Int32)), .val (.int (0 : Int32)), .val (.int (1 : Int32)), .val (.long i1), .second, .unset]) rfl (pc' := 123) rfl ?_
     refine k_iload X1549 hx (hb hby at_123) rfl (pc' := 125) rfl ?_
     refine k_iconst X1549 hx (hb hby at_125) (pc' := 126) rfl (z := (2 : Int32)) rfl ?_
     refine k_icmp_lt X1549 hx (hb hby at_126) (pn := 129) rfl (py := 140) (by decide) (fun hc => absurd hc (by decide)) (fun _ => ?_)
     refine k_lloadN X1549 hx (hb hby at_129) rfl (pc' := 130) rfl ?_
     refine k_lloadN X1549 hx (hb hby at_130) rfl (pc' := 131) rfl ?_
     refine k_lsubL X1549 hx (hb hby at_131) (pc' := 132) rfl (z := v1550) h1552.symm ?_
     refine k_lconst X1549 hx (hb hby at_132) (pc' := 133) rfl (z := (0 : Int64)) rfl ?_
     refine k_lcif_le X1549 hx (hb hby at_133) (pm := 134) rfl (hb hby at_134) (pn := 137) rfl (py := 140) (by decide) (fun _ => ?_) (fun hc => absurd hc hc1554)
     refine k_iload X1549 hx (hb hby at_140) rfl (pc' := 142) rfl ?_
     refine k_if_eq X1549 hx (hb hby at_142) (pn := 145) rfl (py := 159) (by decide) (fun hc => absurd hc (by decide)) (fun _ => ?_)
     refine k_lload X1549 hx (hb hby at_145) rfl (pc' := 147) rfl ?_
     refine k_lload X1549 hx (hb hby at_147) rfl (pc' := 149) rfl ?_
     refine k_lsub X1549 hx (hb hby at_149) (pc' := 150) rfl (fun v1651 hv1651 => ?_)
     refine k_lconst X1549 hx (hb hby at_150) (pc' := 151) rfl (z := (0 : Int64)) rfl ?_
     refine k_lcif_le X1549 hx (hb hby at_151) (pm := 152) rfl (hb hby at_152) (pn := 155) rfl (py := 159) (by decide) (fun hc1652 => ?_) (fun hc1652 => ?_)
     ·
      refine k_iconst X1549 hx (hb hby at_159) (pc' := 160) rfl (z := (0 : Int32)) rfl ?_
      refine k_istore X1549 hx (hb hby at_160) (Ls' := #[.val (.int i0), .val (.long i1), .second, .val (.long i2), .second, .val (.long i3), .second, .val (.long v4), .second, .val (.ref b5), .val (.int (2 : Int32)), .val (.int (0 : Int32)), .val (.int (1 : Int32)), .val (.long i1), .second, .val (.int (0 : Int32))]) rfl (pc' := 162) rfl ?_
      refine k_iload X1549 hx (hb hby at_162) rfl (pc' := 164) rfl ?_
      refine k_if_ne X1549 hx (hb hby at_164) (pn := 167) rfl (py := 183) (by decide) (fun hc => absurd (by decide) hc) (fun _ => ?_)
      refine k_aload X1549 hx (hb hby at_167) rfl rfl (pc' := 169) rfl ?_
      refine k_lload X1549 hx (hb hby at_169) rfl (pc' := 171) rfl ?_
      refine k_callV X1549 hx hZ hown (a := b5) (hw _ (List.mem_of_getElem? (i := 19) rfl)) (hw _ (List.mem_of_getElem? (i := 20) rfl)) (hw _ (List.mem_of_getElem? (i := 22) rfl)) (hw _ (List.mem_of_getElem? (i := 21) rfl)) (hw _ (List.mem_of_getElem? (i := 2) rfl)) (hw _ (List.mem_of_getElem? (i := 23) rfl)) (by decide) F1556 (rm3_1653 l Z a0 hw [] b5 i3 b725 b727 v4 i1 k726 k728 T1549.heap n0 Z1570 F1556 F1557 F1558 F1559 F1560 F1561 F1562 F1563 F1564 F1565 F1568 F1569 (Nat.lt_trans (Nat.lt_trans lt67 lt68) lt743) lt744) (by decide) (by decide) rfl (by rw [hml]; rfl) (argsL := [(.long i3)]) (rest := []) (lenOf pd_1 rfl) rfl (W := 0) (Nat.le_refl _) rfl (hb hby at_171) (by decide) (by decide) (pc' := 174) rfl (fun T1658 L1658 r1658 X1658 q1658 => ?_)
      obtain ⟨N1658, e1658, q1658⟩ := q1658
      have N1658' := Fr.app N1549' N1658
      rcases q1658 with ⟨v1659, h1660, hc1661, rfl⟩ | ⟨v1662, h1663, hc1664, rfl⟩
      ·
       have hh1665 : v1651 = v1659 := hv1651.trans h1660.symm
       subst hh1665
       show KEnds p e below s _ _ _ T1658 (mkF m 174 #[.val (.int i0), .val (.long i1), .second, .val (.long i2), .second, .val (.long i3), .second, .val (.long v4), .second, .val (.ref b5), .val (.int (2 : Int32)), .val (.int (0 : Int32)), .val (.int (1 : Int32)), .val (.long i1), .second, .val (.int (0 : Int32))] [(.int (0 : Int32))])
       refine k_iload X1658 hx (hb hby at_174) rfl (pc' := 176) rfl ?_
       refine k_icmp_ne X1658 hx (hb hby at_176) (pn := 179) rfl (py := 183) (by decide) (fun hc => absurd (by decide) hc) (fun _ => ?_)
       refine k_iconst X1658 hx (hb hby at_179) (pc' := 180) rfl (z := (1 : Int32)) rfl ?_
       refine k_goto X1658 hx (hb hby at_180) (pc' := 184) (by decide) ?_
       exact k_retN X1658 hx (t := .boolean) Bd.returns (by simp) (hb hby at_184) hlk (by decide) (by decide) (z' := (1 : Int32)) rfl ⟨rfl, N1658'⟩
      ·
       have hh1666 : v1651 = v1662 := hv1651.trans h1663.symm
       subst hh1666
       show KEnds p e below s _ _ _ T1658 (mkF m 174 #[.val (.int i0), .val (.long i1), .second, .val (.long i2), .second, .val (.long i3), .second, .val (.long v4), .second, .val (.ref b5), .val (.int (2 : Int32)), .val (.int (0 : Int32)), .val (.int (1 : Int32)), .val (.long i1), .second, .val (.int (0 : Int32))] [(.int (1 : Int32))])
       exact absurd hc1664 hc1652
     ·
      refine k_iconst X1549 hx (hb hby at_155) (pc' := 156) rfl (z := (1 : Int32)) rfl ?_
      refine k_goto X1549 hx (hb hby at_156) (pc' := 160) (by decide) ?_
      refine k_istore X1549 hx (hb hby at_160) (Ls' := #[.val (.int i0), .val (.long i1), .second, .val (.long i2), .second, .val (.long i3), .second, .val (.long v4), .second, .val (.ref b5), .val (.int (2 : Int32)), .val (.int (0 : Int32)), .val (.int (1 : Int32)), .val (.long i1), .second, .val (.int (1 : Int32))]) rfl (pc' := 162) rfl ?_
      refine k_iload X1549 hx (hb hby at_162) rfl (pc' := 164) rfl ?_
      refine k_if_ne X1549 hx (hb hby at_164) (pn := 167) rfl (py := 183) (by decide) (fun hc => absurd (by decide) hc) (fun _ => ?_)
      refine k_aload X1549 hx (hb hby at_167) rfl rfl (pc' := 169) rfl ?_
      refine k_lload X1549 hx (hb hby at_169) rfl (pc' := 171) rfl ?_
      refine k_callV X1549 hx hZ hown (a := b5) (hw _ (List.mem_of_getElem? (i := 19) rfl)) (hw _ (List.mem_of_getElem? (i := 20) rfl)) (hw _ (List.mem_of_getElem? (i := 22) rfl)) (hw _ (List.mem_of_getElem? (i := 21) rfl)) (hw _ (List.mem_of_getElem? (i := 2) rfl)) (hw _ (List.mem_of_getElem? (i := 23) rfl)) (by decide) F1556 (rm3_1653 l Z a0 hw [] b5 i3 b725 b727 v4 i1 k726 k728 T1549.heap n0 Z1570 F1556 F1557 F1558 F1559 F1560 F1561 F1562 F1563 F1564 F1565 F1568 F1569 (Nat.lt_trans (Nat.lt_trans lt67 lt68) lt743) lt744) (by decide) (by decide) rfl (by rw [hml]; rfl) (argsL := [(.long i3)]) (rest := []) (lenOf pd_1 rfl) rfl (W := 0) (Nat.le_refl _) rfl (hb hby at_171) (by decide) (by decide) (pc' := 174) rfl (fun T1667 L1667 r1667 X1667 q1667 => ?_)
      obtain ⟨N1667, e1667, q1667⟩ := q1667
      have N1667' := Fr.app N1549' N1667
      rcases q1667 with ⟨v1668, h1669, hc1670, rfl⟩ | ⟨v1671, h1672, hc1673, rfl⟩
      ·
       have hh1674 : v1651 = v1668 := hv1651.trans h1669.symm
       subst hh1674
       show KEnds p e below s _ _ _ T1667 (mkF m 174 #[.val (.int i0), .val (.long i1), .second, .val (.long i2), .second, .val (.long i3), .second, .val (.long v4), .second, .val (.ref b5), .val (.int (2 : Int32)), .val (.int (0 : Int32)), .val (.int (1 : Int32)), .val (.long i1), .second, .val (.int (1 : Int32))] [(.int (0 : Int32))])
       exact absurd hc1652 hc1670
      ·
       have hh1675 : v1651 = v1671 := hv1651.trans h1672.symm
       subst hh1675
       show KEnds p e below s _ _ _ T1667 (mkF m 174 #[.val (.int i0), .val (.long i1), .second, .val (.long i2), .second, .val (.long i3), .second, .val (.long v4), .second, .val (.ref b5), .val (.int (2 : Int32)), .val (.int (0 : Int32)), .val (.int (1 : Int32)), .val (.long i1), .second, .val (.int (1 : Int32))] [(.int (1 : Int32))])
       refine k_iload X1667 hx (hb hby at_174) rfl (pc' := 176) rfl ?_
       refine k_icmp_ne X1667 hx (hb hby at_176) (pn := 179) rfl (py := 183) (by decide) (fun hc => absurd (by decide) hc) (fun _ => ?_)
       refine k_iconst X1667 hx (hb hby at_179) (pc' := 180) rfl (z := (1 : Int32)) rfl ?_
       refine k_goto X1667 hx (hb hby at_180) (pc' := 184) (by decide) ?_
       exact k_retN X1667 hx (t := .boolean) Bd.returns (by simp) (hb hby at_184) hlk (by decide) (by decide) (z' := (1 : Int32)) rfl ⟨rfl, N1667'⟩
    ·
     show KEnds p e below s _ _ _ T1549 (mkF m 97 #[.val (.int i0), .val (.long i1), .second, .val (.long i2), .second, .val (.long i3), .second, .val (.long v4), .second, .val (.ref b5), .val (.int (2 : Int32)), .val (.int (0 : Int32)), .unset, .unset, .unset, .unset] [])
     refine k_goto X1549 hx (hb hby at_97) (pc' := 107) (by decide) ?_
     refine k_iload X1549 hx (hb hby at_107) rfl (pc' := 109) rfl ?_
     refine k_iconst X1549 hx (hb hby at_109) (pc' := 110) rfl (z := (1 : Int32)) rfl ?_
     refine k_icmp_lt X1549 hx (hb hby at_110) (pn := 113) rfl (py := 117) (by decide) (fun hc => absurd hc (by decide)) (fun _ => ?_)
     refine k_iconst X1549 hx (hb hby at_113) (pc' := 114) rfl (z := (1 : Int32)) rfl ?_
     refine k_goto X1549 hx (hb hby at_114) (pc' := 118) (by decide) ?_
     refine k_istore X1549 hx (hb hby at_118) (Ls' := #[.val (.int i0), .val (.long i1), .second, .val (.long i2), .second, .val (.long i3), .second, .val (.long v4), .second, .val (.ref b5), .val (.int (2 : Int32)), .val (.int (0 : Int32)), .val (.int (1 : Int32)), .unset, .unset, .unset]) rfl (pc' := 120) rfl ?_
     refine k_lloadN X1549 hx (hb hby at_120) rfl (pc' := 121) rfl ?_
     refine k_lstore X1549 hx (hb hby at_121) (Ls' := #[.val (.int i0), .val (.long i1), .second, .val (.long i2), .second, .val (.long i3), .second, .val (.long v4), .second, .val (.ref b5), .val (.int (2 : Int32)), .val (.int (0 : Int32)), .val (.int (1 : Int32)), .val (.long i1), .second, .unset]) rfl (pc' := 123) rfl ?_
     refine k_iload X1549 hx (hb hby at_123) rfl (pc' := 125) rfl ?_
     refine k_iconst X1549 hx (hb hby at_125) (pc' := 126) rfl (z := (2 : Int32)) rfl ?_
     refine k_icmp_lt X1549 hx (hb hby at_126) (pn := 129) rfl (py := 140) (by decide) (fun hc => absurd hc (by decide)) (fun _ => ?_)
     refine k_lloadN X1549 hx (hb hby at_129) rfl (pc' := 130) rfl ?_
     refine k_lloadN X1549 hx (hb hby at_130) rfl (pc' := 131) rfl ?_
     refine k_lsubL X1549 hx (hb hby at_131) (pc' := 132) rfl (z := v1571) h1573.symm ?_
     refine k_lconst X1549 hx (hb hby at_132) (pc' := 133) rfl (z := (0 : Int64)) rfl ?_
     refine k_lcif_le X1549 hx (hb hby at_133) (pm := 134) rfl (hb hby at_134) (pn := 137) rfl (py := 140) (by decide) (fun _ => ?_) (fun hc => absurd hc hc1575)
     refine k_iload X1549 hx (hb hby at_140) rfl (pc' := 142) rfl ?_
     refine k_if_eq X1549 hx (hb hby at_142) (pn := 145) rfl (py := 159) (by decide) (fun hc => absurd hc (by decide)) (fun _ => ?_)
     refine k_lload X1549 hx (hb hby at_145) rfl (pc' := 147) rfl ?_
     refine k_lload X1549 hx (hb hby at_147) rfl (pc' := 149) rfl ?_
     refine k_lsub X1549 hx (hb hby at_149) (pc' := 150) rfl (fun v1676 hv1676 => ?_)
     refine k_lconst X1549 hx (hb hby at_150) (pc' := 151) rfl (z := (0 : Int64)) rfl ?_
     refine k_lcif_le X1549 hx (hb hby at_151) (pm := 152) rfl (hb hby at_152) (pn := 155) rfl (py := 159) (by decide) (fun hc1677 => ?_) (fun hc1677 => ?_)
     ·
      refine k_iconst X1549 hx (hb hby at_159) (pc' := 160) rfl (z := (0 : Int32)) rfl ?_
      refine k_istore X1549 hx (hb hby at_160) (Ls' := #[.val (.int i0), .val (.long i1), .second, .val (.long i2), .second, .val (.long i3), .second, .val (.long v4), .second, .val (.ref b5), .val (.int (2 : Int32)), .val (.int (0 : Int32)), .val (.int (1 : Int32)), .val (.long i1), .second, .val (.int (0 : Int32))]) rfl (pc' := 162) rfl ?_
      refine k_iload X1549 hx (hb hby at_162) rfl (pc' := 164) rfl ?_
      refine k_if_ne X1549 hx (hb hby at_164) (pn := 167) rfl (py := 183) (by decide) (fun hc => absurd (by decide) hc) (fun _ => ?_)
      refine k_aload X1549 hx (hb hby at_167) rfl rfl (pc' := 169) rfl ?_
      refine k_lload X1549 hx (hb hby at_169) rfl (pc' := 171) rfl ?_
      refine k_callV X1549 hx hZ hown (a := b5) (hw _ (List.mem_of_getElem? (i := 19) rfl)) (hw _ (List.mem_of_getElem? (i := 20) rfl)) (hw _ (List.mem_of_getElem? (i := 22) rfl)) (hw _ (List.mem_of_getElem? (i := 21) rfl)) (hw _ (List.mem_of_getElem? (i := 2) rfl)) (hw _ (List.mem_of_getElem? (i := 23) rfl)) (by decide) F1577 (rm3_1678 l Z a0 hw [] b5 i3 b725 b727 v4 i1 k726 k728 T1549.heap n0 Z1591 F1577 F1578 F1579 F1580 F1581 F1582 F1583 F1584 F1585 F1586 F1589 F1590 (Nat.lt_trans (Nat.lt_trans lt67 lt68) lt743) lt744) (by decide) (by decide) rfl (by rw [hml]; rfl) (argsL := [(.long i3)]) (rest := []) (lenOf pd_1 rfl) rfl (W := 0) (Nat.le_refl _) rfl (hb hby at_171) (by decide) (by decide) (pc' := 174) rfl (fun T1683 L1683 r1683 X1683 q1683 => ?_)
      obtain ⟨N1683, e1683, q1683⟩ := q1683
      have N1683' := Fr.app N1549' N1683
      rcases q1683 with ⟨v1684, h1685, hc1686, rfl⟩ | ⟨v1687, h1688, hc1689, rfl⟩
      ·
       have hh1690 : v1676 = v1684 := hv1676.trans h1685.symm
       subst hh1690
       show KEnds p e below s _ _ _ T1683 (mkF m 174 #[.val (.int i0), .val (.long i1), .second, .val (.long i2), .second, .val (.long i3), .second, .val (.long v4), .second, .val (.ref b5), .val (.int (2 : Int32)), .val (.int (0 : Int32)), .val (.int (1 : Int32)), .val (.long i1), .second, .val (.int (0 : Int32))] [(.int (0 : Int32))])
       refine k_iload X1683 hx (hb hby at_174) rfl (pc' := 176) rfl ?_
       refine k_icmp_ne X1683 hx (hb hby at_176) (pn := 179) rfl (py := 183) (by decide) (fun hc => absurd (by decide) hc) (fun _ => ?_)
       refine k_iconst X1683 hx (hb hby at_179) (pc' := 180) rfl (z := (1 : Int32)) rfl ?_
       refine k_goto X1683 hx (hb hby at_180) (pc' := 184) (by decide) ?_
       exact k_retN X1683 hx (t := .boolean) Bd.returns (by simp) (hb hby at_184) hlk (by decide) (by decide) (z' := (1 : Int32)) rfl ⟨rfl, N1683'⟩
      ·
       have hh1691 : v1676 = v1687 := hv1676.trans h1688.symm
       subst hh1691
       show KEnds p e below s _ _ _ T1683 (mkF m 174 #[.val (.int i0), .val (.long i1), .second, .val (.long i2), .second, .val (.long i3), .second, .val (.long v4), .second, .val (.ref b5), .val (.int (2 : Int32)), .val (.int (0 : Int32)), .val (.int (1 : Int32)), .val (.long i1), .second, .val (.int (0 : Int32))] [(.int (1 : Int32))])
       exact absurd hc1689 hc1677
     ·
      refine k_iconst X1549 hx (hb hby at_155) (pc' := 156) rfl (z := (1 : Int32)) rfl ?_
      refine k_goto X1549 hx (hb hby at_156) (pc' := 160) (by decide) ?_
      refine k_istore X1549 hx (hb hby at_160) (Ls' := #[.val (.int i0), .val (.long i1), .second, .val (.long i2), .second, .val (.long i3), .second, .val (.long v4), .second, .val (.ref b5), .val (.int (2 : Int32)), .val (.int (0 : Int32)), .val (.int (1 : Int32)), .val (.long i1), .second, .val (.int (1 : Int32))]) rfl (pc' := 162) rfl ?_
      refine k_iload X1549 hx (hb hby at_162) rfl (pc' := 164) rfl ?_
      refine k_if_ne X1549 hx (hb hby at_164) (pn := 167) rfl (py := 183) (by decide) (fun hc => absurd (by decide) hc) (fun _ => ?_)
      refine k_aload X1549 hx (hb hby at_167) rfl rfl (pc' := 169) rfl ?_
      refine k_lload X1549 hx (hb hby at_169) rfl (pc' := 171) rfl ?_
      refine k_callV X1549 hx hZ hown (a := b5) (hw _ (List.mem_of_getElem? (i := 19) rfl)) (hw _ (List.mem_of_getElem? (i := 20) rfl)) (hw _ (List.mem_of_getElem? (i := 22) rfl)) (hw _ (List.mem_of_getElem? (i := 21) rfl)) (hw _ (List.mem_of_getElem? (i := 2) rfl)) (hw _ (List.mem_of_getElem? (i := 23) rfl)) (by decide) F1577 (rm3_1678 l Z a0 hw [] b5 i3 b725 b727 v4 i1 k726 k728 T1549.heap n0 Z1591 F1577 F1578 F1579 F1580 F1581 F1582 F1583 F1584 F1585 F1586 F1589 F1590 (Nat.lt_trans (Nat.lt_trans lt67 lt68) lt743) lt744) (by decide) (by decide) rfl (by rw [hml]; rfl) (argsL := [(.long i3)]) (rest := []) (lenOf pd_1 rfl) rfl (W := 0) (Nat.le_refl _) rfl (hb hby at_171) (by decide) (by decide) (pc' := 174) rfl (fun T1692 L1692 r1692 X1692 q1692 => ?_)
      obtain ⟨N1692, e1692, q1692⟩ := q1692
      have N1692' := Fr.app N1549' N1692
      rcases q1692 with ⟨v1693, h1694, hc1695, rfl⟩ | ⟨v1696, h1697, hc1698, rfl⟩
      ·
       have hh1699 : v1676 = v1693 := hv1676.trans h1694.symm
       subst hh1699
       show KEnds p e below s _ _ _ T1692 (mkF m 174 #[.val (.int i0), .val (.long i1), .second, .val (.long i2), .second, .val (.long i3), .second, .val (.long v4), .second, .val (.ref b5), .val (.int (2 : Int32)), .val (.int (0 : Int32)), .val (.int (1 : Int32)), .val (.long i1), .second, .val (.int (1 : Int32))] [(.int (0 : Int32))])
       exact absurd hc1677 hc1695
      ·
       have hh1700 : v1676 = v1696 := hv1676.trans h1697.symm
       subst hh1700
       show KEnds p e below s _ _ _ T1692 (mkF m 174 #[.val (.int i0), .val (.long i1), .second, .val (.long i2), .second, .val (.long i3), .second, .val (.long v4), .second, .val (.ref b5), .val (.int (2 : Int32)), .val (.int (0 : Int32)), .val (.int (1 : Int32)), .val (.long i1), .second, .val (.int (1 : Int32))] [(.int (1 : Int32))])
       refine k_iload X1692 hx (hb hby at_174) rfl (pc' := 176) rfl ?_
       refine k_icmp_ne X1692 hx (hb hby at_176) (pn := 179) rfl (py := 183) (by decide) (fun hc => absurd (by decide) hc) (fun _ => ?_)
       refine k_iconst X1692 hx (hb hby at_179) (pc' := 180) rfl (z := (1 : Int32)) rfl ?_
       refine k_goto X1692 hx (hb hby at_180) (pc' := 184) (by decide) ?_
       exact k_retN X1692 hx (t := .boolean) Bd.returns (by simp) (hb hby at_184) hlk (by decide) (by decide) (z' := (1 : Int32)) rfl ⟨rfl, N1692'⟩
    ·
     show KEnds p e below s _ _ _ T1549 (mkF m 97 #[.val (.int i0), .val (.long i1), .second, .val (.long i2), .second, .val (.long i3), .second, .val (.long v4), .second, .val (.ref b5), .val (.int (2 : Int32)), .val (.int (0 : Int32)), .unset, .unset, .unset, .unset] [])
     refine k_goto X1549 hx (hb hby at_97) (pc' := 107) (by decide) ?_
     refine k_iload X1549 hx (hb hby at_107) rfl (pc' := 109) rfl ?_
     refine k_iconst X1549 hx (hb hby at_109) (pc' := 110) rfl (z := (1 : Int32)) rfl ?_
     refine k_icmp_lt X1549 hx (hb hby at_110) (pn := 113) rfl (py := 117) (by decide) (fun hc => absurd hc (by decide)) (fun _ => ?_)
     refine k_iconst X1549 hx (hb hby at_113) (pc' := 114) rfl (z := (1 : Int32)) rfl ?_
     refine k_goto X1549 hx (hb hby at_114) (pc' := 118) (by decide) ?_
     refine k_istore X1549 hx (hb hby at_118) (Ls' := #[.val (.int i0), .val (.long i1), .second, .val (.long i2), .second, .val (.long i3), .second, .val (.long v4), .second, .val (.ref b5), .val (.int (2 : Int32)), .val (.int (0 : Int32)), .val (.int (1 : Int32)), .unset, .unset, .unset]) rfl (pc' := 120) rfl ?_
     refine k_lloadN X1549 hx (hb hby at_120) rfl (pc' := 121) rfl ?_
     refine k_lstore X1549 hx (hb hby at_121) (Ls' := #[.val (.int i0), .val (.long i1), .second, .val (.long i2), .second, .val (.long i3), .second, .val (.long v4), .second, .val (.ref b5), .val (.int (2 : Int32)), .val (.int (0 : Int32)), .val (.int (1 : Int32)), .val (.long i1), .second, .unset]) rfl (pc' := 123) rfl ?_
     refine k_iload X1549 hx (hb hby at_123) rfl (pc' := 125) rfl ?_
     refine k_iconst X1549 hx (hb hby at_125) (pc' := 126) rfl (z := (2 : Int32)) rfl ?_
     refine k_icmp_lt X1549 hx (hb hby at_126) (pn := 129) rfl (py := 140) (by decide) (fun hc => absurd hc (by decide)) (fun _ => ?_)
     refine k_lloadN X1549 hx (hb hby at_129) rfl (pc' := 130) rfl ?_
     refine k_lloadN X1549 hx (hb hby at_130) rfl (pc' := 131) rfl ?_
     refine k_lsubL X1549 hx (hb hby at_131) (pc' := 132) rfl (z := v1592) h1593.symm ?_
     refine k_lconst X1549 hx (hb hby at_132) (pc' := 133) rfl (z := (0 : Int64)) rfl ?_
     refine k_lcif_le X1549 hx (hb hby at_133) (pm := 134) rfl (hb hby at_134) (pn := 137) rfl (py := 140) (by decide) (fun hc => absurd hc1594 hc) (fun _ => ?_)
     refine k_lloadN X1549 hx (hb hby at_137) rfl (pc' := 138) rfl ?_
     refine k_lstore X1549 hx (hb hby at_138) (Ls' := #[.val (.int i0), .val (.long i1), .second, .val (.long i2), .second, .val (.long i3), .second, .val (.long v4), .second, .val (.ref b5), .val (.int (2 : Int32)), .val (.int (0 : Int32)), .val (.int (1 : Int32)), .val (.long i2), .second, .unset]) rfl (pc' := 140) rfl ?_
     refine k_iload X1549 hx (hb hby at_140) rfl (pc' := 142) rfl ?_
     refine k_if_eq X1549 hx (hb hby at_142) (pn := 145) rfl (py := 159) (by decide) (fun hc => absurd hc (by decide)) (fun _ => ?_)
     refine k_lload X1549 hx (hb hby at_145) rfl (pc' := 147) rfl ?_
     refine k_lload X1549 hx (hb hby at_147) rfl (pc' := 149) rfl ?_
     refine k_lsub X1549 hx (hb hby at_149) (pc' := 150) rfl (fun v1701 hv1701 => ?_)
     refine k_lconst X1549 hx (hb hby at_150) (pc' := 151) rfl (z := (0 : Int64)) rfl ?_
     refine k_lcif_le X1549 hx (hb hby at_151) (pm := 152) rfl (hb hby at_152) (pn := 155) rfl (py := 159) (by decide) (fun hc1702 => ?_) (fun hc1702 => ?_)
     ·
      refine k_iconst X1549 hx (hb hby at_159) (pc' := 160) rfl (z := (0 : Int32)) rfl ?_
      refine k_istore X1549 hx (hb hby at_160) (Ls' := #[.val (.int i0), .val (.long i1), .second, .val (.long i2), .second, .val (.long i3), .second, .val (.long v4), .second, .val (.ref b5), .val (.int (2 : Int32)), .val (.int (0 : Int32)), .val (.int (1 : Int32)), .val (.long i2), .second, .val (.int (0 : Int32))]) rfl (pc' := 162) rfl ?_
      refine k_iload X1549 hx (hb hby at_162) rfl (pc' := 164) rfl ?_
      refine k_if_ne X1549 hx (hb hby at_164) (pn := 167) rfl (py := 183) (by decide) (fun hc => absurd (by decide) hc) (fun _ => ?_)
      refine k_aload X1549 hx (hb hby at_167) rfl rfl (pc' := 169) rfl ?_
      refine k_lload X1549 hx (hb hby at_169) rfl (pc' := 171) rfl ?_
      refine k_callV X1549 hx hZ hown (a := b5) (hw _ (List.mem_of_getElem? (i := 19) rfl)) (hw _ (List.mem_of_getElem? (i := 20) rfl)) (hw _ (List.mem_of_getElem? (i := 22) rfl)) (hw _ (List.mem_of_getElem? (i := 21) rfl)) (hw _ (List.mem_of_getElem? (i := 2) rfl)) (hw _ (List.mem_of_getElem? (i := 23) rfl)) (by decide) F1597 (rm3_1703 l Z a0 hw [] b5 i3 b725 b727 v4 i2 k726 i1 k728 T1549.heap n0 Z1611 F1597 F1598 F1599 F1600 F1601 F1602 F1603 F1604 F1605 F1606 F1609 F1610 (Nat.lt_trans (Nat.lt_trans lt67 lt68) lt743) lt744) (by decide) (by decide) rfl (by rw [hml]; rfl) (argsL := [(.long i3)]) (rest := []) (lenOf pd_1 rfl) rfl (W := 0) (Nat.le_refl _) rfl (hb hby at_171) (by decide) (by decide) (pc' := 174) rfl (fun T1708 L1708 r1708 X1708 q1708 => ?_)
      obtain ⟨N1708, e1708, q1708⟩ := q1708
      have N1708' := Fr.app N1549' N1708
      rcases q1708 with ⟨v1709, h1710, hc1711, rfl⟩ | ⟨v1712, h1713, hc1714, rfl⟩
      ·
       have hh1715 : v1701 = v1709 := hv1701.trans h1710.symm
       subst hh1715
       show KEnds p e below s _ _ _ T1708 (mkF m 174 #[.val (.int i0), .val (.long i1), .second, .val (.long i2), .second, .val (.long i3), .second, .val (.long v4), .second, .val (.ref b5), .val (.int (2 : Int32)), .val (.int (0 : Int32)), .val (.int (1 : Int32)), .val (.long i2), .second, .val (.int (0 : Int32))] [(.int (0 : Int32))])
       refine k_iload X1708 hx (hb hby at_174) rfl (pc' := 176) rfl ?_
       refine k_icmp_ne X1708 hx (hb hby at_176) (pn := 179) rfl (py := 183) (by decide) (fun hc => absurd (by decide) hc) (fun _ => ?_)
       refine k_iconst X1708 hx (hb hby at_179) (pc' := 180) rfl (z := (1 : Int32)) rfl ?_
       refine k_goto X1708 hx (hb hby at_180) (pc' := 184) (by decide) ?_
       exact k_retN X1708 hx (t := .boolean) Bd.returns (by simp) (hb hby at_184) hlk (by decide) (by decide) (z' := (1 : Int32)) rfl ⟨rfl, N1708'⟩
      ·
       have hh1716 : v1701 = v1712 := hv1701.trans h1713.symm
       subst hh1716
       show KEnds p e below s _ _ _ T1708 (mkF m 174 #[.val (.int i0), .val (.long i1), .second, .val (.long i2), .second, .val (.long i3), .second, .val (.long v4), .second, .val (.ref b5), .val (.int (2 : Int32)), .val (.int (0 : Int32)), .val (.int (1 : Int32)), .val (.long i2), .second, .val (.int (0 : Int32))] [(.int (1 : Int32))])
       exact absurd hc1714 hc1702
     ·
      refine k_iconst X1549 hx (hb hby at_155) (pc' := 156) rfl (z := (1 : Int32)) rfl ?_
      refine k_goto X1549 hx (hb hby at_156) (pc' := 160) (by decide) ?_
      refine k_istore X1549 hx (hb hby at_160) (Ls' := #[.val (.int i0), .val (.long i1), .second, .val (.long i2), .second, .val (.long i3), .second, .val (.long v4), .second, .val (.ref b5), .val (.int (2 : Int32)), .val (.int (0 : Int32)), .val (.int (1 : Int32)), .val (.long i2), .second, .val (.int (1 : Int32))]) rfl (pc' := 162) rfl ?_
      refine k_iload X1549 hx (hb hby at_162) rfl (pc' := 164) rfl ?_
      refine k_if_ne X1549 hx (hb hby at_164) (pn := 167) rfl (py := 183) (by decide) (fun hc => absurd (by decide) hc) (fun _ => ?_)
      refine k_aload X1549 hx (hb hby at_167) rfl rfl (pc' := 169) rfl ?_
      refine k_lload X1549 hx (hb hby at_169) rfl (pc' := 171) rfl ?_
      refine k_callV X1549 hx hZ hown (a := b5) (hw _ (List.mem_of_getElem? (i := 19) rfl)) (hw _ (List.mem_of_getElem? (i := 20) rfl)) (hw _ (List.mem_of_getElem? (i := 22) rfl)) (hw _ (List.mem_of_getElem? (i := 21) rfl)) (hw _ (List.mem_of_getElem? (i := 2) rfl)) (hw _ (List.mem_of_getElem? (i := 23) rfl)) (by decide) F1597 (rm3_1703 l Z a0 hw [] b5 i3 b725 b727 v4 i2 k726 i1 k728 T1549.heap n0 Z1611 F1597 F1598 F1599 F1600 F1601 F1602 F1603 F1604 F1605 F1606 F1609 F1610 (Nat.lt_trans (Nat.lt_trans lt67 lt68) lt743) lt744) (by decide) (by decide) rfl (by rw [hml]; rfl) (argsL := [(.long i3)]) (rest := []) (lenOf pd_1 rfl) rfl (W := 0) (Nat.le_refl _) rfl (hb hby at_171) (by decide) (by decide) (pc' := 174) rfl (fun T1717 L1717 r1717 X1717 q1717 => ?_)
      obtain ⟨N1717, e1717, q1717⟩ := q1717
      have N1717' := Fr.app N1549' N1717
      rcases q1717 with ⟨v1718, h1719, hc1720, rfl⟩ | ⟨v1721, h1722, hc1723, rfl⟩
      ·
       have hh1724 : v1701 = v1718 := hv1701.trans h1719.symm
       subst hh1724
       show KEnds p e below s _ _ _ T1717 (mkF m 174 #[.val (.int i0), .val (.long i1), .second, .val (.long i2), .second, .val (.long i3), .second, .val (.long v4), .second, .val (.ref b5), .val (.int (2 : Int32)), .val (.int (0 : Int32)), .val (.int (1 : Int32)), .val (.long i2), .second, .val (.int (1 : Int32))] [(.int (0 : Int32))])
       exact absurd hc1702 hc1720
      ·
       have hh1725 : v1701 = v1721 := hv1701.trans h1722.symm
       subst hh1725
       show KEnds p e below s _ _ _ T1717 (mkF m 174 #[.val (.int i0), .val (.long i1), .second, .val (.long i2), .second, .val (.long i3), .second, .val (.long v4), .second, .val (.ref b5), .val (.int (2 : Int32)), .val (.int (0 : Int32)), .val (.int (1 : Int32)), .val (.long i2), .second, .val (.int (1 : Int32))] [(.int (1 : Int32))])
       refine k_iload X1717 hx (hb hby at_174) rfl (pc' := 176) rfl ?_
       refine k_icmp_ne X1717 hx (hb hby at_176) (pn := 179) rfl (py := 183) (by decide) (fun hc => absurd (by decide) hc) (fun _ => ?_)
       refine k_iconst X1717 hx (hb hby at_179) (pc' := 180) rfl (z := (1 : Int32)) rfl ?_
       refine k_goto X1717 hx (hb hby at_180) (pc' := 184) (by decide) ?_
       exact k_retN X1717 hx (t := .boolean) Bd.returns (by simp) (hb hby at_184) hlk (by decide) (by decide) (z' := (1 : Int32)) rfl ⟨rfl, N1717'⟩
    ·
     show KEnds p e below s _ _ _ T1549 (mkF m 97 #[.val (.int i0), .val (.long i1), .second, .val (.long i2), .second, .val (.long i3), .second, .val (.long v4), .second, .val (.ref b5), .val (.int (2 : Int32)), .val (.int (0 : Int32)), .unset, .unset, .unset, .unset] [])
     refine k_goto X1549 hx (hb hby at_97) (pc' := 107) (by decide) ?_
     refine k_iload X1549 hx (hb hby at_107) rfl (pc' := 109) rfl ?_
     refine k_iconst X1549 hx (hb hby at_109) (pc' := 110) rfl (z := (1 : Int32)) rfl ?_
     refine k_icmp_lt X1549 hx (hb hby at_110) (pn := 113) rfl (py := 117) (by decide) (fun hc => absurd hc (by decide)) (fun _ => ?_)
     refine k_iconst X1549 hx (hb hby at_113) (pc' := 114) rfl (z := (1 : Int32)) rfl ?_
     refine k_goto X1549 hx (hb hby at_114) (pc' := 118) (by decide) ?_
     refine k_istore X1549 hx (hb hby at_118) (Ls' := #[.val (.int i0), .val (.long i1), .second, .val (.long i2), .second, .val (.long i3), .second, .val (.long v4), .second, .val (.ref b5), .val (.int (2 : Int32)), .val (.int (0 : Int32)), .val (.int (1 : Int32)), .unset, .unset, .unset]) rfl (pc' := 120) rfl ?_
     refine k_lloadN X1549 hx (hb hby at_120) rfl (pc' := 121) rfl ?_
     refine k_lstore X1549 hx (hb hby at_121) (Ls' := #[.val (.int i0), .val (.long i1), .second, .val (.long i2), .second, .val (.long i3), .second, .val (.long v4), .second, .val (.ref b5), .val (.int (2 : Int32)), .val (.int (0 : Int32)), .val (.int (1 : Int32)), .val (.long i1), .second, .unset]) rfl (pc' := 123) rfl ?_
     refine k_iload X1549 hx (hb hby at_123) rfl (pc' := 125) rfl ?_
     refine k_iconst X1549 hx (hb hby at_125) (pc' := 126) rfl (z := (2 : Int32)) rfl ?_
     refine k_icmp_lt X1549 hx (hb hby at_126) (pn := 129) rfl (py := 140) (by decide) (fun hc => absurd hc (by decide)) (fun _ => ?_)
     refine k_lloadN X1549 hx (hb hby at_129) rfl (pc' := 130) rfl ?_
     refine k_lloadN X1549 hx (hb hby at_130) rfl (pc' := 131) rfl ?_
     refine k_lsubL X1549 hx (hb hby at_131) (pc' := 132) rfl (z := v1612) h1613.symm ?_
     refine k_lconst X1549 hx (hb hby at_132) (pc' := 133) rfl (z := (0 : Int64)) rfl ?_
     refine k_lcif_le X1549 hx (hb hby at_133) (pm := 134) rfl (hb hby at_134) (pn := 137) rfl (py := 140) (by decide) (fun hc => absurd hc1614 hc) (fun _ => ?_)
     refine k_lloadN X1549 hx (hb hby at_137) rfl (pc' := 138) rfl ?_
     refine k_lstore X1549 hx (hb hby at_138) (Ls' := #[.val (.int i0), .val (.long i1), .second, .val (.long i2), .second, .val (.long i3), .second, .val (.long v4), .second, .val (.ref b5), .val (.int (2 : Int32)), .val (.int (0 : Int32)), .val (.int (1 : Int32)), .val (.long i2), .second, .unset]) rfl (pc' := 140) rfl ?_
     refine k_iload X1549 hx (hb hby at_140) rfl (pc' := 142) rfl ?_
     refine k_if_eq X1549 hx (hb hby at_142) (pn := 145) rfl (py := 159) (by decide) (fun hc => absurd hc (by decide)) (fun _ => ?_)
     refine k_lload X1549 hx (hb hby at_145) rfl (pc' := 147) rfl ?_
     refine k_lload X1549 hx (hb hby at_147) rfl (pc' := 149) rfl ?_
     refine k_lsub X1549 hx (hb hby at_149) (pc' := 150) rfl (fun v1726 hv1726 => ?_)
     refine k_lconst X1549 hx (hb hby at_150) (pc' := 151) rfl (z := (0 : Int64)) rfl ?_
     refine k_lcif_le X1549 hx (hb hby at_151) (pm := 152) rfl (hb hby at_152) (pn := 155) rfl (py := 159) (by decide) (fun hc1727 => ?_) (fun hc1727 => ?_)
     ·
      refine k_iconst X1549 hx (hb hby at_159) (pc' := 160) rfl (z := (0 : Int32)) rfl ?_
      refine k_istore X1549 hx (hb hby at_160) (Ls' := #[.val (.int i0), .val (.long i1), .second, .val (.long i2), .second, .val (.long i3), .second, .val (.long v4), .second, .val (.ref b5), .val (.int (2 : Int32)), .val (.int (0 : Int32)), .val (.int (1 : Int32)), .val (.long i2), .second, .val (.int (0 : Int32))]) rfl (pc' := 162) rfl ?_
      refine k_iload X1549 hx (hb hby at_162) rfl (pc' := 164) rfl ?_
      refine k_if_ne X1549 hx (hb hby at_164) (pn := 167) rfl (py := 183) (by decide) (fun hc => absurd (by decide) hc) (fun _ => ?_)
      refine k_aload X1549 hx (hb hby at_167) rfl rfl (pc' := 169) rfl ?_
      refine k_lload X1549 hx (hb hby at_169) rfl (pc' := 171) rfl ?_
      refine k_callV X1549 hx hZ hown (a := b5) (hw _ (List.mem_of_getElem? (i := 19) rfl)) (hw _ (List.mem_of_getElem? (i := 20) rfl)) (hw _ (List.mem_of_getElem? (i := 22) rfl)) (hw _ (List.mem_of_getElem? (i := 21) rfl)) (hw _ (List.mem_of_getElem? (i := 2) rfl)) (hw _ (List.mem_of_getElem? (i := 23) rfl)) (by decide) F1617 (rm3_1728 l Z a0 hw [] b5 i3 b725 b727 v4 i2 k726 i1 k728 T1549.heap n0 Z1631 F1617 F1618 F1619 F1620 F1621 F1622 F1623 F1624 F1625 F1626 F1629 F1630 (Nat.lt_trans (Nat.lt_trans lt67 lt68) lt743) lt744) (by decide) (by decide) rfl (by rw [hml]; rfl) (argsL := [(.long i3)]) (rest := []) (lenOf pd_1 rfl) rfl (W := 0) (Nat.le_refl _) rfl (hb hby at_171) (by decide) (by decide) (pc' := 174) rfl (fun T1733 L1733 r1733 X1733 q1733 => ?_)
      obtain ⟨N1733, e1733, q1733⟩ := q1733
      have N1733' := Fr.app N1549' N1733
      rcases q1733 with ⟨v1734, h1735, hc1736, rfl⟩ | ⟨v1737, h1738, hc1739, rfl⟩
      ·
       have hh1740 : v1726 = v1734 := hv1726.trans h1735.symm
       subst hh1740
       show KEnds p e below s _ _ _ T1733 (mkF m 174 #[.val (.int i0), .val (.long i1), .second, .val (.long i2), .second, .val (.long i3), .second, .val (.long v4), .second, .val (.ref b5), .val (.int (2 : Int32)), .val (.int (0 : Int32)), .val (.int (1 : Int32)), .val (.long i2), .second, .val (.int (0 : Int32))] [(.int (0 : Int32))])
       refine k_iload X1733 hx (hb hby at_174) rfl (pc' := 176) rfl ?_
       refine k_icmp_ne X1733 hx (hb hby at_176) (pn := 179) rfl (py := 183) (by decide) (fun hc => absurd (by decide) hc) (fun _ => ?_)
       refine k_iconst X1733 hx (hb hby at_179) (pc' := 180) rfl (z := (1 : Int32)) rfl ?_
       refine k_goto X1733 hx (hb hby at_180) (pc' := 184) (by decide) ?_
       exact k_retN X1733 hx (t := .boolean) Bd.returns (by simp) (hb hby at_184) hlk (by decide) (by decide) (z' := (1 : Int32)) rfl ⟨rfl, N1733'⟩
      ·
       have hh1741 : v1726 = v1737 := hv1726.trans h1738.symm
       subst hh1741
       show KEnds p e below s _ _ _ T1733 (mkF m 174 #[.val (.int i0), .val (.long i1), .second, .val (.long i2), .second, .val (.long i3), .second, .val (.long v4), .second, .val (.ref b5), .val (.int (2 : Int32)), .val (.int (0 : Int32)), .val (.int (1 : Int32)), .val (.long i2), .second, .val (.int (0 : Int32))] [(.int (1 : Int32))])
       exact absurd hc1739 hc1727
     ·
      refine k_iconst X1549 hx (hb hby at_155) (pc' := 156) rfl (z := (1 : Int32)) rfl ?_
      refine k_goto X1549 hx (hb hby at_156) (pc' := 160) (by decide) ?_
      refine k_istore X1549 hx (hb hby at_160) (Ls' := #[.val (.int i0), .val (.long i1), .second, .val (.long i2), .second, .val (.long i3), .second, .val (.long v4), .second, .val (.ref b5), .val (.int (2 : Int32)), .val (.int (0 : Int32)), .val (.int (1 : Int32)), .val (.long i2), .second, .val (.int (1 : Int32))]) rfl (pc' := 162) rfl ?_
      refine k_iload X1549 hx (hb hby at_162) rfl (pc' := 164) rfl ?_
      refine k_if_ne X1549 hx (hb hby at_164) (pn := 167) rfl (py := 183) (by decide) (fun hc => absurd (by decide) hc) (fun _ => ?_)
      refine k_aload X1549 hx (hb hby at_167) rfl rfl (pc' := 169) rfl ?_
      refine k_lload X1549 hx (hb hby at_169) rfl (pc' := 171) rfl ?_
      refine k_callV X1549 hx hZ hown (a := b5) (hw _ (List.mem_of_getElem? (i := 19) rfl)) (hw _ (List.mem_of_getElem? (i := 20) rfl)) (hw _ (List.mem_of_getElem? (i := 22) rfl)) (hw _ (List.mem_of_getElem? (i := 21) rfl)) (hw _ (List.mem_of_getElem? (i := 2) rfl)) (hw _ (List.mem_of_getElem? (i := 23) rfl)) (by decide) F1617 (rm3_1728 l Z a0 hw [] b5 i3 b725 b727 v4 i2 k726 i1 k728 T1549.heap n0 Z1631 F1617 F1618 F1619 F1620 F1621 F1622 F1623 F1624 F1625 F1626 F1629 F1630 (Nat.lt_trans (Nat.lt_trans lt67 lt68) lt743) lt744) (by decide) (by decide) rfl (by rw [hml]; rfl) (argsL := [(.long i3)]) (rest := []) (lenOf pd_1 rfl) rfl (W := 0) (Nat.le_refl _) rfl (hb hby at_171) (by decide) (by decide) (pc' := 174) rfl (fun T1742 L1742 r1742 X1742 q1742 => ?_)
      obtain ⟨N1742, e1742, q1742⟩ := q1742
      have N1742' := Fr.app N1549' N1742
      rcases q1742 with ⟨v1743, h1744, hc1745, rfl⟩ | ⟨v1746, h1747, hc1748, rfl⟩
      ·
       have hh1749 : v1726 = v1743 := hv1726.trans h1744.symm
       subst hh1749
       show KEnds p e below s _ _ _ T1742 (mkF m 174 #[.val (.int i0), .val (.long i1), .second, .val (.long i2), .second, .val (.long i3), .second, .val (.long v4), .second, .val (.ref b5), .val (.int (2 : Int32)), .val (.int (0 : Int32)), .val (.int (1 : Int32)), .val (.long i2), .second, .val (.int (1 : Int32))] [(.int (0 : Int32))])
       exact absurd hc1727 hc1745
      ·
       have hh1750 : v1726 = v1746 := hv1726.trans h1747.symm
       subst hh1750
       show KEnds p e below s _ _ _ T1742 (mkF m 174 #[.val (.int i0), .val (.long i1), .second, .val (.long i2), .second, .val (.long i3), .second, .val (.long v4), .second, .val (.ref b5), .val (.int (2 : Int32)), .val (.int (0 : Int32)), .val (.int (1 : Int32)), .val (.long i2), .second, .val (.int (1 : Int32))] [(.int (1 : Int32))])
       refine k_iload X1742 hx (hb hby at_174) rfl (pc' := 176) rfl ?_
       refine k_icmp_ne X1742 hx (hb hby at_176) (pn := 179) rfl (py := 183) (by decide) (fun hc => absurd (by decide) hc) (fun _ => ?_)
       refine k_iconst X1742 hx (hb hby at_179) (pc' := 180) rfl (z := (1 : Int32)) rfl ?_
       refine k_goto X1742 hx (hb hby at_180) (pc' := 184) (by decide) ?_
       exact k_retN X1742 hx (t := .boolean) Bd.returns (by simp) (hb hby at_184) hlk (by decide) (by decide) (z' := (1 : Int32)) rfl ⟨rfl, N1742'⟩
    ·
     show KEnds p e below s _ _ _ T1549 (mkF m 97 #[.val (.int i0), .val (.long i1), .second, .val (.long i2), .second, .val (.long i3), .second, .val (.long v4), .second, .val (.ref b5), .val (.int (2 : Int32)), .val (.int (0 : Int32)), .unset, .unset, .unset, .unset] [])
     refine k_goto X1549 hx (hb hby at_97) (pc' := 107) (by decide) ?_
     refine k_iload X1549 hx (hb hby at_107) rfl (pc' := 109) rfl ?_
     refine k_iconst X1549 hx (hb hby at_109) (pc' := 110) rfl (z := (1 : Int32)) rfl ?_
     refine k_icmp_lt X1549 hx (hb hby at_110) (pn := 113) rfl (py := 117) (by decide) (fun hc => absurd hc (by decide)) (fun _ => ?_)
     refine k_iconst X1549 hx (hb hby at_113) (pc' := 114) rfl (z := (1 : Int32)) rfl ?_
     refine k_goto X1549 hx (hb hby at_114) (pc' := 118) (by decide) ?_
     refine k_istore X1549 hx (hb hby at_118) (Ls' := #[.val (.int i0), .val (.long i1), .second, .val (.long i2), .second, .val (.long i3), .second, .val (.long v4), .second, .val (.ref b5), .val (.int (2 : Int32)), .val (.int (0 : Int32)), .val (.int (1 : Int32)), .unset, .unset, .unset]) rfl (pc' := 120) rfl ?_
     refine k_lloadN X1549 hx (hb hby at_120) rfl (pc' := 121) rfl ?_
     refine k_lstore X1549 hx (hb hby at_121) (Ls' := #[.val (.int i0), .val (.long i1), .second, .val (.long i2), .second, .val (.long i3), .second, .val (.long v4), .second, .val (.ref b5), .val (.int (2 : Int32)), .val (.int (0 : Int32)), .val (.int (1 : Int32)), .val (.long i1), .second, .unset]) rfl (pc' := 123) rfl ?_
     refine k_iload X1549 hx (hb hby at_123) rfl (pc' := 125) rfl ?_
     refine k_iconst X1549 hx (hb hby at_125) (pc' := 126) rfl (z := (2 : Int32)) rfl ?_
     refine k_icmp_lt X1549 hx (hb hby at_126) (pn := 129) rfl (py := 140) (by decide) (fun hc => absurd hc (by decide)) (fun _ => ?_)
     refine k_lloadN X1549 hx (hb hby at_129) rfl (pc' := 130) rfl ?_
     refine k_lloadN X1549 hx (hb hby at_130) rfl (pc' := 131) rfl ?_
     refine k_lsubL X1549 hx (hb hby at_131) (pc' := 132) rfl (z := v1632) h1633.symm ?_
     refine k_lconst X1549 hx (hb hby at_132) (pc' := 133) rfl (z := (0 : Int64)) rfl ?_
     refine k_lcif_le X1549 hx (hb hby at_133) (pm := 134) rfl (hb hby at_134) (pn := 137) rfl (py := 140) (by decide) (fun hc => absurd hc1634 hc) (fun _ => ?_)
     refine k_lloadN X1549 hx (hb hby at_137) rfl (pc' := 138) rfl ?_
     refine k_lstore X1549 hx (hb hby at_138) (Ls' := #[.val (.int i0), .val (.long i1), .second, .val (.long i2), .second, .val (.long i3), .second, .val (.long v4), .second, .val (.ref b5), .val (.int (2 : Int32)), .val (.int (0 : Int32)), .val (.int (1 : Int32)), .val (.long i2), .second, .unset]) rfl (pc' := 140) rfl ?_
     refine k_iload X1549 hx (hb hby at_140) rfl (pc' := 142) rfl ?_
     refine k_if_eq X1549 hx (hb hby at_142) (pn := 145) rfl (py := 159) (by decide) (fun hc => absurd hc (by decide)) (fun _ => ?_)
     refine k_lload X1549 hx (hb hby at_145) rfl (pc' := 147) rfl ?_
     refine k_lload X1549 hx (hb hby at_147) rfl (pc' := 149) rfl ?_
     refine k_lsub X1549 hx (hb hby at_149) (pc' := 150) rfl (fun v1751 hv1751 => ?_)
     refine k_lconst X1549 hx (hb hby at_150) (pc' := 151) rfl (z := (0 : Int64)) rfl ?_
     refine k_lcif_le X1549 hx (hb hby at_151) (pm := 152) rfl (hb hby at_152) (pn := 155) rfl (py := 159) (by decide) (fun hc1752 => ?_) (fun hc1752 => ?_)
     ·
      refine k_iconst X1549 hx (hb hby at_159) (pc' := 160) rfl (z := (0 : Int32)) rfl ?_
      refine k_istore X1549 hx (hb hby at_160) (Ls' := #[.val (.int i0), .val (.long i1), .second, .val (.long i2), .second, .val (.long i3), .second, .val (.long v4), .second, .val (.ref b5), .val (.int (2 : Int32)), .val (.int (0 : Int32)), .val (.int (1 : Int32)), .val (.long i2), .second, .val (.int (0 : Int32))]) rfl (pc' := 162) rfl ?_
      refine k_iload X1549 hx (hb hby at_162) rfl (pc' := 164) rfl ?_
      refine k_if_ne X1549 hx (hb hby at_164) (pn := 167) rfl (py := 183) (by decide) (fun hc => absurd (by decide) hc) (fun _ => ?_)
      refine k_aload X1549 hx (hb hby at_167) rfl rfl (pc' := 169) rfl ?_
      refine k_lload X1549 hx (hb hby at_169) rfl (pc' := 171) rfl ?_
      refine k_callV X1549 hx hZ hown (a := b5) (hw _ (List.mem_of_getElem? (i := 19) rfl)) (hw _ (List.mem_of_getElem? (i := 20) rfl)) (hw _ (List.mem_of_getElem? (i := 22) rfl)) (hw _ (List.mem_of_getElem? (i := 21) rfl)) (hw _ (List.mem_of_getElem? (i := 2) rfl)) (hw _ (List.mem_of_getElem? (i := 23) rfl)) (by decide) F1636 (rm3_1753 l Z a0 hw [] b5 i3 b725 b727 v4 i2 k726 i1 k728 T1549.heap n0 Z1650 F1636 F1637 F1638 F1639 F1640 F1641 F1642 F1643 F1644 F1645 F1648 F1649 (Nat.lt_trans (Nat.lt_trans lt67 lt68) lt743) lt744) (by decide) (by decide) rfl (by rw [hml]; rfl) (argsL := [(.long i3)]) (rest := []) (lenOf pd_1 rfl) rfl (W := 0) (Nat.le_refl _) rfl (hb hby at_171) (by decide) (by decide) (pc' := 174) rfl (fun T1758 L1758 r1758 X1758 q1758 => ?_)
      obtain ⟨N1758, e1758, q1758⟩ := q1758
      have N1758' := Fr.app N1549' N1758
      rcases q1758 with ⟨v1759, h1760, hc1761, rfl⟩ | ⟨v1762, h1763, hc1764, rfl⟩
      ·
       have hh1765 : v1751 = v1759 := hv1751.trans h1760.symm
       subst hh1765
       show KEnds p e below s _ _ _ T1758 (mkF m 174 #[.val (.int i0), .val (.long i1), .second, .val (.long i2), .second, .val (.long i3), .second, .val (.long v4), .second, .val (.ref b5), .val (.int (2 : Int32)), .val (.int (0 : Int32)), .val (.int (1 : Int32)), .val (.long i2), .second, .val (.int (0 : Int32))] [(.int (0 : Int32))])
       refine k_iload X1758 hx (hb hby at_174) rfl (pc' := 176) rfl ?_
       refine k_icmp_ne X1758 hx (hb hby at_176) (pn := 179) rfl (py := 183) (by decide) (fun hc => absurd (by decide) hc) (fun _ => ?_)
       refine k_iconst X1758 hx (hb hby at_179) (pc' := 180) rfl (z := (1 : Int32)) rfl ?_
       refine k_goto X1758 hx (hb hby at_180) (pc' := 184) (by decide) ?_
       exact k_retN X1758 hx (t := .boolean) Bd.returns (by simp) (hb hby at_184) hlk (by decide) (by decide) (z' := (1 : Int32)) rfl ⟨rfl, N1758'⟩
      ·
       have hh1766 : v1751 = v1762 := hv1751.trans h1763.symm
       subst hh1766
       show KEnds p e below s _ _ _ T1758 (mkF m 174 #[.val (.int i0), .val (.long i1), .second, .val (.long i2), .second, .val (.long i3), .second, .val (.long v4), .second, .val (.ref b5), .val (.int (2 : Int32)), .val (.int (0 : Int32)), .val (.int (1 : Int32)), .val (.long i2), .second, .val (.int (0 : Int32))] [(.int (1 : Int32))])
       exact absurd hc1764 hc1752
     ·
      refine k_iconst X1549 hx (hb hby at_155) (pc' := 156) rfl (z := (1 : Int32)) rfl ?_
      refine k_goto X1549 hx (hb hby at_156) (pc' := 160) (by decide) ?_
      refine k_istore X1549 hx (hb hby at_160) (Ls' := #[.val (.int i0), .val (.long i1), .second, .val (.long i2), .second, .val (.long i3), .second, .val (.long v4), .second, .val (.ref b5), .val (.int (2 : Int32)), .val (.int (0 : Int32)), .val (.int (1 : Int32)), .val (.long i2), .second, .val (.int (1 : Int32))]) rfl (pc' := 162) rfl ?_
      refine k_iload X1549 hx (hb hby at_162) rfl (pc' := 164) rfl ?_
      refine k_if_ne X1549 hx (hb hby at_164) (pn := 167) rfl (py := 183) (by decide) (fun hc => absurd (by decide) hc) (fun _ => ?_)
      refine k_aload X1549 hx (hb hby at_167) rfl rfl (pc' := 169) rfl ?_
      refine k_lload X1549 hx (hb hby at_169) rfl (pc' := 171) rfl ?_
      refine k_callV X1549 hx hZ hown (a := b5) (hw _ (List.mem_of_getElem? (i := 19) rfl)) (hw _ (List.mem_of_getElem? (i := 20) rfl)) (hw _ (List.mem_of_getElem? (i := 22) rfl)) (hw _ (List.mem_of_getElem? (i := 21) rfl)) (hw _ (List.mem_of_getElem? (i := 2) rfl)) (hw _ (List.mem_of_getElem? (i := 23) rfl)) (by decide) F1636 (rm3_1753 l Z a0 hw [] b5 i3 b725 b727 v4 i2 k726 i1 k728 T1549.heap n0 Z1650 F1636 F1637 F1638 F1639 F1640 F1641 F1642 F1643 F1644 F1645 F1648 F1649 (Nat.lt_trans (Nat.lt_trans lt67 lt68) lt743) lt744) (by decide) (by decide) rfl (by rw [hml]; rfl) (argsL := [(.long i3)]) (rest := []) (lenOf pd_1 rfl) rfl (W := 0) (Nat.le_refl _) rfl (hb hby at_171) (by decide) (by decide) (pc' := 174) rfl (fun T1767 L1767 r1767 X1767 q1767 => ?_)
      obtain ⟨N1767, e1767, q1767⟩ := q1767
      have N1767' := Fr.app N1549' N1767
      rcases q1767 with ⟨v1768, h1769, hc1770, rfl⟩ | ⟨v1771, h1772, hc1773, rfl⟩
      ·
       have hh1774 : v1751 = v1768 := hv1751.trans h1769.symm
       subst hh1774
       show KEnds p e below s _ _ _ T1767 (mkF m 174 #[.val (.int i0), .val (.long i1), .second, .val (.long i2), .second, .val (.long i3), .second, .val (.long v4), .second, .val (.ref b5), .val (.int (2 : Int32)), .val (.int (0 : Int32)), .val (.int (1 : Int32)), .val (.long i2), .second, .val (.int (1 : Int32))] [(.int (0 : Int32))])
       exact absurd hc1752 hc1770
      ·
       have hh1775 : v1751 = v1771 := hv1751.trans h1772.symm
       subst hh1775
       show KEnds p e below s _ _ _ T1767 (mkF m 174 #[.val (.int i0), .val (.long i1), .second, .val (.long i2), .second, .val (.long i3), .second, .val (.long v4), .second, .val (.ref b5), .val (.int (2 : Int32)), .val (.int (0 : Int32)), .val (.int (1 : Int32)), .val (.long i2), .second, .val (.int (1 : Int32))] [(.int (1 : Int32))])
       refine k_iload X1767 hx (hb hby at_174) rfl (pc' := 176) rfl ?_
       refine k_icmp_ne X1767 hx (hb hby at_176) (pn := 179) rfl (py := 183) (by decide) (fun hc => absurd (by decide) hc) (fun _ => ?_)
       refine k_iconst X1767 hx (hb hby at_179) (pc' := 180) rfl (z := (1 : Int32)) rfl ?_
       refine k_goto X1767 hx (hb hby at_180) (pc' := 184) (by decide) ?_
       exact k_retN X1767 hx (t := .boolean) Bd.returns (by simp) (hb hby at_184) hlk (by decide) (by decide) (z' := (1 : Int32)) rfl ⟨rfl, N1767'⟩
 ·
  show KEnds p e below s _ _ _ T50 (mkF m 28 #[.val (.int i0), .val (.long i1), .second, .val (.long i2), .second, .val (.long i3), .second, .val (.long v4), .second, .val (.ref b5), .unset, .unset, .unset, .unset, .unset, .unset] [(.int (3 : Int32))])
  refine k_istore X50 hx (hb hby at_28) (Ls' := #[.val (.int i0), .val (.long i1), .second, .val (.long i2), .second, .val (.long i3), .second, .val (.long v4), .second, .val (.ref b5), .val (.int (3 : Int32)), .unset, .unset, .unset, .unset, .unset]) rfl (pc' := 30) rfl ?_
  refine k_iload X50 hx (hb hby at_30) rfl (pc' := 32) rfl ?_
  refine k_iconst X50 hx (hb hby at_32) (pc' := 33) rfl (z := (3 : Int32)) rfl ?_
  refine k_icmp_ne X50 hx (hb hby at_33) (pn := 36) rfl (py := 39) (by decide) (fun hc => absurd (by decide) hc) (fun _ => ?_)
  refine k_iconst X50 hx (hb hby at_36) (pc' := 37) rfl (z := (2 : Int32)) rfl ?_
  refine k_istore X50 hx (hb hby at_37) (Ls' := #[.val (.int i0), .val (.long i1), .second, .val (.long i2), .second, .val (.long i3), .second, .val (.long v4), .second, .val (.ref b5), .val (.int (2 : Int32)), .unset, .unset, .unset, .unset, .unset]) rfl (pc' := 39) rfl ?_
  refine k_aload X50 hx (hb hby at_39) rfl rfl (pc' := 41) rfl ?_
  refine k_lload X50 hx (hb hby at_41) rfl (pc' := 43) rfl ?_
  refine k_callV X50 hx hZ hown (a := b5) (hw _ (List.mem_of_getElem? (i := 19) rfl)) (hw _ (List.mem_of_getElem? (i := 20) rfl)) (hw _ (List.mem_of_getElem? (i := 22) rfl)) (hw _ (List.mem_of_getElem? (i := 21) rfl)) (hw _ (List.mem_of_getElem? (i := 2) rfl)) (hw _ (List.mem_of_getElem? (i := 23) rfl)) (by decide) F55 (rm3_74 l Z a0 hw [] b5 i3 b51 b53 v4 k52 k54 T50.heap n0 Z69 F55 F56 F57 F58 F59 F60 F61 F62 F63 F64 F65 F66 lt67 lt68) (by decide) (by decide) rfl (by rw [hml]; rfl) (argsL := [(.long i3)]) (rest := []) (lenOf pd_1 rfl) rfl (W := 0) (Nat.le_refl _) rfl (hb hby at_43) (by decide) (by decide) (pc' := 46) rfl (fun T1777 L1777 r1777 X1777 q1777 => ?_)
  obtain ⟨N1777, e1777, q1777⟩ := q1777
  have N1777' := Fr.app N50' N1777
  obtain rfl := q1777
  show KEnds p e below s _ _ _ T1777 (mkF m 46 #[.val (.int i0), .val (.long i1), .second, .val (.long i2), .second, .val (.long i3), .second, .val (.long v4), .second, .val (.ref b5), .val (.int (2 : Int32)), .unset, .unset, .unset, .unset, .unset] [(.int (0 : Int32))])
  refine k_istore X1777 hx (hb hby at_46) (Ls' := #[.val (.int i0), .val (.long i1), .second, .val (.long i2), .second, .val (.long i3), .second, .val (.long v4), .second, .val (.ref b5), .val (.int (2 : Int32)), .val (.int (0 : Int32)), .unset, .unset, .unset, .unset]) rfl (pc' := 48) rfl ?_
  refine k_iload X1777 hx (hb hby at_48) rfl (pc' := 50) rfl ?_
  refine k_iconst X1777 hx (hb hby at_50) (pc' := 51) rfl (z := (1 : Int32)) rfl ?_
  refine k_icmp_lt X1777 hx (hb hby at_51) (pn := 54) rfl (py := 77) (by decide) (fun hc => absurd hc (by decide)) (fun _ => ?_)
  refine k_iloadN X1777 hx (hb hby at_54) rfl (pc' := 55) rfl ?_
  refine k_iconst X1777 hx (hb hby at_55) (pc' := 56) rfl (z := (4 : Int32)) rfl ?_
  refine k_iand X1777 hx (hb hby at_56) (pc' := 57) rfl (fun v1778 hv1778 => ?_)
  refine k_if_eq X1777 hx (hb hby at_57) (pn := 60) rfl (py := 70) (by decide) (fun hc1779 => ?_) (fun hc1779 => ?_)
  ·
   refine k_aload X1777 hx (hb hby at_70) rfl rfl (pc' := 72) rfl ?_
   refine k_lloadN X1777 hx (hb hby at_72) rfl (pc' := 73) rfl ?_
   refine k_callV X1777 hx hZ hown (a := b5) (hw _ (List.mem_of_getElem? (i := 74) rfl)) (hw _ (List.mem_of_getElem? (i := 75) rfl)) (hw _ (List.mem_of_getElem? (i := 77) rfl)) (hw _ (List.mem_of_getElem? (i := 76) rfl)) (hw _ (List.mem_of_getElem? (i := 2) rfl)) (hw _ (List.mem_of_getElem? (i := 78) rfl)) (by decide) F55 (rm13_82 l Z a0 hw [] b5 i1 b51 b53 v4 k52 k54 T50.heap n0 Z69 F55 F56 F57 F58 F59 F60 F61 F62 F63 F64 g_b5 F65 g_b51 F66 g_b53 lt67 lt68) (by decide) (by decide) e1777 (by rw [hml]; rfl) (argsL := [(.long i1)]) (rest := []) (lenOf pd_4 rfl) rfl (W := 0) (Nat.le_refl _) rfl (hb hby at_73) (by decide) (by decide) (pc' := 76) rfl (fun T1780 L1780 r1780 X1780 q1780 => ?_)
   obtain ⟨N1780, q1780⟩ := q1780
   have N1780' := Fr.app N1777' N1780
   obtain ⟨rfl, F1781, F1782, F1783, F1784, F1785, F1786, F1787, F1788, F1789, F1790, F1791, F1792, Z1793⟩ := q1780
   show KEnds p e below s _ _ _ T1780 (mkF m 76 #[.val (.int i0), .val (.long i1), .second, .val (.long i2), .second, .val (.long i3), .second, .val (.long v4), .second, .val (.ref b5), .val (.int (2 : Int32)), .val (.int (0 : Int32)), .unset, .unset, .unset, .unset] [(.long (0 : Int64))])
   refine k_pop2L X1780 hx (hb hby at_76) (pc' := 77) rfl ?_
   refine k_iload X1780 hx (hb hby at_77) rfl (pc' := 79) rfl ?_
   refine k_iconst X1780 hx (hb hby at_79) (pc' := 80) rfl (z := (2 : Int32)) rfl ?_
   refine k_icmp_lt X1780 hx (hb hby at_80) (pn := 83) rfl (py := 107) (by decide) (fun hc => absurd hc (by decide)) (fun _ => ?_)
   refine k_iloadN X1780 hx (hb hby at_83) rfl (pc' := 84) rfl ?_
   refine k_bipush X1780 hx (hb hby at_84) (pc' := 86) rfl (z := (8 : Int32)) rfl ?_
   refine k_iand X1780 hx (hb hby at_86) (pc' := 87) rfl (fun v1794 hv1794 => ?_)
   refine k_if_eq X1780 hx (hb hby at_87) (pn := 90) rfl (py := 100) (by decide) (fun hc1795 => ?_) (fun hc1795 => ?_)
   ·
    refine k_aload X1780 hx (hb hby at_100) rfl rfl (pc' := 102) rfl ?_
    refine k_lloadN X1780 hx (hb hby at_102) rfl (pc' := 103) rfl ?_
    refine k_callV X1780 hx hZ hown (a := b5) (hw _ (List.mem_of_getElem? (i := 74) rfl)) (hw _ (List.mem_of_getElem? (i := 75) rfl)) (hw _ (List.mem_of_getElem? (i := 77) rfl)) (hw _ (List.mem_of_getElem? (i := 76) rfl)) (hw _ (List.mem_of_getElem? (i := 2) rfl)) (hw _ (List.mem_of_getElem? (i := 78) rfl)) (by decide) F1781 (rm13_396 l Z a0 hw [] b5 i2 b51 b53 v4 i1 k52 k54 T1780.heap n0 Z1793 F1781 F1782 F1783 F1784 F1785 F1786 F1787 F1788 F1789 F1790 g_b5 F1791 g_b51 F1792 g_b53 lt67 lt68) (by decide) (by decide) rfl (by rw [hml]; rfl) (argsL := [(.long i2)]) (rest := []) (lenOf pd_4 rfl) rfl (W := 0) (Nat.le_refl _) rfl (hb hby at_103) (by decide) (by decide) (pc' := 106) rfl (fun T1796 L1796 r1796 X1796 q1796 => ?_)
    obtain ⟨N1796, q1796⟩ := q1796
    have N1796' := Fr.app N1780' N1796
    rcases q1796 with ⟨v1797, h1798, hc1799, rfl, F1800, F1801, F1802, F1803, F1804, F1805, F1806, F1807, F1808, F1809, F1810, F1811, Z1812⟩ | ⟨v1813, h1814, hc1815, rfl, F1816, F1817, F1818, F1819, F1820, F1821, F1822, F1823, F1824, F1825, F1826, F1827, Z1828⟩
    ·
     show KEnds p e below s _ _ _ T1796 (mkF m 106 #[.val (.int i0), .val (.long i1), .second, .val (.long i2), .second, .val (.long i3), .second, .val (.long v4), .second, .val (.ref b5), .val (.int (2 : Int32)), .val (.int (0 : Int32)), .unset, .unset, .unset, .unset] [(.long (0 : Int64))])
     refine k_pop2L X1796 hx (hb hby at_106) (pc' := 107) rfl ?_
     refine k_iload X1796 hx (hb hby at_107) rfl (pc' := 109) rfl ?_
     refine k_iconst X1796 hx (hb hby at_109) (pc' := 110) rfl (z := (1 : Int32)) rfl ?_
     refine k_icmp_lt X1796 hx (hb hby at_110) (pn := 113) rfl (py := 117) (by decide) (fun hc => absurd hc (by decide)) (fun _ => ?_)
     refine k_iconst X1796 hx (hb hby at_113) (pc' := 114) rfl (z := (1 : Int32)) rfl ?_
     refine k_goto X1796 hx (hb hby at_114) (pc' := 118) (by decide) ?_
     refine k_istore X1796 hx (hb hby at_118) (Ls' := #[.val (.int i0), .val (.long i1), .second, .val (.long i2), .second, .val (.long i3), .second, .val (.long v4), .second, .val (.ref b5), .val (.int (2 : Int32)), .val (.int (0 : Int32)), .val (.int (1 : Int32)), .unset, .unset, .unset]) rfl (pc' := 120) rfl ?_
     refine k_lloadN X1796 hx (hb hby at_120) rfl (pc' := 121) rfl ?_
     refine k_lstore X1796 hx (hb hby at_121) (Ls' := #[.val (.int i0), .val (.long i1), .second, .val (.long i2), .second, .val (.long i3), .second, .val (.long v4), .second, .val (.ref b5), .val (.int (2 : Int32)), .val (.int (0 : Int32)), .val (.int (1 : Int32)), .val (.long i1), .second, .unset]) rfl (pc' := 123) rfl ?_
     refine k_iload X1796 hx (hb hby at_123) rfl (pc' := 125) rfl ?_
     refine k_iconst X1796 hx (hb hby at_125) (pc' := 126) rfl (z := (2 : Int32)) rfl ?_
     refine k_icmp_lt X1796 hx (hb hby at_126) (pn := 129) rfl (py := 140) (by decide) (fun hc => absurd hc (by decide)) (fun _ => ?_)
     refine k_lloadN X1796 hx (hb hby at_129) rfl (pc' := 130) rfl ?_
     refine k_lloadN X1796 hx (hb hby at_130) rfl (pc' := 131) rfl ?_
     refine k_lsubL X1796 hx (hb hby at_131) (pc' := 132) rfl (z := v1797) h1798.symm ?_
     refine k_lconst X1796 hx (hb hby at_132) (pc' := 133) rfl (z := (0 : Int64)) rfl ?_
     refine k_lcif_le X1796 hx (hb hby at_133) (pm := 134) rfl (hb hby at_134) (pn := 137) rfl (py := 140) (by decide) (fun _ => ?_) (fun hc => absurd hc hc1799)
     refine k_iload X1796 hx (hb hby at_140) rfl (pc' := 142) rfl ?_
     refine k_if_eq X1796 hx (hb hby at_142) (pn := 145) rfl (py := 159) (by decide) (fun hc => absurd hc (by decide)) (fun _ => ?_)
     refine k_lload X1796 hx (hb hby at_145) rfl (pc' := 147) rfl ?_
     refine k_lload X1796 hx (hb hby at_147) rfl (pc' := 149) rfl ?_
     refine k_lsub X1796 hx (hb hby at_149) (pc' := 150) rfl (fun v1829 hv1829 => ?_)
     refine k_lconst X1796 hx (hb hby at_150) (pc' := 151) rfl (z := (0 : Int64)) rfl ?_
     refine k_lcif_le X1796 hx (hb hby at_151) (pm := 152) rfl (hb hby at_152) (pn := 155) rfl (py := 159) (by decide) (fun hc1830 => ?_) (fun hc1830 => ?_)
     ·
      refine k_iconst X1796 hx (hb hby at_159) (pc' := 160) rfl (z := (0 : Int32)) rfl ?_
      refine k_istore X1796 hx (hb hby at_160) (Ls' := #[.val (.int i0), .val (.long i1), .second, .val (.long i2), .second, .val (.long i3), .second, .val (.long v4), .second, .val (.ref b5), .val (.int (2 : Int32)), .val (.int (0 : Int32)), .val (.int (1 : Int32)), .val (.long i1), .second, .val (.int (0 : Int32))]) rfl (pc' := 162) rfl ?_
      refine k_iload X1796 hx (hb hby at_162) rfl (pc' := 164) rfl ?_
      refine k_if_ne X1796 hx (hb hby at_164) (pn := 167) rfl (py := 183) (by decide) (fun hc => absurd (by decide) hc) (fun _ => ?_)
      refine k_aload X1796 hx (hb hby at_167) rfl rfl (pc' := 169) rfl ?_
      refine k_lload X1796 hx (hb hby at_169) rfl (pc' := 171) rfl ?_
      refine k_callV X1796 hx hZ hown (a := b5) (hw _ (List.mem_of_getElem? (i := 19) rfl)) (hw _ (List.mem_of_getElem? (i := 20) rfl)) (hw _ (List.mem_of_getElem? (i := 22) rfl)) (hw _ (List.mem_of_getElem? (i := 21) rfl)) (hw _ (List.mem_of_getElem? (i := 2) rfl)) (hw _ (List.mem_of_getElem? (i := 23) rfl)) (by decide) F1800 (rm3_149 l Z a0 hw [] b5 i3 b51 b53 v4 i1 k52 k54 T1796.heap n0 Z1812 F1800 F1801 F1802 F1803 F1804 F1805 F1806 F1807 F1808 F1809 F1810 F1811 lt67 lt68) (by decide) (by decide) rfl (by rw [hml]; rfl) (argsL := [(.long i3)]) (rest := []) (lenOf pd_1 rfl) rfl (W := 0) (Nat.le_refl _) rfl (hb hby at_171) (by decide) (by decide) (pc' := 174) rfl (fun T1831 L1831 r1831 X1831 q1831 => ?_)
      obtain ⟨N1831, e1831, q1831⟩ := q1831
      have N1831' := Fr.app N1796' N1831
      rcases q1831 with ⟨v1832, h1833, hc1834, rfl⟩ | ⟨v1835, h1836, hc1837, rfl⟩
      ·
       have hh1838 : v1829 = v1832 := hv1829.trans h1833.symm
       subst hh1838
       show KEnds p e below s _ _ _ T1831 (mkF m 174 #[.val (.int i0), .val (.long i1), .second, .val (.long i2), .second, .val (.long i3), .second, .val (.long v4), .second, .val (.ref b5), .val (.int (2 : Int32)), .val (.int (0 : Int32)), .val (.int (1 : Int32)), .val (.long i1), .second, .val (.int (0 : Int32))] [(.int (0 : Int32))])
       refine k_iload X1831 hx (hb hby at_174) rfl (pc' := 176) rfl ?_
       refine k_icmp_ne X1831 hx (hb hby at_176) (pn := 179) rfl (py := 183) (by decide) (fun hc => absurd (by decide) hc) (fun _ => ?_)
       refine k_iconst X1831 hx (hb hby at_179) (pc' := 180) rfl (z := (1 : Int32)) rfl ?_
       refine k_goto X1831 hx (hb hby at_180) (pc' := 184) (by decide) ?_
       exact k_retN X1831 hx (t := .boolean) Bd.returns (by simp) (hb hby at_184) hlk (by decide) (by decide) (z' := (1 : Int32)) rfl ⟨rfl, N1831'⟩
      ·
       have hh1839 : v1829 = v1835 := hv1829.trans h1836.symm
       subst hh1839
       show KEnds p e below s _ _ _ T1831 (mkF m 174 #[.val (.int i0), .val (.long i1), .second, .val (.long i2), .second, .val (.long i3), .second, .val (.long v4), .second, .val (.ref b5), .val (.int (2 : Int32)), .val (.int (0 : Int32)), .val (.int (1 : Int32)), .val (.long i1), .second, .val (.int (0 : Int32))] [(.int (1 : Int32))])
       exact absurd hc1837 hc1830
     ·
      refine k_iconst X1796 hx (hb hby at_155) (pc' := 156) rfl (z := (1 : Int32)) rfl ?_
      refine k_goto X1796 hx (hb hby at_156) (pc' := 160) (by decide) ?_
      refine k_istore X1796 hx (hb hby at_160) (Ls' := #[.val (.int i0), .val (.long i1), .second, .val (.long i2), .second, .val (.long i3), .second, .val (.long v4), .second, .val (.ref b5), .val (.int (2 : Int32)), .val (.int (0 : Int32)), .val (.int (1 : Int32)), .val (.long i1), .second, .val (.int (1 : Int32))]) rfl (pc' := 162) rfl ?_
      refine k_iload X1796 hx (hb hby at_162) rfl (pc' := 164) rfl ?_
      refine k_if_ne X1796 hx (hb hby at_164) (pn := 167) rfl (py := 183) (by decide) (fun hc => absurd (by decide) hc) (fun _ => ?_)
      refine k_aload X1796 hx (hb hby at_167) rfl rfl (pc' := 169) rfl ?_
      refine k_lload X1796 hx (hb hby at_169) rfl (pc' := 171) rfl ?_
      refine k_callV X1796 hx hZ hown (a := b5) (hw _ (List.mem_of_getElem? (i := 19) rfl)) (hw _ (List.mem_of_getElem? (i := 20) rfl)) (hw _ (List.mem_of_getElem? (i := 22) rfl)) (hw _ (List.mem_of_getElem? (i := 21) rfl)) (hw _ (List.mem_of_getElem? (i := 2) rfl)) (hw _ (List.mem_of_getElem? (i := 23) rfl)) (by decide) F1800 (rm3_149 l Z a0 hw [] b5 i3 b51 b53 v4 i1 k52 k54 T1796.heap n0 Z1812 F1800 F1801 F1802 F1803 F1804 F1805 F1806 F1807 F1808 F1809 F1810 F1811 lt67 lt68) (by decide) (by decide) rfl (by rw [hml]; rfl) (argsL := [(.long i3)]) (rest := []) (lenOf pd_1 rfl) rfl (W := 0) (Nat.le_refl _) rfl (hb hby at_171) (by decide) (by decide) (pc' := 174) rfl (fun T1840 L1840 r1840 X1840 q1840 => ?_)
      obtain ⟨N1840, e1840, q1840⟩ := q1840
      have N1840' := Fr.app N1796' N1840
      rcases q1840 with ⟨v1841, h1842, hc1843, rfl⟩ | ⟨v1844, h1845, hc1846, rfl⟩
      ·
       have hh1847 : v1829 = v1841 := hv1829.trans h1842.symm
       subst hh1847
       show KEnds p e below s _ _ _ T1840 (mkF m 174 #[.val (.int i0), .val (.long i1), .second, .val (.long i2), .second, .val (.long i3), .second, .val (.long v4), .second, .val (.ref b5), .val (.int (2 : Int32)), .val (.int (0 : Int32)), .val (.int (1 : Int32)), .val (.long i1), .second, .val (.int (1 : Int32))] [(.int (0 : Int32))])
       exact absurd hc1830 hc1843
      ·
       have hh1848 : v1829 = v1844 := hv1829.trans h1845.symm
       subst hh1848
       show KEnds p e below s _ _ _ T1840 (mkF m 174 #[.val (.int i0), .val (.long i1), .second, .val (.long i2), .second, .val (.long i3), .second, .val (.long v4), .second, .val (.ref b5), .val (.int (2 : Int32)), .val (.int (0 : Int32)), .val (.int (1 : Int32)), .val (.long i1), .second, .val (.int (1 : Int32))] [(.int (1 : Int32))])
       refine k_iload X1840 hx (hb hby at_174) rfl (pc' := 176) rfl ?_
       refine k_icmp_ne X1840 hx (hb hby at_176) (pn := 179) rfl (py := 183) (by decide) (fun hc => absurd (by decide) hc) (fun _ => ?_)
       refine k_iconst X1840 hx (hb hby at_179) (pc' := 180) rfl (z := (1 : Int32)) rfl ?_
       refine k_goto X1840 hx (hb hby at_180) (pc' := 184) (by decide) ?_
       exact k_retN X1840 hx (t := .boolean) Bd.returns (by simp) (hb hby at_184) hlk (by decide) (by decide) (z' := (1 : Int32)) rfl ⟨rfl, N1840'⟩
    ·
     show KEnds p e below s _ _ _ T1796 (mkF m 106 #[.val (.int i0), .val (.long i1), .second, .val (.long i2), .second, .val (.long i3), .second, .val (.long v4), .second, .val (.ref b5), .val (.int (2 : Int32)), .val (.int (0 : Int32)), .unset, .unset, .unset, .unset] [(.long (0 : Int64))])
     refine k_pop2L X1796 hx (hb hby at_106) (pc' := 107) rfl ?_
     refine k_iload X1796 hx (hb hby at_107) rfl (pc' := 109) rfl ?_
     refine k_iconst X1796 hx (hb hby at_109) (pc' := 110) rfl (z := (1 : Int32)) rfl ?_
     refine k_icmp_lt X1796 hx (hb hby at_110) (pn := 113) rfl (py := 117) (by decide) (fun hc => absurd hc (by decide)) (fun _ => ?_)
     refine k_iconst X1796 hx (hb hby at_113) (pc' := 114) rfl (z := (1 : Int32)) rfl ?_
     refine k_goto X1796 hx (hb hby at_114) (pc' := 118) (by decide) ?_
     refine k_istore X1796 hx (hb hby at_118) (Ls' := #[.val (.int i0), .val (.long i1), .second, .val (.long i2), .second, .val (.long i3), .second, .val (.long v4), .second, .val (.ref b5), .val (.int (2 : Int32)), .val (.int (0 : Int32)), .val (.int (1 : Int32)), .unset, .unset, .unset]) rfl (pc' := 120) rfl ?_
     refine k_lloadN X1796 hx (hb hby at_120) rfl (pc' := 121) rfl ?_
     refine k_lstore X1796 hx (hb hby at_121) (Ls' := #[.val (.int i0), .val (.long i1), .second, .val (.long i2), .second, .val (.long i3), .second, .val (.long v4), .second, .val (.ref b5), .val (.int (2 : Int32)), .val (.int (0 : Int32)), .val (.int (1 : Int32)), .val (.long i1), .second, .unset]) rfl (pc' := 123) rfl ?_
     refine k_iload X1796 hx (hb hby at_123) rfl (pc' := 125) rfl ?_
     refine k_iconst X1796 hx (hb hby at_125) (pc' := 126) rfl (z := (2 : Int32)) rfl ?_
     refine k_icmp_lt X1796 hx (hb hby at_126) (pn := 129) rfl (py := 140) (by decide) (fun hc => absurd hc (by decide)) (fun _ => ?_)
     refine k_lloadN X1796 hx (hb hby at_129) rfl (pc' := 130) rfl ?_
     refine k_lloadN X1796 hx (hb hby at_130) rfl (pc' := 131) rfl ?_
     refine k_lsubL X1796 hx (hb hby at_131) (pc' := 132) rfl (z := v1813) h1814.symm ?_
     refine k_lconst X1796 hx (hb hby at_132) (pc' := 133) rfl (z := (0 : Int64)) rfl ?_
     refine k_lcif_le X1796 hx (hb hby at_133) (pm := 134) rfl (hb hby at_134) (pn := 137) rfl (py := 140) (by decide) (fun hc => absurd hc1815 hc) (fun _ => ?_)
     refine k_lloadN X1796 hx (hb hby at_137) rfl (pc' := 138) rfl ?_
     refine k_lstore X1796 hx (hb hby at_138) (Ls' := #[.val (.int i0), .val (.long i1), .second, .val (.long i2), .second, .val (.long i3), .second, .val (.long v4), .second, .val (.ref b5), .val (.int (2 : Int32)), .val (.int (0 : Int32)), .val (.int (1 : Int32)), .val (.long i2), .second, .unset]) rfl (pc' := 140) rfl ?_
     refine k_iload X1796 hx (hb hby at_140) rfl (pc' := 142) rfl ?_
     refine k_if_eq X1796 hx (hb hby at_142) (pn := 145) rfl (py := 159) (by decide) (fun hc => absurd hc (by decide)) (fun _ => ?_)
     refine k_lload X1796 hx (hb hby at_145) rfl (pc' := 147) rfl ?_
     refine k_lload X1796 hx (hb hby at_147) rfl (pc' := 149) rfl ?_
     refine k_lsub X1796 hx (hb hby at_149) (pc' := 150) rfl (fun v1849 hv1849 => ?_)
     refine k_lconst X1796 hx (hb hby at_150) (pc' := 151) rfl (z := (0 : Int64)) rfl ?_
     refine k_lcif_le X1796 hx (hb hby at_151) (pm := 152) rfl (hb hby at_152) (pn := 155) rfl (py := 159) (by decide) (fun hc1850 => ?_) (fun hc1850 => ?_)
     ·
      refine k_iconst X1796 hx (hb hby at_159) (pc' := 160) rfl (z := (0 : Int32)) rfl ?_
      refine k_istore X1796 hx (hb hby at_160) (Ls' := #[.val (.int i0), .val (.long i1), .second, .val (.long i2), .second, .val (.long i3), .second, .val (.long v4), .second, .val (.ref b5), .val (.int (2 : Int32)), .val (.int (0 : Int32)), .val (.int (1 : Int32)), .val (.long i2), .second, .val (.int (0 : Int32))]) rfl (pc' := 162) rfl ?_
      refine k_iload X1796 hx (hb hby at_162) rfl (pc' := 164) rfl ?_
      refine k_if_ne X1796 hx (hb hby at_164) (pn := 167) rfl (py := 183) (by decide) (fun hc => absurd (by decide) hc) (fun _ => ?_)
      refine k_aload X1796 hx (hb hby at_167) rfl rfl (pc' := 169) rfl ?_
      refine k_lload X1796 hx (hb hby at_169) rfl (pc' := 171) rfl ?_
      refine k_callV X1796 hx hZ hown (a := b5) (hw _ (List.mem_of_getElem? (i := 19) rfl)) (hw _ (List.mem_of_getElem? (i := 20) rfl)) (hw _ (List.mem_of_getElem? (i := 22) rfl)) (hw _ (List.mem_of_getElem? (i := 21) rfl)) (hw _ (List.mem_of_getElem? (i := 2) rfl)) (hw _ (List.mem_of_getElem? (i := 23) rfl)) (by decide) F1816 (rm3_149 l Z a0 hw [] b5 i3 b51 b53 v4 i2 k52 k54 T1796.heap n0 Z1828 F1816 F1817 F1818 F1819 F1820 F1821 F1822 F1823 F1824 F1825 F1826 F1827 lt67 lt68) (by decide) (by decide) rfl (by rw [hml]; rfl) (argsL := [(.long i3)]) (rest := []) (lenOf pd_1 rfl) rfl (W := 0) (Nat.le_refl _) rfl (hb hby at_171) (by decide) (by decide) (pc' := 174) rfl (fun T1851 L1851 r1851 X1851 q1851 => ?_)
      obtain ⟨N1851, e1851, q1851⟩ := q1851
      have N1851' := Fr.app N1796' N1851
      rcases q1851 with ⟨v1852, h1853, hc1854, rfl⟩ | ⟨v1855, h1856, hc1857, rfl⟩
      ·
       have hh1858 : v1849 = v1852 := hv1849.trans h1853.symm
       subst hh1858
       show KEnds p e below s _ _ _ T1851 (mkF m 174 #[.val (.int i0), .val (.long i1), .second, .val (.long i2), .second, .val (.long i3), .second, .val (.long v4), .second, .val (.ref b5), .val (.int (2 : Int32)), .val (.int (0 : Int32)), .val (.int (1 : Int32)), .val (.long i2), .second, .val (.int (0 : Int32))] [(.int (0 : Int32))])
       refine k_iload X1851 hx (hb hby at_174) rfl (pc' := 176) rfl ?_
       refine k_icmp_ne X1851 hx (hb hby at_176) (pn := 179) rfl (py := 183) (by decide) (fun hc => absurd (by decide) hc) (fun _ => ?_)
       refine k_iconst X1851 hx (hb hby at_179) (pc' := 180) rfl (z := (1 : Int32)) rfl ?_
       refine k_goto X1851 hx (hb hby at_180) (pc' := 184) (by decide) ?_
       exact k_retN X1851 hx (t := .boolean) Bd.returns (by simp) (hb hby at_184) hlk (by decide) (by decide) (z' := (1 : Int32)) rfl ⟨rfl, N1851'⟩
      ·
       have hh1859 : v1849 = v1855 := hv1849.trans h1856.symm
       subst hh1859
       show KEnds p e below s _ _ _ T1851 (mkF m 174 #[.val (.int i0), .val (.long i1), .second, .val (.long i2), .second, .val (.long i3), .second, .val (.long v4), .second, .val (.ref b5), .val (.int (2 : Int32)), .val (.int (0 : Int32)), .val (.int (1 : Int32)), .val (.long i2), .second, .val (.int (0 : Int32))] [(.int (1 : Int32))])
       exact absurd hc1857 hc1850
     ·
      refine k_iconst X1796 hx (hb hby at_155) (pc' := 156) rfl (z := (1 : Int32)) rfl ?_
      refine k_goto X1796 hx (hb hby at_156) (pc' := 160) (by decide) ?_
      refine k_istore X1796 hx (hb hby at_160) (Ls' := #[.val (.int i0), .val (.long i1), .second, .val (.long i2), .second, .val (.long i3), .second, .val (.long v4), .second, .val (.ref b5), .val (.int (2 : Int32)), .val (.int (0 : Int32)), .val (.int (1 : Int32)), .val (.long i2), .second, .val (.int (1 : Int32))]) rfl (pc' := 162) rfl ?_
      refine k_iload X1796 hx (hb hby at_162) rfl (pc' := 164) rfl ?_
      refine k_if_ne X1796 hx (hb hby at_164) (pn := 167) rfl (py := 183) (by decide) (fun hc => absurd (by decide) hc) (fun _ => ?_)
      refine k_aload X1796 hx (hb hby at_167) rfl rfl (pc' := 169) rfl ?_
      refine k_lload X1796 hx (hb hby at_169) rfl (pc' := 171) rfl ?_
      refine k_callV X1796 hx hZ hown (a := b5) (hw _ (List.mem_of_getElem? (i := 19) rfl)) (hw _ (List.mem_of_getElem? (i := 20) rfl)) (hw _ (List.mem_of_getElem? (i := 22) rfl)) (hw _ (List.mem_of_getElem? (i := 21) rfl)) (hw _ (List.mem_of_getElem? (i := 2) rfl)) (hw _ (List.mem_of_getElem? (i := 23) rfl)) (by decide) F1816 (rm3_149 l Z a0 hw [] b5 i3 b51 b53 v4 i2 k52 k54 T1796.heap n0 Z1828 F1816 F1817 F1818 F1819 F1820 F1821 F1822 F1823 F1824 F1825 F1826 F1827 lt67 lt68) (by decide) (by decide) rfl (by rw [hml]; rfl) (argsL := [(.long i3)]) (rest := []) (lenOf pd_1 rfl) rfl (W := 0) (Nat.le_refl _) rfl (hb hby at_171) (by decide) (by decide) (pc' := 174) rfl (fun T1860 L1860 r1860 X1860 q1860 => ?_)
      obtain ⟨N1860, e1860, q1860⟩ := q1860
      have N1860' := Fr.app N1796' N1860
      rcases q1860 with ⟨v1861, h1862, hc1863, rfl⟩ | ⟨v1864, h1865, hc1866, rfl⟩
      ·
       have hh1867 : v1849 = v1861 := hv1849.trans h1862.symm
       subst hh1867
       show KEnds p e below s _ _ _ T1860 (mkF m 174 #[.val (.int i0), .val (.long i1), .second, .val (.long i2), .second, .val (.long i3), .second, .val (.long v4), .second, .val (.ref b5), .val (.int (2 : Int32)), .val (.int (0 : Int32)), .val (.int (1 : Int32)), .val (.long i2), .second, .val (.int (1 : Int32))] [(.int (0 : Int32))])
       exact absurd hc1850 hc1863
      ·
       have hh1868 : v1849 = v1864 := hv1849.trans h1865.symm
       subst hh1868
       show KEnds p e below s _ _ _ T1860 (mkF m 174 #[.val (.int i0), .val (.long i1), .second, .val (.long i2), .second, .val (.long i3), .second, .val (.long v4), .second, .val (.ref b5), .val (.int (2 : Int32)), .val (.int (0 : Int32)), .val (.int (1 : Int32)), .val (.long i2), .second, .val (.int (1 : Int32))] [(.int (1 : Int32))])
       refine k_iload X1860 hx (hb hby at_174) rfl (pc' := 176) rfl ?_
       refine k_icmp_ne X1860 hx (hb hby at_176) (pn := 179) rfl (py := 183) (by decide) (fun hc => absurd (by decide) hc) (fun _ => ?_)
       refine k_iconst X1860 hx (hb hby at_179) (pc' := 180) rfl (z := (1 : Int32)) rfl ?_
       refine k_goto X1860 hx (hb hby at_180) (pc' := 184) (by decide) ?_
       exact k_retN X1860 hx (t := .boolean) Bd.returns (by simp) (hb hby at_184) hlk (by decide) (by decide) (z' := (1 : Int32)) rfl ⟨rfl, N1860'⟩
   ·
    refine k_aload X1780 hx (hb hby at_90) rfl rfl (pc' := 92) rfl ?_
    refine k_lconst X1780 hx (hb hby at_92) (pc' := 93) rfl (z := (1 : Int64)) rfl ?_
    refine k_lloadN X1780 hx (hb hby at_93) rfl (pc' := 94) rfl ?_
    refine k_callV X1780 hx hZ hown (a := b5) (hw _ (List.mem_of_getElem? (i := 26) rfl)) (hw _ (List.mem_of_getElem? (i := 27) rfl)) (hw _ (List.mem_of_getElem? (i := 29) rfl)) (hw _ (List.mem_of_getElem? (i := 28) rfl)) (hw _ (List.mem_of_getElem? (i := 2) rfl)) (hw _ (List.mem_of_getElem? (i := 30) rfl)) (by decide) F1781 (rm4_553 l Z a0 hw [] b5 i2 b51 b53 v4 i1 k52 k54 T1780.heap n0 Z1793 F1781 F1782 F1783 F1784 F1785 F1786 F1787 F1788 F1789 F1790 g_b5 F1791 g_b51 F1792 g_b53 lt67 lt68) (by decide) (by decide) rfl (by rw [hml]; rfl) (argsL := [(.long (1 : Int64)), (.long i2)]) (rest := []) (lenOf pd_0 rfl) rfl (W := 0) (Nat.le_refl _) rfl (hb hby at_94) (by decide) (by decide) (pc' := 97) rfl (fun T1869 L1869 r1869 X1869 q1869 => ?_)
    obtain ⟨N1869, q1869⟩ := q1869
    have N1869' := Fr.app N1780' N1869
    rcases q1869 with ⟨v1870, b1871, k1872, b1873, k1874, h1875, hc1876, rfl, F1877, F1878, F1879, F1880, F1881, F1882, F1883, F1884, F1885, F1886, F1887, F1888, F1889, F1890, g_b1871, lt1891, g_b1873, lt1892, Z1893⟩ | ⟨v1894, b1895, k1896, b1897, k1898, h1899, hc1900, rfl, F1901, F1902, F1903, F1904, F1905, F1906, F1907, F1908, F1909, F1910, F1911, F1912, F1913, F1914, g_b1895, lt1915, g_b1897, lt1916, Z1917⟩
    ·
     show KEnds p e below s _ _ _ T1869 (mkF m 97 #[.val (.int i0), .val (.long i1), .second, .val (.long i2), .second, .val (.long i3), .second, .val (.long v4), .second, .val (.ref b5), .val (.int (2 : Int32)), .val (.int (0 : Int32)), .unset, .unset, .unset, .unset] [])
     refine k_goto X1869 hx (hb hby at_97) (pc' := 107) (by decide) ?_
     refine k_iload X1869 hx (hb hby at_107) rfl (pc' := 109) rfl ?_
     refine k_iconst X1869 hx (hb hby at_109) (pc' := 110) rfl (z := (1 : Int32)) rfl ?_
     refine k_icmp_lt X1869 hx (hb hby at_110) (pn := 113) rfl (py := 117) (by decide) (fun hc => absurd hc (by decide)) (fun _ => ?_)
     refine k_iconst X1869 hx (hb hby at_113) (pc' := 114) rfl (z := (1 : Int32)) rfl ?_
     refine k_goto X1869 hx (hb hby at_114) (pc' := 118) (by decide) ?_
     refine k_istore X1869 hx (hb hby at_118) (Ls' := #[.val (.int i0), .val (.long i1), .second, .val (.long i2), .second, .val (.long i3), .second, .val (.long v4), .second, .val (.ref b5), .val (.int (2 : Int32)), .val (.int (0 : Int32)), .val (.int (1 : Int32)), .unset, .unset, .unset]) rfl (pc' := 120) rfl ?_
     refine k_lloadN X1869 hx (hb hby at_120) rfl (pc' := 121) rfl ?_
     refine k_lstore X1869 hx (hb hby at_121) (Ls' := #[.val (.int i0), .val (.long i1), .second, .val (.long i2), .second, .val (.long i3), .second, .val (.long v4), .second, .val (.ref b5), .val (.int (2 : Int32)), .val (.int (0 : Int32)), .val (.int (1 : Int32)), .val (.long i1), .second, .unset]) rfl (pc' := 123) rfl ?_
     refine k_iload X1869 hx (hb hby at_123) rfl (pc' := 125) rfl ?_
     refine k_iconst X1869 hx (hb hby at_125) (pc' := 126) rfl (z := (2 : Int32)) rfl ?_
     refine k_icmp_lt X1869 hx (hb hby at_126) (pn := 129) rfl (py := 140) (by decide) (fun hc => absurd hc (by decide)) (fun _ => ?_)
     refine k_lloadN X1869 hx (hb hby at_129) rfl (pc' := 130) rfl ?_
     refine k_lloadN X1869 hx (hb hby at_130) rfl (pc' := 131) rfl ?_
     refine k_lsubL X1869 hx (hb hby at_131) (pc' := 132) rfl (z := v1870) h1875.symm ?_
     refine k_lconst X1869 hx (hb hby at_132) (pc' := 133) rfl (z := (0 : Int64)) rfl ?_
     refine k_lcif_le X1869 hx (hb hby at_133) (pm := 134) rfl (hb hby at_134) (pn := 137) rfl (py := 140) (by decide) (fun _ => ?_) (fun hc => absurd hc hc1876)
     refine k_iload X1869 hx (hb hby at_140) rfl (pc' := 142) rfl ?_
     refine k_if_eq X1869 hx (hb hby at_142) (pn := 145) rfl (py := 159) (by decide) (fun hc => absurd hc (by decide)) (fun _ => ?_)
     refine k_lload X1869 hx (hb hby at_145) rfl (pc' := 147) rfl ?_
     refine k_lload X1869 hx (hb hby at_147) rfl (pc' := 149) rfl ?_
     refine k_lsub X1869 hx (hb hby at_149) (pc' := 150) rfl (fun v1918 hv1918 => ?_)
     refine k_lconst X1869 hx (hb hby at_150) (pc' := 151) rfl (z := (0 : Int64)) rfl ?_
     refine k_lcif_le X1869 hx (hb hby at_151) (pm := 152) rfl (hb hby at_152) (pn := 155) rfl (py := 159) (by decide) (fun hc1919 => ?_) (fun hc1919 => ?_)
     ·
      refine k_iconst X1869 hx (hb hby at_159) (pc' := 160) rfl (z := (0 : Int32)) rfl ?_
      refine k_istore X1869 hx (hb hby at_160) (Ls' := #[.val (.int i0), .val (.long i1), .second, .val (.long i2), .second, .val (.long i3), .second, .val (.long v4), .second, .val (.ref b5), .val (.int (2 : Int32)), .val (.int (0 : Int32)), .val (.int (1 : Int32)), .val (.long i1), .second, .val (.int (0 : Int32))]) rfl (pc' := 162) rfl ?_
      refine k_iload X1869 hx (hb hby at_162) rfl (pc' := 164) rfl ?_
      refine k_if_ne X1869 hx (hb hby at_164) (pn := 167) rfl (py := 183) (by decide) (fun hc => absurd (by decide) hc) (fun _ => ?_)
      refine k_aload X1869 hx (hb hby at_167) rfl rfl (pc' := 169) rfl ?_
      refine k_lload X1869 hx (hb hby at_169) rfl (pc' := 171) rfl ?_
      refine k_callV X1869 hx hZ hown (a := b5) (hw _ (List.mem_of_getElem? (i := 19) rfl)) (hw _ (List.mem_of_getElem? (i := 20) rfl)) (hw _ (List.mem_of_getElem? (i := 22) rfl)) (hw _ (List.mem_of_getElem? (i := 21) rfl)) (hw _ (List.mem_of_getElem? (i := 2) rfl)) (hw _ (List.mem_of_getElem? (i := 23) rfl)) (by decide) F1877 (rm3_353 l Z a0 hw [] b5 i3 b1871 b1873 v4 i1 k1872 k1874 T1869.heap n0 Z1893 F1877 F1878 F1879 F1880 F1881 F1882 F1883 F1884 F1885 F1886 F1889 F1890 (Nat.lt_trans (Nat.lt_trans lt67 lt68) lt1891) lt1892) (by decide) (by decide) rfl (by rw [hml]; rfl) (argsL := [(.long i3)]) (rest := []) (lenOf pd_1 rfl) rfl (W := 0) (Nat.le_refl _) rfl (hb hby at_171) (by decide) (by decide) (pc' := 174) rfl (fun T1920 L1920 r1920 X1920 q1920 => ?_)
      obtain ⟨N1920, e1920, q1920⟩ := q1920
      have N1920' := Fr.app N1869' N1920
      rcases q1920 with ⟨v1921, h1922, hc1923, rfl⟩ | ⟨v1924, h1925, hc1926, rfl⟩
      ·
       have hh1927 : v1918 = v1921 := hv1918.trans h1922.symm
       subst hh1927
       show KEnds p e below s _ _ _ T1920 (mkF m 174 #[.val (.int i0), .val (.long i1), .second, .val (.long i2), .second, .val (.long i3), .second, .val (.long v4), .second, .val (.ref b5), .val (.int (2 : Int32)), .val (.int (0 : Int32)), .val (.int (1 : Int32)), .val (.long i1), .second, .val (.int (0 : Int32))] [(.int (0 : Int32))])
       refine k_iload X1920 hx (hb hby at_174) rfl (pc' := 176) rfl ?_
       refine k_icmp_ne X1920 hx (hb hby at_176) (pn := 179) rfl (py := 183) (by decide) (fun hc => absurd (by decide) hc) (fun _ => ?_)
       refine k_iconst X1920 hx (hb hby at_179) (pc' := 180) rfl (z := (1 : Int32)) rfl ?_
       refine k_goto X1920 hx (hb hby at_180) (pc' := 184) (by decide) ?_
       exact k_retN X1920 hx (t := .boolean) Bd.returns (by simp) (hb hby at_184) hlk (by decide) (by decide) (z' := (1 : Int32)) rfl ⟨rfl, N1920'⟩
      ·
       have hh1928 : v1918 = v1924 := hv1918.trans h1925.symm
       subst hh1928
       show KEnds p e below s _ _ _ T1920 (mkF m 174 #[.val (.int i0), .val (.long i1), .second, .val (.long i2), .second, .val (.long i3), .second, .val (.long v4), .second, .val (.ref b5), .val (.int (2 : Int32)), .val (.int (0 : Int32)), .val (.int (1 : Int32)), .val (.long i1), .second, .val (.int (0 : Int32))] [(.int (1 : Int32))])
       exact absurd hc1926 hc1919
     ·
      refine k_iconst X1869 hx (hb hby at_155) (pc' := 156) rfl (z := (1 : Int32)) rfl ?_
      refine k_goto X1869 hx (hb hby at_156) (pc' := 160) (by decide) ?_
      refine k_istore X1869 hx (hb hby at_160) (Ls' := #[.val (.int i0), .val (.long i1), .second, .val (.long i2), .second, .val (.long i3), .second, .val (.long v4), .second, .val (.ref b5), .val (.int (2 : Int32)), .val (.int (0 : Int32)), .val (.int (1 : Int32)), .val (.long i1), .second, .val (.int (1 : Int32))]) rfl (pc' := 162) rfl ?_
      refine k_iload X1869 hx (hb hby at_162) rfl (pc' := 164) rfl ?_
      refine k_if_ne X1869 hx (hb hby at_164) (pn := 167) rfl (py := 183) (by decide) (fun hc => absurd (by decide) hc) (fun _ => ?_)
      refine k_aload X1869 hx (hb hby at_167) rfl rfl (pc' := 169) rfl ?_
      refine k_lload X1869 hx (hb hby at_169) rfl (pc' := 171) rfl ?_
      refine k_callV X1869 hx hZ hown (a := b5) (hw _ (List.mem_of_getElem? (i := 19) rfl)) (hw _ (List.mem_of_getElem? (i := 20) rfl)) (hw _ (List.mem_of_getElem? (i := 22) rfl)) (hw _ (List.mem_of_getElem? (i := 21) rfl)) (hw _ (List.mem_of_getElem? (i := 2) rfl)) (hw _ (List.mem_of_getElem? (i := 23) rfl)) (by decide) F1877 (rm3_353 l Z a0 hw [] b5 i3 b1871 b1873 v4 i1 k1872 k1874 T1869.heap n0 Z1893 F1877 F1878 F1879 F1880 F1881 F1882 F1883 F1884 F1885 F1886 F1889 F1890 (Nat.lt_trans (Nat.lt_trans lt67 lt68) lt1891) lt1892) (by decide) (by decide) rfl (by rw [hml]; rfl) (argsL := [(.long i3)]) (rest := []) (lenOf pd_1 rfl) rfl (W := 0) (Nat.le_refl _) rfl (hb hby at_171) (by decide) (by decide) (pc' := 174) rfl (fun T1929 L1929 r1929 X1929 q1929 => ?_)
      obtain ⟨N1929, e1929, q1929⟩ := q1929
      have N1929' := Fr.app N1869' N1929
      rcases q1929 with ⟨v1930, h1931, hc1932, rfl⟩ | ⟨v1933, h1934, hc1935, rfl⟩
      ·
       have hh1936 : v1918 = v1930 := hv1918.trans h1931.symm
       subst hh1936
       show KEnds p e below s _ _ _ T1929 (mkF m 174 #[.val (.int i0), .val (.long i1), .second, .val (.long i2), .second, .val (.long i3), .second, .val (.long v4), .second, .val (.ref b5), .val (.int (2 : Int32)), .val (.int (0 : Int32)), .val (.int (1 : Int32)), .val (.long i1), .second, .val (.int (1 : Int32))] [(.int (0 : Int32))])
       exact absurd hc1919 hc1932
      ·
       have hh1937 : v1918 = v1933 := hv1918.trans h1934.symm
       subst hh1937
       show KEnds p e below s _ _ _ T1929 (mkF m 174 #[.val (.int i0), .val (.long i1), .second, .val (.long i2), .second, .val (.long i3), .second, .val (.long v4), .second, .val (.ref b5), .val (.int (2 : Int32)), .val (.int (0 : Int32)), .val (.int (1 : Int32)), .val (.long i1), .second, .val (.int (1 : Int32))] [(.int (1 : Int32))])
       refine k_iload X1929 hx (hb hby at_174) rfl (pc' := 176) rfl ?_
       refine k_icmp_ne X1929 hx (hb hby at_176) (pn := 179) rfl (py := 183) (by decide) (fun hc => absurd (by decide) hc) (fun _ => ?_)
       refine k_iconst X1929 hx (hb hby at_179) (pc' := 180) rfl (z := (1 : Int32)) rfl ?_
       refine k_goto X1929 hx (hb hby at_180) (pc' := 184) (by decide) ?_
       exact k_retN X1929 hx (t := .boolean) Bd.returns (by simp) (hb hby at_184) hlk (by decide) (by decide) (z' := (1 : Int32)) rfl ⟨rfl, N1929'⟩
    ·
     show KEnds p e below s _ _ _ T1869 (mkF m 97 #[.val (.int i0), .val (.long i1), .second, .val (.long i2), .second, .val (.long i3), .second, .val (.long v4), .second, .val (.ref b5), .val (.int (2 : Int32)), .val (.int (0 : Int32)), .unset, .unset, .unset, .unset] [])
     refine k_goto X1869 hx (hb hby at_97) (pc' := 107) (by decide) ?_
     refine k_iload X1869 hx (hb hby at_107) rfl (pc' := 109) rfl ?_
     refine k_iconst X1869 hx (hb hby at_109) (pc' := 110) rfl (z := (1 : Int32)) rfl ?_
     refine k_icmp_lt X1869 hx (hb hby at_110) (pn := 113) rfl (py := 117) (by decide) (fun hc => absurd hc (by decide)) (fun _ => ?_)
     refine k_iconst X1869 hx (hb hby at_113) (pc' := 114) rfl (z := (1 : Int32)) rfl ?_
     refine k_goto X1869 hx (hb hby at_114) (pc' := 118) (by decide) ?_
     refine k_istore X1869 hx (hb hby at_118) (Ls' := #[.val (.int i0), .val (.long i1), .second, .val (.long i2), .second, .val (.long i3), .second, .val (.long v4), .second, .val (.ref b5), .val (.int (2 : Int32)), .val (.int (0 : Int32)), .val (.int (1 : Int32)), .unset, .unset, .unset]) rfl (pc' := 120) rfl ?_
     refine k_lloadN X1869 hx (hb hby at_120) rfl (pc' := 121) rfl ?_
     refine k_lstore X1869 hx (hb hby at_121) (Ls' := #[.val (.int i0), .val (.long i1), .second, .val (.long i2), .second, .val (.long i3), .second, .val (.long v4), .second, .val (.ref b5), .val (.int (2 : Int32)), .val (.int (0 : Int32)), .val (.int (1 : Int32)), .val (.long i1), .second, .unset]) rfl (pc' := 123) rfl ?_
     refine k_iload X1869 hx (hb hby at_123) rfl (pc' := 125) rfl ?_
     refine k_iconst X1869 hx (hb hby at_125) (pc' := 126) rfl (z := (2 : Int32)) rfl ?_
     refine k_icmp_lt X1869 hx (hb hby at_126) (pn := 129) rfl (py := 140) (by decide) (fun hc => absurd hc (by decide)) (fun _ => ?_)
     refine k_lloadN X1869 hx (hb hby at_129) rfl (pc' := 130) rfl ?_
     refine k_lloadN X1869 hx (hb hby at_130) rfl (pc' := 131) rfl ?_
     refine k_lsubL X1869 hx (hb hby at_131) (pc' := 132) rfl (z := v1894) h1899.symm ?_
     refine k_lconst X1869 hx (hb hby at_132) (pc' := 133) rfl (z := (0 : Int64)) rfl ?_
     refine k_lcif_le X1869 hx (hb hby at_133) (pm := 134) rfl (hb hby at_134) (pn := 137) rfl (py := 140) (by decide) (fun hc => absurd hc1900 hc) (fun _ => ?_)
     refine k_lloadN X1869 hx (hb hby at_137) rfl (pc' := 138) rfl ?_
     refine k_lstore X1869 hx (hb hby at_138) (Ls' := #[.val (.int i0), .val (.long i1), .second, .val (.long i2), .second, .val (.long i3), .second, .val (.long v4), .second, .val (.ref b5), .val (.int (2 : Int32)), .val (.int (0 : Int32)), .val (.int (1 : Int32)), .val (.long i2), .second, .unset]) rfl (pc' := 140) rfl ?_
     refine k_iload X1869 hx (hb hby at_140) rfl (pc' := 142) rfl ?_
     refine k_if_eq X1869 hx (hb hby at_142) (pn := 145) rfl (py := 159) (by decide) (fun hc => absurd hc (by decide)) (fun _ => ?_)
     refine k_lload X1869 hx (hb hby at_145) rfl (pc' := 147) rfl ?_
     refine k_lload X1869 hx (hb hby at_147) rfl (pc' := 149) rfl ?_
     refine k_lsub X1869 hx (hb hby at_149) (pc' := 150) rfl (fun v1938 hv1938 => ?_)
     refine k_lconst X1869 hx (hb hby at_150) (pc' := 151) rfl (z := (0 : Int64)) rfl ?_
     refine k_lcif_le X1869 hx (hb hby at_151) (pm := 152) rfl (hb hby at_152) (pn := 155) rfl (py := 159) (by decide) (fun hc1939 => ?_) (fun hc1939 => ?_)
     ·
      refine k_iconst X1869 hx (hb hby at_159) (pc' := 160) rfl (z := (0 : Int32)) rfl ?_
      refine k_istore X1869 hx (hb hby at_160) (Ls' := #[.val (.int i0), .val (.long i1), .second, .val (.long i2), .second, .val (.long i3), .second, .val (.long v4), .second, .val (.ref b5), .val (.int (2 : Int32)), .val (.int (0 : Int32)), .val (.int (1 : Int32)), .val (.long i2), .second, .val (.int (0 : Int32))]) rfl (pc' := 162) rfl ?_
      refine k_iload X1869 hx (hb hby at_162) rfl (pc' := 164) rfl ?_
      refine k_if_ne X1869 hx (hb hby at_164) (pn := 167) rfl (py := 183) (by decide) (fun hc => absurd (by decide) hc) (fun _ => ?_)
      refine k_aload X1869 hx (hb hby at_167) rfl rfl (pc' := 169) rfl ?_
      refine k_lload X1869 hx (hb hby at_169) rfl (pc' := 171) rfl ?_
      refine k_callV X1869 hx hZ hown (a := b5) (hw _ (List.mem_of_getElem? (i := 19) rfl)) (hw _ (List.mem_of_getElem? (i := 20) rfl)) (hw _ (List.mem_of_getElem? (i := 22) rfl)) (hw _ (List.mem_of_getElem? (i := 21) rfl)) (hw _ (List.mem_of_getElem? (i := 2) rfl)) (hw _ (List.mem_of_getElem? (i := 23) rfl)) (by decide) F1901 (rm3_353 l Z a0 hw [] b5 i3 b1895 b1897 v4 i2 k1896 k1898 T1869.heap n0 Z1917 F1901 F1902 F1903 F1904 F1905 F1906 F1907 F1908 F1909 F1910 F1913 F1914 (Nat.lt_trans (Nat.lt_trans lt67 lt68) lt1915) lt1916) (by decide) (by decide) rfl (by rw [hml]; rfl) (argsL := [(.long i3)]) (rest := []) (lenOf pd_1 rfl) rfl (W := 0) (Nat.le_refl _) rfl (hb hby at_171) (by decide) (by decide) (pc' := 174) rfl (fun T1940 L1940 r1940 X1940 q1940 => ?_)
      obtain ⟨N1940, e1940, q1940⟩ := q1940
      have N1940' := Fr.app N1869' N1940
      rcases q1940 with ⟨v1941, h1942, hc1943, rfl⟩ | ⟨v1944, h1945, hc1946, rfl⟩
      ·
       have hh1947 : v1938 = v1941 := hv1938.trans h1942.symm
       subst hh1947
       show KEnds p e below s _ _ _ T1940 (mkF m 174 #[.val (.int i0), .val (.long i1), .second, .val (.long i2), .second, .val (.long i3), .second, .val (.long v4), .second, .val (.ref b5), .val (.int (2 : Int32)), .val (.int (0 : Int32)), .val (.int (1 : Int32)), .val (.long i2), .second, .val (.int (0 : Int32))] [(.int (0 : Int32))])
       refine k_iload X1940 hx (hb hby at_174) rfl (pc' := 176) rfl ?_
       refine k_icmp_ne X1940 hx (hb hby at_176) (pn := 179) rfl (py := 183) (by decide) (fun hc => absurd (by decide) hc) (fun _ => ?_)
       refine k_iconst X1940 hx (hb hby at_179) (pc' := 180) rfl (z := (1 : Int32)) rfl ?_
       refine k_goto X1940 hx (hb hby at_180) (pc' := 184) (by decide) ?_
       exact k_retN X1940 hx (t := .boolean) Bd.returns (by simp) (hb hby at_184) hlk (by decide) (by decide) (z' := (1 : Int32)) rfl ⟨rfl, N1940'⟩
      ·
       have hh1948 : v1938 = v1944 := hv1938.trans h1945.symm
       subst hh1948
       show KEnds p e below s _ _ _ T1940 (mkF m 174 #[.val (.int i0), .val (.long i1), .second, .val (.long i2), .second, .val (.long i3), .second, .val (.long v4), .second, .val (.ref b5), .val (.int (2 : Int32)), .val (.int (0 : Int32)), .val (.int (1 : Int32)), .val (.long i2), .second, .val (.int (0 : Int32))] [(.int (1 : Int32))])
       exact absurd hc1946 hc1939
     ·
      refine k_iconst X1869 hx (hb hby at_155) (pc' := 156) rfl (z := (1 : Int32)) rfl ?_
      refine k_goto X1869 hx (hb hby at_156) (pc' := 160) (by decide) ?_
      refine k_istore X1869 hx (hb hby at_160) (Ls' := #[.val (.int i0), .val (.long i1), .second, .val (.long i2), .second, .val (.long i3), .second, .val (.long v4), .second, .val (.ref b5), .val (.int (2 : Int32)), .val (.int (0 : Int32)), .val (.int (1 : Int32)), .val (.long i2), .second, .val (.int (1 : Int32))]) rfl (pc' := 162) rfl ?_
      refine k_iload X1869 hx (hb hby at_162) rfl (pc' := 164) rfl ?_
      refine k_if_ne X1869 hx (hb hby at_164) (pn := 167) rfl (py := 183) (by decide) (fun hc => absurd (by decide) hc) (fun _ => ?_)
      refine k_aload X1869 hx (hb hby at_167) rfl rfl (pc' := 169) rfl ?_
      refine k_lload X1869 hx (hb hby at_169) rfl (pc' := 171) rfl ?_
      refine k_callV X1869 hx hZ hown (a := b5) (hw _ (List.mem_of_getElem? (i := 19) rfl)) (hw _ (List.mem_of_getElem? (i := 20) rfl)) (hw _ (List.mem_of_getElem? (i := 22) rfl)) (hw _ (List.mem_of_getElem? (i := 21) rfl)) (hw _ (List.mem_of_getElem? (i := 2) rfl)) (hw _ (List.mem_of_getElem? (i := 23) rfl)) (by decide) F1901 (rm3_353 l Z a0 hw [] b5 i3 b1895 b1897 v4 i2 k1896 k1898 T1869.heap n0 Z1917 F1901 F1902 F1903 F1904 F1905 F1906 F1907 F1908 F1909 F1910 F1913 F1914 (Nat.lt_trans (Nat.lt_trans lt67 lt68) lt1915) lt1916) (by decide) (by decide) rfl (by rw [hml]; rfl) (argsL := [(.long i3)]) (rest := []) (lenOf pd_1 rfl) rfl (W := 0) (Nat.le_refl _) rfl (hb hby at_171) (by decide) (by decide) (pc' := 174) rfl (fun T1949 L1949 r1949 X1949 q1949 => ?_)
      obtain ⟨N1949, e1949, q1949⟩ := q1949
      have N1949' := Fr.app N1869' N1949
      rcases q1949 with ⟨v1950, h1951, hc1952, rfl⟩ | ⟨v1953, h1954, hc1955, rfl⟩
      ·
       have hh1956 : v1938 = v1950 := hv1938.trans h1951.symm
       subst hh1956
       show KEnds p e below s _ _ _ T1949 (mkF m 174 #[.val (.int i0), .val (.long i1), .second, .val (.long i2), .second, .val (.long i3), .second, .val (.long v4), .second, .val (.ref b5), .val (.int (2 : Int32)), .val (.int (0 : Int32)), .val (.int (1 : Int32)), .val (.long i2), .second, .val (.int (1 : Int32))] [(.int (0 : Int32))])
       exact absurd hc1939 hc1952
      ·
       have hh1957 : v1938 = v1953 := hv1938.trans h1954.symm
       subst hh1957
       show KEnds p e below s _ _ _ T1949 (mkF m 174 #[.val (.int i0), .val (.long i1), .second, .val (.long i2), .second, .val (.long i3), .second, .val (.long v4), .second, .val (.ref b5), .val (.int (2 : Int32)), .val (.int (0 : Int32)), .val (.int (1 : Int32)), .val (.long i2), .second, .val (.int (1 : Int32))] [(.int (1 : Int32))])
       refine k_iload X1949 hx (hb hby at_174) rfl (pc' := 176) rfl ?_
       refine k_icmp_ne X1949 hx (hb hby at_176) (pn := 179) rfl (py := 183) (by decide) (fun hc => absurd (by decide) hc) (fun _ => ?_)
       refine k_iconst X1949 hx (hb hby at_179) (pc' := 180) rfl (z := (1 : Int32)) rfl ?_
       refine k_goto X1949 hx (hb hby at_180) (pc' := 184) (by decide) ?_
       exact k_retN X1949 hx (t := .boolean) Bd.returns (by simp) (hb hby at_184) hlk (by decide) (by decide) (z' := (1 : Int32)) rfl ⟨rfl, N1949'⟩
  ·
   refine k_aload X1777 hx (hb hby at_60) rfl rfl (pc' := 62) rfl ?_
   refine k_lconst X1777 hx (hb hby at_62) (pc' := 63) rfl (z := (1 : Int64)) rfl ?_
   refine k_lloadN X1777 hx (hb hby at_63) rfl (pc' := 64) rfl ?_
   refine k_callV X1777 hx hZ hown (a := b5) (hw _ (List.mem_of_getElem? (i := 26) rfl)) (hw _ (List.mem_of_getElem? (i := 27) rfl)) (hw _ (List.mem_of_getElem? (i := 29) rfl)) (hw _ (List.mem_of_getElem? (i := 28) rfl)) (hw _ (List.mem_of_getElem? (i := 2) rfl)) (hw _ (List.mem_of_getElem? (i := 30) rfl)) (by decide) F55 (rm4_172 l Z a0 hw [] b5 i1 b51 b53 v4 k52 k54 T50.heap n0 Z69 F55 F56 F57 F58 F59 F60 F61 F62 F63 F64 g_b5 F65 g_b51 F66 g_b53 lt67 lt68) (by decide) (by decide) e1777 (by rw [hml]; rfl) (argsL := [(.long (1 : Int64)), (.long i1)]) (rest := []) (lenOf pd_0 rfl) rfl (W := 0) (Nat.le_refl _) rfl (hb hby at_64) (by decide) (by decide) (pc' := 67) rfl (fun T1958 L1958 r1958 X1958 q1958 => ?_)
   obtain ⟨N1958, q1958⟩ := q1958
   have N1958' := Fr.app N1777' N1958
   obtain ⟨b1959, k1960, b1961, k1962, rfl, F1963, F1964, F1965, F1966, F1967, F1968, F1969, F1970, F1971, F1972, F1973, F1974, F1975, F1976, g_b1959, lt1977, g_b1961, lt1978, Z1979⟩ := q1958
   show KEnds p e below s _ _ _ T1958 (mkF m 67 #[.val (.int i0), .val (.long i1), .second, .val (.long i2), .second, .val (.long i3), .second, .val (.long v4), .second, .val (.ref b5), .val (.int (2 : Int32)), .val (.int (0 : Int32)), .unset, .unset, .unset, .unset] [])
   refine k_goto X1958 hx (hb hby at_67) (pc' := 77) (by decide) ?_
   refine k_iload X1958 hx (hb hby at_77) rfl (pc' := 79) rfl ?_
   refine k_iconst X1958 hx (hb hby at_79) (pc' := 80) rfl (z := (2 : Int32)) rfl ?_
   refine k_icmp_lt X1958 hx (hb hby at_80) (pn := 83) rfl (py := 107) (by decide) (fun hc => absurd hc (by decide)) (fun _ => ?_)
   refine k_iloadN X1958 hx (hb hby at_83) rfl (pc' := 84) rfl ?_
   refine k_bipush X1958 hx (hb hby at_84) (pc' := 86) rfl (z := (8 : Int32)) rfl ?_
   refine k_iand X1958 hx (hb hby at_86) (pc' := 87) rfl (fun v1980 hv1980 => ?_)
   refine k_if_eq X1958 hx (hb hby at_87) (pn := 90) rfl (py := 100) (by decide) (fun hc1981 => ?_) (fun hc1981 => ?_)
   ·
    refine k_aload X1958 hx (hb hby at_100) rfl rfl (pc' := 102) rfl ?_
    refine k_lloadN X1958 hx (hb hby at_102) rfl (pc' := 103) rfl ?_
    refine k_callV X1958 hx hZ hown (a := b5) (hw _ (List.mem_of_getElem? (i := 74) rfl)) (hw _ (List.mem_of_getElem? (i := 75) rfl)) (hw _ (List.mem_of_getElem? (i := 77) rfl)) (hw _ (List.mem_of_getElem? (i := 76) rfl)) (hw _ (List.mem_of_getElem? (i := 2) rfl)) (hw _ (List.mem_of_getElem? (i := 78) rfl)) (by decide) F1963 (rm13_748 l Z a0 hw [] b5 i2 b1959 b1961 v4 i1 b51 k52 b53 k54 k1960 k1962 T1958.heap n0 Z1979 F1963 F1964 F1965 F1966 F1967 F1968 F1969 F1970 F1971 F1972 g_b5 F1973 g_b51 F1974 g_b53 F1975 g_b1959 F1976 g_b1961 lt67 lt68 lt1977 lt1978) (by decide) (by decide) rfl (by rw [hml]; rfl) (argsL := [(.long i2)]) (rest := []) (lenOf pd_4 rfl) rfl (W := 0) (Nat.le_refl _) rfl (hb hby at_103) (by decide) (by decide) (pc' := 106) rfl (fun T1982 L1982 r1982 X1982 q1982 => ?_)
    obtain ⟨N1982, q1982⟩ := q1982
    have N1982' := Fr.app N1958' N1982
    rcases q1982 with ⟨v1983, v1984, h1985, h1986, hc1987, hc1988, rfl, F1989, F1990, F1991, F1992, F1993, F1994, F1995, F1996, F1997, F1998, F1999, F2000, F2001, F2002, Z2003⟩ | ⟨v2004, v2005, h2006, h2007, hc2008, hc2009, rfl, F2010, F2011, F2012, F2013, F2014, F2015, F2016, F2017, F2018, F2019, F2020, F2021, F2022, F2023, Z2024⟩ | ⟨v2025, h2026, hc2027, hc2028, rfl, F2029, F2030, F2031, F2032, F2033, F2034, F2035, F2036, F2037, F2038, F2039, F2040, F2041, F2042, Z2043⟩ | ⟨v2044, h2045, hc2046, hc2047, rfl, F2048, F2049, F2050, F2051, F2052, F2053, F2054, F2055, F2056, F2057, F2058, F2059, F2060, F2061, Z2062⟩
    ·
     show KEnds p e below s _ _ _ T1982 (mkF m 106 #[.val (.int i0), .val (.long i1), .second, .val (.long i2), .second, .val (.long i3), .second, .val (.long v4), .second, .val (.ref b5), .val (.int (2 : Int32)), .val (.int (0 : Int32)), .unset, .unset, .unset, .unset] [(.long (1 : Int64))])
     refine k_pop2L X1982 hx (hb hby at_106) (pc' := 107) rfl ?_
     refine k_iload X1982 hx (hb hby at_107) rfl (pc' := 109) rfl ?_
     refine k_iconst X1982 hx (hb hby at_109) (pc' := 110) rfl (z := (1 : Int32)) rfl ?_
     refine k_icmp_lt X1982 hx (hb hby at_110) (pn := 113) rfl (py := 117) (by decide) (fun hc => absurd hc (by decide)) (fun _ => ?_)
     refine k_iconst X1982 hx (hb hby at_113) (pc' := 114) rfl (z := (1 : Int32)) rfl ?_
     refine k_goto X1982 hx (hb hby at_114) (pc' := 118) (by decide) ?_
     refine k_istore X1982 hx (hb hby at_118) (Ls' := #[.val (.int i0), .val (.long i1), .second, .val (.long i2), .second, .val (.long i3), .second, .val (.long v4), .second, .val (.ref b5), .val (.int (2 : Int32)), .val (.int (0 : Int32)), .val (.int (1 : Int32)), .unset, .unset, .unset]) rfl (pc' := 120) rfl ?_
     refine k_lloadN X1982 hx (hb hby at_120) rfl (pc' := 121) rfl ?_
     refine k_lstore X1982 hx (hb hby at_121) (Ls' := #[.val (.int i0), .val (.long i1), .second, .val (.long i2), .second, .val (.long i3), .second, .val (.long v4), .second, .val (.ref b5), .val (.int (2 : Int32)), .val (.int (0 : Int32)), .val (.int (1 : Int32)), .val (.long i1), .second, .unset]) rfl (pc' := 123) rfl ?_
     refine k_iload X1982 hx (hb hby at_123) rfl (pc' := 125) rfl ?_
     refine k_iconst X1982 hx (hb hby at_125) (pc' := 126) rfl (z := (2 : Int32)) rfl ?_
     refine k_icmp_lt X1982 hx (hb hby at_126) (pn := 129) rfl (py := 140) (by decide) (fun hc => absurd hc (by decide)) (fun _ => ?_)
     refine k_lloadN X1982 hx (hb hby at_129) rfl (pc' := 130) rfl ?_
     refine k_lloadN X1982 hx (hb hby at_130) rfl (pc' := 131) rfl ?_
     refine k_lsubL X1982 hx (hb hby at_131) (pc' := 132) rfl (z := v1983) h1985.symm ?_
     refine k_lconst X1982 hx (hb hby at_132) (pc' := 133) rfl (z := (0 : Int64)) rfl ?_
     refine k_lcif_le X1982 hx (hb hby at_133) (pm := 134) rfl (hb hby at_134) (pn := 137) rfl (py := 140) (by decide) (fun _ => ?_) (fun hc => absurd hc hc1987)
     refine k_iload X1982 hx (hb hby at_140) rfl (pc' := 142) rfl ?_
     refine k_if_eq X1982 hx (hb hby at_142) (pn := 145) rfl (py := 159) (by decide) (fun hc => absurd hc (by decide)) (fun _ => ?_)
     refine k_lload X1982 hx (hb hby at_145) rfl (pc' := 147) rfl ?_
     refine k_lload X1982 hx (hb hby at_147) rfl (pc' := 149) rfl ?_
     refine k_lsub X1982 hx (hb hby at_149) (pc' := 150) rfl (fun v2063 hv2063 => ?_)
     refine k_lconst X1982 hx (hb hby at_150) (pc' := 151) rfl (z := (0 : Int64)) rfl ?_
     refine k_lcif_le X1982 hx (hb hby at_151) (pm := 152) rfl (hb hby at_152) (pn := 155) rfl (py := 159) (by decide) (fun hc2064 => ?_) (fun hc2064 => ?_)
     ·
      refine k_iconst X1982 hx (hb hby at_159) (pc' := 160) rfl (z := (0 : Int32)) rfl ?_
      refine k_istore X1982 hx (hb hby at_160) (Ls' := #[.val (.int i0), .val (.long i1), .second, .val (.long i2), .second, .val (.long i3), .second, .val (.long v4), .second, .val (.ref b5), .val (.int (2 : Int32)), .val (.int (0 : Int32)), .val (.int (1 : Int32)), .val (.long i1), .second, .val (.int (0 : Int32))]) rfl (pc' := 162) rfl ?_
      refine k_iload X1982 hx (hb hby at_162) rfl (pc' := 164) rfl ?_
      refine k_if_ne X1982 hx (hb hby at_164) (pn := 167) rfl (py := 183) (by decide) (fun hc => absurd (by decide) hc) (fun _ => ?_)
      refine k_aload X1982 hx (hb hby at_167) rfl rfl (pc' := 169) rfl ?_
      refine k_lload X1982 hx (hb hby at_169) rfl (pc' := 171) rfl ?_
      refine k_callV X1982 hx hZ hown (a := b5) (hw _ (List.mem_of_getElem? (i := 19) rfl)) (hw _ (List.mem_of_getElem? (i := 20) rfl)) (hw _ (List.mem_of_getElem? (i := 22) rfl)) (hw _ (List.mem_of_getElem? (i := 21) rfl)) (hw _ (List.mem_of_getElem? (i := 2) rfl)) (hw _ (List.mem_of_getElem? (i := 23) rfl)) (by decide) F1989 (rm3_353 l Z a0 hw [] b5 i3 b1959 b1961 v4 i1 k1960 k1962 T1982.heap n0 Z2003 F1989 F1990 F1991 F1992 F1993 F1994 F1995 F1996 F1997 F1998 F2001 F2002 (Nat.lt_trans (Nat.lt_trans lt67 lt68) lt1977) lt1978) (by decide) (by decide) rfl (by rw [hml]; rfl) (argsL := [(.long i3)]) (rest := []) (lenOf pd_1 rfl) rfl (W := 0) (Nat.le_refl _) rfl (hb hby at_171) (by decide) (by decide) (pc' := 174) rfl (fun T2065 L2065 r2065 X2065 q2065 => ?_)
      obtain ⟨N2065, e2065, q2065⟩ := q2065
      have N2065' := Fr.app N1982' N2065
      rcases q2065 with ⟨v2066, h2067, hc2068, rfl⟩ | ⟨v2069, h2070, hc2071, rfl⟩
      ·
       have hh2072 : v2063 = v2066 := hv2063.trans h2067.symm
       subst hh2072
       show KEnds p e below s _ _ _ T2065 (mkF m 174 #[.val (.int i0), .val (.long i1), .second, .val (.long i2), .second, .val (.long i3), .second, .val (.long v4), .second, .val (.ref b5), .val (.int (2 : Int32)), .val (.int (0 : Int32)), .val (.int (1 : Int32)), .val (.long i1), .second, .val (.int (0 : Int32))] [(.int (0 : Int32))])
       refine k_iload X2065 hx (hb hby at_174) rfl (pc' := 176) rfl ?_
       refine k_icmp_ne X2065 hx (hb hby at_176) (pn := 179) rfl (py := 183) (by decide) (fun hc => absurd (by decide) hc) (fun _ => ?_)
       refine k_iconst X2065 hx (hb hby at_179) (pc' := 180) rfl (z := (1 : Int32)) rfl ?_
       refine k_goto X2065 hx (hb hby at_180) (pc' := 184) (by decide) ?_
       exact k_retN X2065 hx (t := .boolean) Bd.returns (by simp) (hb hby at_184) hlk (by decide) (by decide) (z' := (1 : Int32)) rfl ⟨rfl, N2065'⟩
      ·
       have hh2073 : v2063 = v2069 := hv2063.trans h2070.symm
       subst hh2073
       show KEnds p e below s _ _ _ T2065 (mkF m 174 #[.val (.int i0), .val (.long i1), .second, .val (.long i2), .second, .val (.long i3), .second, .val (.long v4), .second, .val (.ref b5), .val (.int (2 : Int32)), .val (.int (0 : Int32)), .val (.int (1 : Int32)), .val (.long i1), .second, .val (.int (0 : Int32))] [(.int (1 : Int32))])
       exact absurd hc2071 hc2064
     ·
      refine k_iconst X1982 hx (hb hby at_155) (pc' := 156) rfl (z := (1 : Int32)) rfl ?_
      refine k_goto X1982 hx (hb hby at_156) (pc' := 160) (by decide) ?_
      refine k_istore X1982 hx (hb hby at_160) (Ls' := #[.val (.int i0), .val (.long i1), .second, .val (.long i2), .second, .val (.long i3), .second, .val (.long v4), .second, .val (.ref b5), .val (.int (2 : Int32)), .val (.int (0 : Int32)), .val (.int (1 : Int32)), .val (.long i1), .second, .val (.int (1 : Int32))]) rfl (pc' := 162) rfl ?_
      refine k_iload X1982 hx (hb hby at_162) rfl (pc' := 164) rfl ?_
      refine k_if_ne X1982 hx (hb hby at_164) (pn := 167) rfl (py := 183) (by decide) (fun hc => absurd (by decide) hc) (fun _ => ?_)
      refine k_aload X1982 hx (hb hby at_167) rfl rfl (pc' := 169) rfl ?_
      refine k_lload X1982 hx (hb hby at_169) rfl (pc' := 171) rfl ?_
      refine k_callV X1982 hx hZ hown (a := b5) (hw _ (List.mem_of_getElem? (i := 19) rfl)) (hw _ (List.mem_of_getElem? (i := 20) rfl)) (hw _ (List.mem_of_getElem? (i := 22) rfl)) (hw _ (List.mem_of_getElem? (i := 21) rfl)) (hw _ (List.mem_of_getElem? (i := 2) rfl)) (hw _ (List.mem_of_getElem? (i := 23) rfl)) (by decide) F1989 (rm3_353 l Z a0 hw [] b5 i3 b1959 b1961 v4 i1 k1960 k1962 T1982.heap n0 Z2003 F1989 F1990 F1991 F1992 F1993 F1994 F1995 F1996 F1997 F1998 F2001 F2002 (Nat.lt_trans (Nat.lt_trans lt67 lt68) lt1977) lt1978) (by decide) (by decide) rfl (by rw [hml]; rfl) (argsL := [(.long i3)]) (rest := []) (lenOf pd_1 rfl) rfl (W := 0) (Nat.le_refl _) rfl (hb hby at_171) (by decide) (by decide) (pc' := 174) rfl (fun T2074 L2074 r2074 X2074 q2074 => ?_)
      obtain ⟨N2074, e2074, q2074⟩ := q2074
      have N2074' := Fr.app N1982' N2074
      rcases q2074 with ⟨v2075, h2076, hc2077, rfl⟩ | ⟨v2078, h2079, hc2080, rfl⟩
      ·
       have hh2081 : v2063 = v2075 := hv2063.trans h2076.symm
       subst hh2081
       show KEnds p e below s _ _ _ T2074 (mkF m 174 #[.val (.int i0), .val (.long i1), .second, .val (.long i2), .second, .val (.long i3), .second, .val (.long v4), .second, .val (.ref b5), .val (.int (2 : Int32)), .val (.int (0 : Int32)), .val (.int (1 : Int32)), .val (.long i1), .second, .val (.int (1 : Int32))] [(.int (0 : Int32))])
       exact absurd hc2064 hc2077
      ·
       have hh2082 : v2063 = v2078 := hv2063.trans h2079.symm
       subst hh2082
       show KEnds p e below s _ _ _ T2074 (mkF m 174 #[.val (.int i0), .val (.long i1), .second, .val (.long i2), .second, .val (.long i3), .second, .val (.long v4), .second, .val (.ref b5), .val (.int (2 : Int32)), .val (.int (0 : Int32)), .val (.int (1 : Int32)), .val (.long i1), .second, .val (.int (1 : Int32))] [(.int (1 : Int32))])
       refine k_iload X2074 hx (hb hby at_174) rfl (pc' := 176) rfl ?_
       refine k_icmp_ne X2074 hx (hb hby at_176) (pn := 179) rfl (py := 183) (by decide) (fun hc => absurd (by decide) hc) (fun _ => ?_)
       refine k_iconst X2074 hx (hb hby at_179) (pc' := 180) rfl (z := (1 : Int32)) rfl ?_
       refine k_goto X2074 hx (hb hby at_180) (pc' := 184) (by decide) ?_
       exact k_retN X2074 hx (t := .boolean) Bd.returns (by simp) (hb hby at_184) hlk (by decide) (by decide) (z' := (1 : Int32)) rfl ⟨rfl, N2074'⟩
    ·
     show KEnds p e below s _ _ _ T1982 (mkF m 106 #[.val (.int i0), .val (.long i1), .second, .val (.long i2), .second, .val (.long i3), .second, .val (.long v4), .second, .val (.ref b5), .val (.int (2 : Int32)), .val (.int (0 : Int32)), .unset, .unset, .unset, .unset] [(.long (0 : Int64))])
     refine k_pop2L X1982 hx (hb hby at_106) (pc' := 107) rfl ?_
     refine k_iload X1982 hx (hb hby at_107) rfl (pc' := 109) rfl ?_
     refine k_iconst X1982 hx (hb hby at_109) (pc' := 110) rfl (z := (1 : Int32)) rfl ?_
     refine k_icmp_lt X1982 hx (hb hby at_110) (pn := 113) rfl (py := 117) (by decide) (fun hc => absurd hc (by decide)) (fun _ => ?_)
     refine k_iconst X1982 hx (hb hby at_113) (pc' := 114) rfl (z := (1 : Int32)) rfl ?_
     refine k_goto X1982 hx (hb hby at_114) (pc' := 118) (by decide) ?_
     refine k_istore X1982 hx (hb hby at_118) (Ls' := #[.val (.int i0), .val (.long i1), .second, .val (.long i2), .second, .val (.long i3), .second, .val (.long v4), .second, .val (.ref b5), .val (.int (2 : Int32)), .val (.int (0 : Int32)), .val (.int (1 : Int32)), .unset, .unset, .unset]) rfl (pc' := 120) rfl ?_
     refine k_lloadN X1982 hx (hb hby at_120) rfl (pc' := 121) rfl ?_
     refine k_lstore X1982 hx (hb hby at_121) (Ls' := #[.val (.int i0), .val (.long i1), .second, .val (.long i2), .second, .val (.long i3), .second, .val (.long v4), .second, .val (.ref b5), .val (.int (2 : Int32)), .val (.int (0 : Int32)), .val (.int (1 : Int32)), .val (.long i1), .second, .unset]) rfl (pc' := 123) rfl ?_
     refine k_iload X1982 hx (hb hby at_123) rfl (pc' := 125) rfl ?_
     refine k_iconst X1982 hx (hb hby at_125) (pc' := 126) rfl (z := (2 : Int32)) rfl ?_
     refine k_icmp_lt X1982 hx (hb hby at_126) (pn := 129) rfl (py := 140) (by decide) (fun hc => absurd hc (by decide)) (fun _ => ?_)
     refine k_lloadN X1982 hx (hb hby at_129) rfl (pc' := 130) rfl ?_
     refine k_lloadN X1982 hx (hb hby at_130) rfl (pc' := 131) rfl ?_
     refine k_lsubL X1982 hx (hb hby at_131) (pc' := 132) rfl (z := v2004) h2006.symm ?_
     refine k_lconst X1982 hx (hb hby at_132) (pc' := 133) rfl (z := (0 : Int64)) rfl ?_
     refine k_lcif_le X1982 hx (hb hby at_133) (pm := 134) rfl (hb hby at_134) (pn := 137) rfl (py := 140) (by decide) (fun _ => ?_) (fun hc => absurd hc hc2008)
     refine k_iload X1982 hx (hb hby at_140) rfl (pc' := 142) rfl ?_
     refine k_if_eq X1982 hx (hb hby at_142) (pn := 145) rfl (py := 159) (by decide) (fun hc => absurd hc (by decide)) (fun _ => ?_)
     refine k_lload X1982 hx (hb hby at_145) rfl (pc' := 147) rfl ?_
     refine k_lload X1982 hx (hb hby at_147) rfl (pc' := 149) rfl ?_
     refine k_lsub X1982 hx (hb hby at_149) (pc' := 150) rfl (fun v2083 hv2083 => ?_)
     refine k_lconst X1982 hx (hb hby at_150) (pc' := 151) rfl (z := (0 : Int64)) rfl ?_
     refine k_lcif_le X1982 hx (hb hby at_151) (pm := 152) rfl (hb hby at_152) (pn := 155) rfl (py := 159) (by decide) (fun hc2084 => ?_) (fun hc2084 => ?_)
     ·
      refine k_iconst X1982 hx (hb hby at_159) (pc' := 160) rfl (z := (0 : Int32)) rfl ?_
      refine k_istore X1982 hx (hb hby at_160) (Ls' := #[.val (.int i0), .val (.long i1), .second, .val (.long i2), .second, .val (.long i3), .second, .val (.long v4), .second, .val (.ref b5), .val (.int (2 : Int32)), .val (.int (0 : Int32)), .val (.int (1 : Int32)), .val (.long i1), .second, .val (.int (0 : Int32))]) rfl (pc' := 162) rfl ?_
      refine k_iload X1982 hx (hb hby at_162) rfl (pc' := 164) rfl ?_
      refine k_if_ne X1982 hx (hb hby at_164) (pn := 167) rfl (py := 183) (by decide) (fun hc => absurd (by decide) hc) (fun _ => ?_)
      refine k_aload X1982 hx (hb hby at_167) rfl rfl (pc' := 169) rfl ?_
      refine k_lload X1982 hx (hb hby at_169) rfl (pc' := 171) rfl ?_
      refine k_callV X1982 hx hZ hown (a := b5) (hw _ (List.mem_of_getElem? (i := 19) rfl)) (hw _ (List.mem_of_getElem? (i := 20) rfl)) (hw _ (List.mem_of_getElem? (i := 22) rfl)) (hw _ (List.mem_of_getElem? (i := 21) rfl)) (hw _ (List.mem_of_getElem? (i := 2) rfl)) (hw _ (List.mem_of_getElem? (i := 23) rfl)) (by decide) F2010 (rm3_1135 l Z a0 hw [] b5 i3 b1959 b1961 v4 i1 k1960 k1962 T1982.heap n0 Z2024 F2010 F2011 F2012 F2013 F2014 F2015 F2016 F2017 F2018 F2019 F2022 F2023 (Nat.lt_trans (Nat.lt_trans lt67 lt68) lt1977) lt1978) (by decide) (by decide) rfl (by rw [hml]; rfl) (argsL := [(.long i3)]) (rest := []) (lenOf pd_1 rfl) rfl (W := 0) (Nat.le_refl _) rfl (hb hby at_171) (by decide) (by decide) (pc' := 174) rfl (fun T2085 L2085 r2085 X2085 q2085 => ?_)
      obtain ⟨N2085, e2085, q2085⟩ := q2085
      have N2085' := Fr.app N1982' N2085
      rcases q2085 with ⟨v2086, h2087, hc2088, rfl⟩ | ⟨v2089, h2090, hc2091, rfl⟩
      ·
       have hh2092 : v2083 = v2086 := hv2083.trans h2087.symm
       subst hh2092
       show KEnds p e below s _ _ _ T2085 (mkF m 174 #[.val (.int i0), .val (.long i1), .second, .val (.long i2), .second, .val (.long i3), .second, .val (.long v4), .second, .val (.ref b5), .val (.int (2 : Int32)), .val (.int (0 : Int32)), .val (.int (1 : Int32)), .val (.long i1), .second, .val (.int (0 : Int32))] [(.int (0 : Int32))])
       refine k_iload X2085 hx (hb hby at_174) rfl (pc' := 176) rfl ?_
       refine k_icmp_ne X2085 hx (hb hby at_176) (pn := 179) rfl (py := 183) (by decide) (fun hc => absurd (by decide) hc) (fun _ => ?_)
       refine k_iconst X2085 hx (hb hby at_179) (pc' := 180) rfl (z := (1 : Int32)) rfl ?_
       refine k_goto X2085 hx (hb hby at_180) (pc' := 184) (by decide) ?_
       exact k_retN X2085 hx (t := .boolean) Bd.returns (by simp) (hb hby at_184) hlk (by decide) (by decide) (z' := (1 : Int32)) rfl ⟨rfl, N2085'⟩
      ·
       have hh2093 : v2083 = v2089 := hv2083.trans h2090.symm
       subst hh2093
       show KEnds p e below s _ _ _ T2085 (mkF m 174 #[.val (.int i0), .val (.long i1), .second, .val (.long i2), .second, .val (.long i3), .second, .val (.long v4), .second, .val (.ref b5), .val (.int (2 : Int32)), .val (.int (0 : Int32)), .val (.int (1 : Int32)), .val (.long i1), .second, .val (.int (0 : Int32))] [(.int (1 : Int32))])
       exact absurd hc2091 hc2084
     ·
      refine k_iconst X1982 hx (hb hby at_155) (pc' := 156) rfl (z := (1 : Int32)) rfl ?_
      refine k_goto X1982 hx (hb hby at_156) (pc' := 160) (by decide) ?_
      refine k_istore X1982 hx (hb hby at_160) (Ls' := #[.val (.int i0), .val (.long i1), .second, .val (.long i2), .second, .val (.long i3), .second, .val (.long v4), .second, .val (.ref b5), .val (.int (2 : Int32)), .val (.int (0 : Int32)), .val (.int (1 : Int32)), .val (.long i1), .second, .val (.int (1 : Int32))]) rfl (pc' := 162) rfl ?_
      refine k_iload X1982 hx (hb hby at_162) rfl (pc' := 164) rfl ?_
      refine k_if_ne X1982 hx (hb hby at_164) (pn := 167) rfl (py := 183) (by decide) (fun hc => absurd (by decide) hc) (fun _ => ?_)
      refine k_aload X1982 hx (hb hby at_167) rfl rfl (pc' := 169) rfl ?_
      refine k_lload X1982 hx (hb hby at_169) rfl (pc' := 171) rfl ?_
      refine k_callV X1982 hx hZ hown (a := b5) (hw _ (List.mem_of_getElem? (i := 19) rfl)) (hw _ (List.mem_of_getElem? (i := 20) rfl)) (hw _ (List.mem_of_getElem? (i := 22) rfl)) (hw _ (List.mem_of_getElem? (i := 21) rfl)) (hw _ (List.mem_of_getElem? (i := 2) rfl)) (hw _ (List.mem_of_getElem? (i := 23) rfl)) (by decide) F2010 (rm3_1135 l Z a0 hw [] b5 i3 b1959 b1961 v4 i1 k1960 k1962 T1982.heap n0 Z2024 F2010 F2011 F2012 F2013 F2014 F2015 F2016 F2017 F2018 F2019 F2022 F2023 (Nat.lt_trans (Nat.lt_trans lt67 lt68) lt1977) lt1978) (by decide) (by decide) rfl (by rw [hml]; rfl) (argsL := [(.long i3)]) (rest := []) (lenOf pd_1 rfl) rfl (W := 0) (Nat.le_refl _) rfl (hb hby at_171) (by decide) (by decide) (pc' := 174) rfl (fun T2094 L2094 r2094 X2094 q2094 => ?_)
      obtain ⟨N2094, e2094, q2094⟩ := q2094
      have N2094' := Fr.app N1982' N2094
      rcases q2094 with ⟨v2095, h2096, hc2097, rfl⟩ | ⟨v2098, h2099, hc2100, rfl⟩
      ·
       have hh2101 : v2083 = v2095 := hv2083.trans h2096.symm
       subst hh2101
       show KEnds p e below s _ _ _ T2094 (mkF m 174 #[.val (.int i0), .val (.long i1), .second, .val (.long i2), .second, .val (.long i3), .second, .val (.long v4), .second, .val (.ref b5), .val (.int (2 : Int32)), .val (.int (0 : Int32)), .val (.int (1 : Int32)), .val (.long i1), .second, .val (.int (1 : Int32))] [(.int (0 : Int32))])
       exact absurd hc2084 hc2097
      ·
       have hh2102 : v2083 = v2098 := hv2083.trans h2099.symm
       subst hh2102
       show KEnds p e below s _ _ _ T2094 (mkF m 174 #[.val (.int i0), .val (.long i1), .second, .val (.long i2), .second, .val (.long i3), .second, .val (.long v4), .second, .val (.ref b5), .val (.int (2 : Int32)), .val (.int (0 : Int32)), .val (.int (1 : Int32)), .val (.long i1), .second, .val (.int (1 : Int32))] [(.int (1 : Int32))])
       refine k_iload X2094 hx (hb hby at_174) rfl (pc' := 176) rfl ?_
       refine k_icmp_ne X2094 hx (hb hby at_176) (pn := 179) rfl (py := 183) (by decide) (fun hc => absurd (by decide) hc) (fun _ => ?_)
       refine k_iconst X2094 hx (hb hby at_179) (pc' := 180) rfl (z := (1 : Int32)) rfl ?_
       refine k_goto X2094 hx (hb hby at_180) (pc' := 184) (by decide) ?_
       exact k_retN X2094 hx (t := .boolean) Bd.returns (by simp) (hb hby at_184) hlk (by decide) (by decide) (z' := (1 : Int32)) rfl ⟨rfl, N2094'⟩
    ·
     show KEnds p e below s _ _ _ T1982 (mkF m 106 #[.val (.int i0), .val (.long i1), .second, .val (.long i2), .second, .val (.long i3), .second, .val (.long v4), .second, .val (.ref b5), .val (.int (2 : Int32)), .val (.int (0 : Int32)), .unset, .unset, .unset, .unset] [(.long (1 : Int64))])
     refine k_pop2L X1982 hx (hb hby at_106) (pc' := 107) rfl ?_
     refine k_iload X1982 hx (hb hby at_107) rfl (pc' := 109) rfl ?_
     refine k_iconst X1982 hx (hb hby at_109) (pc' := 110) rfl (z := (1 : Int32)) rfl ?_
     refine k_icmp_lt X1982 hx (hb hby at_110) (pn := 113) rfl (py := 117) (by decide) (fun hc => absurd hc (by decide)) (fun _ => ?_)
     refine k_iconst X1982 hx (hb hby at_113) (pc' := 114) rfl (z := (1 : Int32)) rfl ?_
     refine k_goto X1982 hx (hb hby at_114) (pc' := 118) (by decide) ?_
     refine k_istore X1982 hx (hb hby at_118) (Ls' := #[.val (.int i0), .val (.long i1), .second, .val (.long i2), .second, .val (.long i3), .second, .val (.long v4), .second, .val (.ref b5), .val (.int (2 : Int32)), .val (.int (0 : Int32)), .val (.int (1 : Int32)), .unset, .unset, .unset]) rfl (pc' := 120) rfl ?_
     refine k_lloadN X1982 hx (hb hby at_120) rfl (pc' := 121) rfl ?_
     refine k_lstore X1982 hx (hb hby at_121) (Ls' := #[.val (.int i0), .val (.long i1), .second, .val (.long i2), .second, .val (.long i3), .second, .val (.long v4), .second, .val (.ref b5), .val (.int (2 : Int32)), .val (.int (0 : Int32)), .val (.int (1 : Int32)), .val (.long i1), .second, .unset]) rfl (pc' := 123) rfl ?_
     refine k_iload X1982 hx (hb hby at_123) rfl (pc' := 125) rfl ?_
     refine k_iconst X1982 hx (hb hby at_125) (pc' := 126) rfl (z := (2 : Int32)) rfl ?_
     refine k_icmp_lt X1982 hx (hb hby at_126) (pn := 129) rfl (py := 140) (by decide) (fun hc => absurd hc (by decide)) (fun _ => ?_)
     refine k_lloadN X1982 hx (hb hby at_129) rfl (pc' := 130) rfl ?_
     refine k_lloadN X1982 hx (hb hby at_130) rfl (pc' := 131) rfl ?_
     refine k_lsubL X1982 hx (hb hby at_131) (pc' := 132) rfl (z := v2025) h2026.symm ?_
     refine k_lconst X1982 hx (hb hby at_132) (pc' := 133) rfl (z := (0 : Int64)) rfl ?_
     refine k_lcif_le X1982 hx (hb hby at_133) (pm := 134) rfl (hb hby at_134) (pn := 137) rfl (py := 140) (by decide) (fun hc => absurd hc2027 hc) (fun _ => ?_)
     refine k_lloadN X1982 hx (hb hby at_137) rfl (pc' := 138) rfl ?_
     refine k_lstore X1982 hx (hb hby at_138) (Ls' := #[.val (.int i0), .val (.long i1), .second, .val (.long i2), .second, .val (.long i3), .second, .val (.long v4), .second, .val (.ref b5), .val (.int (2 : Int32)), .val (.int (0 : Int32)), .val (.int (1 : Int32)), .val (.long i2), .second, .unset]) rfl (pc' := 140) rfl ?_
     refine k_iload X1982 hx (hb hby at_140) rfl (pc' := 142) rfl ?_
     refine k_if_eq X1982 hx (hb hby at_142) (pn := 145) rfl (py := 159) (by decide) (fun hc => absurd hc (by decide)) (fun _ => ?_)
     refine k_lload X1982 hx (hb hby at_145) rfl (pc' := 147) rfl ?_
     refine k_lload X1982 hx (hb hby at_147) rfl (pc' := 149) rfl ?_
     refine k_lsub X1982 hx (hb hby at_149) (pc' := 150) rfl (fun v2103 hv2103 => ?_)
     refine k_lconst X1982 hx (hb hby at_150) (pc' := 151) rfl (z := (0 : Int64)) rfl ?_
     refine k_lcif_le X1982 hx (hb hby at_151) (pm := 152) rfl (hb hby at_152) (pn := 155) rfl (py := 159) (by decide) (fun hc2104 => ?_) (fun hc2104 => ?_)
     ·
      refine k_iconst X1982 hx (hb hby at_159) (pc' := 160) rfl (z := (0 : Int32)) rfl ?_
      refine k_istore X1982 hx (hb hby at_160) (Ls' := #[.val (.int i0), .val (.long i1), .second, .val (.long i2), .second, .val (.long i3), .second, .val (.long v4), .second, .val (.ref b5), .val (.int (2 : Int32)), .val (.int (0 : Int32)), .val (.int (1 : Int32)), .val (.long i2), .second, .val (.int (0 : Int32))]) rfl (pc' := 162) rfl ?_
      refine k_iload X1982 hx (hb hby at_162) rfl (pc' := 164) rfl ?_
      refine k_if_ne X1982 hx (hb hby at_164) (pn := 167) rfl (py := 183) (by decide) (fun hc => absurd (by decide) hc) (fun _ => ?_)
      refine k_aload X1982 hx (hb hby at_167) rfl rfl (pc' := 169) rfl ?_
      refine k_lload X1982 hx (hb hby at_169) rfl (pc' := 171) rfl ?_
      refine k_callV X1982 hx hZ hown (a := b5) (hw _ (List.mem_of_getElem? (i := 19) rfl)) (hw _ (List.mem_of_getElem? (i := 20) rfl)) (hw _ (List.mem_of_getElem? (i := 22) rfl)) (hw _ (List.mem_of_getElem? (i := 21) rfl)) (hw _ (List.mem_of_getElem? (i := 2) rfl)) (hw _ (List.mem_of_getElem? (i := 23) rfl)) (by decide) F2029 (rm3_1160 l Z a0 hw [] b5 i3 b1959 b1961 v4 i2 k1960 i1 k1962 T1982.heap n0 Z2043 F2029 F2030 F2031 F2032 F2033 F2034 F2035 F2036 F2037 F2038 F2041 F2042 (Nat.lt_trans (Nat.lt_trans lt67 lt68) lt1977) lt1978) (by decide) (by decide) rfl (by rw [hml]; rfl) (argsL := [(.long i3)]) (rest := []) (lenOf pd_1 rfl) rfl (W := 0) (Nat.le_refl _) rfl (hb hby at_171) (by decide) (by decide) (pc' := 174) rfl (fun T2105 L2105 r2105 X2105 q2105 => ?_)
      obtain ⟨N2105, e2105, q2105⟩ := q2105
      have N2105' := Fr.app N1982' N2105
      rcases q2105 with ⟨v2106, h2107, hc2108, rfl⟩ | ⟨v2109, h2110, hc2111, rfl⟩
      ·
       have hh2112 : v2103 = v2106 := hv2103.trans h2107.symm
       subst hh2112
       show KEnds p e below s _ _ _ T2105 (mkF m 174 #[.val (.int i0), .val (.long i1), .second, .val (.long i2), .second, .val (.long i3), .second, .val (.long v4), .second, .val (.ref b5), .val (.int (2 : Int32)), .val (.int (0 : Int32)), .val (.int (1 : Int32)), .val (.long i2), .second, .val (.int (0 : Int32))] [(.int (0 : Int32))])
       refine k_iload X2105 hx (hb hby at_174) rfl (pc' := 176) rfl ?_
       refine k_icmp_ne X2105 hx (hb hby at_176) (pn := 179) rfl (py := 183) (by decide) (fun hc => absurd (by decide) hc) (fun _ => ?_)
       refine k_iconst X2105 hx (hb hby at_179) (pc' := 180) rfl (z := (1 : Int32)) rfl ?_
       refine k_goto X2105 hx (hb hby at_180) (pc' := 184) (by decide) ?_
       exact k_retN X2105 hx (t := .boolean) Bd.returns (by simp) (hb hby at_184) hlk (by decide) (by decide) (z' := (1 : Int32)) rfl ⟨rfl, N2105'⟩
      ·
       have hh2113 : v2103 = v2109 := hv2103.trans h2110.symm
       subst hh2113
       show KEnds p e below s _ _ _ T2105 (mkF m 174 #[.val (.int i0), .val (.long i1), .second, .val (.long i2), .second, .val (.long i3), .second, .val (.long v4), .second, .val (.ref b5), .val (.int (2 : Int32)), .val (.int (0 : Int32)), .val (.int (1 : Int32)), .val (.long i2), .second, .val (.int (0 : Int32))] [(.int (1 : Int32))])
       exact absurd hc2111 hc2104
     ·
      refine k_iconst X1982 hx (hb hby at_155) (pc' := 156) rfl (z := (1 : Int32)) rfl ?_
      refine k_goto X1982 hx (hb hby at_156) (pc' := 160) (by decide) ?_
      refine k_istore X1982 hx (hb hby at_160) (Ls' := #[.val (.int i0), .val (.long i1), .second, .val (.long i2), .second, .val (.long i3), .second, .val (.long v4), .second, .val (.ref b5), .val (.int (2 : Int32)), .val (.int (0 : Int32)), .val (.int (1 : Int32)), .val (.long i2), .second, .val (.int (1 : Int32))]) rfl (pc' := 162) rfl ?_
      refine k_iload X1982 hx (hb hby at_162) rfl (pc' := 164) rfl ?_
      refine k_if_ne X1982 hx (hb hby at_164) (pn := 167) rfl (py := 183) (by decide) (fun hc => absurd (by decide) hc) (fun _ => ?_)
      refine k_aload X1982 hx (hb hby at_167) rfl rfl (pc' := 169) rfl ?_
      refine k_lload X1982 hx (hb hby at_169) rfl (pc' := 171) rfl ?_
      refine k_callV X1982 hx hZ hown (a := b5) (hw _ (List.mem_of_getElem? (i := 19) rfl)) (hw _ (List.mem_of_getElem? (i := 20) rfl)) (hw _ (List.mem_of_getElem? (i := 22) rfl)) (hw _ (List.mem_of_getElem? (i := 21) rfl)) (hw _ (List.mem_of_getElem? (i := 2) rfl)) (hw _ (List.mem_of_getElem? (i := 23) rfl)) (by decide) F2029 (rm3_1160 l Z a0 hw [] b5 i3 b1959 b1961 v4 i2 k1960 i1 k1962 T1982.heap n0 Z2043 F2029 F2030 F2031 F2032 F2033 F2034 F2035 F2036 F2037 F2038 F2041 F2042 (Nat.lt_trans (Nat.lt_trans lt67 lt68) lt1977) lt1978) (by decide) (by decide) rfl (by rw [hml]; rfl) (argsL := [(.long i3)]) (rest := []) (lenOf pd_1 rfl) rfl (W := 0) (Nat.le_refl _) rfl (hb hby at_171) (by decide) (by decide) (pc' := 174) rfl (fun T2114 L2114 r2114 X2114 q2114 => ?_)
      obtain ⟨N2114, e2114, q2114⟩ := q2114
      have N2114' := Fr.app N1982' N2114
      rcases q2114 with ⟨v2115, h2116, hc2117, rfl⟩ | ⟨v2118, h2119, hc2120, rfl⟩
      ·
       have hh2121 : v2103 = v2115 := hv2103.trans h2116.symm
       subst hh2121
       show KEnds p e below s _ _ _ T2114 (mkF m 174 #[.val (.int i0), .val (.long i1), .second, .val (.long i2), .second, .val (.long i3), .second, .val (.long v4), .second, .val (.ref b5), .val (.int (2 : Int32)), .val (.int (0 : Int32)), .val (.int (1 : Int32)), .val (.long i2), .second, .val (.int (1 : Int32))] [(.int (0 : Int32))])
       exact absurd hc2104 hc2117
      ·
       have hh2122 : v2103 = v2118 := hv2103.trans h2119.symm
       subst hh2122
       show KEnds p e below s _ _ _ T2114 (mkF m 174 #[.val (.int i0), .val (.long i1), .second, .val (.long i2), .second, .val (.long i3), .second, .val (.long v4), .second, .val (.ref b5), .val (.int (2 : Int32)), .val (.int (0 : Int32)), .val (.int (1 : Int32)), .val (.long i2), .second, .val (.int (1 : Int32))] [(.int (1 : Int32))])
       refine k_iload X2114 hx (hb hby at_174) rfl (pc' := 176) rfl ?_
       refine k_icmp_ne X2114 hx (hb hby at_176) (pn := 179) rfl (py := 183) (by decide) (fun hc => absurd (by decide) hc) (fun _ => ?_)
       refine k_iconst X2114 hx (hb hby at_179) (pc' := 180) rfl (z := (1 : Int32)) rfl ?_
       refine k_goto X2114 hx (hb hby at_180) (pc' := 184) (by decide) ?_
       exact k_retN X2114 hx (t := .boolean) Bd.returns (by simp) (hb hby at_184) hlk (by decide) (by decide) (z' := (1 : Int32)) rfl ⟨rfl, N2114'⟩
    ·
     show KEnds p e below s _ _ _ T1982 (mkF m 106 #[.val (.int i0), .val (.long i1), .second, .val (.long i2), .second, .val (.long i3), .second, .val (.long v4), .second, .val (.ref b5), .val (.int (2 : Int32)), .val (.int (0 : Int32)), .unset, .unset, .unset, .unset] [(.long (0 : Int64))])
     refine k_pop2L X1982 hx (hb hby at_106) (pc' := 107) rfl ?_
     refine k_iload X1982 hx (hb hby at_107) rfl (pc' := 109) rfl ?_
     refine k_iconst X1982 hx (hb hby at_109) (pc' := 110) rfl (z := (1 : Int32)) rfl ?_
     refine k_icmp_lt X1982 hx (hb hby at_110) (pn := 113) rfl (py := 117) (by decide) (fun hc => absurd hc (by decide)) (fun _ => ?_)
     refine k_iconst X1982 hx (hb hby at_113) (pc' := 114) rfl (z := (1 : Int32)) rfl ?_
     refine k_goto X1982 hx (hb hby at_114) (pc' := 118) (by decide) ?_
     refine k_istore X1982 hx (hb hby at_118) (Ls' := #[.val (.int i0), .val (.long i1), .second, .val (.long i2), .second, .val (.long i3), .second, .val (.long v4), .second, .val (.ref b5), .val (.int (2 : Int32)), .val (.int (0 : Int32)), .val (.int (1 : Int32)), .unset, .unset, .unset]) rfl (pc' := 120) rfl ?_
     refine k_lloadN X1982 hx (hb hby at_120) rfl (pc' := 121) rfl ?_
     refine k_lstore X1982 hx (hb hby at_121) (Ls' := #[.val (.int i0), .val (.long i1), .second, .val (.long i2), .second, .val (.long i3), .second, .val (.long v4), .second, .val (.ref b5), .val (.int (2 : Int32)), .val (.int (0 : Int32)), .val (.int (1 : Int32)), .val (.long i1), .second, .unset]) rfl (pc' := 123) rfl ?_
     refine k_iload X1982 hx (hb hby at_123) rfl (pc' := 125) rfl ?_
     refine k_iconst X1982 hx (hb hby at_125) (pc' := 126) rfl (z := (2 : Int32)) rfl ?_
     refine k_icmp_lt X1982 hx (hb hby at_126) (pn := 129) rfl (py := 140) (by decide) (fun hc => absurd hc (by decide)) (fun _ => ?_)
     refine k_lloadN X1982 hx (hb hby at_129) rfl (pc' := 130) rfl ?_
     refine k_lloadN X1982 hx (hb hby at_130) rfl (pc' := 131) rfl ?_
     refine k_lsubL X1982 hx (hb hby at_131) (pc' := 132) rfl (z := v2044) h2045.symm ?_
     refine k_lconst X1982 hx (hb hby at_132) (pc' := 133) rfl (z := (0 : Int64)) rfl ?_
     refine k_lcif_le X1982 hx (hb hby at_133) (pm := 134) rfl (hb hby at_134) (pn := 137) rfl (py := 140) (by decide) (fun hc => absurd hc2046 hc) (fun _ => ?_)
     refine k_lloadN X1982 hx (hb hby at_137) rfl (pc' := 138) rfl ?_
     refine k_lstore X1982 hx (hb hby at_138) (Ls' := #[.val (.int i0), .val (.long i1), .second, .val (.long i2), .second, .val (.long i3), .second, .val (.long v4), .second, .val (.ref b5), .val (.int (2 : Int32)), .val (.int (0 : Int32)), .val (.int (1 : Int32)), .val (.long i2), .second, .unset]) rfl (pc' := 140) rfl ?_
     refine k_iload X1982 hx (hb hby at_140) rfl (pc' := 142) rfl ?_
     refine k_if_eq X1982 hx (hb hby at_142) (pn := 145) rfl (py := 159) (by decide) (fun hc => absurd hc (by decide)) (fun _ => ?_)
     refine k_lload X1982 hx (hb hby at_145) rfl (pc' := 147) rfl ?_
     refine k_lload X1982 hx (hb hby at_147) rfl (pc' := 149) rfl ?_
     refine k_lsub X1982 hx (hb hby at_149) (pc' := 150) rfl (fun v2123 hv2123 => ?_)
     refine k_lconst X1982 hx (hb hby at_150) (pc' := 151) rfl (z := (0 : Int64)) rfl ?_
     refine k_lcif_le X1982 hx (hb hby at_151) (pm := 152) rfl (hb hby at_152) (pn := 155) rfl (py := 159) (by decide) (fun hc2124 => ?_) (fun hc2124 => ?_)
     ·
      refine k_iconst X1982 hx (hb hby at_159) (pc' := 160) rfl (z := (0 : Int32)) rfl ?_
      refine k_istore X1982 hx (hb hby at_160) (Ls' := #[.val (.int i0), .val (.long i1), .second, .val (.long i2), .second, .val (.long i3), .second, .val (.long v4), .second, .val (.ref b5), .val (.int (2 : Int32)), .val (.int (0 : Int32)), .val (.int (1 : Int32)), .val (.long i2), .second, .val (.int (0 : Int32))]) rfl (pc' := 162) rfl ?_
      refine k_iload X1982 hx (hb hby at_162) rfl (pc' := 164) rfl ?_
      refine k_if_ne X1982 hx (hb hby at_164) (pn := 167) rfl (py := 183) (by decide) (fun hc => absurd (by decide) hc) (fun _ => ?_)
      refine k_aload X1982 hx (hb hby at_167) rfl rfl (pc' := 169) rfl ?_
      refine k_lload X1982 hx (hb hby at_169) rfl (pc' := 171) rfl ?_
      refine k_callV X1982 hx hZ hown (a := b5) (hw _ (List.mem_of_getElem? (i := 19) rfl)) (hw _ (List.mem_of_getElem? (i := 20) rfl)) (hw _ (List.mem_of_getElem? (i := 22) rfl)) (hw _ (List.mem_of_getElem? (i := 21) rfl)) (hw _ (List.mem_of_getElem? (i := 2) rfl)) (hw _ (List.mem_of_getElem? (i := 23) rfl)) (by decide) F2048 (rm3_1185 l Z a0 hw [] b5 i3 b1959 b1961 v4 i2 k1960 i1 k1962 T1982.heap n0 Z2062 F2048 F2049 F2050 F2051 F2052 F2053 F2054 F2055 F2056 F2057 F2060 F2061 (Nat.lt_trans (Nat.lt_trans lt67 lt68) lt1977) lt1978) (by decide) (by decide) rfl (by rw [hml]; rfl) (argsL := [(.long i3)]) (rest := []) (lenOf pd_1 rfl) rfl (W := 0) (Nat.le_refl _) rfl (hb hby at_171) (by decide) (by decide) (pc' := 174) rfl (fun T2125 L2125 r2125 X2125 q2125 => ?_)
      obtain ⟨N2125, e2125, q2125⟩ := q2125
      have N2125' := Fr.app N1982' N2125
      rcases q2125 with ⟨v2126, h2127, hc2128, rfl⟩ | ⟨v2129, h2130, hc2131, rfl⟩
      ·
       have hh2132 : v2123 = v2126 := hv2123.trans h2127.symm
       subst hh2132
       show KEnds p e below s _ _ _ T2125 (mkF m 174 #[.val (.int i0), .val (.long i1), .second, .val (.long i2), .second, .val (.long i3), .second, .val (.long v4), .second, .val (.ref b5), .val (.int (2 : Int32)), .val (.int (0 : Int32)), .val (.int (1 : Int32)), .val (.long i2), .second, .val (.int (0 : Int32))] [(.int (0 : Int32))])
       refine k_iload X2125 hx (hb hby at_174) rfl (pc' := 176) rfl ?_
       refine k_icmp_ne X2125 hx (hb hby at_176) (pn := 179) rfl (py := 183) (by decide) (fun hc => absurd (by decide) hc) (fun _ => ?_)
       refine k_iconst X2125 hx (hb hby at_179) (pc' := 180) rfl (z := (1 : Int32)) rfl ?_
       refine k_goto X2125 hx (hb hby at_180) (pc' := 184) (by decide) ?_
       exact k_retN X2125 hx (t := .boolean) Bd.returns (by simp) (hb hby at_184) hlk (by decide) (by decide) (z' := (1 : Int32)) rfl ⟨rfl, N2125'⟩
      ·
       have hh2133 : v2123 = v2129 := hv2123.trans h2130.symm
       subst hh2133
       show KEnds p e below s _ _ _ T2125 (mkF m 174 #[.val (.int i0), .val (.long i1), .second, .val (.long i2), .second, .val (.long i3), .second, .val (.long v4), .second, .val (.ref b5), .val (.int (2 : Int32)), .val (.int (0 : Int32)), .val (.int (1 : Int32)), .val (.long i2), .second, .val (.int (0 : Int32))] [(.int (1 : Int32))])
       exact absurd hc2131 hc2124
     ·
      refine k_iconst X1982 hx (hb hby at_155) (pc' := 156) rfl (z := (1 : Int32)) rfl ?_
      refine k_goto X1982 hx (hb hby at_156) (pc' := 160) (by decide) ?_
      refine k_istore X1982 hx (hb hby at_160) (Ls' := #[.val (.int i0), .val (.long i1), .second, .val (.long i2), .second, .val (.long i3), .second, .val (.long v4), .second, .val (.ref b5), .val (.int (2 : Int32)), .val (.int (0 : Int32)), .val (.int (1 : Int32)), .val (.long i2), .second, .val (.int (1 : Int32))]) rfl (pc' := 162) rfl ?_
      refine k_iload X1982 hx (hb hby at_162) rfl (pc' := 164) rfl ?_
      refine k_if_ne X1982 hx (hb hby at_164) (pn := 167) rfl (py := 183) (by decide) (fun hc => absurd (by decide) hc) (fun _ => ?_)
      refine k_aload X1982 hx (hb hby at_167) rfl rfl (pc' := 169) rfl ?_
      refine k_lload X1982 hx (hb hby at_169) rfl (pc' := 171) rfl ?_
      refine k_callV X1982 hx hZ hown (a := b5) (hw _ (List.mem_of_getElem? (i := 19) rfl)) (hw _ (List.mem_of_getElem? (i := 20) rfl)) (hw _ (List.mem_of_getElem? (i := 22) rfl)) (hw _ (List.mem_of_getElem? (i := 21) rfl)) (hw _ (List.mem_of_getElem? (i := 2) rfl)) (hw _ (List.mem_of_getElem? (i := 23) rfl)) (by decide) F2048 (rm3_1185 l Z a0 hw [] b5 i3 b1959 b1961 v4 i2 k1960 i1 k1962 T1982.heap n0 Z2062 F2048 F2049 F2050 F2051 F2052 F2053 F2054 F2055 F2056 F2057 F2060 F2061 (Nat.lt_trans (Nat.lt_trans lt67 lt68) lt1977) lt1978) (by decide) (by decide) rfl (by rw [hml]; rfl) (argsL := [(.long i3)]) (rest := []) (lenOf pd_1 rfl) rfl (W := 0) (Nat.le_refl _) rfl (hb hby at_171) (by decide) (by decide) (pc' := 174) rfl (fun T2134 L2134 r2134 X2134 q2134 => ?_)
      obtain ⟨N2134, e2134, q2134⟩ := q2134
      have N2134' := Fr.app N1982' N2134
      rcases q2134 with ⟨v2135, h2136, hc2137, rfl⟩ | ⟨v2138, h2139, hc2140, rfl⟩
      ·
       have hh2141 : v2123 = v2135 := hv2123.trans h2136.symm
       subst hh2141
       show KEnds p e below s _ _ _ T2134 (mkF m 174 #[.val (.int i0), .val (.long i1), .second, .val (.long i2), .second, .val (.long i3), .second, .val (.long v4), .second, .val (.ref b5), .val (.int (2 : Int32)), .val (.int (0 : Int32)), .val (.int (1 : Int32)), .val (.long i2), .second, .val (.int (1 : Int32))] [(.int (0 : Int32))])
       exact absurd hc2124 hc2137
      ·
       have hh2142 : v2123 = v2138 := hv2123.trans h2139.symm
       subst hh2142
       show KEnds p e below s _ _ _ T2134 (mkF m 174 #[.val (.int i0), .val (.long i1), .second, .val (.long i2), .second, .val (.long i3), .second, .val (.long v4), .second, .val (.ref b5), .val (.int (2 : Int32)), .val (.int (0 : Int32)), .val (.int (1 : Int32)), .val (.long i2), .second, .val (.int (1 : Int32))] [(.int (1 : Int32))])
       refine k_iload X2134 hx (hb hby at_174) rfl (pc' := 176) rfl ?_
       refine k_icmp_ne X2134 hx (hb hby at_176) (pn := 179) rfl (py := 183) (by decide) (fun hc => absurd (by decide) hc) (fun _ => ?_)
       refine k_iconst X2134 hx (hb hby at_179) (pc' := 180) rfl (z := (1 : Int32)) rfl ?_
       refine k_goto X2134 hx (hb hby at_180) (pc' := 184) (by decide) ?_
       exact k_retN X2134 hx (t := .boolean) Bd.returns (by simp) (hb hby at_184) hlk (by decide) (by decide) (z' := (1 : Int32)) rfl ⟨rfl, N2134'⟩
   ·
    refine k_aload X1958 hx (hb hby at_90) rfl rfl (pc' := 92) rfl ?_
    refine k_lconst X1958 hx (hb hby at_92) (pc' := 93) rfl (z := (1 : Int64)) rfl ?_
    refine k_lloadN X1958 hx (hb hby at_93) rfl (pc' := 94) rfl ?_
    refine k_callV X1958 hx hZ hown (a := b5) (hw _ (List.mem_of_getElem? (i := 26) rfl)) (hw _ (List.mem_of_getElem? (i := 27) rfl)) (hw _ (List.mem_of_getElem? (i := 29) rfl)) (hw _ (List.mem_of_getElem? (i := 28) rfl)) (hw _ (List.mem_of_getElem? (i := 2) rfl)) (hw _ (List.mem_of_getElem? (i := 30) rfl)) (by decide) F1963 (rm4_1208 l Z a0 hw [] b5 i2 b1959 b1961 v4 i1 b51 k52 b53 k54 k1960 k1962 T1958.heap n0 Z1979 F1963 F1964 F1965 F1966 F1967 F1968 F1969 F1970 F1971 F1972 g_b5 F1973 g_b51 F1974 g_b53 F1975 g_b1959 F1976 g_b1961 lt67 lt68 lt1977 lt1978) (by decide) (by decide) rfl (by rw [hml]; rfl) (argsL := [(.long (1 : Int64)), (.long i2)]) (rest := []) (lenOf pd_0 rfl) rfl (W := 0) (Nat.le_refl _) rfl (hb hby at_94) (by decide) (by decide) (pc' := 97) rfl (fun T2143 L2143 r2143 X2143 q2143 => ?_)
    obtain ⟨N2143, q2143⟩ := q2143
    have N2143' := Fr.app N1958' N2143
    rcases q2143 with ⟨v2144, v2145, h2146, h2147, hc2148, hc2149, rfl, F2150, F2151, F2152, F2153, F2154, F2155, F2156, F2157, F2158, F2159, F2160, F2161, F2162, F2163, Z2164⟩ | ⟨v2165, v2166, h2167, h2168, hc2169, hc2170, rfl, F2171, F2172, F2173, F2174, F2175, F2176, F2177, F2178, F2179, F2180, F2181, F2182, F2183, F2184, Z2185⟩ | ⟨v2186, h2187, hc2188, hc2189, hc2190, rfl, F2191, F2192, F2193, F2194, F2195, F2196, F2197, F2198, F2199, F2200, F2201, F2202, F2203, F2204, Z2205⟩ | ⟨v2206, h2207, hc2208, hc2209, hc2210, rfl, F2211, F2212, F2213, F2214, F2215, F2216, F2217, F2218, F2219, F2220, F2221, F2222, F2223, F2224, Z2225⟩ | ⟨v2226, h2227, hc2228, hc2229, rfl, F2230, F2231, F2232, F2233, F2234, F2235, F2236, F2237, F2238, F2239, F2240, F2241, F2242, F2243, Z2244⟩
    ·
     show KEnds p e below s _ _ _ T2143 (mkF m 97 #[.val (.int i0), .val (.long i1), .second, .val (.long i2), .second, .val (.long i3), .second, .val (.long v4), .second, .val (.ref b5), .val (.int (2 : Int32)), .val (.int (0 : Int32)), .unset, .unset, .unset, .unset] [])
     refine k_goto X2143 hx (hb hby at_97) (pc' := 107) (by decide) ?_
     refine k_iload X2143 hx (hb hby at_107) rfl (pc' := 109) rfl ?_
     refine k_iconst X2143 hx (hb hby at_109) (pc' := 110) rfl (z := (1 : Int32)) rfl ?_
     refine k_icmp_lt X2143 hx (hb hby at_110) (pn := 113) rfl (py := 117) (by decide) (fun hc => absurd hc (by decide)) (fun _ => ?_)
     refine k_iconst X2143 hx (hb hby at_113) (pc' := 114) rfl (z := (1 : Int32)) rfl ?_
     refine k_goto X2143 hx (hb hby at_114) (pc' := 118) (by decide) ?_
     refine k_istore X2143 hx (hb hby at_118) (Ls' := #[.val (.int i0), .val (.long i1), .second, .val (.long i2), .second, .val (.long i3), .second, .val (.long v4), .second, .val (.ref b5), .val (.int (2 : Int32)), .val (.int (0 : Int32)), .val (.int (1 : Int32)), .unset, .unset, .unset]) rfl (pc' := 120) rfl ?_
     refine k_lloadN X2143 hx (hb hby at_120) rfl (pc' := 121) rfl ?_
     refine k_lstore X2143 hx (hb hby at_121) (Ls' := #[.val (.int i0), .val (.long i1), .second, .val (.long i2), .second, .val (.long i3), .second, .val (.long v4), .second, .val (.ref b5), .val (.int (2 : Int32)), .val (.int (0 : Int32)), .val (.int (1 : Int32)), .val (.long i1), .second, .unset]) rfl (pc' := 123) rfl ?_
     refine k_iload X2143 hx (hb hby at_123) rfl (pc' := 125) rfl ?_
     refine k_iconst X2143 hx (hb hby at_125) (pc' := 126) rfl (z := (2 : Int32)) rfl ?_
     refine k_icmp_lt X2143 hx (hb hby at_126) (pn := 129) rfl (py := 140) (by decide) (fun hc => absurd hc (by decide)) (fun _ => ?_)
     refine k_lloadN X2143 hx (hb hby at_129) rfl (pc' := 130) rfl ?_
     refine k_lloadN X2143 hx (hb hby at_130) rfl (pc' := 131) rfl ?_
     refine k_lsubL X2143 hx (hb hby at_131) (pc' := 132) rfl (z := v2144) h2146.symm ?_
     refine k_lconst X2143 hx (hb hby at_132) (pc' := 133) rfl (z := (0 : Int64)) rfl ?_
     refine k_lcif_le X2143 hx (hb hby at_133) (pm := 134) rfl (hb hby at_134) (pn := 137) rfl (py := 140) (by decide) (fun _ => ?_) (fun hc => absurd hc hc2148)
     refine k_iload X2143 hx (hb hby at_140) rfl (pc' := 142) rfl ?_
     refine k_if_eq X2143 hx (hb hby at_142) (pn := 145) rfl (py := 159) (by decide) (fun hc => absurd hc (by decide)) (fun _ => ?_)
     refine k_lload X2143 hx (hb hby at_145) rfl (pc' := 147) rfl ?_
     refine k_lload X2143 hx (hb hby at_147) rfl (pc' := 149) rfl ?_
     refine k_lsub X2143 hx (hb hby at_149) (pc' := 150) rfl (fun v2245 hv2245 => ?_)
     refine k_lconst X2143 hx (hb hby at_150) (pc' := 151) rfl (z := (0 : Int64)) rfl ?_
     refine k_lcif_le X2143 hx (hb hby at_151) (pm := 152) rfl (hb hby at_152) (pn := 155) rfl (py := 159) (by decide) (fun hc2246 => ?_) (fun hc2246 => ?_)
     ·
      refine k_iconst X2143 hx (hb hby at_159) (pc' := 160) rfl (z := (0 : Int32)) rfl ?_
      refine k_istore X2143 hx (hb hby at_160) (Ls' := #[.val (.int i0), .val (.long i1), .second, .val (.long i2), .second, .val (.long i3), .second, .val (.long v4), .second, .val (.ref b5), .val (.int (2 : Int32)), .val (.int (0 : Int32)), .val (.int (1 : Int32)), .val (.long i1), .second, .val (.int (0 : Int32))]) rfl (pc' := 162) rfl ?_
      refine k_iload X2143 hx (hb hby at_162) rfl (pc' := 164) rfl ?_
      refine k_if_ne X2143 hx (hb hby at_164) (pn := 167) rfl (py := 183) (by decide) (fun hc => absurd (by decide) hc) (fun _ => ?_)
      refine k_aload X2143 hx (hb hby at_167) rfl rfl (pc' := 169) rfl ?_
      refine k_lload X2143 hx (hb hby at_169) rfl (pc' := 171) rfl ?_
      refine k_callV X2143 hx hZ hown (a := b5) (hw _ (List.mem_of_getElem? (i := 19) rfl)) (hw _ (List.mem_of_getElem? (i := 20) rfl)) (hw _ (List.mem_of_getElem? (i := 22) rfl)) (hw _ (List.mem_of_getElem? (i := 21) rfl)) (hw _ (List.mem_of_getElem? (i := 2) rfl)) (hw _ (List.mem_of_getElem? (i := 23) rfl)) (by decide) F2150 (rm3_1653 l Z a0 hw [] b5 i3 b1959 b1961 v4 i1 k1960 k1962 T2143.heap n0 Z2164 F2150 F2151 F2152 F2153 F2154 F2155 F2156 F2157 F2158 F2159 F2162 F2163 (Nat.lt_trans (Nat.lt_trans lt67 lt68) lt1977) lt1978) (by decide) (by decide) rfl (by rw [hml]; rfl) (argsL := [(.long i3)]) (rest := []) (lenOf pd_1 rfl) rfl (W := 0) (Nat.le_refl _) rfl (hb hby at_171) (by decide) (by decide) (pc' := 174) rfl (fun T2247 L2247 r2247 X2247 q2247 => ?_)
      obtain ⟨N2247, e2247, q2247⟩ := q2247
      have N2247' := Fr.app N2143' N2247
      rcases q2247 with ⟨v2248, h2249, hc2250, rfl⟩ | ⟨v2251, h2252, hc2253, rfl⟩
      ·
       have hh2254 : v2245 = v2248 := hv2245.trans h2249.symm
       subst hh2254
       show KEnds p e below s _ _ _ T2247 (mkF m 174 #[.val (.int i0), .val (.long i1), .second, .val (.long i2), .second, .val (.long i3), .second, .val (.long v4), .second, .val (.ref b5), .val (.int (2 : Int32)), .val (.int (0 : Int32)), .val (.int (1 : Int32)), .val (.long i1), .second, .val (.int (0 : Int32))] [(.int (0 : Int32))])
       refine k_iload X2247 hx (hb hby at_174) rfl (pc' := 176) rfl ?_
       refine k_icmp_ne X2247 hx (hb hby at_176) (pn := 179) rfl (py := 183) (by decide) (fun hc => absurd (by decide) hc) (fun _ => ?_)
       refine k_iconst X2247 hx (hb hby at_179) (pc' := 180) rfl (z := (1 : Int32)) rfl ?_
       refine k_goto X2247 hx (hb hby at_180) (pc' := 184) (by decide) ?_
       exact k_retN X2247 hx (t := .boolean) Bd.returns (by simp) (hb hby at_184) hlk (by decide) (by decide) (z' := (1 : Int32)) rfl ⟨rfl, N2247'⟩
      ·
       have hh2255 : v2245 = v2251 := hv2245.trans h2252.symm
       subst hh2255
       show KEnds p e below s _ _ _ T2247 (mkF m 174 #[.val (.int i0), .val (.long i1), .second, .val (.long i2), .second, .val (.long i3), .second, .val (.long v4), .second, .val (.ref b5), .val (.int (2 : Int32)), .val (.int (0 : Int32)), .val (.int (1 : Int32)), .val (.long i1), .second, .val (.int (0 : Int32))] [(.int (1 : Int32))])
       exact absurd hc2253 hc2246
     ·
      refine k_iconst X2143 hx (hb hby at_155) (pc' := 156) rfl (z := (1 : Int32)) rfl ?_
      refine k_goto X2143 hx (hb hby at_156) (pc' := 160) (by decide) ?_
      refine k_istore X2143 hx (hb hby at_160) (Ls' := #[.val (.int i0), .val (.long i1), .second, .val (.long i2), .second, .val (.long i3), .second, .val (.long v4), .second, .val (.ref b5), .val (.int (2 : Int32)), .val (.int (0 : Int32)), .val (.int (1 : Int32)), .val (.long i1), .second, .val (.int (1 : Int32))]) rfl (pc' := 162) rfl ?_
      refine k_iload X2143 hx (hb hby at_162) rfl (pc' := 164) rfl ?_
      refine k_if_ne X2143 hx (hb hby at_164) (pn := 167) rfl (py := 183) (by decide) (fun hc => absurd (by decide) hc) (fun _ => ?_)
      refine k_aload X2143 hx (hb hby at_167) rfl rfl (pc' := 169) rfl ?_
      refine k_lload X2143 hx (hb hby at_169) rfl (pc' := 171) rfl ?_
      refine k_callV X2143 hx hZ hown (a := b5) (hw _ (List.mem_of_getElem? (i := 19) rfl)) (hw _ (List.mem_of_getElem? (i := 20) rfl)) (hw _ (List.mem_of_getElem? (i := 22) rfl)) (hw _ (List.mem_of_getElem? (i := 21) rfl)) (hw _ (List.mem_of_getElem? (i := 2) rfl)) (hw _ (List.mem_of_getElem? (i := 23) rfl)) (by decide) F2150 (rm3_1653 l Z a0 hw [] b5 i3 b1959 b1961 v4 i1 k1960 k1962 T2143.heap n0 Z2164 F2150 F2151 F2152 F2153 F2154 F2155 F2156 F2157 F2158 F2159 F2162 F2163 (Nat.lt_trans (Nat.lt_trans lt67 lt68) lt1977) lt1978) (by decide) (by decide) rfl (by rw [hml]; rfl) (argsL := [(.long i3)]) (rest := []) (lenOf pd_1 rfl) rfl (W := 0) (Nat.le_refl _) rfl (hb hby at_171) (by decide) (by decide) (pc' := 174) rfl (fun T2256 L2256 r2256 X2256 q2256 => ?_)
      obtain ⟨N2256, e2256, q2256⟩ := q2256
      have N2256' := Fr.app N2143' N2256
      rcases q2256 with ⟨v2257, h2258, hc2259, rfl⟩ | ⟨v2260, h2261, hc2262, rfl⟩
      ·
       have hh2263 : v2245 = v2257 := hv2245.trans h2258.symm
       subst hh2263
       show KEnds p e below s _ _ _ T2256 (mkF m 174 #[.val (.int i0), .val (.long i1), .second, .val (.long i2), .second, .val (.long i3), .second, .val (.long v4), .second, .val (.ref b5), .val (.int (2 : Int32)), .val (.int (0 : Int32)), .val (.int (1 : Int32)), .val (.long i1), .second, .val (.int (1 : Int32))] [(.int (0 : Int32))])
       exact absurd hc2246 hc2259
      ·
       have hh2264 : v2245 = v2260 := hv2245.trans h2261.symm
       subst hh2264
       show KEnds p e below s _ _ _ T2256 (mkF m 174 #[.val (.int i0), .val (.long i1), .second, .val (.long i2), .second, .val (.long i3), .second, .val (.long v4), .second, .val (.ref b5), .val (.int (2 : Int32)), .val (.int (0 : Int32)), .val (.int (1 : Int32)), .val (.long i1), .second, .val (.int (1 : Int32))] [(.int (1 : Int32))])
       refine k_iload X2256 hx (hb hby at_174) rfl (pc' := 176) rfl ?_
       refine k_icmp_ne X2256 hx (hb hby at_176) (pn := 179) rfl (py := 183) (by decide) (fun hc => absurd (by decide) hc) (fun _ => ?_)
       refine k_iconst X2256 hx (hb hby at_179) (pc' := 180) rfl (z := (1 : Int32)) rfl ?_
       refine k_goto X2256 hx (hb hby at_180) (pc' := 184) (by decide) ?_
       exact k_retN X2256 hx (t := .boolean) Bd.returns (by simp) (hb hby at_184) hlk (by decide) (by decide) (z' := (1 : Int32)) rfl ⟨rfl, N2256'⟩
    ·
     show KEnds p e below s _ _ _ T2143 (mkF m 97 #[.val (.int i0), .val (.long i1), .second, .val (.long i2), .second, .val (.long i3), .second, .val (.long v4), .second, .val (.ref b5), .val (.int (2 : Int32)), .val (.int (0 : Int32)), .unset, .unset, .unset, .unset] [])
     refine k_goto X2143 hx (hb hby at_97) (pc' := 107) (by decide) ?_
     refine k_iload X2143 hx (hb hby at_107) rfl (pc' := 109) rfl ?_
     refine k_iconst X2143 hx (hb hby at_109) (pc' := 110) rfl (z := (1 : Int32)) rfl ?_
     refine k_icmp_lt X2143 hx (hb hby at_110) (pn := 113) rfl (py := 117) (by decide) (fun hc => absurd hc (by decide)) (fun _ => ?_)
     refine k_iconst X2143 hx (hb hby at_113) (pc' := 114) rfl (z := (1 : Int32)) rfl ?_
     refine k_goto X2143 hx (hb hby at_114) (pc' := 118) (by decide) ?_
     refine k_istore X2143 hx (hb hby at_118) (Ls' := #[.val (.int i0), .val (.long i1), .second, .val (.long i2), .second, .val (.long i3), .second, .val (.long v4), .second, .val (.ref b5), .val (.int (2 : Int32)), .val (.int (0 : Int32)), .val (.int (1 : Int32)), .unset, .unset, .unset]) rfl (pc' := 120) rfl ?_
     refine k_lloadN X2143 hx (hb hby at_120) rfl (pc' := 121) rfl ?_
     refine k_lstore X2143 hx (hb hby at_121) (Ls' := #[.val (.int i0), .val (.long i1), .second, .val (.long i2), .second, .val (.long i3), .second, .val (.long v4), .second, .val (.ref b5), .val (.int (2 : Int32)), .val (.int (0 : Int32)), .val (.int (1 : Int32)), .val (.long i1), .second, .unset]) rfl (pc' := 123) rfl ?_
     refine k_iload X2143 hx (hb hby at_123) rfl (pc' := 125) rfl ?_
     refine k_iconst X2143 hx (hb hby at_125) (pc' := 126) rfl (z := (2 : Int32)) rfl ?_
     refine k_icmp_lt X2143 hx (hb hby at_126) (pn := 129) rfl (py := 140) (by decide) (fun hc => absurd hc (by decide)) (fun _ => ?_)
     refine k_lloadN X2143 hx (hb hby at_129) rfl (pc' := 130) rfl ?_
     refine k_lloadN X2143 hx (hb hby at_130) rfl (pc' := 131) rfl ?_
     refine k_lsubL X2143 hx (hb hby at_131) (pc' := 132) rfl (z := v2165) h2167.symm ?_
     refine k_lconst X2143 hx (hb hby at_132) (pc' := 133) rfl (z := (0 : Int64)) rfl ?_
     refine k_lcif_le X2143 hx (hb hby at_133) (pm := 134) rfl (hb hby at_134) (pn := 137) rfl (py := 140) (by decide) (fun _ => ?_) (fun hc => absurd hc hc2169)
     refine k_iload X2143 hx (hb hby at_140) rfl (pc' := 142) rfl ?_
     refine k_if_eq X2143 hx (hb hby at_142) (pn := 145) rfl (py := 159) (by decide) (fun hc => absurd hc (by decide)) (fun _ => ?_)
     refine k_lload X2143 hx (hb hby at_145) rfl (pc' := 147) rfl ?_
     refine k_lload X2143 hx (hb hby at_147) rfl (pc' := 149) rfl ?_
     refine k_lsub X2143 hx (hb hby at_149) (pc' := 150) rfl (fun v2265 hv2265 => ?_)
     refine k_lconst X2143 hx (hb hby at_150) (pc' := 151) rfl (z := (0 : Int64)) rfl ?_
     refine k_lcif_le X2143 hx (hb hby at_151) (pm := 152) rfl (hb hby at_152) (pn := 155) rfl (py := 159) (by decide) (fun hc2266 => ?_) (fun hc2266 => ?_)
     ·
      refine k_iconst X2143 hx (hb hby at_159) (pc' := 160) rfl (z := (0 : Int32)) rfl ?_
      refine k_istore X2143 hx (hb hby at_160) (Ls' := #[.val (.int i0), .val (.long i1), .second, .val (.long i2), .second, .val (.long i3), .second, .val (.long v4), .second, .val (.ref b5), .val (.int (2 : Int32)), .val (.int (0 : Int32)), .val (.int (1 : Int32)), .val (.long i1), .second, .val (.int (0 : Int32))]) rfl (pc' := 162) rfl ?_
      refine k_iload X2143 hx (hb hby at_162) rfl (pc' := 164) rfl ?_
      refine k_if_ne X2143 hx (hb hby at_164) (pn := 167) rfl (py := 183) (by decide) (fun hc => absurd (by decide) hc) (fun _ => ?_)
      refine k_aload X2143 hx (hb hby at_167) rfl rfl (pc' := 169) rfl ?_
      refine k_lload X2143 hx (hb hby at_169) rfl (pc' := 171) rfl ?_
      refine k_callV X2143 hx hZ hown (a := b5) (hw _ (List.mem_of_getElem? (i := 19) rfl)) (hw _ (List.mem_of_getElem? (i := 20) rfl)) (hw _ (List.mem_of_getElem? (i := 22) rfl)) (hw _ (List.mem_of_getElem? (i := 21) rfl)) (hw _ (List.mem_of_getElem? (i := 2) rfl)) (hw _ (List.mem_of_getElem? (i := 23) rfl)) (by decide) F2171 (rm3_1678 l Z a0 hw [] b5 i3 b1959 b1961 v4 i1 k1960 k1962 T2143.heap n0 Z2185 F2171 F2172 F2173 F2174 F2175 F2176 F2177 F2178 F2179 F2180 F2183 F2184 (Nat.lt_trans (Nat.lt_trans lt67 lt68) lt1977) lt1978) (by decide) (by decide) rfl (by rw [hml]; rfl) (argsL := [(.long i3)]) (rest := []) (lenOf pd_1 rfl) rfl (W := 0) (Nat.le_refl _) rfl (hb hby at_171) (by decide) (by decide) (pc' := 174) rfl (fun T2267 L2267 r2267 X2267 q2267 => ?_)
      obtain ⟨N2267, e2267, q2267⟩ := q2267
      have N2267' := Fr.app N2143' N2267
      rcases q2267 with ⟨v2268, h2269, hc2270, rfl⟩ | ⟨v2271, h2272, hc2273, rfl⟩
      ·
       have hh2274 : v2265 = v2268 := hv2265.trans h2269.symm
       subst hh2274
       show KEnds p e below s _ _ _ T2267 (mkF m 174 #[.val (.int i0), .val (.long i1), .second, .val (.long i2), .second, .val (.long i3), .second, .val (.long v4), .second, .val (.ref b5), .val (.int (2 : Int32)), .val (.int (0 : Int32)), .val (.int (1 : Int32)), .val (.long i1), .second, .val (.int (0 : Int32))] [(.int (0 : Int32))])
       refine k_iload X2267 hx (hb hby at_174) rfl (pc' := 176) rfl ?_
       refine k_icmp_ne X2267 hx (hb hby at_176) (pn := 179) rfl (py := 183) (by decide) (fun hc => absurd (by decide) hc) (fun _ => ?_)
       refine k_iconst X2267 hx (hb hby at_179) (pc' := 180) rfl (z := (1 : Int32)) rfl ?_
       refine k_goto X2267 hx (hb hby at_180) (pc' := 184) (by decide) ?_
       exact k_retN X2267 hx (t := .boolean) Bd.returns (by simp) (hb hby at_184) hlk (by decide) (by decide) (z' := (1 : Int32)) rfl ⟨rfl, N2267'⟩
      ·
       have hh2275 : v2265 = v2271 := hv2265.trans h2272.symm
       subst hh2275
       show KEnds p e below s _ _ _ T2267 (mkF m 174 #[.val (.int i0), .val (.long i1), .second, .val (.long i2), .second, .val (.long i3), .second, .val (.long v4), .second, .val (.ref b5), .val (.int (2 : Int32)), .val (.int (0 : Int32)), .val (.int (1 : Int32)), .val (.long i1), .second, .val (.int (0 : Int32))] [(.int (1 : Int32))])
       exact absurd hc2273 hc2266
     ·
      refine k_iconst X2143 hx (hb hby at_155) (pc' := 156) rfl (z := (1 : Int32)) rfl ?_
      refine k_goto X2143 hx (hb hby at_156) (pc' := 160) (by decide) ?_
      refine k_istore X2143 hx (hb hby at_160) (Ls' := #[.val (.int i0), .val (.long i1), .second, .val (.long i2), .second, .val (.long i3), .second, .val (.long v4), .second, .val (.ref b5), .val (.int (2 : Int32)), .val (.int (0 : Int32)), .val (.int (1 : Int32)), .val (.long i1), .second, .val (.int (1 : Int32))]) rfl (pc' := 162) rfl ?_
      refine k_iload X2143 hx (hb hby at_162) rfl (pc' := 164) rfl ?_
      refine k_if_ne X2143 hx (hb hby at_164) (pn := 167) rfl (py := 183) (by decide) (fun hc => absurd (by decide) hc) (fun _ => ?_)
      refine k_aload X2143 hx (hb hby at_167) rfl rfl (pc' := 169) rfl ?_
      refine k_lload X2143 hx (hb hby at_169) rfl (pc' := 171) rfl ?_
      refine k_callV X2143 hx hZ hown (a := b5) (hw _ (List.mem_of_getElem? (i := 19) rfl)) (hw _ (List.mem_of_getElem? (i := 20) rfl)) (hw _ (List.mem_of_getElem? (i := 22) rfl)) (hw _ (List.mem_of_getElem? (i := 21) rfl)) (hw _ (List.mem_of_getElem? (i := 2) rfl)) (hw _ (List.mem_of_getElem? (i := 23) rfl)) (by decide) F2171 (rm3_1678 l Z a0 hw [] b5 i3 b1959 b1961 v4 i1 k1960 k1962 T2143.heap n0 Z2185 F2171 F2172 F2173 F2174 F2175 F2176 F2177 F2178 F2179 F2180 F2183 F2184 (Nat.lt_trans (Nat.lt_trans lt67 lt68) lt1977) lt1978) (by decide) (by decide) rfl (by rw [hml]; rfl) (argsL := [(.long i3)]) (rest := []) (lenOf pd_1 rfl) rfl (W := 0) (Nat.le_refl _) rfl (hb hby at_171) (by decide) (by decide) (pc' := 174) rfl (fun T2276 L2276 r2276 X2276 q2276 => ?_)
      obtain ⟨N2276, e2276, q2276⟩ := q2276
      have N2276' := Fr.app N2143' N2276
      rcases q2276 with ⟨v2277, h2278, hc2279, rfl⟩ | ⟨v2280, h2281, hc2282, rfl⟩
      ·
       have hh2283 : v2265 = v2277 := hv2265.trans h2278.symm
       subst hh2283
       show KEnds p e below s _ _ _ T2276 (mkF m 174 #[.val (.int i0), .val (.long i1), .second, .val (.long i2), .second, .val (.long i3), .second, .val (.long v4), .second, .val (.ref b5), .val (.int (2 : Int32)), .val (.int (0 : Int32)), .val (.int (1 : Int32)), .val (.long i1), .second, .val (.int (1 : Int32))] [(.int (0 : Int32))])
       exact absurd hc2266 hc2279
      ·
       have hh2284 : v2265 = v2280 := hv2265.trans h2281.symm
       subst hh2284
       show KEnds p e below s _ _ _ T2276 (mkF m 174 #[.val (.int i0), .val (.long i1), .second, .val (.long i2), .second, .val (.long i3), .second, .val (.long v4), .second, .val (.ref b5), .val (.int (2 : Int32)), .val (.int (0 : Int32)), .val (.int (1 : Int32)), .val (.long i1), .second, .val (.int (1 : Int32))] [(.int (1 : Int32))])
       refine k_iload X2276 hx (hb hby at_174) rfl (pc' := 176) rfl ?_
       refine k_icmp_ne X2276 hx (hb hby at_176) (pn := 179) rfl (py := 183) (by decide) (fun hc => absurd (by decide) hc) (fun _ => ?_)
       refine k_iconst X2276 hx (hb hby at_179) (pc' := 180) rfl (z := (1 : Int32)) rfl ?_
       refine k_goto X2276 hx (hb hby at_180) (pc' := 184) (by decide) ?_
       exact k_retN X2276 hx (t := .boolean) Bd.returns (by simp) (hb hby at_184) hlk (by decide) (by decide) (z' := (1 : Int32)) rfl ⟨rfl, N2276'⟩
    ·
     show KEnds p e below s _ _ _ T2143 (mkF m 97 #[.val (.int i0), .val (.long i1), .second, .val (.long i2), .second, .val (.long i3), .second, .val (.long v4), .second, .val (.ref b5), .val (.int (2 : Int32)), .val (.int (0 : Int32)), .unset, .unset, .unset, .unset] [])
     refine k_goto X2143 hx (hb hby at_97) (pc' := 107) (by decide) ?_
     refine k_iload X2143 hx (hb hby at_107) rfl (pc' := 109) rfl ?_
     refine k_iconst X2143 hx (hb hby at_109) (pc' := 110) rfl (z := (1 : Int32)) rfl ?_
     refine k_icmp_lt X2143 hx (hb hby at_110) (pn := 113) rfl (py := 117) (by decide) (fun hc => absurd hc (by decide)) (fun _ => ?_)
     refine k_iconst X2143 hx (hb hby at_113) (pc' := 114) rfl (z := (1 : Int32)) rfl ?_
     refine k_goto X2143 hx (hb hby at_114) (pc' := 118) (by decide) ?_
     refine k_istore X2143 hx (hb hby at_118) (Ls' := #[.val (.int i0), .val (.long i1), .second, .val (.long i2), .second, .val (.long i3), .second, .val (.long v4), .second, .val (.ref b5), .val (.int (2 : Int32)), .val (.int (0 : Int32)), .val (.int (1 : Int32)), .unset, .unset, .unset]) rfl (pc' := 120) rfl ?_
     refine k_lloadN X2143 hx (hb hby at_120) rfl (pc' := 121) rfl ?_
     refine k_lstore X2143 hx (hb hby at_121) (Ls' := #[.val (.int i0), .val (.long i1), .second, .val (.long i2), .second, .val (.long i3), .second, .val (.long v4), .second, .val (.ref b5), .val (.int (2 : Int32)), .val (.int (0 : Int32)), .val (.int (1 : Int32)), .val (.long i1), .second, .unset]) rfl (pc' := 123) rfl ?_
     refine k_iload X2143 hx (hb hby at_123) rfl (pc' := 125) rfl ?_
     refine k_iconst X2143 hx (hb hby at_125) (pc' := 126) rfl (z := (2 : Int32)) rfl ?_
     refine k_icmp_lt X2143 hx (hb hby at_126) (pn := 129) rfl (py := 140) (by decide) (fun hc => absurd hc (by decide)) (fun _ => ?_)
     refine k_lloadN X2143 hx (hb hby at_129) rfl (pc' := 130) rfl ?_
     refine k_lloadN X2143 hx (hb hby at_130) rfl (pc' := 131) rfl ?_
     refine k_lsubL X2143 hx (hb hby at_131) (pc' := 132) rfl (z := v2186) h2187.symm ?_
     refine k_lconst X2143 hx (hb hby at_132) (pc' := 133) rfl (z := (0 : Int64)) rfl ?_
     refine k_lcif_le X2143 hx (hb hby at_133) (pm := 134) rfl (hb hby at_134) (pn := 137) rfl (py := 140) (by decide) (fun hc => absurd hc2188 hc) (fun _ => ?_)
     refine k_lloadN X2143 hx (hb hby at_137) rfl (pc' := 138) rfl ?_
     refine k_lstore X2143 hx (hb hby at_138) (Ls' := #[.val (.int i0), .val (.long i1), .second, .val (.long i2), .second, .val (.long i3), .second, .val (.long v4), .second, .val (.ref b5), .val (.int (2 : Int32)), .val (.int (0 : Int32)), .val (.int (1 : Int32)), .val (.long i2), .second, .unset]) rfl (pc' := 140) rfl ?_
     refine k_iload X2143 hx (hb hby at_140) rfl (pc' := 142) rfl ?_
     refine k_if_eq X2143 hx (hb hby at_142) (pn := 145) rfl (py := 159) (by decide) (fun hc => absurd hc (by decide)) (fun _ => ?_)
     refine k_lload X2143 hx (hb hby at_145) rfl (pc' := 147) rfl ?_
     refine k_lload X2143 hx (hb hby at_147) rfl (pc' := 149) rfl ?_
     refine k_lsub X2143 hx (hb hby at_149) (pc' := 150) rfl (fun v2285 hv2285 => ?_)
     refine k_lconst X2143 hx (hb hby at_150) (pc' := 151) rfl (z := (0 : Int64)) rfl ?_
     refine k_lcif_le X2143 hx (hb hby at_151) (pm := 152) rfl (hb hby at_152) (pn := 155) rfl (py := 159) (by decide) (fun hc2286 => ?_) (fun hc2286 => ?_)
     ·
      refine k_iconst X2143 hx (hb hby at_159) (pc' := 160) rfl (z := (0 : Int32)) rfl ?_
      refine k_istore X2143 hx (hb hby at_160) (Ls' := #[.val (.int i0), .val (.long i1), .second, .val (.long i2), .second, .val (.long i3), .second, .val (.long v4), .second, .val (.ref b5), .val (.int (2 : Int32)), .val (.int (0 : Int32)), .val (.int (1 : Int32)), .val (.long i2), .second, .val (.int (0 : Int32))]) rfl (pc' := 162) rfl ?_
      refine k_iload X2143 hx (hb hby at_162) rfl (pc' := 164) rfl ?_
      refine k_if_ne X2143 hx (hb hby at_164) (pn := 167) rfl (py := 183) (by decide) (fun hc => absurd (by decide) hc) (fun _ => ?_)
      refine k_aload X2143 hx (hb hby at_167) rfl rfl (pc' := 169) rfl ?_
      refine k_lload X2143 hx (hb hby at_169) rfl (pc' := 171) rfl ?_
      refine k_callV X2143 hx hZ hown (a := b5) (hw _ (List.mem_of_getElem? (i := 19) rfl)) (hw _ (List.mem_of_getElem? (i := 20) rfl)) (hw _ (List.mem_of_getElem? (i := 22) rfl)) (hw _ (List.mem_of_getElem? (i := 21) rfl)) (hw _ (List.mem_of_getElem? (i := 2) rfl)) (hw _ (List.mem_of_getElem? (i := 23) rfl)) (by decide) F2191 (rm3_1703 l Z a0 hw [] b5 i3 b1959 b1961 v4 i2 k1960 i1 k1962 T2143.heap n0 Z2205 F2191 F2192 F2193 F2194 F2195 F2196 F2197 F2198 F2199 F2200 F2203 F2204 (Nat.lt_trans (Nat.lt_trans lt67 lt68) lt1977) lt1978) (by decide) (by decide) rfl (by rw [hml]; rfl) (argsL := [(.long i3)]) (rest := []) (lenOf pd_1 rfl) rfl (W := 0) (Nat.le_refl _) rfl (hb hby at_171) (by decide) (by decide) (pc' := 174) rfl (fun T2287 L2287 r2287 X2287 q2287 => ?_)
      obtain ⟨N2287, e2287, q2287⟩ := q2287
      have N2287' := Fr.app N2143' N2287
      rcases q2287 with ⟨v2288, h2289, hc2290, rfl⟩ | ⟨v2291, h2292, hc2293, rfl⟩
      ·
       have hh2294 : v2285 = v2288 := hv2285.trans h2289.symm
       subst hh2294
       show KEnds p e below s _ _ _ T2287 (mkF m 174 #[.val (.int i0), .val (.long i1), .second, .val (.long i2), .second, .val (.long i3), .second, .val (.long v4), .second, .val (.ref b5), .val (.int (2 : Int32)), .val (.int (0 : Int32)), .val (.int (1 : Int32)), .val (.long i2), .second, .val (.int (0 : Int32))] [(.int (0 : Int32))])
       refine k_iload X2287 hx (hb hby at_174) rfl (pc' := 176) rfl ?_
       refine k_icmp_ne X2287 hx (hb hby at_176) (pn := 179) rfl (py := 183) (by decide) (fun hc => absurd (by decide) hc) (fun _ => ?_)
       refine k_iconst X2287 hx (hb hby at_179) (pc' := 180) rfl (z := (1 : Int32)) rfl ?_
       refine k_goto X2287 hx (hb hby at_180) (pc' := 184) (by decide) ?_
       exact k_retN X2287 hx (t := .boolean) Bd.returns (by simp) (hb hby at_184) hlk (by decide) (by decide) (z' := (1 : Int32)) rfl ⟨rfl, N2287'⟩
      ·
       have hh2295 : v2285 = v2291 := hv2285.trans h2292.symm
       subst hh2295
       show KEnds p e below s _ _ _ T2287 (mkF m 174 #[.val (.int i0), .val (.long i1), .second, .val (.long i2), .second, .val (.long i3), .second, .val (.long v4), .second, .val (.ref b5), .val (.int (2 : Int32)), .val (.int (0 : Int32)), .val (.int (1 : Int32)), .val (.long i2), .second, .val (.int (0 : Int32))] [(.int (1 : Int32))])
       exact absurd hc2293 hc2286
     ·
      refine k_iconst X2143 hx (hb hby at_155) (pc' := 156) rfl (z := (1 : Int32)) rfl ?_
      refine k_goto X2143 hx (hb hby at_156) (pc' := 160) (by decide) ?_
      refine k_istore X2143 hx (hb hby at_160) (Ls' := #[.val (.int i0), .val (.long i1), .second, .val (.long i2), .second, .val (.long i3), .second, .val (.long v4), .second, .val (.ref b5), .val (.int (2 : Int32)), .val (.int (0 : Int32)), .val (.int (1 : Int32)), .val (.long i2), .second, .val (.int (1 : Int32))]) rfl (pc' := 162) rfl ?_
      refine k_iload X2143 hx (hb hby at_162) rfl (pc' := 164) rfl ?_
      refine k_if_ne X2143 hx (hb hby at_164) (pn := 167) rfl (py := 183) (by decide) (fun hc => absurd (by decide) hc) (fun _ => ?_)
      refine k_aload X2143 hx (hb hby at_167) rfl rfl (pc' := 169) rfl ?_
      refine k_lload X2143 hx (hb hby at_169) rfl (pc' := 171) rfl ?_
      refine k_callV X2143 hx hZ hown (a := b5) (hw _ (List.mem_of_getElem? (i := 19) rfl)) (hw _ (List.mem_of_getElem? (i := 20) rfl)) (hw _ (List.mem_of_getElem? (i := 22) rfl)) (hw _ (List.mem_of_getElem? (i := 21) rfl)) (hw _ (List.mem_of_getElem? (i := 2) rfl)) (hw _ (List.mem_of_getElem? (i := 23) rfl)) (by decide) F2191 (rm3_1703 l Z a0 hw [] b5 i3 b1959 b1961 v4 i2 k1960 i1 k1962 T2143.heap n0 Z2205 F2191 F2192 F2193 F2194 F2195 F2196 F2197 F2198 F2199 F2200 F2203 F2204 (Nat.lt_trans (Nat.lt_trans lt67 lt68) lt1977) lt1978) (by decide) (by decide) rfl (by rw [hml]; rfl) (argsL := [(.long i3)]) (rest := []) (lenOf pd_1 rfl) rfl (W := 0) (Nat.le_refl _) rfl (hb hby at_171) (by decide) (by decide) (pc' := 174) rfl (fun T2296 L2296 r2296 X2296 q2296 => ?_)
      obtain ⟨N2296, e2296, q2296⟩ := q2296
      have N2296' := Fr.app N2143' N2296
      rcases q2296 with ⟨v2297, h2298, hc2299, rfl⟩ | ⟨v2300, h2301, hc2302, rfl⟩
      ·
       have hh2303 : v2285 = v2297 := hv2285.trans h2298.symm
       subst hh2303
       show KEnds p e below s _ _ _ T2296 (mkF m 174 #[.val (.int i0), .val (.long i1), .second, .val (.long i2), .second, .val (.long i3), .second, .val (.long v4), .second, .val (.ref b5), .val (.int (2 : Int32)), .val (.int (0 : Int32)), .val (.int (1 : Int32)), .val (.long i2), .second, .val (.int (1 : Int32))] [(.int (0 : Int32))])
       exact absurd hc2286 hc2299
      ·
       have hh2304 : v2285 = v2300 := hv2285.trans h2301.symm
       subst hh2304
       show KEnds p e below s _ _ _ T2296 (mkF m 174 #[.val (.int i0), .val (.long i1), .second, .val (.long i2), .second, .val (.long i3), .second, .val (.long v4), .second, .val (.ref b5), .val (.int (2 : Int32)), .val (.int (0 : Int32)), .val (.int (1 : Int32)), .val (.long i2), .second, .val (.int (1 : Int32))] [(.int (1 : Int32))])
       refine k_iload X2296 hx (hb hby at_174) rfl (pc' := 176) rfl ?_
       refine k_icmp_ne X2296 hx (hb hby at_176) (pn := 179) rfl (py := 183) (by decide) (fun hc => absurd (by decide) hc) (fun _ => ?_)
       refine k_iconst X2296 hx (hb hby at_179) (pc' := 180) rfl (z := (1 : Int32)) rfl ?_
       refine k_goto X2296 hx (hb hby at_180) (pc' := 184) (by decide) ?_
       exact k_retN X2296 hx (t := .boolean) Bd.returns (by simp) (hb hby at_184) hlk (by decide) (by decide) (z' := (1 : Int32)) rfl ⟨rfl, N2296'⟩
    ·
     show KEnds p e below s _ _ _ T2143 (mkF m 97 #[.val (.int i0), .val (.long i1), .second, .val (.long i2), .second, .val (.long i3), .second, .val (.long v4), .second, .val (.ref b5), .val (.int (2 : Int32)), .val (.int (0 : Int32)), .unset, .unset, .unset, .unset] [])
     refine k_goto X2143 hx (hb hby at_97) (pc' := 107) (by decide) ?_
     refine k_iload X2143 hx (hb hby at_107) rfl (pc' := 109) rfl ?_
     refine k_iconst X2143 hx (hb hby at_109) (pc' := 110) rfl (z := (1 : Int32)) rfl ?_
     refine k_icmp_lt X2143 hx (hb hby at_110) (pn := 113) rfl (py := 117) (by decide) (fun hc => absurd hc (by decide)) (fun _ => ?_)
     refine k_iconst X2143 hx (hb hby at_113) (pc' := 114) rfl (z := (1 : Int32)) rfl ?_
     refine k_goto X2143 hx (hb hby at_114) (pc' := 118) (by decide) ?_
     refine k_istore X2143 hx (hb hby at_118) (Ls' := #[.val (.int i0), .val (.long i1), .second, .val (.long i2), .second, .val (.long i3), .second, .val (.long v4), .second, .val (.ref b5), .val (.int (2 : Int32)), .val (.int (0 : Int32)), .val (.int (1 : Int32)), .unset, .unset, .unset]) rfl (pc' := 120) rfl ?_
     refine k_lloadN X2143 hx (hb hby at_120) rfl (pc' := 121) rfl ?_
     refine k_lstore X2143 hx (hb hby at_121) (Ls' := #[.val (.int i0), .val (.long i1), .second, .val (.long i2), .second, .val (.long i3), .second, .val (.long v4), .second, .val (.ref b5), .val (.int (2 : Int32)), .val (.int (0 : Int32)), .val (.int (1 : Int32)), .val (.long i1), .second, .unset]) rfl (pc' := 123) rfl ?_
     refine k_iload X2143 hx (hb hby at_123) rfl (pc' := 125) rfl ?_
     refine k_iconst X2143 hx (hb hby at_125) (pc' := 126) rfl (z := (2 : Int32)) rfl ?_
     refine k_icmp_lt X2143 hx (hb hby at_126) (pn := 129) rfl (py := 140) (by decide) (fun hc => absurd hc (by decide)) (fun _ => ?_)
     refine k_lloadN X2143 hx (hb hby at_129) rfl (pc' := 130) rfl ?_
     refine k_lloadN X2143 hx (hb hby at_130) rfl (pc' := 131) rfl ?_
     refine k_lsubL X2143 hx (hb hby at_131) (pc' := 132) rfl (z := v2206) h2207.symm ?_
     refine k_lconst X2143 hx (hb hby at_132) (pc' := 133) rfl (z := (0 : Int64)) rfl ?_
     refine k_lcif_le X2143 hx (hb hby at_133) (pm := 134) rfl (hb hby at_134) (pn := 137) rfl (py := 140) (by decide) (fun hc => absurd hc2208 hc) (fun _ => ?_)
     refine k_lloadN X2143 hx (hb hby at_137) rfl (pc' := 138) rfl ?_
     refine k_lstore X2143 hx (hb hby at_138) (Ls' := #[.val (.int i0), .val (.long i1), .second, .val (.long i2), .second, .val (.long i3), .second, .val (.long v4), .second, .val (.ref b5), .val (.int (2 : Int32)), .val (.int (0 : Int32)), .val (.int (1 : Int32)), .val (.long i2), .second, .unset]) rfl (pc' := 140) rfl ?_
     refine k_iload X2143 hx (hb hby at_140) rfl (pc' := 142) rfl ?_
     refine k_if_eq X2143 hx (hb hby at_142) (pn := 145) rfl (py := 159) (by decide) (fun hc => absurd hc (by decide)) (fun _ => ?_)
     refine k_lload X2143 hx (hb hby at_145) rfl (pc' := 147) rfl ?_
     refine k_lload X2143 hx (hb hby at_147) rfl (pc' := 149) rfl ?_
     refine k_lsub X2143 hx (hb hby at_149) (pc' := 150) rfl (fun v2305 hv2305 => ?_)
     refine k_lconst X2143 hx (hb hby at_150) (pc' := 151) rfl (z := (0 : Int64)) rfl ?_
     refine k_lcif_le X2143 hx (hb hby at_151) (pm := 152) rfl (hb hby at_152) (pn := 155) rfl (py := 159) (by decide) (fun hc2306 => ?_) (fun hc2306 => ?_)
     ·
      refine k_iconst X2143 hx (hb hby at_159) (pc' := 160) rfl (z := (0 : Int32)) rfl ?_
      refine k_istore X2143 hx (hb hby at_160) (Ls' := #[.val (.int i0), .val (.long i1), .second, .val (.long i2), .second, .val (.long i3), .second, .val (.long v4), .second, .val (.ref b5), .val (.int (2 : Int32)), .val (.int (0 : Int32)), .val (.int (1 : Int32)), .val (.long i2), .second, .val (.int (0 : Int32))]) rfl (pc' := 162) rfl ?_
      refine k_iload X2143 hx (hb hby at_162) rfl (pc' := 164) rfl ?_
      refine k_if_ne X2143 hx (hb hby at_164) (pn := 167) rfl (py := 183) (by decide) (fun hc => absurd (by decide) hc) (fun _ => ?_)
      refine k_aload X2143 hx (hb hby at_167) rfl rfl (pc' := 169) rfl ?_
      refine k_lload X2143 hx (hb hby at_169) rfl (pc' := 171) rfl ?_
      refine k_callV X2143 hx hZ hown (a := b5) (hw _ (List.mem_of_getElem? (i := 19) rfl)) (hw _ (List.mem_of_getElem? (i := 20) rfl)) (hw _ (List.mem_of_getElem? (i := 22) rfl)) (hw _ (List.mem_of_getElem? (i := 21) rfl)) (hw _ (List.mem_of_getElem? (i := 2) rfl)) (hw _ (List.mem_of_getElem? (i := 23) rfl)) (by decide) F2211 (rm3_1728 l Z a0 hw [] b5 i3 b1959 b1961 v4 i2 k1960 i1 k1962 T2143.heap n0 Z2225 F2211 F2212 F2213 F2214 F2215 F2216 F2217 F2218 F2219 F2220 F2223 F2224 (Nat.lt_trans (Nat.lt_trans lt67 lt68) lt1977) lt1978) (by decide) (by decide) rfl (by rw [hml]; rfl) (argsL := [(.long i3)]) (rest := []) (lenOf pd_1 rfl) rfl (W := 0) (Nat.le_refl _) rfl (hb hby at_171) (by decide) (by decide) (pc' := 174) rfl (fun T2307 L2307 r2307 X2307 q2307 => ?_)
      obtain ⟨N2307, e2307, q2307⟩ := q2307
      have N2307' := Fr.app N2143' N2307
      rcases q2307 with ⟨v2308, h2309, hc2310, rfl⟩ | ⟨v2311, h2312, hc2313, rfl⟩
      ·
       have hh2314 : v2305 = v2308 := hv2305.trans h2309.symm
       subst hh2314
       show KEnds p e below s _ _ _ T2307 (mkF m 174 #[.val (.int i0), .val (.long i1), .second, .val (.long i2), .second, .val (.long i3), .second, .val (.long v4), .second, .val (.ref b5), .val (.int (2 : Int32)), .val (.int (0 : Int32)), .val (.int (1 : Int32)), .val (.long i2), .second, .val (.int (0 : Int32))] [(.int (0 : Int32))])
       refine k_iload X2307 hx (hb hby at_174) rfl (pc' := 176) rfl ?_
       refine k_icmp_ne X2307 hx (hb hby at_176) (pn := 179) rfl (py := 183) (by decide) (fun hc => absurd (by decide) hc) (fun _ => ?_)
       refine k_iconst X2307 hx (hb hby at_179) (pc' := 180) rfl (z := (1 : Int32)) rfl ?_
       refine k_goto X2307 hx (hb hby at_180) (pc' := 184) (by decide) ?_
       exact k_retN X2307 hx (t := .boolean) Bd.returns (by simp) (hb hby at_184) hlk (by decide) (by decide) (z' := (1 : Int32)) rfl ⟨rfl, N2307'⟩
      ·
       have hh2315 : v2305 = v2311 := hv2305.trans h2312.symm
       subst hh2315
       show KEnds p e below s _ _ _ T2307 (mkF m 174 #[.val (.int i0), .val (.long i1), .second, .val (.long i2), .second, .val (.long i3), .second, .val (.long v4), .second, .val (.ref b5), .val (.int (2 : Int32)), .val (.int (0 : Int32)), .val (.int (1 : Int32)), .val (.long i2), .second, .val (.int (0 : Int32))] [(.int (1 : Int32))])
       exact absurd hc2313 hc2306
     ·
      refine k_iconst X2143 hx (hb hby at_155) (pc' := 156) rfl (z := (1 : Int32)) rfl ?_
      refine k_goto X2143 hx (hb hby at_156) (pc' := 160) (by decide) ?_
      refine k_istore X2143 hx (hb hby at_160) (Ls' := #[.val (.int i0), .val (.long i1), .second, .val (.long i2), .second, .val (.long i3), .second, .val (.long v4), .second, .val (.ref b5), .val (.int (2 : Int32)), .val (.int (0 : Int32)), .val (.int (1 : Int32)), .val (.long i2), .second, .val (.int (1 : Int32))]) rfl (pc' := 162) rfl ?_
      refine k_iload X2143 hx (hb hby at_162) rfl (pc' := 164) rfl ?_
      refine k_if_ne X2143 hx (hb hby at_164) (pn := 167) rfl (py := 183) (by decide) (fun hc => absurd (by decide) hc) (fun _ => ?_)
      refine k_aload X2143 hx (hb hby at_167) rfl rfl (pc' := 169) rfl ?_
      refine k_lload X2143 hx (hb hby at_169) rfl (pc' := 171) rfl ?_
      refine k_callV X2143 hx hZ hown (a := b5) (hw _ (List.mem_of_getElem? (i := 19) rfl)) (hw _ (List.mem_of_getElem? (i := 20) rfl)) (hw _ (List.mem_of_getElem? (i := 22) rfl)) (hw _ (List.mem_of_getElem? (i := 21) rfl)) (hw _ (List.mem_of_getElem? (i := 2) rfl)) (hw _ (List.mem_of_getElem? (i := 23) rfl)) (by decide) F2211 (rm3_1728 l Z a0 hw [] b5 i3 b1959 b1961 v4 i2 k1960 i1 k1962 T2143.heap n0 Z2225 F2211 F2212 F2213 F2214 F2215 F2216 F2217 F2218 F2219 F2220 F2223 F2224 (Nat.lt_trans (Nat.lt_trans lt67 lt68) lt1977) lt1978) (by decide) (by decide) rfl (by rw [hml]; rfl) (argsL := [(.long i3)]) (rest := []) (lenOf pd_1 rfl) rfl (W := 0) (Nat.le_refl _) rfl (hb hby at_171) (by decide) (by decide) (pc' := 174) rfl (fun T2316 L2316 r2316 X2316 q2316 => ?_)
      obtain ⟨N2316, e2316, q2316⟩ := q2316
      have N2316' := Fr.app N2143' N2316
      rcases q2316 with ⟨v2317, h2318, hc2319, rfl⟩ | ⟨v2320, h2321, hc2322, rfl⟩
      ·
       have hh2323 : v2305 = v2317 := hv2305.trans h2318.symm
       subst hh2323
       show KEnds p e below s _ _ _ T2316 (mkF m 174 #[.val (.int i0), .val (.long i1), .second, .val (.long i2), .second, .val (.long i3), .second, .val (.long v4), .second, .val (.ref b5), .val (.int (2 : Int32)), .val (.int (0 : Int32)), .val (.int (1 : Int32)), .val (.long i2), .second, .val (.int (1 : Int32))] [(.int (0 : Int32))])
       exact absurd hc2306 hc2319
      ·
       have hh2324 : v2305 = v2320 := hv2305.trans h2321.symm
       subst hh2324
       show KEnds p e below s _ _ _ T2316 (mkF m 174 #[.val (.int i0), .val (.long i1), .second, .val (.long i2), .second, .val (.long i3), .second, .val (.long v4), .second, .val (.ref b5), .val (.int (2 : Int32)), .val (.int (0 : Int32)), .val (.int (1 : Int32)), .val (.long i2), .second, .val (.int (1 : Int32))] [(.int (1 : Int32))])
       refine k_iload X2316 hx (hb hby at_174) rfl (pc' := 176) rfl ?_
       refine k_icmp_ne X2316 hx (hb hby at_176) (pn := 179) rfl (py := 183) (by decide) (fun hc => absurd (by decide) hc) (fun _ => ?_)
       refine k_iconst X2316 hx (hb hby at_179) (pc' := 180) rfl (z := (1 : Int32)) rfl ?_
       refine k_goto X2316 hx (hb hby at_180) (pc' := 184) (by decide) ?_
       exact k_retN X2316 hx (t := .boolean) Bd.returns (by simp) (hb hby at_184) hlk (by decide) (by decide) (z' := (1 : Int32)) rfl ⟨rfl, N2316'⟩
    ·
     show KEnds p e below s _ _ _ T2143 (mkF m 97 #[.val (.int i0), .val (.long i1), .second, .val (.long i2), .second, .val (.long i3), .second, .val (.long v4), .second, .val (.ref b5), .val (.int (2 : Int32)), .val (.int (0 : Int32)), .unset, .unset, .unset, .unset] [])
     refine k_goto X2143 hx (hb hby at_97) (pc' := 107) (by decide) ?_
     refine k_iload X2143 hx (hb hby at_107) rfl (pc' := 109) rfl ?_
     refine k_iconst X2143 hx (hb hby at_109) (pc' := 110) rfl (z := (1 : Int32)) rfl ?_
     refine k_icmp_lt X2143 hx (hb hby at_110) (pn := 113) rfl (py := 117) (by decide) (fun hc => absurd hc (by decide)) (fun _ => ?_)
     refine k_iconst X2143 hx (hb hby at_113) (pc' := 114) rfl (z := (1 : Int32)) rfl ?_
     refine k_goto X2143 hx (hb hby at_114) (pc' := 118) (by decide) ?_
     refine k_istore X2143 hx (hb hby at_118) (Ls' := #[.val (.int i0), .val (.long i1), .second, .val (.long i2), .second, .val (.long i3), .second, .val (.long v4), .second, .val (.ref b5), .val (.int (2 : Int32)), .val (.int (0 : Int32)), .val (.int (1 : Int32)), .unset, .unset, .unset]) rfl (pc' := 120) rfl ?_
     refine k_lloadN X2143 hx (hb hby at_120) rfl (pc' := 121) rfl ?_
     refine k_lstore X2143 hx (hb hby at_121) (Ls' := #[.val (.int i0), .val (.long i1), .second, .val (.long i2), .second, .val (.long i3), .second, .val (.long v4), .second, .val (.ref b5), .val (.int (2 : Int32)), .val (.int (0 : Int32)), .val (.int (1 : Int32)), .val (.long i1), .second, .unset]) rfl (pc' := 123) rfl ?_
     refine k_iload X2143 hx (hb hby at_123) rfl (pc' := 125) rfl ?_
     refine k_iconst X2143 hx (hb hby at_125) (pc' := 126) rfl (z := (2 : Int32)) rfl ?_
     refine k_icmp_lt X2143 hx (hb hby at_126) (pn := 129) rfl (py := 140) (by decide) (fun hc => absurd hc (by decide)) (fun _ => ?_)
     refine k_lloadN X2143 hx (hb hby at_129) rfl (pc' := 130) rfl ?_
     refine k_lloadN X2143 hx (hb hby at_130) rfl (pc' := 131) rfl ?_
     refine k_lsubL X2143 hx (hb hby at_131) (pc' := 132) rfl (z := v2226) h2227.symm ?_
     refine k_lconst X2143 hx (hb hby at_132) (pc' := 133) rfl (z := (0 : Int64)) rfl ?_
     refine k_lcif_le X2143 hx (hb hby at_133) (pm := 134) rfl (hb hby at_134) (pn := 137) rfl (py := 140) (by decide) (fun hc => absurd hc2228 hc) (fun _ => ?_)
     refine k_lloadN X2143 hx (hb hby at_137) rfl (pc' := 138) rfl ?_
     refine k_lstore X2143 hx (hb hby at_138) (Ls' := #[.val (.int i0), .val (.long i1), .second, .val (.long i2), .second, .val (.long i3), .second, .val (.long v4), .second, .val (.ref b5), .val (.int (2 : Int32)), .val (.int (0 : Int32)), .val (.int (1 : Int32)), .val (.long i2), .second, .unset]) rfl (pc' := 140) rfl ?_
     refine k_iload X2143 hx (hb hby at_140) rfl (pc' := 142) rfl ?_
     refine k_if_eq X2143 hx (hb hby at_142) (pn := 145) rfl (py := 159) (by decide) (fun hc => absurd hc (by decide)) (fun _ => ?_)
     refine k_lload X2143 hx (hb hby at_145) rfl (pc' := 147) rfl ?_
     refine k_lload X2143 hx (hb hby at_147) rfl (pc' := 149) rfl ?_
     refine k_lsub X2143 hx (hb hby at_149) (pc' := 150) rfl (fun v2325 hv2325 => ?_)
     refine k_lconst X2143 hx (hb hby at_150) (pc' := 151) rfl (z := (0 : Int64)) rfl ?_
     refine k_lcif_le X2143 hx (hb hby at_151) (pm := 152) rfl (hb hby at_152) (pn := 155) rfl (py := 159) (by decide) (fun hc2326 => ?_) (fun hc2326 => ?_)
     ·
      refine k_iconst X2143 hx (hb hby at_159) (pc' := 160) rfl (z := (0 : Int32)) rfl ?_
      refine k_istore X2143 hx (hb hby at_160) (Ls' := #[.val (.int i0), .val (.long i1), .second, .val (.long i2), .second, .val (.long i3), .second, .val (.long v4), .second, .val (.ref b5), .val (.int (2 : Int32)), .val (.int (0 : Int32)), .val (.int (1 : Int32)), .val (.long i2), .second, .val (.int (0 : Int32))]) rfl (pc' := 162) rfl ?_
      refine k_iload X2143 hx (hb hby at_162) rfl (pc' := 164) rfl ?_
      refine k_if_ne X2143 hx (hb hby at_164) (pn := 167) rfl (py := 183) (by decide) (fun hc => absurd (by decide) hc) (fun _ => ?_)
      refine k_aload X2143 hx (hb hby at_167) rfl rfl (pc' := 169) rfl ?_
      refine k_lload X2143 hx (hb hby at_169) rfl (pc' := 171) rfl ?_
      refine k_callV X2143 hx hZ hown (a := b5) (hw _ (List.mem_of_getElem? (i := 19) rfl)) (hw _ (List.mem_of_getElem? (i := 20) rfl)) (hw _ (List.mem_of_getElem? (i := 22) rfl)) (hw _ (List.mem_of_getElem? (i := 21) rfl)) (hw _ (List.mem_of_getElem? (i := 2) rfl)) (hw _ (List.mem_of_getElem? (i := 23) rfl)) (by decide) F2230 (rm3_1753 l Z a0 hw [] b5 i3 b1959 b1961 v4 i2 k1960 i1 k1962 T2143.heap n0 Z2244 F2230 F2231 F2232 F2233 F2234 F2235 F2236 F2237 F2238 F2239 F2242 F2243 (Nat.lt_trans (Nat.lt_trans lt67 lt68) lt1977) lt1978) (by decide) (by decide) rfl (by rw [hml]; rfl) (argsL := [(.long i3)]) (rest := []) (lenOf pd_1 rfl) rfl (W := 0) (Nat.le_refl _) rfl (hb hby at_171) (by decide) (by decide) (pc' := 174) rfl (fun T2327 L2327 r2327 X2327 q2327 => ?_)
      obtain ⟨N2327, e2327, q2327⟩ := q2327
      have N2327' := Fr.app N2143' N2327
      rcases q2327 with ⟨v2328, h2329, hc2330, rfl⟩ | ⟨v2331, h2332, hc2333, rfl⟩
      ·
       have hh2334 : v2325 = v2328 := hv2325.trans h2329.symm
       subst hh2334
       show KEnds p e below s _ _ _ T2327 (mkF m 174 #[.val (.int i0), .val (.long i1), .second, .val (.long i2), .second, .val (.long i3), .second, .val (.long v4), .second, .val (.ref b5), .val (.int (2 : Int32)), .val (.int (0 : Int32)), .val (.int (1 : Int32)), .val (.long i2), .second, .val (.int (0 : Int32))] [(.int (0 : Int32))])
       refine k_iload X2327 hx (hb hby at_174) rfl (pc' := 176) rfl ?_
       refine k_icmp_ne X2327 hx (hb hby at_176) (pn := 179) rfl (py := 183) (by decide) (fun hc => absurd (by decide) hc) (fun _ => ?_)
       refine k_iconst X2327 hx (hb hby at_179) (pc' := 180) rfl (z := (1 : Int32)) rfl ?_
       refine k_goto X2327 hx (hb hby at_180) (pc' := 184) (by decide) ?_
       exact k_retN X2327 hx (t := .boolean) Bd.returns (by simp) (hb hby at_184) hlk (by decide) (by decide) (z' := (1 : Int32)) rfl ⟨rfl, N2327'⟩
      ·
       have hh2335 : v2325 = v2331 := hv2325.trans h2332.symm
       subst hh2335
       show KEnds p e below s _ _ _ T2327 (mkF m 174 #[.val (.int i0), .val (.long i1), .second, .val (.long i2), .second, .val (.long i3), .second, .val (.long v4), .second, .val (.ref b5), .val (.int (2 : Int32)), .val (.int (0 : Int32)), .val (.int (1 : Int32)), .val (.long i2), .second, .val (.int (0 : Int32))] [(.int (1 : Int32))])
       exact absurd hc2333 hc2326
     ·
      refine k_iconst X2143 hx (hb hby at_155) (pc' := 156) rfl (z := (1 : Int32)) rfl ?_
      refine k_goto X2143 hx (hb hby at_156) (pc' := 160) (by decide) ?_
      refine k_istore X2143 hx (hb hby at_160) (Ls' := #[.val (.int i0), .val (.long i1), .second, .val (.long i2), .second, .val (.long i3), .second, .val (.long v4), .second, .val (.ref b5), .val (.int (2 : Int32)), .val (.int (0 : Int32)), .val (.int (1 : Int32)), .val (.long i2), .second, .val (.int (1 : Int32))]) rfl (pc' := 162) rfl ?_
      refine k_iload X2143 hx (hb hby at_162) rfl (pc' := 164) rfl ?_
      refine k_if_ne X2143 hx (hb hby at_164) (pn := 167) rfl (py := 183) (by decide) (fun hc => absurd (by decide) hc) (fun _ => ?_)
      refine k_aload X2143 hx (hb hby at_167) rfl rfl (pc' := 169) rfl ?_
      refine k_lload X2143 hx (hb hby at_169) rfl (pc' := 171) rfl ?_
      refine k_callV X2143 hx hZ hown (a := b5) (hw _ (List.mem_of_getElem? (i := 19) rfl)) (hw _ (List.mem_of_getElem? (i := 20) rfl)) (hw _ (List.mem_of_getElem? (i := 22) rfl)) (hw _ (List.mem_of_getElem? (i := 21) rfl)) (hw _ (List.mem_of_getElem? (i := 2) rfl)) (hw _ (List.mem_of_getElem? (i := 23) rfl)) (by decide) F2230 (rm3_1753 l Z a0 hw [] b5 i3 b1959 b1961 v4 i2 k1960 i1 k1962 T2143.heap n0 Z2244 F2230 F2231 F2232 F2233 F2234 F2235 F2236 F2237 F2238 F2239 F2242 F2243 (Nat.lt_trans (Nat.lt_trans lt67 lt68) lt1977) lt1978) (by decide) (by decide) rfl (by rw [hml]; rfl) (argsL := [(.long i3)]) (rest := []) (lenOf pd_1 rfl) rfl (W := 0) (Nat.le_refl _) rfl (hb hby at_171) (by decide) (by decide) (pc' := 174) rfl (fun T2336 L2336 r2336 X2336 q2336 => ?_)
      obtain ⟨N2336, e2336, q2336⟩ := q2336
      have N2336' := Fr.app N2143' N2336
      rcases q2336 with ⟨v2337, h2338, hc2339, rfl⟩ | ⟨v2340, h2341, hc2342, rfl⟩
      ·
       have hh2343 : v2325 = v2337 := hv2325.trans h2338.symm
       subst hh2343
       show KEnds p e below s _ _ _ T2336 (mkF m 174 #[.val (.int i0), .val (.long i1), .second, .val (.long i2), .second, .val (.long i3), .second, .val (.long v4), .second, .val (.ref b5), .val (.int (2 : Int32)), .val (.int (0 : Int32)), .val (.int (1 : Int32)), .val (.long i2), .second, .val (.int (1 : Int32))] [(.int (0 : Int32))])
       exact absurd hc2326 hc2339
      ·
       have hh2344 : v2325 = v2340 := hv2325.trans h2341.symm
       subst hh2344
       show KEnds p e below s _ _ _ T2336 (mkF m 174 #[.val (.int i0), .val (.long i1), .second, .val (.long i2), .second, .val (.long i3), .second, .val (.long v4), .second, .val (.ref b5), .val (.int (2 : Int32)), .val (.int (0 : Int32)), .val (.int (1 : Int32)), .val (.long i2), .second, .val (.int (1 : Int32))] [(.int (1 : Int32))])
       refine k_iload X2336 hx (hb hby at_174) rfl (pc' := 176) rfl ?_
       refine k_icmp_ne X2336 hx (hb hby at_176) (pn := 179) rfl (py := 183) (by decide) (fun hc => absurd (by decide) hc) (fun _ => ?_)
       refine k_iconst X2336 hx (hb hby at_179) (pc' := 180) rfl (z := (1 : Int32)) rfl ?_
       refine k_goto X2336 hx (hb hby at_180) (pc' := 184) (by decide) ?_
       exact k_retN X2336 hx (t := .boolean) Bd.returns (by simp) (hb hby at_184) hlk (by decide) (by decide) (z' := (1 : Int32)) rfl ⟨rfl, N2336'⟩
set_option maxRecDepth 65536 in
set_option maxHeartbeats 40000000 in
theorem comes_1 {Post : Tables → Env → Array Value → State → Outcome → State → Prop} (hpost : ∀ tb e args s v u, (limb_1_1.after args s (.returned v) u = true ∧ limb_1_2.after args s (.returned v) u = true ∧ True) → FrameEnd s (.returned v) u (Jvm.fieldLocs frame_1_writes args s ++ Jvm.arrayLocs frame_1_arrays args s ++ Jvm.staticLocs frame_1_statics s) 24 128 → Post tb e args s (.returned v) u) :
    ArmFor flags0 classFile x code maxLocals ret World_1 tables_1 room_1 Calls_1 rest_1 Pre_1 Post := by
  intro l hfl _ _ p e ha hc hk s m args below hf hA hF happ hP
  obtain ⟨hcalls, hrest, hpre⟩ := hP
  obtain ⟨-, -, -, hnamed, -, -, -, hat⟩ := (Spec.applies_iff hf).mp happ
  obtain ⟨hg, hn⟩ := and_e (Cond.before_iff.mp (show (Jvm.Cond.and given_1 narrow_1).before args s = true from hpre))
  obtain ⟨g2345, g2346⟩ := and_e hg
  obtain ⟨g2347, g2348⟩ := and_e g2346
  obtain ⟨g2349, g2350⟩ := and_e g2348
  obtain ⟨g2351, g2352⟩ := and_e g2350
  obtain ⟨w0, w1, w2, w3, rfl⟩ : ∃ w0 w1 w2 w3 : Value, args = #[w0, w1, w2, w3] := by
    have hs : args.size = 4 := by simpa [Cond.value, given_1] using g2345
    obtain ⟨L⟩ := args
    match L, hs with
    | [w0, w1, w2, w3], _ => exact ⟨w0, w1, w2, w3, rfl⟩
  have hw := fun d (hd : d ∈ tables_1) => atoms_spec (ws := Jvm.Cond.code x code maxLocals ret :: tables_1) hat d (List.mem_cons_of_mem _ hd)
  obtain ⟨i0, ei0⟩ := is_v g2347
  obtain rfl : w0 = (.int i0) := Option.some.inj ei0
  obtain ⟨i1, ei1⟩ := isL_v g2349
  obtain rfl : w1 = (.long i1) := Option.some.inj ei1
  obtain ⟨i2, ei2⟩ := isL_v g2351
  obtain rfl : w2 = (.long i2) := Option.some.inj ei2
  obtain ⟨i3, ei3⟩ := isL_v g2352
  obtain rfl : w3 = (.long i3) := Option.some.inj ei3
  obtain ⟨n, o, h1, h2, h3, _, L, rfl, ⟨rfl, N⟩, hq⟩ := rm0 l s _ hw tables_1 i0 i1 i2 i3 s.heap s.heap.size (Nat.le_refl _) p e ha hc hk s m _ below hf ((Spec.applies_iff_loose hf).mp happ).1 ⟨rfl, State.Warmed39.refl s, rfl⟩ trivial
  refine ⟨n, _, h1, h2, h3, hpost _ _ _ _ _ _ ⟨Cond.after_iff.mpr rfl, Cond.after_iff.mpr (eq_i res_at (Term.int_eval (1)) rfl), trivial⟩ ⟨hq.1, hq.2.1, (hq.2.2.sift fun y hy => Or.inr (N y hy)).mono (by decide) (by decide)⟩⟩
theorem main_1_1 : Claimed_1_1 := comes_1 fun _ _ _ _ _ _ h hF => ⟨h.1, hF⟩
theorem main_1_2 : Claimed_1_2 := comes_1 fun _ _ _ _ _ _ h hF => ⟨h.2.1, hF⟩
end Jvm.Pilot.@@N@@
namespace Jvm.Pilot.@@N@@
open Jvm Jvm.ClassFile Sem Op Lib Jvm.Free Jvm.Stand Jvm.Pilot.@@N@@.Jvm.D
/-! MADE BY PROGRAM (witnessworld.py) out of the Statement's table words and the real class files: 12 classes; the members and pool entries that the words name. The judged class is class 1, her method 1. -/
namespace start1
open Jvm.ClassFile
def u (s : String) : CpInfo := .utf8 (stringToUtf16 s)
/-- a pool by its gaps: so many unusable entries, then the entry; so many at the end -/
def gap : Nat → List CpInfo → List CpInfo
  | 0, r => r
  | n + 1, r => .unusable :: gap n r
def poolList (es : List (Nat × CpInfo)) (last : Nat) : List CpInfo := es.foldr (fun e r => gap e.1 (e.2 :: r)) (gap last [])
def pool (es : List (Nat × CpInfo)) (last : Nat) : Array CpInfo := ⟨poolList es last⟩
def fileOf (pool : Array CpInfo) (this : Nat) (attrs : Array Attribute := #[]) (ms : Array MethodInfo := #[]) (fl : Nat := 33) (sup : Nat := 0) (ifs : Array Nat := #[]) (fds : Array FieldInfo := #[]) : ClassFile where
  minorVersion := 0
  majorVersion := 65
  constantPool := pool
  accessFlags := fl
  thisClass := this
  superClass := sup
  interfaces := ifs
  fields := fds
  methods := ms
  attributes := attrs
def plain (name : String) (sup : Option ClassId) : Class where
  name := name
  kind := .ordinary
  loader := none
  accessFlags := 33
  super := sup
  interfaces := #[]
  cf := none
  fields := #[]
  methods := #[]
  instanceTypes := #[]
  staticTypes := #[]
  resolved := #[]
  callSites := []
  init := .initialized
  statics := none
  mirror := none

def pool0 : Array CpInfo := pool [(5, u "<init>"), (0, u "()V"), (1, .class_ 10), (1, u "java/lang/Object")] 113

def k0c0 : Code := { maxStack := 0, maxLocals := 1, code := object_method_1_code, exceptionTable := #[], attributes := #[] }
def k0m0 : Method := { name := "<init>", desc := "()V", sig := { parameters := [], returnType := none }, accessFlags := 1, code := some k0c0 }
/-- java/lang/Object -/
def k0 : Class := { plain "java/lang/Object" none with
  accessFlags := 33
  interfaces := #[]
  cf := some (fileOf pool0 8 #[] #[{ accessFlags := 1, nameIndex := 5, descriptorIndex := 6, attributes := #[] }] 33 0 #[] #[])
  fields := #[]
  methods := #[k0m0]
  instanceTypes := #[]
  staticTypes := #[]
  resolved := Array.replicate 124 none
  statics := none }

def pool1 : Array CpInfo := pool [(2, .class_ 4), (1, u "java/lang/Object"), (0, u "<init>"), (0, u "()V"), (0, .class_ 8), (0, u "com/example/halter/halter/SlidingSum"), (2, .long 9223372036854775807), (1, .methodref 7 14), (0, .nameAndType 5 15), (0, u "(JJ)V"), (0, .methodref 7 17), (0, .nameAndType 18 19), (0, u "givenAfter"), (0, u "(J)Z"), (0, .methodref 7 21), (0, .nameAndType 22 15), (0, u "add"), (0, .methodref 7 24), (0, .nameAndType 25 26), (0, u "at"), (0, u "(J)J"), (0, .class_ 28), (0, u "com/example/halter/halter/SlidingSumGivenAfterPinLaw"), (2, u "law"), (0, u "(IJJJ)Z")] 3

def k1m0 : Method := { name := "<init>", desc := "()V", sig := { parameters := [], returnType := none }, accessFlags := 1, code := none }
def k1c1 : Code := { maxStack := 6, maxLocals := 16, code := code, exceptionTable := #[], attributes := #[] }
def k1m1 : Method := { name := "law", desc := "(IJJJ)Z", sig := { parameters := [.int, .long, .long, .long], returnType := some .boolean }, accessFlags := 9, code := some k1c1 }
/-- com/example/halter/halter/SlidingSumGivenAfterPinLaw -/
def k1 : Class := { plain "com/example/halter/halter/SlidingSumGivenAfterPinLaw" (some 0) with
  accessFlags := 49
  interfaces := #[]
  cf := some (fileOf pool1 27 #[] #[{ accessFlags := 1, nameIndex := 5, descriptorIndex := 6, attributes := #[] }, { accessFlags := 9, nameIndex := 31, descriptorIndex := 32, attributes := #[] }] 49 2 #[] #[])
  fields := #[]
  methods := #[k1m0, k1m1]
  instanceTypes := #[]
  staticTypes := #[]
  resolved := Array.replicate 36 none
  statics := none }

def pool2 : Array CpInfo := pool [(1, .methodref 2 3), (0, .class_ 4), (0, .nameAndType 5 6), (0, u "java/lang/Object"), (0, u "<init>"), (0, u "()V"), (0, .fieldref 8 9), (0, .class_ 10), (0, .nameAndType 11 12), (0, u "com/example/halter/halter/SlidingSum"), (0, u "times"), (0, u "[J"), (0, .fieldref 8 14), (0, .nameAndType 15 12), (0, u "costs"), (9, .fieldref 8 26), (0, .nameAndType 27 28), (0, u "most"), (0, u "J"), (0, .fieldref 8 30), (0, .nameAndType 31 28), (0, u "length"), (0, .methodref 8 33), (0, .nameAndType 34 35), (0, u "catchUp"), (0, u "(J)V"), (0, .fieldref 8 37), (0, .nameAndType 38 28), (0, u "sum"), (3, .methodref 8 43), (0, .nameAndType 44 35), (0, u "remember"), (0, .fieldref 8 46), (0, .nameAndType 47 48), (0, u "size"), (0, u "I"), (0, .fieldref 8 50), (0, .nameAndType 51 52), (0, u "started"), (0, u "Z"), (0, .fieldref 8 54), (0, .nameAndType 55 28), (0, u "latest"), (0, .methodref 8 57), (0, .nameAndType 58 6), (0, u "forgetWhatLeftTheWindow"), (0, .fieldref 8 60), (0, .nameAndType 61 48), (0, u "head"), (0, .methodref 8 63), (0, .nameAndType 64 65), (0, u "place"), (0, u "(I)I"), (0, .methodref 8 67), (0, .nameAndType 68 69), (0, u "moveTo"), (0, u "(I)V"), (0, .methodref 8 71), (0, .nameAndType 72 6), (0, u "grow"), (0, .integer 1073741824), (5, .long 8), (1, .long 2), (1, .methodref 84 85), (0, .class_ 86), (0, .nameAndType 87 88), (0, u "java/lang/Math"), (0, u "max"), (0, u "(JJ)J"), (0, .long 1073741824), (1, .methodref 84 92), (0, .nameAndType 93 88), (0, u "min"), (0, u "SMALLEST"), (2, u "LARGEST"), (0, u "(JJ)V"), (3, u "at"), (0, u "(J)J"), (0, u "add"), (2, u "givenAfter"), (0, u "(J)Z")] 21

def k2c0 : Code := { maxStack := 6, maxLocals := 5, code := prog_19_method_1_code, exceptionTable := #[], attributes := #[] }
def k2m0 : Method := { name := "<init>", desc := "(JJ)V", sig := { parameters := [.long, .long], returnType := none }, accessFlags := 1, code := some k2c0 }
def k2c1 : Code := { maxStack := 3, maxLocals := 3, code := prog_19_method_2_code, exceptionTable := #[], attributes := #[] }
def k2m1 : Method := { name := "at", desc := "(J)J", sig := { parameters := [.long], returnType := some .long }, accessFlags := 1, code := some k2c1 }
def k2c2 : Code := { maxStack := 8, maxLocals := 5, code := prog_19_method_3_code, exceptionTable := #[], attributes := #[] }
def k2m2 : Method := { name := "add", desc := "(JJ)V", sig := { parameters := [.long, .long], returnType := none }, accessFlags := 1, code := some k2c2 }
def k2c3 : Code := { maxStack := 4, maxLocals := 3, code := prog_19_method_5_code, exceptionTable := #[], attributes := #[] }
def k2m3 : Method := { name := "givenAfter", desc := "(J)Z", sig := { parameters := [.long], returnType := some .boolean }, accessFlags := 0, code := some k2c3 }
def k2c4 : Code := { maxStack := 4, maxLocals := 3, code := prog_19_method_7_code, exceptionTable := #[], attributes := #[] }
def k2m4 : Method := { name := "catchUp", desc := "(J)V", sig := { parameters := [.long], returnType := none }, accessFlags := 2, code := some k2c4 }
def k2c5 : Code := { maxStack := 5, maxLocals := 2, code := prog_19_method_8_code, exceptionTable := #[], attributes := #[] }
def k2m5 : Method := { name := "forgetWhatLeftTheWindow", desc := "()V", sig := { parameters := [], returnType := none }, accessFlags := 2, code := some k2c5 }
def k2c6 : Code := { maxStack := 6, maxLocals := 4, code := prog_19_method_9_code, exceptionTable := #[], attributes := #[] }
def k2m6 : Method := { name := "remember", desc := "(J)V", sig := { parameters := [.long], returnType := none }, accessFlags := 2, code := some k2c6 }
def k2c7 : Code := { maxStack := 7, maxLocals := 3, code := prog_19_method_10_code, exceptionTable := #[], attributes := #[] }
def k2m7 : Method := { name := "grow", desc := "()V", sig := { parameters := [], returnType := none }, accessFlags := 2, code := some k2c7 }
def k2c8 : Code := { maxStack := 5, maxLocals := 5, code := prog_19_method_11_code, exceptionTable := #[], attributes := #[] }
def k2m8 : Method := { name := "moveTo", desc := "(I)V", sig := { parameters := [.int], returnType := none }, accessFlags := 2, code := some k2c8 }
def k2c9 : Code := { maxStack := 2, maxLocals := 3, code := prog_19_method_12_code, exceptionTable := #[], attributes := #[] }
def k2m9 : Method := { name := "place", desc := "(I)I", sig := { parameters := [.int], returnType := some .int }, accessFlags := 2, code := some k2c9 }
/-- com/example/halter/halter/SlidingSum -/
def k2 : Class := { plain "com/example/halter/halter/SlidingSum" (some 0) with
  accessFlags := 33
  interfaces := #[]
  cf := some (fileOf pool2 8 #[] #[{ accessFlags := 1, nameIndex := 5, descriptorIndex := 98, attributes := #[] }, { accessFlags := 1, nameIndex := 102, descriptorIndex := 103, attributes := #[] }, { accessFlags := 1, nameIndex := 104, descriptorIndex := 98, attributes := #[] }, { accessFlags := 0, nameIndex := 107, descriptorIndex := 108, attributes := #[] }, { accessFlags := 2, nameIndex := 34, descriptorIndex := 35, attributes := #[] }, { accessFlags := 2, nameIndex := 58, descriptorIndex := 6, attributes := #[] }, { accessFlags := 2, nameIndex := 44, descriptorIndex := 35, attributes := #[] }, { accessFlags := 2, nameIndex := 72, descriptorIndex := 6, attributes := #[] }, { accessFlags := 2, nameIndex := 68, descriptorIndex := 69, attributes := #[] }, { accessFlags := 2, nameIndex := 64, descriptorIndex := 65, attributes := #[] }] 33 2 #[] #[{ accessFlags := 26, nameIndex := 94, descriptorIndex := 48, attributes := #[] }, { accessFlags := 26, nameIndex := 97, descriptorIndex := 48, attributes := #[] }, { accessFlags := 18, nameIndex := 27, descriptorIndex := 28, attributes := #[] }, { accessFlags := 18, nameIndex := 31, descriptorIndex := 28, attributes := #[] }, { accessFlags := 2, nameIndex := 11, descriptorIndex := 12, attributes := #[] }, { accessFlags := 2, nameIndex := 15, descriptorIndex := 12, attributes := #[] }, { accessFlags := 2, nameIndex := 61, descriptorIndex := 48, attributes := #[] }, { accessFlags := 2, nameIndex := 47, descriptorIndex := 48, attributes := #[] }, { accessFlags := 2, nameIndex := 38, descriptorIndex := 28, attributes := #[] }, { accessFlags := 2, nameIndex := 55, descriptorIndex := 28, attributes := #[] }, { accessFlags := 2, nameIndex := 51, descriptorIndex := 52, attributes := #[] }])
  fields := #[{ name := "SMALLEST", type := .int, accessFlags := 26, slot := 0, constantValue := 0 }, { name := "LARGEST", type := .int, accessFlags := 26, slot := 1, constantValue := 0 }, { name := "most", type := .long, accessFlags := 18, slot := 0, constantValue := 0 }, { name := "length", type := .long, accessFlags := 18, slot := 1, constantValue := 0 }, { name := "times", type := (.array .long), accessFlags := 2, slot := 2, constantValue := 0 }, { name := "costs", type := (.array .long), accessFlags := 2, slot := 3, constantValue := 0 }, { name := "head", type := .int, accessFlags := 2, slot := 4, constantValue := 0 }, { name := "size", type := .int, accessFlags := 2, slot := 5, constantValue := 0 }, { name := "sum", type := .long, accessFlags := 2, slot := 6, constantValue := 0 }, { name := "latest", type := .long, accessFlags := 2, slot := 7, constantValue := 0 }, { name := "started", type := .boolean, accessFlags := 2, slot := 8, constantValue := 0 }]
  methods := #[k2m0, k2m1, k2m2, k2m3, k2m4, k2m5, k2m6, k2m7, k2m8, k2m9]
  instanceTypes := #[.long, .long, (.array .long), (.array .long), .int, .int, .long, .long, .boolean]
  staticTypes := #[.int, .int]
  resolved := Array.replicate 130 none
  statics := none }

def pool3 : Array CpInfo := pool [(1, .class_ 2), (0, u "java/lang/Math"), (1, .class_ 6), (1, u "java/lang/Object"), (0, u "<init>"), (0, u "()V"), (89, .class_ 100), (1, u "java/lang/Math$RandomNumberGeneratorHolder"), (20, u "(JJ)J"), (50, u "negativeZeroFloatBits"), (0, u "J"), (2, u "negativeZeroDoubleBits"), (21, u "max"), (2, u "min"), (43, u "$assertionsDisabled"), (0, u "Z"), (91, u "twoToTheDoubleScaleDown"), (0, u "D"), (4, u "twoToTheDoubleScaleUp"), (9, u "E"), (3, u "PI"), (2, u "TAU"), (2, u "DEGREES_TO_RADIANS"), (0, u "RADIANS_TO_DEGREES")] 94

def k3m0 : Method := { name := "<init>", desc := "()V", sig := { parameters := [], returnType := none }, accessFlags := 2, code := none }
def k3c1 : Code := { maxStack := 4, maxLocals := 4, code := jdk_29_method_66_code, exceptionTable := #[], attributes := #[] }
def k3m1 : Method := { name := "max", desc := "(JJ)J", sig := { parameters := [.long, .long], returnType := some .long }, accessFlags := 9, code := some k3c1 }
def k3c2 : Code := { maxStack := 4, maxLocals := 4, code := jdk_29_method_70_code, exceptionTable := #[], attributes := #[] }
def k3m2 : Method := { name := "min", desc := "(JJ)J", sig := { parameters := [.long, .long], returnType := some .long }, accessFlags := 9, code := some k3c2 }
/-- java/lang/Math -/
def k3 : Class := { plain "java/lang/Math" (some 0) with
  accessFlags := 49
  interfaces := #[]
  cf := some (fileOf pool3 1 #[.nestMembers #[98]] #[{ accessFlags := 2, nameIndex := 7, descriptorIndex := 8, attributes := #[] }, { accessFlags := 9, nameIndex := 198, descriptorIndex := 121, attributes := #[] }, { accessFlags := 9, nameIndex := 201, descriptorIndex := 121, attributes := #[] }] 49 4 #[] #[{ accessFlags := 25, nameIndex := 354, descriptorIndex := 339, attributes := #[] }, { accessFlags := 25, nameIndex := 358, descriptorIndex := 339, attributes := #[] }, { accessFlags := 25, nameIndex := 361, descriptorIndex := 339, attributes := #[] }, { accessFlags := 26, nameIndex := 364, descriptorIndex := 339, attributes := #[] }, { accessFlags := 26, nameIndex := 365, descriptorIndex := 339, attributes := #[] }, { accessFlags := 26, nameIndex := 172, descriptorIndex := 173, attributes := #[] }, { accessFlags := 26, nameIndex := 176, descriptorIndex := 173, attributes := #[] }, { accessFlags := 8, nameIndex := 344, descriptorIndex := 339, attributes := #[] }, { accessFlags := 8, nameIndex := 338, descriptorIndex := 339, attributes := #[] }, { accessFlags := 4120, nameIndex := 245, descriptorIndex := 246, attributes := #[] }])
  fields := #[{ name := "E", type := .double, accessFlags := 25, slot := 0, constantValue := 0 }, { name := "PI", type := .double, accessFlags := 25, slot := 1, constantValue := 0 }, { name := "TAU", type := .double, accessFlags := 25, slot := 2, constantValue := 0 }, { name := "DEGREES_TO_RADIANS", type := .double, accessFlags := 26, slot := 3, constantValue := 0 }, { name := "RADIANS_TO_DEGREES", type := .double, accessFlags := 26, slot := 4, constantValue := 0 }, { name := "negativeZeroFloatBits", type := .long, accessFlags := 26, slot := 5, constantValue := 0 }, { name := "negativeZeroDoubleBits", type := .long, accessFlags := 26, slot := 6, constantValue := 0 }, { name := "twoToTheDoubleScaleUp", type := .double, accessFlags := 8, slot := 7, constantValue := 0 }, { name := "twoToTheDoubleScaleDown", type := .double, accessFlags := 8, slot := 8, constantValue := 0 }, { name := "$assertionsDisabled", type := .boolean, accessFlags := 4120, slot := 9, constantValue := 0 }]
  methods := #[k3m0, k3m1, k3m2]
  instanceTypes := #[]
  staticTypes := #[.double, .double, .double, .double, .double, .long, .long, .double, .double, .boolean]
  resolved := Array.replicate 460 none
  statics := none }

def pool4 : Array CpInfo := pool [(1, u "java/lang/Cloneable"), (0, .class_ 1), (0, u "java/lang/Object"), (0, .class_ 3)] 3

/-- java/lang/Cloneable -/
def k4 : Class := { plain "java/lang/Cloneable" (some 0) with
  accessFlags := 1537
  interfaces := #[]
  cf := some (fileOf pool4 2 #[] #[] 1537 4 #[] #[])
  fields := #[]
  methods := #[]
  instanceTypes := #[]
  staticTypes := #[]
  resolved := Array.replicate 8 none
  statics := none }

def pool5 : Array CpInfo := pool [(1, u "java/io/Serializable"), (0, .class_ 1), (0, u "java/lang/Object"), (0, .class_ 3)] 3

/-- java/io/Serializable -/
def k5 : Class := { plain "java/io/Serializable" (some 0) with
  accessFlags := 1537
  interfaces := #[]
  cf := some (fileOf pool5 2 #[] #[] 1537 4 #[] #[])
  fields := #[]
  methods := #[]
  instanceTypes := #[]
  staticTypes := #[]
  resolved := Array.replicate 8 none
  statics := none }

/-- the primitive byte -/
def k6 : Class := { plain "byte" none with kind := .primitive 'B', accessFlags := 0x411 }
/-- [B -/
def k7 : Class := { plain "[B" (some 0) with kind := .array 6 .byte, interfaces := #[4, 5], accessFlags := 1041 }

/-- the primitive int -/
def k8 : Class := { plain "int" none with kind := .primitive 'I', accessFlags := 0x411 }
/-- [I -/
def k9 : Class := { plain "[I" (some 0) with kind := .array 8 .int, interfaces := #[4, 5], accessFlags := 1041 }

/-- the primitive long -/
def k10 : Class := { plain "long" none with kind := .primitive 'J', accessFlags := 0x411 }
/-- [J -/
def k11 : Class := { plain "[J" (some 0) with kind := .array 10 .long, interfaces := #[4, 5], accessFlags := 1041 }

def heap : Heap := #[]
def classes : Array Class := #[k0, k1, k2, k3, k4, k5, k6, k7, k8, k9, k10, k11]
def interned : List (Array UInt16 × Addr) := []
def slotsUsed : Nat := 0
def theMethod : MethodId := ⟨1, 1⟩
def args0 : Array Value := #[.int 5, .long 7, .long 1, .long 3]
def aboutOver (below : List Frame) : State where
  vm := { classes := classes, interned := interned.toArray }
  heap := heap
  slotsUsed := slotsUsed
  threads := #[{ frames := .invoking theMethod args0 :: below }]
def below0 : List Frame := [.native { method := ⟨0, 0⟩, args := #[] }]
def about1 : State := aboutOver below0
def p0 : Program := .bare "" "" ""
def e0 : Env := launch0.env 0 0 0
theorem w_frames : about1.frames = Frame.invoking theMethod args0 :: below0 := rfl
set_option maxRecDepth 65536 in
theorem w_args : argsFit about1.vm theMethod args0 = true := by decide +kernel
set_option maxRecDepth 65536 in
theorem w_heap : heapFits about1 = true := by decide +kernel
set_option maxRecDepth 65536 in
theorem w_runnable : about1.curStatus? = some .runnable := by decide +kernel
set_option maxRecDepth 65536 in
theorem w_alone : about1.alone = true := by decide +kernel
set_option maxRecDepth 65536 in
theorem w_named : about1.methodNamed? x = some theMethod := by decide +kernel
set_option maxRecDepth 65536 in
theorem w_hears : about1.hears theMethod below0 = true := by decide +kernel
set_option maxRecDepth 65536 in
theorem w_ripe : about1.ripe theMethod args0 below0 = true := by decide +kernel
theorem w_running : about1.status = .running := rfl
set_option maxRecDepth 65536 in
theorem w_room : about1.hasRoom e0.platform room_1 = true :=
  launch0.hasRoom_least _ room_1 (by decide +kernel) (by decide +kernel) (by decide +kernel) (by decide +kernel) (by decide +kernel) (by decide +kernel)
theorem allAtoms_all (ts : List Jvm.Cond) (a : Array Jvm.Value) (st : Jvm.State) : (allAtoms ts).before a st = ts.all (fun c => c.before a st) := by
  induction ts with
  | nil => rfl
  | cons c t ih =>
    show (Jvm.Cond.and c (allAtoms t)).before a st = _
    rw [Jvm.Cond.before_and, ih, List.all_cons]
def words1 : List Jvm.Cond := Jvm.Cond.code x code maxLocals ret :: tables_1
/-- a 'code' word, met by the world's own term for the bytes: nothing is compared byte by byte -/
theorem code_word {y : MethodName} {bytes : ByteArray} {mx : Nat} {rt : Option FieldType} {a : Array Value} {s : State} {m : MethodId} {meth : Method} {c : Code} (h1 : s.methodNamed? y = some m) (h2 : s.vm.method? m = some meth) (h3 : meth.code = some c) (h4 : c.code = bytes)
    (h5 : (c.maxLocals == mx && c.exceptionTable.isEmpty && decide (c.maxStack ≤ mostOperands) && decide (meth.sig.returnType = rt) && !meth.locks && decide (parseMethodDescriptor y.desc = some meth.sig)) = true) : (Jvm.Cond.code y bytes mx rt).before a s = true := by
  simp only [Bool.and_eq_true, beq_iff_eq, Bool.not_eq_true', decide_eq_true_eq] at h5
  obtain ⟨⟨⟨⟨⟨g1, g2⟩, g3⟩, g4⟩, g5⟩, g6⟩ := h5
  simp [Cond.before, Cond.holds, Cond.value, h1, h2, h3, h4, g1, g2, g3, g4, g5, g6]
def isCode : Jvm.Cond → Bool
  | .code _ _ _ _ => true
  | _ => false
theorem all_split {L : List Jvm.Cond} {P : Jvm.Cond → Bool} (h1 : L.all (fun c => isCode c || P c) = true) (h2 : ∀ c ∈ L.filter isCode, P c = true) : L.all P = true := by
  refine List.all_eq_true.mpr fun c hc => ?_
  have h := List.all_eq_true.mp h1 c hc
  rcases Bool.eq_false_or_eq_true (isCode c) with hi | hi
  · exact h2 c (List.mem_filter.mpr ⟨hc, hi⟩)
  · simpa [hi] using h
set_option maxRecDepth 65536 in
theorem w_c0 : (Jvm.Cond.code x code maxLocals ret).before args0 about1 = true := code_word (m := ⟨1, 1⟩) (meth := k1m1) (c := k1c1) (by decide +kernel) rfl rfl rfl (by decide +kernel)
set_option maxRecDepth 65536 in
theorem w_c1 : (Jvm.Cond.code ({ cls := "com/example/halter/halter/SlidingSum", name := "<init>", desc := "(JJ)V" } : Jvm.MethodName) prog_19_method_1_code (5 : Nat) (Option.none : Option Jvm.ClassFile.FieldType)).before args0 about1 = true := code_word (m := ⟨2, 0⟩) (meth := k2m0) (c := k2c0) (by decide +kernel) rfl rfl rfl (by decide +kernel)
set_option maxRecDepth 65536 in
theorem w_c2 : (Jvm.Cond.code ({ cls := "java/lang/Object", name := "<init>", desc := "()V" } : Jvm.MethodName) object_method_1_code (1 : Nat) (Option.none : Option Jvm.ClassFile.FieldType)).before args0 about1 = true := code_word (m := ⟨0, 0⟩) (meth := k0m0) (c := k0c0) (by decide +kernel) rfl rfl rfl (by decide +kernel)
set_option maxRecDepth 65536 in
theorem w_c3 : (Jvm.Cond.code ({ cls := "com/example/halter/halter/SlidingSum", name := "givenAfter", desc := "(J)Z" } : Jvm.MethodName) prog_19_method_5_code (3 : Nat) (Option.some Jvm.ClassFile.FieldType.boolean)).before args0 about1 = true := code_word (m := ⟨2, 3⟩) (meth := k2m3) (c := k2c3) (by decide +kernel) rfl rfl rfl (by decide +kernel)
set_option maxRecDepth 65536 in
theorem w_c4 : (Jvm.Cond.code ({ cls := "com/example/halter/halter/SlidingSum", name := "add", desc := "(JJ)V" } : Jvm.MethodName) prog_19_method_3_code (5 : Nat) (Option.none : Option Jvm.ClassFile.FieldType)).before args0 about1 = true := code_word (m := ⟨2, 2⟩) (meth := k2m2) (c := k2c2) (by decide +kernel) rfl rfl rfl (by decide +kernel)
set_option maxRecDepth 65536 in
theorem w_c5 : (Jvm.Cond.code ({ cls := "com/example/halter/halter/SlidingSum", name := "catchUp", desc := "(J)V" } : Jvm.MethodName) prog_19_method_7_code (3 : Nat) (Option.none : Option Jvm.ClassFile.FieldType)).before args0 about1 = true := code_word (m := ⟨2, 4⟩) (meth := k2m4) (c := k2c4) (by decide +kernel) rfl rfl rfl (by decide +kernel)
set_option maxRecDepth 65536 in
theorem w_c6 : (Jvm.Cond.code ({ cls := "com/example/halter/halter/SlidingSum", name := "forgetWhatLeftTheWindow", desc := "()V" } : Jvm.MethodName) prog_19_method_8_code (2 : Nat) (Option.none : Option Jvm.ClassFile.FieldType)).before args0 about1 = true := code_word (m := ⟨2, 5⟩) (meth := k2m5) (c := k2c5) (by decide +kernel) rfl rfl rfl (by decide +kernel)
set_option maxRecDepth 65536 in
theorem w_c7 : (Jvm.Cond.code ({ cls := "com/example/halter/halter/SlidingSum", name := "remember", desc := "(J)V" } : Jvm.MethodName) prog_19_method_9_code (4 : Nat) (Option.none : Option Jvm.ClassFile.FieldType)).before args0 about1 = true := code_word (m := ⟨2, 6⟩) (meth := k2m6) (c := k2c6) (by decide +kernel) rfl rfl rfl (by decide +kernel)
set_option maxRecDepth 65536 in
theorem w_c8 : (Jvm.Cond.code ({ cls := "com/example/halter/halter/SlidingSum", name := "grow", desc := "()V" } : Jvm.MethodName) prog_19_method_10_code (3 : Nat) (Option.none : Option Jvm.ClassFile.FieldType)).before args0 about1 = true := code_word (m := ⟨2, 7⟩) (meth := k2m7) (c := k2c7) (by decide +kernel) rfl rfl rfl (by decide +kernel)
set_option maxRecDepth 65536 in
theorem w_c9 : (Jvm.Cond.code ({ cls := "java/lang/Math", name := "max", desc := "(JJ)J" } : Jvm.MethodName) jdk_29_method_66_code (4 : Nat) (Option.some Jvm.ClassFile.FieldType.long)).before args0 about1 = true := code_word (m := ⟨3, 1⟩) (meth := k3m1) (c := k3c1) (by decide +kernel) rfl rfl rfl (by decide +kernel)
set_option maxRecDepth 65536 in
theorem w_c10 : (Jvm.Cond.code ({ cls := "java/lang/Math", name := "min", desc := "(JJ)J" } : Jvm.MethodName) jdk_29_method_70_code (4 : Nat) (Option.some Jvm.ClassFile.FieldType.long)).before args0 about1 = true := code_word (m := ⟨3, 2⟩) (meth := k3m2) (c := k3c2) (by decide +kernel) rfl rfl rfl (by decide +kernel)
set_option maxRecDepth 65536 in
theorem w_c11 : (Jvm.Cond.code ({ cls := "com/example/halter/halter/SlidingSum", name := "moveTo", desc := "(I)V" } : Jvm.MethodName) prog_19_method_11_code (5 : Nat) (Option.none : Option Jvm.ClassFile.FieldType)).before args0 about1 = true := code_word (m := ⟨2, 8⟩) (meth := k2m8) (c := k2c8) (by decide +kernel) rfl rfl rfl (by decide +kernel)
set_option maxRecDepth 65536 in
theorem w_c12 : (Jvm.Cond.code ({ cls := "com/example/halter/halter/SlidingSum", name := "place", desc := "(I)I" } : Jvm.MethodName) prog_19_method_12_code (3 : Nat) (Option.some Jvm.ClassFile.FieldType.int)).before args0 about1 = true := code_word (m := ⟨2, 9⟩) (meth := k2m9) (c := k2c9) (by decide +kernel) rfl rfl rfl (by decide +kernel)
set_option maxRecDepth 65536 in
theorem w_c13 : (Jvm.Cond.code ({ cls := "com/example/halter/halter/SlidingSum", name := "at", desc := "(J)J" } : Jvm.MethodName) prog_19_method_2_code (3 : Nat) (Option.some Jvm.ClassFile.FieldType.long)).before args0 about1 = true := code_word (m := ⟨2, 1⟩) (meth := k2m1) (c := k2c1) (by decide +kernel) rfl rfl rfl (by decide +kernel)
def codes1 : List Jvm.Cond := [Jvm.Cond.code x code maxLocals ret, Jvm.Cond.code ({ cls := "com/example/halter/halter/SlidingSum", name := "<init>", desc := "(JJ)V" } : Jvm.MethodName) prog_19_method_1_code (5 : Nat) (Option.none : Option Jvm.ClassFile.FieldType), Jvm.Cond.code ({ cls := "java/lang/Object", name := "<init>", desc := "()V" } : Jvm.MethodName) object_method_1_code (1 : Nat) (Option.none : Option Jvm.ClassFile.FieldType), Jvm.Cond.code ({ cls := "com/example/halter/halter/SlidingSum", name := "givenAfter", desc := "(J)Z" } : Jvm.MethodName) prog_19_method_5_code (3 : Nat) (Option.some Jvm.ClassFile.FieldType.boolean), Jvm.Cond.code ({ cls := "com/example/halter/halter/SlidingSum", name := "add", desc := "(JJ)V" } : Jvm.MethodName) prog_19_method_3_code (5 : Nat) (Option.none : Option Jvm.ClassFile.FieldType), Jvm.Cond.code ({ cls := "com/example/halter/halter/SlidingSum", name := "catchUp", desc := "(J)V" } : Jvm.MethodName) prog_19_method_7_code (3 : Nat) (Option.none : Option Jvm.ClassFile.FieldType), Jvm.Cond.code ({ cls := "com/example/halter/halter/SlidingSum", name := "forgetWhatLeftTheWindow", desc := "()V" } : Jvm.MethodName) prog_19_method_8_code (2 : Nat) (Option.none : Option Jvm.ClassFile.FieldType), Jvm.Cond.code ({ cls := "com/example/halter/halter/SlidingSum", name := "remember", desc := "(J)V" } : Jvm.MethodName) prog_19_method_9_code (4 : Nat) (Option.none : Option Jvm.ClassFile.FieldType), Jvm.Cond.code ({ cls := "com/example/halter/halter/SlidingSum", name := "grow", desc := "()V" } : Jvm.MethodName) prog_19_method_10_code (3 : Nat) (Option.none : Option Jvm.ClassFile.FieldType), Jvm.Cond.code ({ cls := "java/lang/Math", name := "max", desc := "(JJ)J" } : Jvm.MethodName) jdk_29_method_66_code (4 : Nat) (Option.some Jvm.ClassFile.FieldType.long), Jvm.Cond.code ({ cls := "java/lang/Math", name := "min", desc := "(JJ)J" } : Jvm.MethodName) jdk_29_method_70_code (4 : Nat) (Option.some Jvm.ClassFile.FieldType.long), Jvm.Cond.code ({ cls := "com/example/halter/halter/SlidingSum", name := "moveTo", desc := "(I)V" } : Jvm.MethodName) prog_19_method_11_code (5 : Nat) (Option.none : Option Jvm.ClassFile.FieldType), Jvm.Cond.code ({ cls := "com/example/halter/halter/SlidingSum", name := "place", desc := "(I)I" } : Jvm.MethodName) prog_19_method_12_code (3 : Nat) (Option.some Jvm.ClassFile.FieldType.int), Jvm.Cond.code ({ cls := "com/example/halter/halter/SlidingSum", name := "at", desc := "(J)J" } : Jvm.MethodName) prog_19_method_2_code (3 : Nat) (Option.some Jvm.ClassFile.FieldType.long)]
set_option maxRecDepth 65536 in
theorem codes_eq : words1.filter isCode = codes1 := rfl
theorem w_codes : ∀ c ∈ words1.filter isCode, c.before args0 about1 = true := by
  rw [codes_eq]
  intro c hc
  simp only [codes1, List.mem_cons, List.not_mem_nil, or_false] at hc
  rcases hc with rfl | rfl | rfl | rfl | rfl | rfl | rfl | rfl | rfl | rfl | rfl | rfl | rfl | rfl
  · exact w_c0
  · exact w_c1
  · exact w_c2
  · exact w_c3
  · exact w_c4
  · exact w_c5
  · exact w_c6
  · exact w_c7
  · exact w_c8
  · exact w_c9
  · exact w_c10
  · exact w_c11
  · exact w_c12
  · exact w_c13
set_option maxRecDepth 65536 in
theorem w_t1 : (words1.take 24).all (fun c => isCode c || c.before args0 about1) = true := by decide +kernel
set_option maxRecDepth 65536 in
theorem w_t2 : ((words1.drop 24).take 24).all (fun c => isCode c || c.before args0 about1) = true := by decide +kernel
set_option maxRecDepth 65536 in
theorem w_t3 : (((words1.drop 24).drop 24).take 24).all (fun c => isCode c || c.before args0 about1) = true := by decide +kernel
set_option maxRecDepth 65536 in
theorem w_t4 : (((words1.drop 24).drop 24).drop 24).all (fun c => isCode c || c.before args0 about1) = true := by decide +kernel
theorem w_tables : (allAtoms (Jvm.Cond.code x code maxLocals ret :: tables_1)).before args0 about1 = true := by
  rw [allAtoms_all]
  show words1.all (fun c => c.before args0 about1) = true
  refine all_split ?_ w_codes
  rw [← List.take_append_drop 24 words1, List.all_append, w_t1, ← List.take_append_drop 24 (words1.drop 24), List.all_append, w_t2, ← List.take_append_drop 24 ((words1.drop 24).drop 24), List.all_append, w_t3, w_t4]
  rfl
set_option maxRecDepth 65536 in
theorem w_case : (Jvm.Cond.and given_1 narrow_1).before args0 about1 = true := by decide +kernel
theorem w_applies : (headSpec (Jvm.Cond.code x code maxLocals ret :: tables_1) room_1).applies x e0.platform about1 = true :=
  (Spec.applies_iff w_frames).mpr ⟨w_running, w_runnable, w_alone, w_named, w_hears, w_ripe, w_room, w_tables⟩
theorem atStart : AtStart classFile x code maxLocals ret World_1 tables_1 room_1 Calls_1 rest_1 Pre_1 launch0 p0 e0 about1 theMethod args0 below0 :=
  ⟨lists_1, trivial, launch0.admits_env _ _ _, launch0.least_env, fairChoices_fair.cas, fairChoices_fair.clock, w_frames, w_args, w_heap, w_applies, trivial, trivial, w_case⟩
end start1
theorem witness_1 : WitnessClaimed_1 := ⟨start1.p0, start1.e0, start1.about1, start1.theMethod, start1.args0, start1.below0, start1.atStart⟩
end Jvm.Pilot.@@N@@
