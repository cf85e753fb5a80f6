import JvmDerived
import JvmDerived.Pilot.@@N@@Statement
import JvmDerived.Pilot.@@N@@Code
set_option linter.unusedVariables false
set_option linter.unusedSimpArgs false
set_option maxRecDepth 65536
set_option maxHeartbeats 40000000
namespace Jvm.OwnK
open Sem ClassFile Op Lib Jvm.Stand Jvm.Free Jvm.LawKit Jvm.RoadKit
section
variable {p : Program} {l : Launch} {e : Env} {R : Room} {s : State} {m : MethodId} {args : Array Value} {below : List Frame} {meth : Method} {c : Code} {T : State} {locs : List Loc} {cells slots : Nat} {Cn Sn : Nat} {Q : Option Value -> Heap -> List Loc -> Prop}
abbrev jv (x : Int64) : Slot := .val (.long x)
abbrev u_ : Slot := .unset
abbrev s_ : Slot := .second
/-- from the frame f the run comes to an end that Q takes -/
def KEnds (p : Program) (e : Env) (below : List Frame) (s : State) (Cn Sn : Nat) (Q : Option Value -> Heap -> List Loc -> Prop) (T : State) (f : JFrame) : Prop :=
  ∃ s₂ o, Steps p.tables e below (T.setTop f) s₂ /\ s₂.status = .running /\ Ended s₂ below o /\ ∃ v L, o = .returned v /\ Q v s₂.heap L /\ FrameEnd s o s₂ L Cn Sn
theorem k_via {T' : State} {f f' : JFrame} (st : ∀ t, Steps p.tables e below (T'.setTop f') t -> Steps p.tables e below (T.setTop f) t) (k : KEnds p e below s Cn Sn Q T' f') : KEnds p e below s Cn Sn Q T f := by
  obtain ⟨s₂, o, h, r⟩ := k
  exact ⟨s₂, o, st _ h, r⟩
theorem k_w {ws : List Cond} {a0 : Array Value} {Z : State} (hw : ∀ d ∈ ws, d.before a0 Z = true) {d : Cond} (i : Nat) (h : ws[i]? = some d) : d.before a0 Z = true := hw _ (List.mem_of_getElem? h)
theorem k_zw {n0 : Nat} {h h' : Heap} {a : Addr} {sl : Nat} {v : Value} (Z0 : n0 <= h.size) (W : Wr h h' a sl v) : n0 <= h'.size := Nat.le_trans Z0 (Nat.le_of_eq W.size.symm)
theorem k_n1 {pc : Nat} {Ls : Array Slot} {v : Value} {St : List Value} (k : KEnds p e below s Cn Sn Q T (mkF m pc Ls (v :: St))) : KEnds p e below s Cn Sn Q T (mkF m pc Ls ((some v).toList ++ St)) := k
theorem k_n0 {pc : Nat} {Ls : Array Slot} {St : List Value} (k : KEnds p e below s Cn Sn Q T (mkF m pc Ls St)) : KEnds p e below s Cn Sn Q T (mkF m pc Ls ((none : Option Value).toList ++ St)) := k
theorem k_iloadN (X : Stand p l e R s m args below meth c T locs cells slots) (hx : p.tables.exec = Jvm.exec) (pc' : Nat) {pc : Nat} {Ls : Array Slot} {St : List Value} {i : Fin 4} {v : Int32} (hd : decode c.code pc = .ok (.iload_n i, 1)) (hl : Ls[i.val]? = some (.val (.int v))) (k : KEnds p e below s Cn Sn Q T (mkF m pc' Ls (.int v :: St))) (hpc : pc + 1 = pc' := by rfl) : KEnds p e below s Cn Sn Q T (mkF m pc Ls (St)) := by
  subst hpc; exact k_via (fun t h => XS.iloadN X.here hx rfl hd hl h) k
theorem k_iload (X : Stand p l e R s m args below meth c T locs cells slots) (hx : p.tables.exec = Jvm.exec) (pc' : Nat) {pc : Nat} {Ls : Array Slot} {St : List Value} {i : Nat} {v : Int32} (hd : decode c.code pc = .ok (.iload i, 2)) (hl : Ls[i]? = some (.val (.int v))) (k : KEnds p e below s Cn Sn Q T (mkF m pc' Ls (.int v :: St))) (hpc : pc + 2 = pc' := by rfl) : KEnds p e below s Cn Sn Q T (mkF m pc Ls (St)) := by
  subst hpc; exact k_via (fun t h => XS.iload X.here hx rfl hd hl h) k
theorem k_istoreN (X : Stand p l e R s m args below meth c T locs cells slots) (hx : p.tables.exec = Jvm.exec) (pc' : Nat) {pc : Nat} {Ls : Array Slot} {St : List Value} {i : Fin 4} {v : Int32} {Ls' : Array Slot} (hd : decode c.code pc = .ok (.istore_n i, 1)) (hl : storeLocals Ls i.val (.int v) = some Ls') (k : KEnds p e below s Cn Sn Q T (mkF m pc' Ls' (St))) (hpc : pc + 1 = pc' := by rfl) : KEnds p e below s Cn Sn Q T (mkF m pc Ls (.int v :: St)) := by
  subst hpc; exact k_via (fun t h => XS.istoreN X.here hx rfl hd rfl hl h) k
theorem k_istore (X : Stand p l e R s m args below meth c T locs cells slots) (hx : p.tables.exec = Jvm.exec) (pc' : Nat) {pc : Nat} {Ls : Array Slot} {St : List Value} {i : Nat} {v : Int32} {Ls' : Array Slot} (hd : decode c.code pc = .ok (.istore i, 2)) (hl : storeLocals Ls i (.int v) = some Ls') (k : KEnds p e below s Cn Sn Q T (mkF m pc' Ls' (St))) (hpc : pc + 2 = pc' := by rfl) : KEnds p e below s Cn Sn Q T (mkF m pc Ls (.int v :: St)) := by
  subst hpc; exact k_via (fun t h => XS.istore X.here hx rfl hd rfl hl h) k
theorem k_lloadN (X : Stand p l e R s m args below meth c T locs cells slots) (hx : p.tables.exec = Jvm.exec) (pc' : Nat) {pc : Nat} {Ls : Array Slot} {St : List Value} {i : Fin 4} {v : Int64} (hd : decode c.code pc = .ok (.lload_n i, 1)) (hl : Ls[i.val]? = some (.val (.long v))) (k : KEnds p e below s Cn Sn Q T (mkF m pc' Ls (.long v :: St))) (hpc : pc + 1 = pc' := by rfl) : KEnds p e below s Cn Sn Q T (mkF m pc Ls (St)) := by
  subst hpc; exact k_via (fun t h => XS.lloadN X.here hx rfl hd hl h) k
theorem k_lload (X : Stand p l e R s m args below meth c T locs cells slots) (hx : p.tables.exec = Jvm.exec) (pc' : Nat) {pc : Nat} {Ls : Array Slot} {St : List Value} {i : Nat} {v : Int64} (hd : decode c.code pc = .ok (.lload i, 2)) (hl : Ls[i]? = some (.val (.long v))) (k : KEnds p e below s Cn Sn Q T (mkF m pc' Ls (.long v :: St))) (hpc : pc + 2 = pc' := by rfl) : KEnds p e below s Cn Sn Q T (mkF m pc Ls (St)) := by
  subst hpc; exact k_via (fun t h => XS.lload X.here hx rfl hd hl h) k
theorem k_lstoreN (X : Stand p l e R s m args below meth c T locs cells slots) (hx : p.tables.exec = Jvm.exec) (pc' : Nat) {pc : Nat} {Ls : Array Slot} {St : List Value} {i : Fin 4} {v : Int64} {Ls' : Array Slot} (hd : decode c.code pc = .ok (.lstore_n i, 1)) (hl : storeLocals Ls i.val (.long v) = some Ls') (k : KEnds p e below s Cn Sn Q T (mkF m pc' Ls' (St))) (hpc : pc + 1 = pc' := by rfl) : KEnds p e below s Cn Sn Q T (mkF m pc Ls (.long v :: St)) := by
  subst hpc; exact k_via (fun t h => XS.lstoreN X.here hx rfl hd rfl hl h) k
theorem k_lstore (X : Stand p l e R s m args below meth c T locs cells slots) (hx : p.tables.exec = Jvm.exec) (pc' : Nat) {pc : Nat} {Ls : Array Slot} {St : List Value} {i : Nat} {v : Int64} {Ls' : Array Slot} (hd : decode c.code pc = .ok (.lstore i, 2)) (hl : storeLocals Ls i (.long v) = some Ls') (k : KEnds p e below s Cn Sn Q T (mkF m pc' Ls' (St))) (hpc : pc + 2 = pc' := by rfl) : KEnds p e below s Cn Sn Q T (mkF m pc Ls (.long v :: St)) := by
  subst hpc; exact k_via (fun t h => XS.lstore X.here hx rfl hd rfl hl h) k
theorem k_aloadN (X : Stand p l e R s m args below meth c T locs cells slots) (hx : p.tables.exec = Jvm.exec) (pc' : Nat) {pc : Nat} {Ls : Array Slot} {St : List Value} {i : Fin 4} {v : Value} (hd : decode c.code pc = .ok (.aload_n i, 1)) (hl : Ls[i.val]? = some (.val v)) (hv : v.isRef = true) (k : KEnds p e below s Cn Sn Q T (mkF m pc' Ls (v :: St))) (hpc : pc + 1 = pc' := by rfl) : KEnds p e below s Cn Sn Q T (mkF m pc Ls (St)) := by
  subst hpc; exact k_via (fun t h => XS.aloadN X.here hx rfl hd hl hv h) k
theorem k_aload (X : Stand p l e R s m args below meth c T locs cells slots) (hx : p.tables.exec = Jvm.exec) (pc' : Nat) {pc : Nat} {Ls : Array Slot} {St : List Value} {i : Nat} {v : Value} (hd : decode c.code pc = .ok (.aload i, 2)) (hl : Ls[i]? = some (.val v)) (hv : v.isRef = true) (k : KEnds p e below s Cn Sn Q T (mkF m pc' Ls (v :: St))) (hpc : pc + 2 = pc' := by rfl) : KEnds p e below s Cn Sn Q T (mkF m pc Ls (St)) := by
  subst hpc; exact k_via (fun t h => XS.aload X.here hx rfl hd hl hv h) k
theorem k_astoreN (X : Stand p l e R s m args below meth c T locs cells slots) (hx : p.tables.exec = Jvm.exec) (pc' : Nat) {pc : Nat} {Ls : Array Slot} {St : List Value} {i : Fin 4} {v : Value} {Ls' : Array Slot} (hd : decode c.code pc = .ok (.astore_n i, 1)) (hv : v.isRef = true) (hl : storeLocals Ls i.val v = some Ls') (k : KEnds p e below s Cn Sn Q T (mkF m pc' Ls' (St))) (hpc : pc + 1 = pc' := by rfl) : KEnds p e below s Cn Sn Q T (mkF m pc Ls (v :: St)) := by
  subst hpc; exact k_via (fun t h => XS.astoreN X.here hx rfl hd rfl hv hl h) k
theorem k_astore (X : Stand p l e R s m args below meth c T locs cells slots) (hx : p.tables.exec = Jvm.exec) (pc' : Nat) {pc : Nat} {Ls : Array Slot} {St : List Value} {i : Nat} {v : Value} {Ls' : Array Slot} (hd : decode c.code pc = .ok (.astore i, 2)) (hv : v.isRef = true) (hl : storeLocals Ls i v = some Ls') (k : KEnds p e below s Cn Sn Q T (mkF m pc' Ls' (St))) (hpc : pc + 2 = pc' := by rfl) : KEnds p e below s Cn Sn Q T (mkF m pc Ls (v :: St)) := by
  subst hpc; exact k_via (fun t h => XS.astore X.here hx rfl hd rfl hv hl h) k
theorem k_iconst (X : Stand p l e R s m args below meth c T locs cells slots) (hx : p.tables.exec = Jvm.exec) (pc' : Nat) {pc : Nat} {Ls : Array Slot} {St : List Value} {i : Int} {z : Int32} (hd : decode c.code pc = .ok (.iconst i, 1)) (hz : Int32.ofInt i = z) (k : KEnds p e below s Cn Sn Q T (mkF m pc' Ls (.int z :: St))) (hpc : pc + 1 = pc' := by rfl) : KEnds p e below s Cn Sn Q T (mkF m pc Ls St) := by
  subst hpc hz; exact k_via (fun t h => XS.iconst X.here hx rfl hd h) k
theorem k_bipush (X : Stand p l e R s m args below meth c T locs cells slots) (hx : p.tables.exec = Jvm.exec) (pc' : Nat) {pc : Nat} {Ls : Array Slot} {St : List Value} {i : Int} {z : Int32} (hd : decode c.code pc = .ok (.bipush i, 2)) (hz : (Int8.ofInt i).toInt32 = z) (k : KEnds p e below s Cn Sn Q T (mkF m pc' Ls (.int z :: St))) (hpc : pc + 2 = pc' := by rfl) : KEnds p e below s Cn Sn Q T (mkF m pc Ls St) := by
  subst hpc hz; exact k_via (fun t h => XS.bipush X.here hx rfl hd h) k
theorem k_lconst (X : Stand p l e R s m args below meth c T locs cells slots) (hx : p.tables.exec = Jvm.exec) (pc' : Nat) {pc : Nat} {Ls : Array Slot} {St : List Value} {i : Fin 2} {z : Int64} (hd : decode c.code pc = .ok (.lconst i, 1)) (hz : Int64.ofNat i = z) (k : KEnds p e below s Cn Sn Q T (mkF m pc' Ls (.long z :: St))) (hpc : pc + 1 = pc' := by rfl) : KEnds p e below s Cn Sn Q T (mkF m pc Ls St) := by
  subst hpc hz; exact k_via (fun t h => XS.lconst X.here hx rfl hd h) k
theorem k_iaddL (X : Stand p l e R s m args below meth c T locs cells slots) (hx : p.tables.exec = Jvm.exec) (pc' : Nat) {pc : Nat} {Ls : Array Slot} {St : List Value} {x y : Int32} {z : Int32} (hd : decode c.code pc = .ok (.iadd, 1))  (hz : x + y = z) (k : KEnds p e below s Cn Sn Q T (mkF m pc' Ls (.int z :: St))) (hpc : pc + 1 = pc' := by rfl) : KEnds p e below s Cn Sn Q T (mkF m pc Ls (.int y :: .int x :: St)) := by
  subst hpc hz; exact k_via (fun t h => XS.iadd X.here hx rfl hd rfl h) k
theorem k_iadd (X : Stand p l e R s m args below meth c T locs cells slots) (hx : p.tables.exec = Jvm.exec) (pc' : Nat) {pc : Nat} {Ls : Array Slot} {St : List Value} {x y : Int32} (hd : decode c.code pc = .ok (.iadd, 1))  (k : ∀ z : Int32, z = x + y -> KEnds p e below s Cn Sn Q T (mkF m pc' Ls (.int z :: St))) (hpc : pc + 1 = pc' := by rfl) : KEnds p e below s Cn Sn Q T (mkF m pc Ls (.int y :: .int x :: St)) := by
  subst hpc; exact k_via (fun t h => XS.iadd X.here hx rfl hd rfl h) (k _ rfl)
theorem k_isubL (X : Stand p l e R s m args below meth c T locs cells slots) (hx : p.tables.exec = Jvm.exec) (pc' : Nat) {pc : Nat} {Ls : Array Slot} {St : List Value} {x y : Int32} {z : Int32} (hd : decode c.code pc = .ok (.isub, 1))  (hz : x - y = z) (k : KEnds p e below s Cn Sn Q T (mkF m pc' Ls (.int z :: St))) (hpc : pc + 1 = pc' := by rfl) : KEnds p e below s Cn Sn Q T (mkF m pc Ls (.int y :: .int x :: St)) := by
  subst hpc hz; exact k_via (fun t h => XS.isub X.here hx rfl hd rfl h) k
theorem k_iand (X : Stand p l e R s m args below meth c T locs cells slots) (hx : p.tables.exec = Jvm.exec) (pc' : Nat) {pc : Nat} {Ls : Array Slot} {St : List Value} {x y : Int32} (hd : decode c.code pc = .ok (.iand, 1))  (k : ∀ z : Int32, z = x &&& y -> KEnds p e below s Cn Sn Q T (mkF m pc' Ls (.int z :: St))) (hpc : pc + 1 = pc' := by rfl) : KEnds p e below s Cn Sn Q T (mkF m pc Ls (.int y :: .int x :: St)) := by
  subst hpc; exact k_via (fun t h => XS.iand X.here hx rfl hd rfl h) (k _ rfl)
theorem k_laddL (X : Stand p l e R s m args below meth c T locs cells slots) (hx : p.tables.exec = Jvm.exec) (pc' : Nat) {pc : Nat} {Ls : Array Slot} {St : List Value} {x y : Int64} {z : Int64} (hd : decode c.code pc = .ok (.ladd, 1))  (hz : x + y = z) (k : KEnds p e below s Cn Sn Q T (mkF m pc' Ls (.long z :: St))) (hpc : pc + 1 = pc' := by rfl) : KEnds p e below s Cn Sn Q T (mkF m pc Ls (.long y :: .long x :: St)) := by
  subst hpc hz; exact k_via (fun t h => XS.ladd X.here hx rfl hd rfl h) k
theorem k_ladd (X : Stand p l e R s m args below meth c T locs cells slots) (hx : p.tables.exec = Jvm.exec) (pc' : Nat) {pc : Nat} {Ls : Array Slot} {St : List Value} {x y : Int64} (hd : decode c.code pc = .ok (.ladd, 1))  (k : ∀ z : Int64, z = x + y -> KEnds p e below s Cn Sn Q T (mkF m pc' Ls (.long z :: St))) (hpc : pc + 1 = pc' := by rfl) : KEnds p e below s Cn Sn Q T (mkF m pc Ls (.long y :: .long x :: St)) := by
  subst hpc; exact k_via (fun t h => XS.ladd X.here hx rfl hd rfl h) (k _ rfl)
theorem k_lsubL (X : Stand p l e R s m args below meth c T locs cells slots) (hx : p.tables.exec = Jvm.exec) (pc' : Nat) {pc : Nat} {Ls : Array Slot} {St : List Value} {x y : Int64} {z : Int64} (hd : decode c.code pc = .ok (.lsub, 1))  (hz : x - y = z) (k : KEnds p e below s Cn Sn Q T (mkF m pc' Ls (.long z :: St))) (hpc : pc + 1 = pc' := by rfl) : KEnds p e below s Cn Sn Q T (mkF m pc Ls (.long y :: .long x :: St)) := by
  subst hpc hz; exact k_via (fun t h => XS.lsub X.here hx rfl hd rfl h) k
theorem k_lsub (X : Stand p l e R s m args below meth c T locs cells slots) (hx : p.tables.exec = Jvm.exec) (pc' : Nat) {pc : Nat} {Ls : Array Slot} {St : List Value} {x y : Int64} (hd : decode c.code pc = .ok (.lsub, 1))  (k : ∀ z : Int64, z = x - y -> KEnds p e below s Cn Sn Q T (mkF m pc' Ls (.long z :: St))) (hpc : pc + 1 = pc' := by rfl) : KEnds p e below s Cn Sn Q T (mkF m pc Ls (.long y :: .long x :: St)) := by
  subst hpc; exact k_via (fun t h => XS.lsub X.here hx rfl hd rfl h) (k _ rfl)
theorem k_lmulL (X : Stand p l e R s m args below meth c T locs cells slots) (hx : p.tables.exec = Jvm.exec) (pc' : Nat) {pc : Nat} {Ls : Array Slot} {St : List Value} {x y : Int64} {z : Int64} (hd : decode c.code pc = .ok (.lmul, 1))  (hz : x * y = z) (k : KEnds p e below s Cn Sn Q T (mkF m pc' Ls (.long z :: St))) (hpc : pc + 1 = pc' := by rfl) : KEnds p e below s Cn Sn Q T (mkF m pc Ls (.long y :: .long x :: St)) := by
  subst hpc hz; exact k_via (fun t h => XS.lmul X.here hx rfl hd rfl h) k
theorem k_land (X : Stand p l e R s m args below meth c T locs cells slots) (hx : p.tables.exec = Jvm.exec) (pc' : Nat) {pc : Nat} {Ls : Array Slot} {St : List Value} {x y : Int64} (hd : decode c.code pc = .ok (.land, 1))  (k : ∀ z : Int64, z = x &&& y -> KEnds p e below s Cn Sn Q T (mkF m pc' Ls (.long z :: St))) (hpc : pc + 1 = pc' := by rfl) : KEnds p e below s Cn Sn Q T (mkF m pc Ls (.long y :: .long x :: St)) := by
  subst hpc; exact k_via (fun t h => XS.land X.here hx rfl hd rfl h) (k _ rfl)
theorem k_iushr (X : Stand p l e R s m args below meth c T locs cells slots) (hx : p.tables.exec = Jvm.exec) (pc' : Nat) {pc : Nat} {Ls : Array Slot} {St : List Value} {x y : Int32} (hd : decode c.code pc = .ok (.iushr, 1))  (k : ∀ z : Int32, z = ((x.toUInt32 >>> (y &&& 31).toUInt32).toInt32) -> KEnds p e below s Cn Sn Q T (mkF m pc' Ls (.int z :: St))) (hpc : pc + 1 = pc' := by rfl) : KEnds p e below s Cn Sn Q T (mkF m pc Ls (.int y :: .int x :: St)) := by
  subst hpc; exact k_via (fun t h => XS.iushr X.here hx rfl hd rfl h) (k _ rfl)
theorem k_lshr (X : Stand p l e R s m args below meth c T locs cells slots) (hx : p.tables.exec = Jvm.exec) (pc' : Nat) {pc : Nat} {Ls : Array Slot} {St : List Value} {x : Int64} {y : Int32} (hd : decode c.code pc = .ok (.lshr, 1))  (k : ∀ z : Int64, z = x >>> (y &&& 0x3f).toInt64 -> KEnds p e below s Cn Sn Q T (mkF m pc' Ls (.long z :: St))) (hpc : pc + 1 = pc' := by rfl) : KEnds p e below s Cn Sn Q T (mkF m pc Ls (.int y :: .long x :: St)) := by
  subst hpc; exact k_via (fun t h => XS.lshr X.here hx rfl hd rfl h) (k _ rfl)
theorem k_irem (X : Stand p l e R s m args below meth c T locs cells slots) (hx : p.tables.exec = Jvm.exec) (pc' : Nat) {pc : Nat} {Ls : Array Slot} {St : List Value} {x y : Int32} (hd : decode c.code pc = .ok (.irem, 1)) (hy : y ≠ 0) (k : ∀ z : Int32, z = x % y -> KEnds p e below s Cn Sn Q T (mkF m pc' Ls (.int z :: St))) (hpc : pc + 1 = pc' := by rfl) : KEnds p e below s Cn Sn Q T (mkF m pc Ls (.int y :: .int x :: St)) := by
  subst hpc; exact k_via (fun t h => iremM X hx rfl hd rfl hy h) (k _ rfl)
theorem k_i2lL (X : Stand p l e R s m args below meth c T locs cells slots) (hx : p.tables.exec = Jvm.exec) (pc' : Nat) {pc : Nat} {Ls : Array Slot} {St : List Value} {x : Int32} {z : Int64} (hd : decode c.code pc = .ok (.i2l, 1))  (hz : x.toInt64 = z) (k : KEnds p e below s Cn Sn Q T (mkF m pc' Ls (.long z :: St))) (hpc : pc + 1 = pc' := by rfl) : KEnds p e below s Cn Sn Q T (mkF m pc Ls (.int x :: St)) := by
  subst hpc hz; exact k_via (fun t h => XS.i2l X.here hx rfl hd rfl h) k
theorem k_i2l (X : Stand p l e R s m args below meth c T locs cells slots) (hx : p.tables.exec = Jvm.exec) (pc' : Nat) {pc : Nat} {Ls : Array Slot} {St : List Value} {x : Int32} (hd : decode c.code pc = .ok (.i2l, 1))  (k : ∀ z : Int64, z = x.toInt64 -> KEnds p e below s Cn Sn Q T (mkF m pc' Ls (.long z :: St))) (hpc : pc + 1 = pc' := by rfl) : KEnds p e below s Cn Sn Q T (mkF m pc Ls (.int x :: St)) := by
  subst hpc; exact k_via (fun t h => XS.i2l X.here hx rfl hd rfl h) (k _ rfl)
theorem k_l2i (X : Stand p l e R s m args below meth c T locs cells slots) (hx : p.tables.exec = Jvm.exec) (pc' : Nat) {pc : Nat} {Ls : Array Slot} {St : List Value} {x : Int64} (hd : decode c.code pc = .ok (.l2i, 1))  (k : ∀ z : Int32, z = x.toInt32 -> KEnds p e below s Cn Sn Q T (mkF m pc' Ls (.int z :: St))) (hpc : pc + 1 = pc' := by rfl) : KEnds p e below s Cn Sn Q T (mkF m pc Ls (.long x :: St)) := by
  subst hpc; exact k_via (fun t h => XS.l2i X.here hx rfl hd rfl h) (k _ rfl)
theorem k_dup (X : Stand p l e R s m args below meth c T locs cells slots) (hx : p.tables.exec = Jvm.exec) (pc' : Nat) {pc : Nat} {Ls : Array Slot} {St : List Value} {v : Value} (hd : decode c.code pc = .ok (.dup, 1)) (hv : v.category = 1) (k : KEnds p e below s Cn Sn Q T (mkF m pc' Ls (v :: v :: St))) (hpc : pc + 1 = pc' := by rfl) : KEnds p e below s Cn Sn Q T (mkF m pc Ls (v :: St)) := by
  subst hpc; exact k_via (fun t h => XS.dup X.here hx rfl hd rfl hv h) k
theorem k_dup2 (X : Stand p l e R s m args below meth c T locs cells slots) (hx : p.tables.exec = Jvm.exec) (pc' : Nat) {pc : Nat} {Ls : Array Slot} {St : List Value} {v w : Value} (hd : decode c.code pc = .ok (.dup2, 1)) (hv : v.category = 1) (hw : w.category = 1) (k : KEnds p e below s Cn Sn Q T (mkF m pc' Ls (v :: w :: v :: w :: St))) (hpc : pc + 1 = pc' := by rfl) : KEnds p e below s Cn Sn Q T (mkF m pc Ls (v :: w :: St)) := by
  subst hpc; exact k_via (fun t h => XT.dup2 X.here hx rfl hd rfl hv hw h) k
theorem k_goto (X : Stand p l e R s m args below meth c T locs cells slots) (hx : p.tables.exec = Jvm.exec) (pc' : Nat) {pc : Nat} {Ls : Array Slot} {St : List Value} {o : Int} (hd : decode c.code pc = .ok (.goto o, 3)) (k : KEnds p e below s Cn Sn Q T (mkF m pc' Ls St)) (hp : (pc : Int) + o = (pc' : Int) := by decide) : KEnds p e below s Cn Sn Q T (mkF m pc Ls St) :=
  k_via (fun t h => XS.goto X.here hx rfl (pc0 := pc) rfl hd (by omega) (by omega) h) k
theorem k_icmp_lt (X : Stand p l e R s m args below meth c T locs cells slots) (hx : p.tables.exec = Jvm.exec) (pn py : Nat) {pc : Nat} {Ls : Array Slot} {St : List Value} {x y : Int32} {o : Int} (hd : decode c.code pc = .ok (.if_icmp .lt o, 3)) (ky : x < y -> KEnds p e below s Cn Sn Q T (mkF m py Ls St)) (kn : ¬ x < y -> KEnds p e below s Cn Sn Q T (mkF m pn Ls St)) (hn : pc + 3 = pn := by rfl) (hp : (pc : Int) + o = (py : Int) := by decide) : KEnds p e below s Cn Sn Q T (mkF m pc Ls (.int y :: .int x :: St)) := by
  subst hn
  by_cases hc : x < y
  · exact k_via (fun t h => XS.icmpYes X.here hx rfl (pc0 := pc) rfl hd rfl (tlt hc).1 (by omega) (by omega) h) (ky hc)
  · exact k_via (fun t h => XS.icmpNo X.here hx rfl hd rfl (flt hc).1 h) (kn hc)
theorem k_if_lt (X : Stand p l e R s m args below meth c T locs cells slots) (hx : p.tables.exec = Jvm.exec) (pn py : Nat) {pc : Nat} {Ls : Array Slot} {St : List Value} {x : Int32} {o : Int} (hd : decode c.code pc = .ok (.ifCond .lt o, 3)) (ky : x < (0 : Int32) -> KEnds p e below s Cn Sn Q T (mkF m py Ls St)) (kn : ¬ x < (0 : Int32) -> KEnds p e below s Cn Sn Q T (mkF m pn Ls St)) (hn : pc + 3 = pn := by rfl) (hp : (pc : Int) + o = (py : Int) := by decide) : KEnds p e below s Cn Sn Q T (mkF m pc Ls (.int x :: St)) := by
  subst hn
  by_cases hc : x < (0 : Int32)
  · exact k_via (fun t h => XS.ifYes X.here hx rfl (pc0 := pc) rfl hd rfl ((if0 _ _).trans (tlt hc).1) (by omega) (by omega) h) (ky hc)
  · exact k_via (fun t h => XS.ifNo X.here hx rfl hd rfl ((if0 _ _).trans (flt hc).1) h) (kn hc)
theorem k_lcif_lt (X : Stand p l e R s m args below meth c T locs cells slots) (hx : p.tables.exec = Jvm.exec) (pn py pm : Nat) {pc : Nat} {Ls : Array Slot} {St : List Value} {x y : Int64} {o : Int} (hd0 : decode c.code pc = .ok (.lcmp, 1)) (hd : decode c.code pm = .ok (.ifCond .lt o, 3)) (ky : x < y -> KEnds p e below s Cn Sn Q T (mkF m py Ls St)) (kn : ¬ x < y -> KEnds p e below s Cn Sn Q T (mkF m pn Ls St)) (hm : pc + 1 = pm := by rfl) (hn : pm + 3 = pn := by rfl) (hp : (pm : Int) + o = (py : Int) := by decide) : KEnds p e below s Cn Sn Q T (mkF m pc Ls (.long y :: .long x :: St)) := by
  subst hm
  have F := k_if_lt (Q := Q) (Cn := Cn) (Sn := Sn) (Ls := Ls) (St := St) (x := lcmpW x y) X hx pn py hd (fun hc => ky ((lw_lt x y).mp hc)) (fun hc => kn (fun q => hc ((lw_lt x y).mpr q))) hn hp
  exact k_via (fun t h => XS.lcmp X.here hx rfl hd0 rfl h) F
theorem k_icmp_ge (X : Stand p l e R s m args below meth c T locs cells slots) (hx : p.tables.exec = Jvm.exec) (pn py : Nat) {pc : Nat} {Ls : Array Slot} {St : List Value} {x y : Int32} {o : Int} (hd : decode c.code pc = .ok (.if_icmp .ge o, 3)) (ky : ¬ x < y -> KEnds p e below s Cn Sn Q T (mkF m py Ls St)) (kn : x < y -> KEnds p e below s Cn Sn Q T (mkF m pn Ls St)) (hn : pc + 3 = pn := by rfl) (hp : (pc : Int) + o = (py : Int) := by decide) : KEnds p e below s Cn Sn Q T (mkF m pc Ls (.int y :: .int x :: St)) := by
  subst hn
  by_cases hc : x < y
  · exact k_via (fun t h => XS.icmpNo X.here hx rfl hd rfl (tlt hc).2.1 h) (kn hc)
  · exact k_via (fun t h => XS.icmpYes X.here hx rfl (pc0 := pc) rfl hd rfl (flt hc).2.1 (by omega) (by omega) h) (ky hc)
theorem k_if_ge (X : Stand p l e R s m args below meth c T locs cells slots) (hx : p.tables.exec = Jvm.exec) (pn py : Nat) {pc : Nat} {Ls : Array Slot} {St : List Value} {x : Int32} {o : Int} (hd : decode c.code pc = .ok (.ifCond .ge o, 3)) (ky : ¬ x < (0 : Int32) -> KEnds p e below s Cn Sn Q T (mkF m py Ls St)) (kn : x < (0 : Int32) -> KEnds p e below s Cn Sn Q T (mkF m pn Ls St)) (hn : pc + 3 = pn := by rfl) (hp : (pc : Int) + o = (py : Int) := by decide) : KEnds p e below s Cn Sn Q T (mkF m pc Ls (.int x :: St)) := by
  subst hn
  by_cases hc : x < (0 : Int32)
  · exact k_via (fun t h => XS.ifNo X.here hx rfl hd rfl ((if0 _ _).trans (tlt hc).2.1) h) (kn hc)
  · exact k_via (fun t h => XS.ifYes X.here hx rfl (pc0 := pc) rfl hd rfl ((if0 _ _).trans (flt hc).2.1) (by omega) (by omega) h) (ky hc)
theorem k_lcif_ge (X : Stand p l e R s m args below meth c T locs cells slots) (hx : p.tables.exec = Jvm.exec) (pn py pm : Nat) {pc : Nat} {Ls : Array Slot} {St : List Value} {x y : Int64} {o : Int} (hd0 : decode c.code pc = .ok (.lcmp, 1)) (hd : decode c.code pm = .ok (.ifCond .ge o, 3)) (ky : ¬ x < y -> KEnds p e below s Cn Sn Q T (mkF m py Ls St)) (kn : x < y -> KEnds p e below s Cn Sn Q T (mkF m pn Ls St)) (hm : pc + 1 = pm := by rfl) (hn : pm + 3 = pn := by rfl) (hp : (pm : Int) + o = (py : Int) := by decide) : KEnds p e below s Cn Sn Q T (mkF m pc Ls (.long y :: .long x :: St)) := by
  subst hm
  have F := k_if_ge (Q := Q) (Cn := Cn) (Sn := Sn) (Ls := Ls) (St := St) (x := lcmpW x y) X hx pn py hd (fun hc => ky (fun q => hc ((lw_lt x y).mpr q))) (fun hc => kn ((lw_lt x y).mp hc)) hn hp
  exact k_via (fun t h => XS.lcmp X.here hx rfl hd0 rfl h) F
theorem k_if_gt (X : Stand p l e R s m args below meth c T locs cells slots) (hx : p.tables.exec = Jvm.exec) (pn py : Nat) {pc : Nat} {Ls : Array Slot} {St : List Value} {x : Int32} {o : Int} (hd : decode c.code pc = .ok (.ifCond .gt o, 3)) (ky : (0 : Int32) < x -> KEnds p e below s Cn Sn Q T (mkF m py Ls St)) (kn : ¬ (0 : Int32) < x -> KEnds p e below s Cn Sn Q T (mkF m pn Ls St)) (hn : pc + 3 = pn := by rfl) (hp : (pc : Int) + o = (py : Int) := by decide) : KEnds p e below s Cn Sn Q T (mkF m pc Ls (.int x :: St)) := by
  subst hn
  by_cases hc : (0 : Int32) < x
  · exact k_via (fun t h => XS.ifYes X.here hx rfl (pc0 := pc) rfl hd rfl ((if0 _ _).trans (tlt hc).2.2.1) (by omega) (by omega) h) (ky hc)
  · exact k_via (fun t h => XS.ifNo X.here hx rfl hd rfl ((if0 _ _).trans (flt hc).2.2.1) h) (kn hc)
theorem k_lcif_gt (X : Stand p l e R s m args below meth c T locs cells slots) (hx : p.tables.exec = Jvm.exec) (pn py pm : Nat) {pc : Nat} {Ls : Array Slot} {St : List Value} {x y : Int64} {o : Int} (hd0 : decode c.code pc = .ok (.lcmp, 1)) (hd : decode c.code pm = .ok (.ifCond .gt o, 3)) (ky : y < x -> KEnds p e below s Cn Sn Q T (mkF m py Ls St)) (kn : ¬ y < x -> KEnds p e below s Cn Sn Q T (mkF m pn Ls St)) (hm : pc + 1 = pm := by rfl) (hn : pm + 3 = pn := by rfl) (hp : (pm : Int) + o = (py : Int) := by decide) : KEnds p e below s Cn Sn Q T (mkF m pc Ls (.long y :: .long x :: St)) := by
  subst hm
  have F := k_if_gt (Q := Q) (Cn := Cn) (Sn := Sn) (Ls := Ls) (St := St) (x := lcmpW x y) X hx pn py hd (fun hc => ky ((lw_gt x y).mp hc)) (fun hc => kn (fun q => hc ((lw_gt x y).mpr q))) hn hp
  exact k_via (fun t h => XS.lcmp X.here hx rfl hd0 rfl h) F
theorem k_icmp_le (X : Stand p l e R s m args below meth c T locs cells slots) (hx : p.tables.exec = Jvm.exec) (pn py : Nat) {pc : Nat} {Ls : Array Slot} {St : List Value} {x y : Int32} {o : Int} (hd : decode c.code pc = .ok (.if_icmp .le o, 3)) (ky : ¬ y < x -> KEnds p e below s Cn Sn Q T (mkF m py Ls St)) (kn : y < x -> KEnds p e below s Cn Sn Q T (mkF m pn Ls St)) (hn : pc + 3 = pn := by rfl) (hp : (pc : Int) + o = (py : Int) := by decide) : KEnds p e below s Cn Sn Q T (mkF m pc Ls (.int y :: .int x :: St)) := by
  subst hn
  by_cases hc : y < x
  · exact k_via (fun t h => XS.icmpNo X.here hx rfl hd rfl (tlt hc).2.2.2 h) (kn hc)
  · exact k_via (fun t h => XS.icmpYes X.here hx rfl (pc0 := pc) rfl hd rfl (flt hc).2.2.2 (by omega) (by omega) h) (ky hc)
theorem k_if_le (X : Stand p l e R s m args below meth c T locs cells slots) (hx : p.tables.exec = Jvm.exec) (pn py : Nat) {pc : Nat} {Ls : Array Slot} {St : List Value} {x : Int32} {o : Int} (hd : decode c.code pc = .ok (.ifCond .le o, 3)) (ky : ¬ (0 : Int32) < x -> KEnds p e below s Cn Sn Q T (mkF m py Ls St)) (kn : (0 : Int32) < x -> KEnds p e below s Cn Sn Q T (mkF m pn Ls St)) (hn : pc + 3 = pn := by rfl) (hp : (pc : Int) + o = (py : Int) := by decide) : KEnds p e below s Cn Sn Q T (mkF m pc Ls (.int x :: St)) := by
  subst hn
  by_cases hc : (0 : Int32) < x
  · exact k_via (fun t h => XS.ifNo X.here hx rfl hd rfl ((if0 _ _).trans (tlt hc).2.2.2) h) (kn hc)
  · exact k_via (fun t h => XS.ifYes X.here hx rfl (pc0 := pc) rfl hd rfl ((if0 _ _).trans (flt hc).2.2.2) (by omega) (by omega) h) (ky hc)
theorem k_lcif_le (X : Stand p l e R s m args below meth c T locs cells slots) (hx : p.tables.exec = Jvm.exec) (pn py pm : Nat) {pc : Nat} {Ls : Array Slot} {St : List Value} {x y : Int64} {o : Int} (hd0 : decode c.code pc = .ok (.lcmp, 1)) (hd : decode c.code pm = .ok (.ifCond .le o, 3)) (ky : ¬ y < x -> KEnds p e below s Cn Sn Q T (mkF m py Ls St)) (kn : y < x -> KEnds p e below s Cn Sn Q T (mkF m pn Ls St)) (hm : pc + 1 = pm := by rfl) (hn : pm + 3 = pn := by rfl) (hp : (pm : Int) + o = (py : Int) := by decide) : KEnds p e below s Cn Sn Q T (mkF m pc Ls (.long y :: .long x :: St)) := by
  subst hm
  have F := k_if_le (Q := Q) (Cn := Cn) (Sn := Sn) (Ls := Ls) (St := St) (x := lcmpW x y) X hx pn py hd (fun hc => ky (fun q => hc ((lw_gt x y).mpr q))) (fun hc => kn ((lw_gt x y).mp hc)) hn hp
  exact k_via (fun t h => XS.lcmp X.here hx rfl hd0 rfl h) F
theorem k_icmp_eq (X : Stand p l e R s m args below meth c T locs cells slots) (hx : p.tables.exec = Jvm.exec) (pn py : Nat) {pc : Nat} {Ls : Array Slot} {St : List Value} {x y : Int32} {o : Int} (hd : decode c.code pc = .ok (.if_icmp .eq o, 3)) (ky : x = y -> KEnds p e below s Cn Sn Q T (mkF m py Ls St)) (kn : ¬ x = y -> KEnds p e below s Cn Sn Q T (mkF m pn Ls St)) (hn : pc + 3 = pn := by rfl) (hp : (pc : Int) + o = (py : Int) := by decide) : KEnds p e below s Cn Sn Q T (mkF m pc Ls (.int y :: .int x :: St)) := by
  subst hn
  by_cases hc : x = y
  · exact k_via (fun t h => XS.icmpYes X.here hx rfl (pc0 := pc) rfl hd rfl (teq hc).1 (by omega) (by omega) h) (ky hc)
  · exact k_via (fun t h => XS.icmpNo X.here hx rfl hd rfl (feq hc).1 h) (kn hc)
theorem k_if_eq (X : Stand p l e R s m args below meth c T locs cells slots) (hx : p.tables.exec = Jvm.exec) (pn py : Nat) {pc : Nat} {Ls : Array Slot} {St : List Value} {x : Int32} {o : Int} (hd : decode c.code pc = .ok (.ifCond .eq o, 3)) (ky : x = (0 : Int32) -> KEnds p e below s Cn Sn Q T (mkF m py Ls St)) (kn : ¬ x = (0 : Int32) -> KEnds p e below s Cn Sn Q T (mkF m pn Ls St)) (hn : pc + 3 = pn := by rfl) (hp : (pc : Int) + o = (py : Int) := by decide) : KEnds p e below s Cn Sn Q T (mkF m pc Ls (.int x :: St)) := by
  subst hn
  by_cases hc : x = (0 : Int32)
  · exact k_via (fun t h => XS.ifYes X.here hx rfl (pc0 := pc) rfl hd rfl ((if0 _ _).trans (teq hc).1) (by omega) (by omega) h) (ky hc)
  · exact k_via (fun t h => XS.ifNo X.here hx rfl hd rfl ((if0 _ _).trans (feq hc).1) h) (kn hc)
theorem k_icmp_ne (X : Stand p l e R s m args below meth c T locs cells slots) (hx : p.tables.exec = Jvm.exec) (pn py : Nat) {pc : Nat} {Ls : Array Slot} {St : List Value} {x y : Int32} {o : Int} (hd : decode c.code pc = .ok (.if_icmp .ne o, 3)) (ky : ¬ x = y -> KEnds p e below s Cn Sn Q T (mkF m py Ls St)) (kn : x = y -> KEnds p e below s Cn Sn Q T (mkF m pn Ls St)) (hn : pc + 3 = pn := by rfl) (hp : (pc : Int) + o = (py : Int) := by decide) : KEnds p e below s Cn Sn Q T (mkF m pc Ls (.int y :: .int x :: St)) := by
  subst hn
  by_cases hc : x = y
  · exact k_via (fun t h => XS.icmpNo X.here hx rfl hd rfl (teq hc).2 h) (kn hc)
  · exact k_via (fun t h => XS.icmpYes X.here hx rfl (pc0 := pc) rfl hd rfl (feq hc).2 (by omega) (by omega) h) (ky hc)
theorem k_if_ne (X : Stand p l e R s m args below meth c T locs cells slots) (hx : p.tables.exec = Jvm.exec) (pn py : Nat) {pc : Nat} {Ls : Array Slot} {St : List Value} {x : Int32} {o : Int} (hd : decode c.code pc = .ok (.ifCond .ne o, 3)) (ky : ¬ x = (0 : Int32) -> KEnds p e below s Cn Sn Q T (mkF m py Ls St)) (kn : x = (0 : Int32) -> KEnds p e below s Cn Sn Q T (mkF m pn Ls St)) (hn : pc + 3 = pn := by rfl) (hp : (pc : Int) + o = (py : Int) := by decide) : KEnds p e below s Cn Sn Q T (mkF m pc Ls (.int x :: St)) := by
  subst hn
  by_cases hc : x = (0 : Int32)
  · exact k_via (fun t h => XS.ifNo X.here hx rfl hd rfl ((if0 _ _).trans (teq hc).2) h) (kn hc)
  · exact k_via (fun t h => XS.ifYes X.here hx rfl (pc0 := pc) rfl hd rfl ((if0 _ _).trans (feq hc).2) (by omega) (by omega) h) (ky hc)
theorem k_lcif_ne (X : Stand p l e R s m args below meth c T locs cells slots) (hx : p.tables.exec = Jvm.exec) (pn py pm : Nat) {pc : Nat} {Ls : Array Slot} {St : List Value} {x y : Int64} {o : Int} (hd0 : decode c.code pc = .ok (.lcmp, 1)) (hd : decode c.code pm = .ok (.ifCond .ne o, 3)) (ky : ¬ x = y -> KEnds p e below s Cn Sn Q T (mkF m py Ls St)) (kn : x = y -> KEnds p e below s Cn Sn Q T (mkF m pn Ls St)) (hm : pc + 1 = pm := by rfl) (hn : pm + 3 = pn := by rfl) (hp : (pm : Int) + o = (py : Int) := by decide) : KEnds p e below s Cn Sn Q T (mkF m pc Ls (.long y :: .long x :: St)) := by
  subst hm
  have F := k_if_ne (Q := Q) (Cn := Cn) (Sn := Sn) (Ls := Ls) (St := St) (x := lcmpW x y) X hx pn py hd (fun hc => ky (fun q => hc ((lw_eq x y).mpr q))) (fun hc => kn ((lw_eq x y).mp hc)) hn hp
  exact k_via (fun t h => XS.lcmp X.here hx rfl hd0 rfl h) F
theorem k_d_alt_nxlt {x a b : Int32} (h : ¬ x < a) (q : b < a) : b < x := by
  simp only [Int32.lt_iff_toInt_lt, ← Int32.toInt_inj] at *; omega
theorem k_d_ne_nxlt {x a b : Int32} (h : ¬ x < a) (q : b < a) : ¬ x = b := by
  simp only [Int32.lt_iff_toInt_lt, ← Int32.toInt_inj] at *; omega
theorem k_dL_alt_nxlt {x a b : Int64} (h : ¬ x < a) (q : b < a) : b < x := by
  simp only [Int64.lt_iff_toInt_lt, ← Int64.toInt_inj] at *; omega
theorem k_dL_nalt_nalt {x a b : Int64} (h : ¬ a < x) (q : ¬ b < a) : ¬ b < x := by
  simp only [Int64.lt_iff_toInt_lt, ← Int64.toInt_inj] at *; omega
theorem k_dL_ne_nxlt {x a b : Int64} (h : ¬ x < a) (q : b < a) : ¬ x = b := by
  simp only [Int64.lt_iff_toInt_lt, ← Int64.toInt_inj] at *; omega
theorem k_lt {x a : Int32} {n : Int} (h : x < a) (e : a.toInt = n + 1) : x.toInt <= n := by rw [Int32.lt_iff_toInt_lt] at h; omega
theorem k_ge {x a : Int32} {n : Int} (h : ¬ x < a) (e : a.toInt = n) : n <= x.toInt := by rw [Int32.lt_iff_toInt_lt] at h; omega
theorem k_gt {x a : Int32} {n : Int} (h : a < x) (e : a.toInt + 1 = n) : n <= x.toInt := by rw [Int32.lt_iff_toInt_lt] at h; omega
theorem k_le {x a : Int32} {n : Int} (h : ¬ a < x) (e : a.toInt = n) : x.toInt <= n := by rw [Int32.lt_iff_toInt_lt] at h; omega
theorem kL_lt {x a : Int64} {n : Int} (h : x < a) (e : a.toInt = n + 1) : x.toInt <= n := by rw [Int64.lt_iff_toInt_lt] at h; omega
theorem kL_ge {x a : Int64} {n : Int} (h : ¬ x < a) (e : a.toInt = n) : n <= x.toInt := by rw [Int64.lt_iff_toInt_lt] at h; omega
theorem kL_gt {x a : Int64} {n : Int} (h : a < x) (e : a.toInt + 1 = n) : n <= x.toInt := by rw [Int64.lt_iff_toInt_lt] at h; omega
theorem kL_p {x a : Int64} (h : x < a) : x.toInt < a.toInt := Int64.lt_iff_toInt_lt.mp h
theorem kL_m {x a : Int64} (h : ¬ x < a) : ¬ x.toInt < a.toInt := fun q => h (Int64.lt_iff_toInt_lt.mpr q)
theorem kL_le {x a : Int64} {n : Int} (h : ¬ a < x) (e : a.toInt = n) : x.toInt <= n := by rw [Int64.lt_iff_toInt_lt] at h; omega
theorem k_addB {x a b la ua lb ub lo hi : Int} (q : x = a + b) (pa : la <= a /\ a <= ua) (pb : lb <= b /\ b <= ub) (h1 : lo <= la + lb := by decide) (h2 : ua + ub <= hi := by decide) : lo <= x /\ x <= hi := by omega
theorem k_subB' {x a b la ua lb ub lo hi : Int} (q : x = a - b) (pa : la <= a /\ a <= ua) (pb : lb <= b /\ b <= ub) (h1 : lo <= la - ub := by decide) (h2 : ua - lb <= hi := by decide) : lo <= x /\ x <= hi := by omega
theorem k_modB {a P hi : Int} (h : 0 < P) (e : P = hi + 1 := by decide) : 0 <= a % P /\ a % P <= hi := ⟨Int.emod_nonneg _ (by omega), by have := Int.emod_lt_of_pos a h; omega⟩
theorem k_divB {a P la ua lo hi : Int} (pa : la <= a /\ a <= ua) (h : 0 < P) (h1 : lo = la / P) (h2 : ua / P = hi) : lo <= a / P /\ a / P <= hi := ⟨by rw [h1]; exact Int.ediv_le_ediv h pa.1, by rw [← h2]; exact Int.ediv_le_ediv h pa.2⟩
theorem k_divmodB {a W P hi : Int} (h : 0 < P) (hw : 0 < W) (h2 : (W - 1) / P = hi) : 0 <= (a % W) / P /\ (a % W) / P <= hi := ⟨Int.ediv_nonneg (Int.emod_nonneg _ (by omega)) (by omega), by rw [← h2]; exact Int.ediv_le_ediv h (by have := Int.emod_lt_of_pos a hw; omega)⟩
theorem k_iaddx {v a b : Int32} {la ua lb ub : Int} (h : v = a + b) (pa : la <= a.toInt /\ a.toInt <= ua) (pb : lb <= b.toInt /\ b.toInt <= ub) (h1 : -2147483648 <= la + lb) (h2 : ua + ub <= 2147483647) : v.toInt = a.toInt + b.toInt := by
  have q := c_iadd a b; rw [← h] at q; have r := rng32 v; omega
theorem k_laddx {v a b : Int64} {la ua lb ub : Int} (h : v = a + b) (pa : la <= a.toInt /\ a.toInt <= ua) (pb : lb <= b.toInt /\ b.toInt <= ub) (h1 : -9223372036854775808 <= la + lb) (h2 : ua + ub <= 9223372036854775807) : v.toInt = a.toInt + b.toInt := by
  have q := c_ladd a b; rw [← h] at q; have r := rng64 v; omega
theorem k_lsubx {v a b : Int64} {la ua lb ub : Int} (h : v = a - b) (pa : la <= a.toInt /\ a.toInt <= ua) (pb : lb <= b.toInt /\ b.toInt <= ub) (h1 : -9223372036854775808 <= la - ub) (h2 : ua - lb <= 9223372036854775807) : v.toInt = a.toInt - b.toInt := by
  have q := c_lsub a b; rw [← h] at q; have r := rng64 v; omega
theorem k_l2ix {v : Int32} {a : Int64} {la ua : Int} (h : v = a.toInt32) (pa : la <= a.toInt /\ a.toInt <= ua) (h1 : -2147483648 <= la) (h2 : ua <= 2147483647) : v.toInt = a.toInt := by
  have q := c_l2i a; rw [← h] at q; have r := rng32 v; omega
theorem k_cap {z c : Int32} {n : Nat} (h : ¬ c < z) (e : c.toNatClampNeg = n) : z.toNatClampNeg <= n := by
  rw [← e]
  rw [Int32.lt_iff_toInt_lt] at h
  simp only [Int32.toNatClampNeg]
  omega
theorem k_s1 (a b : Int64) : a + b - a = b := by rw [Int64.add_comm a b]; exact Int64.add_sub_cancel b a
theorem k_s2 (a b c : Int64) : (a + b) - (a + c) = b - c := by
  rw [Int64.sub_eq_add_neg, Int64.neg_add, Int64.sub_eq_add_neg, Int64.sub_eq_add_neg, Int64.add_comm a b, Int64.add_assoc, ← Int64.add_assoc a (-a), Int64.add_right_neg, Int64.zero_add]
theorem k_retN (X : Stand p l e R s m args below meth c T locs cells slots) (hx : p.tables.exec = Jvm.exec) {pc : Nat} {Ls : Array Slot} {St : List Value} {t : FieldType} {z z' : Int32} (hret : meth.sig.returnType = some t) (ht : t = .boolean \/ t = .byte \/ t = .char \/ t = .short) (hd : decode c.code pc = .ok (.ireturn, 1)) (hlk : meth.locks = false) (hC : cells <= Cn) (hS : slots <= Sn) (hz : nar t z = z') (q : Q (some (.int z')) T.heap locs) : KEnds p e below s Cn Sn Q T (mkF m pc Ls (.int z :: St)) := by
  subst hz
  obtain ⟨fs, hr, hrun, hended, hW, hsame⟩ := X.leave (v := some (.int (nar t z))) (fun h => by rw [hret] at h; cases h) hlk
  exact ⟨_, _, retN X hx hret ht hd hr, hrun, hended, _, _, rfl, q, ⟨_, rfl⟩, hW, hsame.mono hC hS⟩
theorem k_retI (X : Stand p l e R s m args below meth c T locs cells slots) (hx : p.tables.exec = Jvm.exec) {pc : Nat} {Ls : Array Slot} {St : List Value} {z : Int32} (hret : meth.sig.returnType = some .int) (hd : decode c.code pc = .ok (.ireturn, 1)) (hlk : meth.locks = false) (hC : cells <= Cn) (hS : slots <= Sn) (q : Q (some (.int z)) T.heap locs) : KEnds p e below s Cn Sn Q T (mkF m pc Ls (.int z :: St)) := by
  obtain ⟨fs, hr, hrun, hended, hW, hsame⟩ := X.leave (v := some (.int z)) (fun h => by rw [hret] at h; cases h) hlk
  exact ⟨_, _, retOut X hx hret rfl (Or.inl ⟨rfl, Or.inl rfl, _, rfl⟩) hd hr, hrun, hended, _, _, rfl, q, ⟨_, rfl⟩, hW, hsame.mono hC hS⟩
theorem k_retL (X : Stand p l e R s m args below meth c T locs cells slots) (hx : p.tables.exec = Jvm.exec) {pc : Nat} {Ls : Array Slot} {St : List Value} {z : Int64} (hret : meth.sig.returnType = some .long) (hd : decode c.code pc = .ok (.lreturn, 1)) (hlk : meth.locks = false) (hC : cells <= Cn) (hS : slots <= Sn) (q : Q (some (.long z)) T.heap locs) : KEnds p e below s Cn Sn Q T (mkF m pc Ls (.long z :: St)) := by
  obtain ⟨fs, hr, hrun, hended, hW, hsame⟩ := X.leave (v := some (.long z)) (fun h => by rw [hret] at h; cases h) hlk
  exact ⟨_, _, retOut X hx hret rfl (Or.inr (Or.inl ⟨rfl, rfl, _, rfl⟩)) hd hr, hrun, hended, _, _, rfl, q, ⟨_, rfl⟩, hW, hsame.mono hC hS⟩
theorem k_ret (X : Stand p l e R s m args below meth c T locs cells slots) (hx : p.tables.exec = Jvm.exec) {pc : Nat} {Ls : Array Slot} (hret : meth.sig.returnType = none) (hd : decode c.code pc = .ok (.return_, 1)) (hlk : meth.locks = false) (hC : cells <= Cn) (hS : slots <= Sn) (q : Q none T.heap locs) : KEnds p e below s Cn Sn Q T (mkF m pc Ls []) := by
  obtain ⟨fs, hr, hrun, hended, hW, hsame⟩ := X.leave (v := none) (fun _ => rfl) hlk
  exact ⟨_, _, X.returnOut hx hret hd hr, hrun, hended, _, _, rfl, q, ⟨_, rfl⟩, hW, hsame.mono hC hS⟩
variable {Z : State} {a0 : Array Value} {h : Heap} {own : String}
theorem k_ldc (X : Stand p l e R s m args below meth c T locs cells slots) (hx : p.tables.exec = Jvm.exec) (hZ : Z.Warmed39 s.vm) (hown : s.vm.findClass own = some m.cls) (pc' : Nat) {pc : Nat} {Ls : Array Slot} {St : List Value} {index : Nat} {v : Int32} (w : (Cond.constant own index v).before a0 Z = true) (hd : decode c.code pc = .ok (.ldc index, 2)) (k : KEnds p e below s Cn Sn Q T (mkF m pc' Ls (.int v :: St))) (hpc : pc + 2 = pc' := by rfl) : KEnds p e below s Cn Sn Q T (mkF m pc Ls St) := by
  subst hpc; exact k_via (X.ldcInt hx hown (mvT hZ w) (g := mkF m pc Ls St) rfl hd) k
theorem k_ldcL (X : Stand p l e R s m args below meth c T locs cells slots) (hx : p.tables.exec = Jvm.exec) (hZ : Z.Warmed39 s.vm) (hown : s.vm.findClass own = some m.cls) (pc' : Nat) {pc : Nat} {Ls : Array Slot} {St : List Value} {index : Nat} {v : Int64} (w : (Cond.constantLong own index v).before a0 Z = true) (hd : decode c.code pc = .ok (.ldc2_w index, 3)) (k : KEnds p e below s Cn Sn Q T (mkF m pc' Ls (.long v :: St))) (hpc : pc + 3 = pc' := by rfl) : KEnds p e below s Cn Sn Q T (mkF m pc Ls St) := by
  subst hpc; exact k_via (X.ldc2Long hx hown (mvT hZ w) (g := mkF m pc Ls St) rfl hd) k
theorem k_newO (X : Stand p l e R s m args below meth c T locs cells slots) (hx : p.tables.exec = Jvm.exec) (hZ : Z.Warmed39 s.vm) (hown : s.vm.findClass own = some m.cls) (pc' : Nat) {pc : Nat} {Ls : Array Slot} {St : List Value} {C : String} {index n : Nat} (w : (Cond.classLink own index C).before a0 Z = true) (wi : (Cond.instantiable C n).before a0 Z = true) (wz : (Cond.initialized C).before a0 Z = true) (eT : T.heap = h) (hd : decode c.code pc = .ok (.new index, 3)) (hc : cells + 1 <= R.cells) (hl : slots + n <= R.slots) (k : ∀ T' h' a, a = h.size -> Stand p l e R s m args below meth c T' locs (cells + 1) (slots + n) -> T'.heap = h' -> Ext h h' -> Exa Z h' a C -> (∀ {O nm d : String} {ty : FieldType}, Laid Z a0 C O nm d -> parseFieldDescriptor d = some ty -> Fld Z h' a O nm d (defaultValue ty)) -> KEnds p e below s Cn Sn Q T' (mkF m pc' Ls (.ref a :: St))) (hpc : pc + 3 = pc' := by rfl) : KEnds p e below s Cn Sn Q T (mkF m pc Ls St) := by
  subst hpc
  obtain ⟨T', h', X', e', E', A', D', -, st⟩ := newO X hx hZ hown w wi wz eT (g := mkF m pc Ls St) rfl hd hc hl
  exact k_via st (k T' h' _ rfl X' e' E' A' D')
theorem k_initO (X : Stand p l e R s m args below meth c T locs cells slots) (hx : p.tables.exec = Jvm.exec) (hZ : Z.Warmed39 s.vm) (hown : s.vm.findClass own = some m.cls) (pc' : Nat) {pc : Nat} {Ls : Array Slot} {St : List Value} {idx : Nat} (w1 : (Cond.methodLink own idx Lib.objectInit).before a0 Z = true) (w2 : (Cond.instanceMethod Lib.objectInit).before a0 Z = true) (w3 : (Cond.code Lib.objectInit ⟨#[0xb1]⟩ 1 none).before a0 Z = true) (eT : T.heap = h) (hsize : Ls.size = c.maxLocals) {a : Addr} (hd : decode c.code pc = .ok (.invokespecial idx, 3)) (hf : 1 <= R.frames) {W : Nat} (hW : (St.map fun v => v.category).sum <= W) (hl : W + 12 <= R.locals) (k : ∀ T', Stand p l e R s m args below meth c T' locs cells slots -> T'.heap = h -> KEnds p e below s Cn Sn Q T' (mkF m pc' Ls St)) (hpc : pc + 3 = pc' := by rfl) : KEnds p e below s Cn Sn Q T (mkF m pc Ls (.ref a :: St)) := by
  subst hpc
  obtain ⟨T', X', e', st⟩ := initO X hx hZ hown w1 w2 w3 eT (g := mkF m pc Ls (.ref a :: St)) rfl hsize rfl hd hf (W := W) (by show 2 * 0 + _ <= _; omega) hl
  exact k_via st (k T' X' e')
theorem k_getF1 (X : Stand p l e R s m args below meth c T locs cells slots) (hx : p.tables.exec = Jvm.exec) (hZ : Z.Warmed39 s.vm) (hown : s.vm.findClass own = some m.cls) (pc' : Nat) {pc : Nat} {Ls : Array Slot} {St : List Value} {O n d : String} {index : Nat} (w : (Cond.fieldLink own index O n d).before a0 Z = true) (eT : T.heap = h) {a : Addr} {v : Value} (F : Fld Z h a O n d v) (hd : decode c.code pc = .ok (.getfield index, 3)) (k : ∀ T', Stand p l e R s m args below meth c T' locs cells slots -> T'.heap = h -> KEnds p e below s Cn Sn Q T' (mkF m pc' Ls (v :: St))) (hpc : pc + 3 = pc' := by rfl) : KEnds p e below s Cn Sn Q T (mkF m pc Ls (.ref a :: St)) := by
  subst hpc
  obtain ⟨T', X', e', st⟩ := getF X hx hZ hown (host := "") (Or.inl w) Via.refl eT F (g := mkF m pc Ls (.ref a :: St)) rfl rfl hd
  exact k_via st (k T' X' e')
theorem k_putF1 (X : Stand p l e R s m args below meth c T locs cells slots) (hx : p.tables.exec = Jvm.exec) (hZ : Z.Warmed39 s.vm) (hown : s.vm.findClass own = some m.cls) (pc' : Nat) {pc : Nat} {Ls : Array Slot} {St : List Value} {O n d C : String} {index kk : Nat} (w : (Cond.fieldLink own index O n d).before a0 Z = true) (eT : T.heap = h) {a : Addr} {v old : Value} (F : Fld Z h a O n d old) (Ex : Exa Z h a C) (L : (Cond.lays C O n d).before a0 Z = true \/ ((Cond.laysFinal C O n d).before a0 Z = true /\ own = O /\ meth.name = "<init>")) (wi : (Cond.instantiable C kk).before a0 Z = true) (ty : FieldType) (hn : narrow ty v = v) (hf : fits ty v = true) (hd : decode c.code pc = .ok (.putfield index, 3)) (k : ∀ T' h', Stand p l e R s m args below meth c T' (locs ++ [⟨a, Jvm.RoadKit.slotOf Z O n d⟩]) cells slots -> T'.heap = h' -> Wr h h' a (Jvm.RoadKit.slotOf Z O n d) v -> KEnds p e below s Cn Sn Q T' (mkF m pc' Ls St)) (hty : parseFieldDescriptor d = some ty := by decide) (hpc : pc + 3 = pc' := by rfl) : KEnds p e below s Cn Sn Q T (mkF m pc Ls (v :: .ref a :: St)) := by
  subst hpc
  obtain ⟨T', h', X', e', W', st⟩ := putF X hx hZ hown (host := "") (Or.inl w) Via.refl eT F Ex L wi hty hn hf (g := mkF m pc Ls (v :: .ref a :: St)) rfl rfl hd
  exact k_via st (k T' h' X' e' W')
theorem k_newA (X : Stand p l e R s m args below meth c T locs cells slots) (hx : p.tables.exec = Jvm.exec) (hZ : Z.Warmed39 s.vm) (pc' : Nat) {pc : Nat} {Ls : Array Slot} {St : List Value} {aty : ArrayType} (w : (Cond.arrayClass (newarray.typeOf aty)).before a0 Z = true) (eT : T.heap = h) (hd : decode c.code pc = .ok (.newarray aty, 2)) {n : Int32} (hn : ¬ n < 0) {cap : Nat} (hcap : n.toNatClampNeg <= cap) (hb : cap * 8 <= 536870912) (hc : cells + 1 <= R.cells) (hl : slots + cap <= R.slots) (ln : Nat) (k : ∀ T' h' a cA, a = h.size -> Stand p l e R s m args below meth c T' locs (cells + 1) (slots + cap) -> T'.heap = h' -> Ext h h' -> Arv Z h' a cA (newarray.typeOf aty) n (List.replicate ln (defaultValue (newarray.typeOf aty))) (defaultValue (newarray.typeOf aty)) -> KEnds p e below s Cn Sn Q T' (mkF m pc' Ls (.ref a :: St))) (hpc : pc + 2 = pc' := by rfl) : KEnds p e below s Cn Sn Q T (mkF m pc Ls (.int n :: St)) := by
  subst hpc
  obtain ⟨T', h', cA, X', e', E', A', st⟩ := newP X hx hZ w eT (g := mkF m pc Ls (.int n :: St)) rfl hd rfl hn hcap hb hc hl
  exact k_via st (k T' h' _ cA rfl X' e' E' ((Arv.new A' hn).pad (pad_rep [] _ ln)))
theorem k_lastore (X : Stand p l e R s m args below meth c T locs cells slots) (hx : p.tables.exec = Jvm.exec) (hZ : Z.Warmed39 s.vm) (pc' : Nat) {pc : Nat} {Ls : Array Slot} {St : List Value} (eT : T.heap = h) {a : Addr} {kA : ClassId} {z j : Int32} {x : Int64} {vs : List Value} {dv : Value} (F : Arv Z h a kA .long z vs dv) (hj : ¬ j < 0 /\ j < z) {i : Nat} (hi : j.toNatClampNeg = i) (hil : i < vs.length) (hd : decode c.code pc = .ok (.lastore, 1)) (k : ∀ T' h', Stand p l e R s m args below meth c T' (locs ++ [⟨a, j.toNatClampNeg⟩]) cells slots -> T'.heap = h' -> Wr h h' a j.toNatClampNeg (.long (x)) -> Arv Z h' a kA .long z (vs.set i (.long (x))) dv -> KEnds p e below s Cn Sn Q T' (mkF m pc' Ls St)) (hpc : pc + 1 = pc' := by rfl) : KEnds p e below s Cn Sn Q T (mkF m pc Ls (.long x :: .int j :: .ref a :: St)) := by
  subst hpc
  obtain ⟨cl, A, q1, S, N, H, G⟩ := F
  obtain ⟨T', h', X', e', W', st⟩ := stJ X hx hZ eT A (inb_of S hj) (g := mkF m pc Ls (.long x :: .int j :: .ref a :: St)) rfl rfl hd
  exact k_via st (k T' h' X' e' W' (Arv.set A q1 S N H G rfl W' i hi hil))
theorem k_laload (X : Stand p l e R s m args below meth c T locs cells slots) (hx : p.tables.exec = Jvm.exec) (hZ : Z.Warmed39 s.vm) (pc' : Nat) {pc : Nat} {Ls : Array Slot} {St : List Value} (eT : T.heap = h) {a : Addr} {kA : ClassId} {z j : Int32} {v : Value} {vs : List Value} {dv : Value} (F : Arv Z h a kA .long z vs dv) (hj : ¬ j < 0 /\ j < z) (hv : vs.getD j.toNatClampNeg dv = v) (hd : decode c.code pc = .ok (.laload, 1)) (k : KEnds p e below s Cn Sn Q T (mkF m pc' Ls (v :: St))) (hpc : pc + 1 = pc' := by rfl) : KEnds p e below s Cn Sn Q T (mkF m pc Ls (.int j :: .ref a :: St)) := by
  subst hpc
  obtain ⟨cl, A, q1, S, N, H, G⟩ := F
  exact k_via (fun t hs => X.laload hx (by rw [eT]; exact A.1) (State.isArrayOf_alike hZ.alike A.2.1) A.2.2 (inb_of S hj) (H.at (inb_of S hj) hv) (g := mkF m pc Ls (.int j :: .ref a :: St)) rfl rfl hd t hs) k
theorem k_alen (X : Stand p l e R s m args below meth c T locs cells slots) (hx : p.tables.exec = Jvm.exec) (hZ : Z.Warmed39 s.vm) (pc' : Nat) {pc : Nat} {Ls : Array Slot} {St : List Value} (eT : T.heap = h) {a : Addr} {kA : ClassId} {ty : FieldType} {z : Int32} {vs : List Value} {dv : Value} (F : Arv Z h a kA ty z vs dv) (hd : decode c.code pc = .ok (.arraylength, 1)) (k : KEnds p e below s Cn Sn Q T (mkF m pc' Ls (.int z :: St))) (hpc : pc + 1 = pc' := by rfl) : KEnds p e below s Cn Sn Q T (mkF m pc Ls (.ref a :: St)) := by
  subst hpc
  obtain ⟨cl, A, q1, S, N, H, G⟩ := F
  refine k_via (fun t hs => X.arraylength hx (by rw [eT]; exact A.1) (State.isArrayOf_alike hZ.alike A.2.1) (g := mkF m pc Ls (.ref a :: St)) rfl rfl hd t ?_) k
  rw [len_of S N]; exact hs
abbrev KMet (l : Launch) (y : MethodName) (bytes : ByteArray) (maxL : Nat) (ret : Option FieldType) (ws : List Cond) (R : Room) (as' : Array Value) (Z : State) (h0 : Heap) (Cn Sn : Nat) (Q : Option Value -> Heap -> List Loc -> Prop) : Prop :=
  MetFree l y (head1 (Cond.code y bytes maxL ret :: ws) R) (fun a U => a = as' /\ Z.Warmed39 U.vm /\ U.heap = h0) (fun _ _ _ _ _ => True) (fun _ U o U' => ∃ v L, o = .returned v /\ Q v U'.heap L /\ FrameEnd U o U' L Cn Sn)
theorem k_body {y : MethodName} {bytes : ByteArray} {maxL : Nat} {ret : Option FieldType} {ws : List Cond} {as' : Array Value} {h0 : Heap} {Ls : Array Slot} (hpl : plainFor y = true) (hef : ∀ m, entryFrame m as' maxL = mkF m 0 Ls [])
    (k : ∀ (p : Program) (e : Env) (s : State) (m : MethodId) (below : List Frame) (meth : Method) (c : Code) (s₁ : State), p.tables.exec = Jvm.exec -> (∀ {pc : Nat} {r : Except DecodeError (Instr × Nat)}, decode bytes pc = r -> decode c.code pc = r) -> c.maxLocals = maxL -> meth.locks = false -> meth.sig.returnType = ret -> s.vm.findClass y.cls = some m.cls -> meth.name = y.name -> Z.Warmed39 s.vm -> Stand p l e R s m as' below meth c s₁ [] 0 0 -> s₁.heap = h0 -> KEnds p e below s Cn Sn Q s₁ (mkF m 0 Ls [])) :
    KMet l y bytes maxL ret ws R as' Z h0 Cn Sn Q := by
  refine MetFree.of_bodySF hpl hisR ?_
  intro p e s m args below meth c s₁ Bd hml0 hP hK
  obtain ⟨rfl, hZ, hh⟩ := hP
  rw [hef]
  exact k p e s m below meth c s₁ Bd.exec (fun h => hb Bd.bytes h) hml0 Bd.notSynchronized Bd.returns (findClass_of_methodNamed Bd.named) (name_of_methodNamed Bd.named Bd.method).1 hZ (Stand.of_body Bd) (by rw [← hh, Bd.state]; rfl)
theorem k_callS (X : Stand p l e R s m args below meth c T locs cells slots) (hx : p.tables.exec = Jvm.exec) (hZ : Z.Warmed39 s.vm) (hown : s.vm.findClass own = some m.cls) (pc' : Nat) {pc : Nat} {Ls : Array Slot} {St : List Value} {y : MethodName} {bytes : ByteArray} {maxL : Nat} {ret : Option FieldType} {rm : Room} {index W : Nat} {as' : Array Value} {Q' : Option Value -> Heap -> List Loc -> Prop} (w1 : (Cond.methodLink own index y).before a0 Z = true) (w2 : (Cond.static y).before a0 Z = true) (w3 : (Cond.initialized y.cls).before a0 Z = true) (w4 : (Cond.code y bytes maxL ret).before a0 Z = true) (hy : y.cls ≠ "java/lang/invoke/MethodHandle" /\ y.cls ≠ "java/lang/invoke/VarHandle") (hM : MetFree l y (head1 [Cond.code y bytes maxL ret] rm) (fun a U => a = as' /\ Z.Warmed39 U.vm /\ U.heap = h) (fun _ _ _ _ _ => True) (fun _ U o U' => ∃ v L, o = .returned v /\ Q' v U'.heap L /\ FrameEnd U o U' L rm.cells rm.slots)) (hf : rm.frames + 1 <= R.frames) (hl : W + (maxL + 11) + rm.locals <= R.locals) (eT : T.heap = h) (hsize : Ls.size = c.maxLocals) {argsL rest : List Value} (hlen : ∀ sig, parseMethodDescriptor y.desc = some sig -> argsL.length = sig.parameters.length) (hst : St = argsL.reverse ++ rest) (hW : (rest.map fun v => v.category).sum <= W) (has : argsL.toArray = as') (hd : decode c.code pc = .ok (.invokestatic index, 3)) (hce : cells + rm.cells <= R.cells) (hsl : slots + rm.slots <= R.slots) (k : ∀ T' L v, Stand p l e R s m args below meth c T' (locs ++ L) (cells + rm.cells) (slots + rm.slots) -> Q' v T'.heap L -> KEnds p e below s Cn Sn Q T' (mkF m pc' Ls (v.toList ++ rest))) (hpc : pc + 3 = pc' := by rfl) : KEnds p e below s Cn Sn Q T (mkF m pc Ls St) := by
  subst hpc
  obtain ⟨v, _, ⟨T', L', k', n'⟩, -, X', ⟨Lc, hQ, l', y', z'⟩, st⟩ := Jvm.LawKit.callS X hx (y := y) hown (mvT hZ w1) (mvT hZ w2) (mvT hZ w3) (mvT hZ w4) hy (backOf (W := W) hM hZ w4 w3 hf hl) (g := mkF m pc Ls St) rfl hsize hlen hst (by show 2 * 0 + _ <= _; omega) hd (fun _ _ => ⟨has, eT, hce, hsl⟩)
  dsimp only [Pt.U, Pt.locs, Pt.cells, Pt.slots] at X' l' y' z' st hQ
  subst l' y' z'
  exact k_via st (k T' Lc v X' hQ)
theorem k_callV (X : Stand p l e R s m args below meth c T locs cells slots) (hx : p.tables.exec = Jvm.exec) (hZ : Z.Warmed39 s.vm) (hown : s.vm.findClass own = some m.cls) (pc' : Nat) {pc : Nat} {Ls : Array Slot} {St : List Value} {y : MethodName} {bytes : ByteArray} {maxL : Nat} {ret : Option FieldType} {rm : Room} {index W : Nat} {as' : Array Value} {Q' : Option Value -> Heap -> List Loc -> Prop} {C : String} {a : Addr} (w1 : (Cond.methodLink own index y).before a0 Z = true) (w2 : (Cond.declares y).before a0 Z = true) (w3 : (Cond.selects C y y).before a0 Z = true) (w5 : (Cond.instanceMethod y).before a0 Z = true) (w6 : (Cond.initialized y.cls).before a0 Z = true) (w4 : (Cond.code y bytes maxL ret).before a0 Z = true) (hy : y.cls ≠ "java/lang/invoke/MethodHandle" /\ y.cls ≠ "java/lang/invoke/VarHandle") (Ex : Exa Z h a C) (hM : MetFree l y (head1 [Cond.code y bytes maxL ret] rm) (fun a U => a = as' /\ Z.Warmed39 U.vm /\ U.heap = h) (fun _ _ _ _ _ => True) (fun _ U o U' => ∃ v L, o = .returned v /\ Q' v U'.heap L /\ FrameEnd U o U' L rm.cells rm.slots)) (hf : rm.frames + 1 <= R.frames) (hl : W + (maxL + 11) + rm.locals <= R.locals) (eT : T.heap = h) (hsize : Ls.size = c.maxLocals) {argsL rest : List Value} (hlen : ∀ sig, parseMethodDescriptor y.desc = some sig -> argsL.length = sig.parameters.length) (hst : St = argsL.reverse ++ .ref a :: rest) (hW : (rest.map fun v => v.category).sum <= W) (has : (.ref a :: argsL).toArray = as') (hd : decode c.code pc = .ok (.invokevirtual index, 3)) (hce : cells + rm.cells <= R.cells) (hsl : slots + rm.slots <= R.slots) (k : ∀ T' L v, Stand p l e R s m args below meth c T' (locs ++ L) (cells + rm.cells) (slots + rm.slots) -> Q' v T'.heap L -> KEnds p e below s Cn Sn Q T' (mkF m pc' Ls (v.toList ++ rest))) (hpc : pc + 3 = pc' := by rfl) : KEnds p e below s Cn Sn Q T (mkF m pc Ls St) := by
  subst hpc
  obtain ⟨cq, kq, qa, qb, qc⟩ := isOf hZ eT Ex
  obtain ⟨v, _, ⟨T', L', k', n'⟩, -, X', ⟨Lc, hQ, l', y', z'⟩, st⟩ := X.virtualBack hx (y := y) (z := y) hown (mvT hZ w1) (mvT hZ w2) (notFace_of_selects (args := #[]) (mvT hZ w3)) (mvT hZ w3) (mvT hZ w5) hy (backOf (W := W) hM hZ w4 w6 hf hl) qa qc (g := mkF m pc Ls St) rfl hsize (Steps.refl _) hlen hst (by show 2 * 0 + _ <= _; omega) hd (fun _ _ => ⟨has, eT, hce, hsl⟩)
  dsimp only [Pt.U, Pt.locs, Pt.cells, Pt.slots] at X' l' y' z' st hQ
  subst l' y' z'
  exact k_via (fun t h => st.trans h) (k T' Lc v X' hQ)
theorem k_callI (X : Stand p l e R s m args below meth c T locs cells slots) (hx : p.tables.exec = Jvm.exec) (hZ : Z.Warmed39 s.vm) (hown : s.vm.findClass own = some m.cls) (pc' : Nat) {pc : Nat} {Ls : Array Slot} {St : List Value} {y : MethodName} {bytes : ByteArray} {maxL : Nat} {ret : Option FieldType} {rm : Room} {index W : Nat} {as' : Array Value} {Q' : Option Value -> Heap -> List Loc -> Prop} {a : Addr} (hin : y.name = "<init>") (w1 : (Cond.methodLink own index y).before a0 Z = true) (w5 : (Cond.instanceMethod y).before a0 Z = true) (w6 : (Cond.initialized y.cls).before a0 Z = true) (w4 : (Cond.code y bytes maxL none).before a0 Z = true) (hr : ret = none) (hy : y.cls ≠ "java/lang/invoke/MethodHandle" /\ y.cls ≠ "java/lang/invoke/VarHandle") (hM : MetFree l y (head1 [Cond.code y bytes maxL ret] rm) (fun a U => a = as' /\ Z.Warmed39 U.vm /\ U.heap = h) (fun _ _ _ _ _ => True) (fun _ U o U' => ∃ v L, o = .returned v /\ Q' v U'.heap L /\ FrameEnd U o U' L rm.cells rm.slots)) (hf : rm.frames + 1 <= R.frames) (hl : W + (maxL + 11) + rm.locals <= R.locals) (eT : T.heap = h) (hsize : Ls.size = c.maxLocals) {argsL rest : List Value} (hlen : ∀ sig, parseMethodDescriptor y.desc = some sig -> argsL.length = sig.parameters.length) (hst : St = argsL.reverse ++ .ref a :: rest) (hW : (rest.map fun v => v.category).sum <= W) (has : (.ref a :: argsL).toArray = as') (hd : decode c.code pc = .ok (.invokespecial index, 3)) (hce : cells + rm.cells <= R.cells) (hsl : slots + rm.slots <= R.slots) (k : ∀ T' L v, Stand p l e R s m args below meth c T' (locs ++ L) (cells + rm.cells) (slots + rm.slots) -> Q' v T'.heap L -> KEnds p e below s Cn Sn Q T' (mkF m pc' Ls (v.toList ++ rest))) (hpc : pc + 3 = pc' := by rfl) : KEnds p e below s Cn Sn Q T (mkF m pc Ls St) := by
  subst hpc hr
  obtain ⟨v, _, ⟨T', L', k', n'⟩, -, X', ⟨Lc, hQ, l', y', z'⟩, st⟩ := X.specialBack hx (y := y) hin hown (mvT hZ w1) (mvT hZ w5) (mvT hZ w4) hy (backOf (W := W) hM hZ w4 w6 hf hl) (g := mkF m pc Ls St) rfl hsize (Steps.refl _) (a := a) hlen hst (by show 2 * 0 + _ <= _; omega) hd (fun _ _ => ⟨has, eT, hce, hsl⟩)
  dsimp only [Pt.U, Pt.locs, Pt.cells, Pt.slots] at X' l' y' z' st hQ
  subst l' y' z'
  exact k_via (fun t h => st.trans h) (k T' Lc v X' hQ)
theorem k_callP (X : Stand p l e R s m args below meth c T locs cells slots) (hx : p.tables.exec = Jvm.exec) (hZ : Z.Warmed39 s.vm) (hown : s.vm.findClass own = some m.cls) (pc' : Nat) {pc : Nat} {Ls : Array Slot} {St : List Value} {y : MethodName} {bytes : ByteArray} {maxL : Nat} {ret : Option FieldType} {rm : Room} {index W : Nat} {as' : Array Value} {Q' : Option Value -> Heap -> List Loc -> Prop} {C : String} {a : Addr} {nn : Nat} (w1 : (Cond.methodLink own index y).before a0 Z = true) (w5 : (Cond.instanceMethod y).before a0 Z = true) (wp : (Cond.privateMethod y).before a0 Z = true) (wi : (Cond.instantiable y.cls nn).before a0 Z = true) (w6 : (Cond.initialized y.cls).before a0 Z = true) (w4 : (Cond.code y bytes maxL ret).before a0 Z = true) (hy : y.cls ≠ "java/lang/invoke/MethodHandle" /\ y.cls ≠ "java/lang/invoke/VarHandle") (Ex : Exa Z h a C) (hM : MetFree l y (head1 [Cond.code y bytes maxL ret] rm) (fun a U => a = as' /\ Z.Warmed39 U.vm /\ U.heap = h) (fun _ _ _ _ _ => True) (fun _ U o U' => ∃ v L, o = .returned v /\ Q' v U'.heap L /\ FrameEnd U o U' L rm.cells rm.slots)) (hf : rm.frames + 1 <= R.frames) (hl : W + (maxL + 11) + rm.locals <= R.locals) (eT : T.heap = h) (hsize : Ls.size = c.maxLocals) {argsL rest : List Value} (hlen : ∀ sig, parseMethodDescriptor y.desc = some sig -> argsL.length = sig.parameters.length) (hst : St = argsL.reverse ++ .ref a :: rest) (hW : (rest.map fun v => v.category).sum <= W) (has : (.ref a :: argsL).toArray = as') (hd : decode c.code pc = .ok (.invokevirtual index, 3)) (hce : cells + rm.cells <= R.cells) (hsl : slots + rm.slots <= R.slots) (k : ∀ T' L v, Stand p l e R s m args below meth c T' (locs ++ L) (cells + rm.cells) (slots + rm.slots) -> Q' v T'.heap L -> KEnds p e below s Cn Sn Q T' (mkF m pc' Ls (v.toList ++ rest))) (hpc : pc + 3 = pc' := by rfl) : KEnds p e below s Cn Sn Q T (mkF m pc Ls St) := by
  subst hpc
  have hpriv : s.PrivateAt y := Cond.privateMethod_at (mvP hZ wp (args := args))
  obtain ⟨cc, kk, hc, hk, -, hni, -⟩ := Cond.instantiable_spec ((mvT hZ wi (args := args) : (Cond.instantiable y.cls nn).before args s = true))
  have hsel := selects_self_of_private hc hk (by cases q : kk.isInterface <;> simp_all) hpriv (mvT hZ w5 (args := args)) hy
  obtain ⟨cq, q1, q2⟩ := Ex.cell
  obtain ⟨v, _, ⟨T', L', k', n'⟩, -, X', ⟨Lc, hQ, l', y', z'⟩, st⟩ := X.privateBack hx (y := y) hown (mvT hZ w1) (mvT hZ w5) hsel hpriv (mvT hZ w4) hy (backOf (W := W) hM hZ w4 w6 hf hl) (g := mkF m pc Ls St) rfl hsize (Steps.refl _) (a := a) (by rw [eT]; exact q1) q2 hlen hst (by show 2 * 0 + _ <= _; omega) hd (fun _ _ => ⟨has, eT, hce, hsl⟩)
  dsimp only [Pt.U, Pt.locs, Pt.cells, Pt.slots] at X' l' y' z' st hQ
  subst l' y' z'
  exact k_via (fun t h => st.trans h) (k T' Lc v X' hQ)
end
end Jvm.OwnK
namespace Jvm.Pilot.@@N@@
open Jvm Jvm.ClassFile Sem Op Lib Jvm.Free Jvm.Stand Jvm.LawKit Jvm.RoadKit Jvm.OwnK Bundle Jvm.Pilot.@@N@@.Jvm.D
abbrev WW (a0 : Array Value) (Z : State) : Prop := ∀ d ∈ tables_1, d.before a0 Z = true
def BS (Z : State) (h : Heap) (a : Addr) (v0 : Value) (v1 : Value) (v2 : Value) (v3 : Value) (v4 : Value) (v5 : Value) (v6 : Value) (v7 : Value) (v8 : Value) : Prop := Exa Z h a "com/example/halter/halter/SlidingSum" /\ Fld Z h a "com/example/halter/halter/SlidingSum" "times" "[J" v0 /\ Fld Z h a "com/example/halter/halter/SlidingSum" "costs" "[J" v1 /\ Fld Z h a "com/example/halter/halter/SlidingSum" "most" "J" v2 /\ Fld Z h a "com/example/halter/halter/SlidingSum" "length" "J" v3 /\ Fld Z h a "com/example/halter/halter/SlidingSum" "started" "Z" v4 /\ Fld Z h a "com/example/halter/halter/SlidingSum" "latest" "J" v5 /\ Fld Z h a "com/example/halter/halter/SlidingSum" "size" "I" v6 /\ Fld Z h a "com/example/halter/halter/SlidingSum" "sum" "J" v7 /\ Fld Z h a "com/example/halter/halter/SlidingSum" "head" "I" v8
def BL (Z : State) (h : Heap) (a : Addr) (v0 : Value) (v1 : Value) : Prop := Exa Z h a "com/example/halter/halter/SlidingLogLimiter$Log" /\ Fld Z h a "com/example/halter/halter/SlidingLogLimiter$Log" "limit" "J" v0 /\ Fld Z h a "com/example/halter/halter/SlidingLogLimiter$Log" "admitted" "Lcom/example/halter/halter/SlidingSum;" v1
abbrev c1 := jdk_29_method_66_code
theorem d1_0 : decode c1 0 = .ok (.lload_n 0, 1) := by decide +kernel
theorem d1_1 : decode c1 1 = .ok (.lload_n 2, 1) := by decide +kernel
theorem d1_2 : decode c1 2 = .ok (.lcmp, 1) := by decide +kernel
theorem d1_3 : decode c1 3 = .ok (.ifCond .lt 7, 3) := by decide +kernel
theorem d1_10 : decode c1 10 = .ok (.lload_n 2, 1) := by decide +kernel
theorem d1_11 : decode c1 11 = .ok (.lreturn, 1) := by decide +kernel
theorem d1_6 : decode c1 6 = .ok (.lload_n 0, 1) := by decide +kernel
theorem d1_7 : decode c1 7 = .ok (.goto 4, 3) := by decide +kernel
abbrev R1_1 : Room := { frames := 0, cells := 0, slots := 0, locals := 0 }
def f1_1 (p1 : Int64) : Int64 := (if (1 : Int64) < p1 then p1 else (1 : Int64))
theorem own_mx_f1_1 (p1 : Int64) : ((1 : Int64).toInt < p1.toInt -> (f1_1 p1).toInt = p1.toInt) /\ (¬ (1 : Int64).toInt < p1.toInt -> (f1_1 p1).toInt = (1 : Int64).toInt) := by
  unfold f1_1
  simp only [Int64.lt_iff_toInt_lt]
  exact ⟨fun h => by rw [if_pos h], fun h => by rw [if_neg h]⟩
def Q1_1 (Z : State) (p1 : Int64) (h0 : Heap) (n0 : Nat) (v : Option Value) (h : Heap) (L : List Loc) : Prop := Fr n0 L /\ h = h0 /\ v = some (.long (f1_1 p1))
theorem ef1_1 (m : MethodId) (x1 : Int64) : entryFrame m #[(.long 1), (.long x1)] 4 = mkF m 0 #[.val (.long 1), .second, .val (.long x1), .second] [] := by first | (simp [entryFrame, mkF, argsToLocals, Value.category]; done) | rfl
theorem rm1_1 (l : Launch) (Z : State) (a0 : Array Value) (hw : WW a0 Z) (ws : List Jvm.Cond) (p1 : Int64) (h0 : Heap) (n0 : Nat) (Z0 : n0 <= h0.size)  :
    KMet l (⟨"java/lang/Math", "max", "(JJ)J"⟩ : MethodName) jdk_29_method_66_code 4 (some .long) ws R1_1 #[(.long 1), (.long p1)] Z h0 R1_1.cells R1_1.slots (Q1_1 Z p1 h0 n0) := by
 refine k_body (Jvm.Free.JP.mathPlain rfl (by decide +kernel)) (fun m => ef1_1 m p1) ?_
 intro p e s m below meth c s₁ hx D hml hlk hret hown hnm hZ X0 e0
 have N0 := Fr.nil n0
 refine k_lloadN X0 hx 1 (D d1_0) rfl ?_
 refine k_lloadN X0 hx 2 (D d1_1) rfl ?_
 refine k_lcif_lt X0 hx 6 10 3 (D d1_2) (D d1_3) (fun hc101 => ?_) (fun hc101 => ?_)
 ·
  refine k_lloadN X0 hx 11 (D d1_10) rfl ?_
  have hf : f1_1 p1 = p1 := by simp only [f1_1, if_pos hc101]
  exact k_retL X0 hx hret (D d1_11) hlk (by decide) (by decide) ⟨N0, e0, by rw [hf]⟩
 ·
  refine k_lloadN X0 hx 7 (D d1_6) rfl ?_
  refine k_goto X0 hx 11 (D d1_7) ?_
  have hf : f1_1 p1 = (1 : Int64) := by simp only [f1_1, if_neg hc101]
  exact k_retL X0 hx hret (D d1_11) hlk (by decide) (by decide) ⟨N0, e0, by rw [hf]⟩
theorem pd_0 : parseMethodDescriptor "(JJ)J" = some ⟨[.long, .long], some .long⟩ := by decide +kernel
abbrev c2 := prog_18_method_1_code
theorem d2_0 : decode c2 0 = .ok (.aload_n 0, 1) := by decide +kernel
theorem d2_1 : decode c2 1 = .ok (.invokespecial 1, 3) := by decide +kernel
abbrev c3 := prog_13_method_1_code
theorem d3_0 : decode c3 0 = .ok (.aload_n 0, 1) := by decide +kernel
theorem d3_1 : decode c3 1 = .ok (.invokespecial 1, 3) := by decide +kernel
theorem d3_4 : decode c3 4 = .ok (.return_, 1) := by decide +kernel
abbrev R3_3 : Room := { frames := 1, cells := 0, slots := 0, locals := 12 }
def Q3_3 (Z : State) (a1 : Addr) (h0 : Heap) (n0 : Nat) (v : Option Value) (h : Heap) (L : List Loc) : Prop := Fr n0 L /\ h = h0 /\ ((v = none))
theorem ef3_3 (m : MethodId) (x0 : Addr) : entryFrame m #[(.ref x0)] 1 = mkF m 0 #[.val (.ref x0)] [] := by first | (simp [entryFrame, mkF, argsToLocals, Value.category]; done) | rfl
theorem pn_0 : plainName "com/example/halter/halter/LockedLimit" = true := by first | (simp [plainName, overriddenIn]; done) | decide +kernel
theorem rm3_3 (l : Launch) (Z : State) (a0 : Array Value) (hw : WW a0 Z) (ws : List Jvm.Cond) (a1 : Addr) (h0 : Heap) (n0 : Nat) (Z0 : n0 <= h0.size)  :
    KMet l (⟨"com/example/halter/halter/LockedLimit", "<init>", "()V"⟩ : MethodName) prog_13_method_1_code 1 none ws R3_3 #[(.ref a1)] Z h0 R3_3.cells R3_3.slots (Q3_3 Z a1 h0 n0) := by
 refine k_body (plainFor_of_name pn_0) (fun m => ef3_3 m a1) ?_
 intro p e s m below meth c s₁ hx D hml hlk hret hown hnm hZ X0 e0
 have N0 := Fr.nil n0
 refine k_aloadN X0 hx 1 (D d3_0) rfl rfl ?_
 refine k_initO X0 hx hZ hown 4 (k_w hw 16 rfl) (k_w hw 17 rfl) (k_w hw 18 rfl) e0 (by rw [hml]; rfl) (D d3_1) (by decide) (W := 0) (by decide) (by decide) (fun T101 X101 e101 => ?_)
 exact k_ret X101 hx hret (D d3_4) hlk (by decide) (by decide) ⟨N0, e101, rfl⟩
theorem pd_1 : parseMethodDescriptor "()V" = some ⟨[], none⟩ := by decide +kernel
theorem d2_4 : decode c2 4 = .ok (.aload_n 0, 1) := by decide +kernel
theorem d2_5 : decode c2 5 = .ok (.lload_n 1, 1) := by decide +kernel
theorem d2_6 : decode c2 6 = .ok (.putfield 7, 3) := by decide +kernel
theorem d2_9 : decode c2 9 = .ok (.aload_n 0, 1) := by decide +kernel
theorem d2_10 : decode c2 10 = .ok (.new 13, 3) := by decide +kernel
theorem d2_13 : decode c2 13 = .ok (.dup, 1) := by decide +kernel
theorem d2_14 : decode c2 14 = .ok (.lload_n 1, 1) := by decide +kernel
theorem d2_15 : decode c2 15 = .ok (.lload_n 3, 1) := by decide +kernel
theorem d2_16 : decode c2 16 = .ok (.invokespecial 15, 3) := by decide +kernel
theorem sn0 {Z : State} {a0 : Array Value} (hw : WW a0 Z) : RoadKit.slotOf Z "com/example/halter/halter/SlidingLogLimiter$Log" "admitted" "Lcom/example/halter/halter/SlidingSum;" ≠ RoadKit.slotOf Z "com/example/halter/halter/SlidingLogLimiter$Log" "limit" "J" := slot_ne (Or.inr (k_w hw 38 rfl)) (Or.inr (k_w hw 20 rfl)) (by decide) (t := (.object "com/example/halter/halter/SlidingSum")) (t' := .long) (by decide) (by decide)
abbrev c5 := prog_20_method_1_code
theorem d5_0 : decode c5 0 = .ok (.aload_n 0, 1) := by decide +kernel
theorem d5_1 : decode c5 1 = .ok (.invokespecial 1, 3) := by decide +kernel
theorem d5_4 : decode c5 4 = .ok (.aload_n 0, 1) := by decide +kernel
theorem d5_5 : decode c5 5 = .ok (.iconst 0, 1) := by decide +kernel
theorem d5_6 : decode c5 6 = .ok (.newarray .long, 2) := by decide +kernel
theorem d5_8 : decode c5 8 = .ok (.putfield 7, 3) := by decide +kernel
theorem d5_11 : decode c5 11 = .ok (.aload_n 0, 1) := by decide +kernel
theorem d5_12 : decode c5 12 = .ok (.iconst 0, 1) := by decide +kernel
theorem d5_13 : decode c5 13 = .ok (.newarray .long, 2) := by decide +kernel
theorem d5_15 : decode c5 15 = .ok (.putfield 13, 3) := by decide +kernel
theorem sn1 {Z : State} {a0 : Array Value} (hw : WW a0 Z) : RoadKit.slotOf Z "com/example/halter/halter/SlidingSum" "costs" "[J" ≠ RoadKit.slotOf Z "com/example/halter/halter/SlidingSum" "times" "[J" := slot_ne (Or.inl (k_w hw 32 rfl)) (Or.inl (k_w hw 30 rfl)) (by decide) (t := (.array .long)) (t' := (.array .long)) (by decide) (by decide)
theorem d5_18 : decode c5 18 = .ok (.lload_n 1, 1) := by decide +kernel
theorem d5_19 : decode c5 19 = .ok (.lconst 1, 1) := by decide +kernel
theorem d5_20 : decode c5 20 = .ok (.lcmp, 1) := by decide +kernel
theorem d5_21 : decode c5 21 = .ok (.ifCond .lt 9, 3) := by decide +kernel
theorem d5_24 : decode c5 24 = .ok (.lload_n 3, 1) := by decide +kernel
theorem d5_25 : decode c5 25 = .ok (.lconst 1, 1) := by decide +kernel
theorem d5_26 : decode c5 26 = .ok (.lcmp, 1) := by decide +kernel
theorem d5_27 : decode c5 27 = .ok (.ifCond .ge 18, 3) := by decide +kernel
theorem d5_45 : decode c5 45 = .ok (.aload_n 0, 1) := by decide +kernel
theorem d5_46 : decode c5 46 = .ok (.lload_n 1, 1) := by decide +kernel
theorem d5_47 : decode c5 47 = .ok (.putfield 25, 3) := by decide +kernel
theorem sn2 {Z : State} {a0 : Array Value} (hw : WW a0 Z) : RoadKit.slotOf Z "com/example/halter/halter/SlidingSum" "most" "J" ≠ RoadKit.slotOf Z "com/example/halter/halter/SlidingSum" "times" "[J" := slot_ne (Or.inr (k_w hw 34 rfl)) (Or.inl (k_w hw 30 rfl)) (by decide) (t := .long) (t' := (.array .long)) (by decide) (by decide)
theorem sn3 {Z : State} {a0 : Array Value} (hw : WW a0 Z) : RoadKit.slotOf Z "com/example/halter/halter/SlidingSum" "most" "J" ≠ RoadKit.slotOf Z "com/example/halter/halter/SlidingSum" "costs" "[J" := slot_ne (Or.inr (k_w hw 34 rfl)) (Or.inl (k_w hw 32 rfl)) (by decide) (t := .long) (t' := (.array .long)) (by decide) (by decide)
theorem d5_50 : decode c5 50 = .ok (.aload_n 0, 1) := by decide +kernel
theorem d5_51 : decode c5 51 = .ok (.lload_n 3, 1) := by decide +kernel
theorem d5_52 : decode c5 52 = .ok (.putfield 29, 3) := by decide +kernel
theorem sn4 {Z : State} {a0 : Array Value} (hw : WW a0 Z) : RoadKit.slotOf Z "com/example/halter/halter/SlidingSum" "length" "J" ≠ RoadKit.slotOf Z "com/example/halter/halter/SlidingSum" "times" "[J" := slot_ne (Or.inr (k_w hw 36 rfl)) (Or.inl (k_w hw 30 rfl)) (by decide) (t := .long) (t' := (.array .long)) (by decide) (by decide)
theorem sn5 {Z : State} {a0 : Array Value} (hw : WW a0 Z) : RoadKit.slotOf Z "com/example/halter/halter/SlidingSum" "length" "J" ≠ RoadKit.slotOf Z "com/example/halter/halter/SlidingSum" "costs" "[J" := slot_ne (Or.inr (k_w hw 36 rfl)) (Or.inl (k_w hw 32 rfl)) (by decide) (t := .long) (t' := (.array .long)) (by decide) (by decide)
theorem sn6 {Z : State} {a0 : Array Value} (hw : WW a0 Z) : RoadKit.slotOf Z "com/example/halter/halter/SlidingSum" "length" "J" ≠ RoadKit.slotOf Z "com/example/halter/halter/SlidingSum" "most" "J" := slot_ne (Or.inr (k_w hw 36 rfl)) (Or.inr (k_w hw 34 rfl)) (by decide) (t := .long) (t' := .long) (by decide) (by decide)
theorem d5_55 : decode c5 55 = .ok (.return_, 1) := by decide +kernel
abbrev R5_4 : Room := { frames := 1, cells := 2, slots := 0, locals := 12 }
def Q5_4 (Z : State) (a1 a4 : Addr) (p2 p3 : Int64) (h0 : Heap) (n0 : Nat) (v : Option Value) (h : Heap) (L : List Loc) : Prop := Fr n0 L /\ ((∃ (b102 : Addr) (k102 : ClassId) (b106 : Addr) (k106 : ClassId), v = none /\ BL Z h a4 (.long p2) .null /\ BS Z h a1 (.ref b102) (.ref b106) (.long p2) (.long p3) (.int 0) (.long 0) (.int 0) (.long 0) (.int 0) /\ Arv Z h b102 k102 .long (0 : Int32) [] (.long 0) /\ Arv Z h b106 k106 .long (0 : Int32) [] (.long 0) /\ n0 <= b102 /\ a1 < b102 /\ n0 <= b106 /\ b102 < b106 /\ n0 <= h.size))
theorem sn7 {Z : State} {a0 : Array Value} (hw : WW a0 Z) : RoadKit.slotOf Z "com/example/halter/halter/SlidingSum" "times" "[J" ≠ RoadKit.slotOf Z "com/example/halter/halter/SlidingSum" "costs" "[J" := slot_ne (Or.inl (k_w hw 30 rfl)) (Or.inl (k_w hw 32 rfl)) (by decide) (t := (.array .long)) (t' := (.array .long)) (by decide) (by decide)
theorem sn8 {Z : State} {a0 : Array Value} (hw : WW a0 Z) : RoadKit.slotOf Z "com/example/halter/halter/SlidingSum" "times" "[J" ≠ RoadKit.slotOf Z "com/example/halter/halter/SlidingSum" "most" "J" := slot_ne (Or.inl (k_w hw 30 rfl)) (Or.inr (k_w hw 34 rfl)) (by decide) (t := (.array .long)) (t' := .long) (by decide) (by decide)
theorem sn9 {Z : State} {a0 : Array Value} (hw : WW a0 Z) : RoadKit.slotOf Z "com/example/halter/halter/SlidingSum" "times" "[J" ≠ RoadKit.slotOf Z "com/example/halter/halter/SlidingSum" "length" "J" := slot_ne (Or.inl (k_w hw 30 rfl)) (Or.inr (k_w hw 36 rfl)) (by decide) (t := (.array .long)) (t' := .long) (by decide) (by decide)
theorem sn10 {Z : State} {a0 : Array Value} (hw : WW a0 Z) : RoadKit.slotOf Z "com/example/halter/halter/SlidingSum" "costs" "[J" ≠ RoadKit.slotOf Z "com/example/halter/halter/SlidingSum" "most" "J" := slot_ne (Or.inl (k_w hw 32 rfl)) (Or.inr (k_w hw 34 rfl)) (by decide) (t := (.array .long)) (t' := .long) (by decide) (by decide)
theorem sn11 {Z : State} {a0 : Array Value} (hw : WW a0 Z) : RoadKit.slotOf Z "com/example/halter/halter/SlidingSum" "costs" "[J" ≠ RoadKit.slotOf Z "com/example/halter/halter/SlidingSum" "length" "J" := slot_ne (Or.inl (k_w hw 32 rfl)) (Or.inr (k_w hw 36 rfl)) (by decide) (t := (.array .long)) (t' := .long) (by decide) (by decide)
theorem sn12 {Z : State} {a0 : Array Value} (hw : WW a0 Z) : RoadKit.slotOf Z "com/example/halter/halter/SlidingSum" "most" "J" ≠ RoadKit.slotOf Z "com/example/halter/halter/SlidingSum" "length" "J" := slot_ne (Or.inr (k_w hw 34 rfl)) (Or.inr (k_w hw 36 rfl)) (by decide) (t := .long) (t' := .long) (by decide) (by decide)
theorem sn13 {Z : State} {a0 : Array Value} (hw : WW a0 Z) : RoadKit.slotOf Z "com/example/halter/halter/SlidingSum" "started" "Z" ≠ RoadKit.slotOf Z "com/example/halter/halter/SlidingSum" "times" "[J" := slot_ne (Or.inl (k_w hw 54 rfl)) (Or.inl (k_w hw 30 rfl)) (by decide) (t := .boolean) (t' := (.array .long)) (by decide) (by decide)
theorem sn14 {Z : State} {a0 : Array Value} (hw : WW a0 Z) : RoadKit.slotOf Z "com/example/halter/halter/SlidingSum" "started" "Z" ≠ RoadKit.slotOf Z "com/example/halter/halter/SlidingSum" "costs" "[J" := slot_ne (Or.inl (k_w hw 54 rfl)) (Or.inl (k_w hw 32 rfl)) (by decide) (t := .boolean) (t' := (.array .long)) (by decide) (by decide)
theorem sn15 {Z : State} {a0 : Array Value} (hw : WW a0 Z) : RoadKit.slotOf Z "com/example/halter/halter/SlidingSum" "started" "Z" ≠ RoadKit.slotOf Z "com/example/halter/halter/SlidingSum" "most" "J" := slot_ne (Or.inl (k_w hw 54 rfl)) (Or.inr (k_w hw 34 rfl)) (by decide) (t := .boolean) (t' := .long) (by decide) (by decide)
theorem sn16 {Z : State} {a0 : Array Value} (hw : WW a0 Z) : RoadKit.slotOf Z "com/example/halter/halter/SlidingSum" "started" "Z" ≠ RoadKit.slotOf Z "com/example/halter/halter/SlidingSum" "length" "J" := slot_ne (Or.inl (k_w hw 54 rfl)) (Or.inr (k_w hw 36 rfl)) (by decide) (t := .boolean) (t' := .long) (by decide) (by decide)
theorem sn17 {Z : State} {a0 : Array Value} (hw : WW a0 Z) : RoadKit.slotOf Z "com/example/halter/halter/SlidingSum" "latest" "J" ≠ RoadKit.slotOf Z "com/example/halter/halter/SlidingSum" "times" "[J" := slot_ne (Or.inl (k_w hw 56 rfl)) (Or.inl (k_w hw 30 rfl)) (by decide) (t := .long) (t' := (.array .long)) (by decide) (by decide)
theorem sn18 {Z : State} {a0 : Array Value} (hw : WW a0 Z) : RoadKit.slotOf Z "com/example/halter/halter/SlidingSum" "latest" "J" ≠ RoadKit.slotOf Z "com/example/halter/halter/SlidingSum" "costs" "[J" := slot_ne (Or.inl (k_w hw 56 rfl)) (Or.inl (k_w hw 32 rfl)) (by decide) (t := .long) (t' := (.array .long)) (by decide) (by decide)
theorem sn19 {Z : State} {a0 : Array Value} (hw : WW a0 Z) : RoadKit.slotOf Z "com/example/halter/halter/SlidingSum" "latest" "J" ≠ RoadKit.slotOf Z "com/example/halter/halter/SlidingSum" "most" "J" := slot_ne (Or.inl (k_w hw 56 rfl)) (Or.inr (k_w hw 34 rfl)) (by decide) (t := .long) (t' := .long) (by decide) (by decide)
theorem sn20 {Z : State} {a0 : Array Value} (hw : WW a0 Z) : RoadKit.slotOf Z "com/example/halter/halter/SlidingSum" "latest" "J" ≠ RoadKit.slotOf Z "com/example/halter/halter/SlidingSum" "length" "J" := slot_ne (Or.inl (k_w hw 56 rfl)) (Or.inr (k_w hw 36 rfl)) (by decide) (t := .long) (t' := .long) (by decide) (by decide)
theorem sn21 {Z : State} {a0 : Array Value} (hw : WW a0 Z) : RoadKit.slotOf Z "com/example/halter/halter/SlidingSum" "size" "I" ≠ RoadKit.slotOf Z "com/example/halter/halter/SlidingSum" "times" "[J" := slot_ne (Or.inl (k_w hw 62 rfl)) (Or.inl (k_w hw 30 rfl)) (by decide) (t := .int) (t' := (.array .long)) (by decide) (by decide)
theorem sn22 {Z : State} {a0 : Array Value} (hw : WW a0 Z) : RoadKit.slotOf Z "com/example/halter/halter/SlidingSum" "size" "I" ≠ RoadKit.slotOf Z "com/example/halter/halter/SlidingSum" "costs" "[J" := slot_ne (Or.inl (k_w hw 62 rfl)) (Or.inl (k_w hw 32 rfl)) (by decide) (t := .int) (t' := (.array .long)) (by decide) (by decide)
theorem sn23 {Z : State} {a0 : Array Value} (hw : WW a0 Z) : RoadKit.slotOf Z "com/example/halter/halter/SlidingSum" "size" "I" ≠ RoadKit.slotOf Z "com/example/halter/halter/SlidingSum" "most" "J" := slot_ne (Or.inl (k_w hw 62 rfl)) (Or.inr (k_w hw 34 rfl)) (by decide) (t := .int) (t' := .long) (by decide) (by decide)
theorem sn24 {Z : State} {a0 : Array Value} (hw : WW a0 Z) : RoadKit.slotOf Z "com/example/halter/halter/SlidingSum" "size" "I" ≠ RoadKit.slotOf Z "com/example/halter/halter/SlidingSum" "length" "J" := slot_ne (Or.inl (k_w hw 62 rfl)) (Or.inr (k_w hw 36 rfl)) (by decide) (t := .int) (t' := .long) (by decide) (by decide)
theorem sn25 {Z : State} {a0 : Array Value} (hw : WW a0 Z) : RoadKit.slotOf Z "com/example/halter/halter/SlidingSum" "sum" "J" ≠ RoadKit.slotOf Z "com/example/halter/halter/SlidingSum" "times" "[J" := slot_ne (Or.inl (k_w hw 64 rfl)) (Or.inl (k_w hw 30 rfl)) (by decide) (t := .long) (t' := (.array .long)) (by decide) (by decide)
theorem sn26 {Z : State} {a0 : Array Value} (hw : WW a0 Z) : RoadKit.slotOf Z "com/example/halter/halter/SlidingSum" "sum" "J" ≠ RoadKit.slotOf Z "com/example/halter/halter/SlidingSum" "costs" "[J" := slot_ne (Or.inl (k_w hw 64 rfl)) (Or.inl (k_w hw 32 rfl)) (by decide) (t := .long) (t' := (.array .long)) (by decide) (by decide)
theorem sn27 {Z : State} {a0 : Array Value} (hw : WW a0 Z) : RoadKit.slotOf Z "com/example/halter/halter/SlidingSum" "sum" "J" ≠ RoadKit.slotOf Z "com/example/halter/halter/SlidingSum" "most" "J" := slot_ne (Or.inl (k_w hw 64 rfl)) (Or.inr (k_w hw 34 rfl)) (by decide) (t := .long) (t' := .long) (by decide) (by decide)
theorem sn28 {Z : State} {a0 : Array Value} (hw : WW a0 Z) : RoadKit.slotOf Z "com/example/halter/halter/SlidingSum" "sum" "J" ≠ RoadKit.slotOf Z "com/example/halter/halter/SlidingSum" "length" "J" := slot_ne (Or.inl (k_w hw 64 rfl)) (Or.inr (k_w hw 36 rfl)) (by decide) (t := .long) (t' := .long) (by decide) (by decide)
theorem sn29 {Z : State} {a0 : Array Value} (hw : WW a0 Z) : RoadKit.slotOf Z "com/example/halter/halter/SlidingSum" "head" "I" ≠ RoadKit.slotOf Z "com/example/halter/halter/SlidingSum" "times" "[J" := slot_ne (Or.inl (k_w hw 100 rfl)) (Or.inl (k_w hw 30 rfl)) (by decide) (t := .int) (t' := (.array .long)) (by decide) (by decide)
theorem sn30 {Z : State} {a0 : Array Value} (hw : WW a0 Z) : RoadKit.slotOf Z "com/example/halter/halter/SlidingSum" "head" "I" ≠ RoadKit.slotOf Z "com/example/halter/halter/SlidingSum" "costs" "[J" := slot_ne (Or.inl (k_w hw 100 rfl)) (Or.inl (k_w hw 32 rfl)) (by decide) (t := .int) (t' := (.array .long)) (by decide) (by decide)
theorem sn31 {Z : State} {a0 : Array Value} (hw : WW a0 Z) : RoadKit.slotOf Z "com/example/halter/halter/SlidingSum" "head" "I" ≠ RoadKit.slotOf Z "com/example/halter/halter/SlidingSum" "most" "J" := slot_ne (Or.inl (k_w hw 100 rfl)) (Or.inr (k_w hw 34 rfl)) (by decide) (t := .int) (t' := .long) (by decide) (by decide)
theorem sn32 {Z : State} {a0 : Array Value} (hw : WW a0 Z) : RoadKit.slotOf Z "com/example/halter/halter/SlidingSum" "head" "I" ≠ RoadKit.slotOf Z "com/example/halter/halter/SlidingSum" "length" "J" := slot_ne (Or.inl (k_w hw 100 rfl)) (Or.inr (k_w hw 36 rfl)) (by decide) (t := .int) (t' := .long) (by decide) (by decide)
theorem ef5_4 (m : MethodId) (x0 : Addr) (x1 : Int64) (x2 : Int64) : entryFrame m #[(.ref x0), (.long x1), (.long x2)] 5 = mkF m 0 #[.val (.ref x0), .val (.long x1), .second, .val (.long x2), .second] [] := by first | (simp [entryFrame, mkF, argsToLocals, Value.category]; done) | rfl
theorem pn_1 : plainName "com/example/halter/halter/SlidingSum" = true := by first | (simp [plainName, overriddenIn]; done) | decide +kernel
theorem rm5_4 (l : Launch) (Z : State) (a0 : Array Value) (hw : WW a0 Z) (ws : List Jvm.Cond) (a1 a4 : Addr) (p2 p3 : Int64) (h0 : Heap) (n0 : Nat) (Z0 : n0 <= h0.size) (B0 : BL Z h0 a4 (.long p2) .null) (g_a4 : n0 <= a4) (B2 : BS Z h0 a1 .null .null (.long 0) (.long 0) (.int 0) (.long 0) (.int 0) (.long 0) (.int 0)) (g_a1 : n0 <= a1) (lt0_0 : a4 < a1) (hp0 : ¬ p2 < (1 : Int64)) (hp1 : ¬ (8 : Int64) < p2) (hp2 : ¬ p3 < (1 : Int64)) :
    KMet l (⟨"com/example/halter/halter/SlidingSum", "<init>", "(JJ)V"⟩ : MethodName) prog_20_method_1_code 5 none ws R5_4 #[(.ref a1), (.long p2), (.long p3)] Z h0 R5_4.cells R5_4.slots (Q5_4 Z a1 a4 p2 p3 h0 n0) := by
 refine k_body (plainFor_of_name pn_1) (fun m => ef5_4 m a1 p2 p3) ?_
 intro p e s m below meth c s₁ hx D hml hlk hret hown hnm hZ X0 e0
 have N0 := Fr.nil n0
 obtain ⟨f0, f1, f2⟩ := B0
 obtain ⟨f3, f4, f5, f6, f7, f8, f9, f10, f11, f12⟩ := B2
 refine k_aloadN X0 hx 1 (D d5_0) rfl rfl ?_
 refine k_initO X0 hx hZ hown 4 (k_w hw 27 rfl) (k_w hw 17 rfl) (k_w hw 18 rfl) e0 (by rw [hml]; rfl) (D d5_1) (by decide) (W := 0) (by decide) (by decide) (fun T101 X101 e101 => ?_)
 refine k_aloadN X101 hx 5 (D d5_4) rfl rfl ?_
 refine k_iconst X101 hx 6 (D d5_5) (z := (0 : Int32)) rfl ?_
 refine k_newA X101 hx hZ 8 (k_w hw 28 rfl) e101 (D d5_6) (by decide) (cap := 0) (by decide) (by decide) (by decide) (by decide) 0 (fun T102 h102 b102 k102 g102 X102 e102 E102 V102 => ?_)
 have g_b102 : n0 <= b102 := Nat.le_trans Z0 (Nat.le_of_eq g102.symm)
 have lt_b102 : a1 < b102 := Nat.lt_of_lt_of_le f3.lt (Nat.le_of_eq g102.symm)
 have Z102 : n0 <= h102.size := Nat.le_trans Z0 E102.1
 have Vw102 : Arv Z h102 b102 k102 .long (0 : Int32) [] (.long 0) := V102
 have F103 := (f4.ext E102)
 have F104 := (f3.ext E102)
 refine k_putF1 X102 hx hZ hown 11 (k_w hw 29 rfl) e102 F103 F104 (Or.inl (k_w hw 30 rfl)) (k_w hw 22 rfl) (.array .long) rfl rfl (D d5_8) (fun T105 h105 X105 e105 W105 => ?_)
 have Fw105 := F103.same W105
 have N105 := Fr.snoc X105 N0 g_a1
 have Z105 := k_zw Z102 W105
 refine k_aloadN X105 hx 12 (D d5_11) rfl rfl ?_
 refine k_iconst X105 hx 13 (D d5_12) (z := (0 : Int32)) rfl ?_
 refine k_newA X105 hx hZ 15 (k_w hw 28 rfl) e105 (D d5_13) (by decide) (cap := 0) (by decide) (by decide) (by decide) (by decide) 0 (fun T106 h106 b106 k106 g106 X106 e106 E106 V106 => ?_)
 have F107 := (Vw102.other W105 (Ne.symm (Nat.ne_of_lt lt_b102)))
 have g_b106 : n0 <= b106 := Nat.le_trans Z105 (Nat.le_of_eq g106.symm)
 have lt_b106 : b102 < b106 := Nat.lt_of_lt_of_le F107.lt (Nat.le_of_eq g106.symm)
 have Z106 : n0 <= h106.size := Nat.le_trans Z105 E106.1
 have Vw106 : Arv Z h106 b106 k106 .long (0 : Int32) [] (.long 0) := V106
 have F108 := (((f5.ext E102).other W105 (Or.inr (sn1 hw))).ext E106)
 have F109 := ((F104.wr W105).ext E106)
 refine k_putF1 X106 hx hZ hown 18 (k_w hw 31 rfl) e106 F108 F109 (Or.inl (k_w hw 32 rfl)) (k_w hw 22 rfl) (.array .long) rfl rfl (D d5_15) (fun T110 h110 X110 e110 W110 => ?_)
 have Fw110 := F108.same W110
 have N110 := Fr.snoc X110 N105 g_a1
 have Z110 := k_zw Z106 W110
 refine k_lloadN X110 hx 19 (D d5_18) rfl ?_
 refine k_lconst X110 hx 20 (D d5_19) (z := (1 : Int64)) rfl ?_
 refine k_lcif_lt X110 hx 24 30 21 (D d5_20) (D d5_21) (fun hc => absurd hc hp0) (fun _ => ?_)
 refine k_lloadN X110 hx 25 (D d5_24) rfl ?_
 refine k_lconst X110 hx 26 (D d5_25) (z := (1 : Int64)) rfl ?_
 refine k_lcif_ge X110 hx 30 45 27 (D d5_26) (D d5_27) (fun _ => ?_) (fun hc => absurd hc hp2)
 refine k_aloadN X110 hx 46 (D d5_45) rfl rfl ?_
 refine k_lloadN X110 hx 47 (D d5_46) rfl ?_
 have F111 := ((((f6.ext E102).other W105 (Or.inr (sn2 hw))).ext E106).other W110 (Or.inr (sn3 hw)))
 have F112 := (F109.wr W110)
 refine k_putF1 X110 hx hZ hown 50 (k_w hw 33 rfl) e110 F111 F112 (Or.inr ⟨(k_w hw 34 rfl), rfl, hnm⟩) (k_w hw 22 rfl) .long rfl rfl (D d5_47) (fun T113 h113 X113 e113 W113 => ?_)
 have Fw113 := F111.same W113
 have N113 := Fr.snoc X113 N110 g_a1
 have Z113 := k_zw Z110 W113
 refine k_aloadN X113 hx 51 (D d5_50) rfl rfl ?_
 refine k_lloadN X113 hx 52 (D d5_51) rfl ?_
 have F114 := (((((f7.ext E102).other W105 (Or.inr (sn4 hw))).ext E106).other W110 (Or.inr (sn5 hw))).other W113 (Or.inr (sn6 hw)))
 have F115 := (F112.wr W113)
 refine k_putF1 X113 hx hZ hown 55 (k_w hw 35 rfl) e113 F114 F115 (Or.inr ⟨(k_w hw 36 rfl), rfl, hnm⟩) (k_w hw 22 rfl) .long rfl rfl (D d5_52) (fun T116 h116 X116 e116 W116 => ?_)
 have Fw116 := F114.same W116
 have N116 := Fr.snoc X116 N113 g_a1
 have Z116 := k_zw Z113 W116
 have F117 := ((((((f0.ext E102).wr W105).ext E106).wr W110).wr W113).wr W116)
 have F118 := ((((((f1.ext E102).other W105 (Or.inl (Nat.ne_of_lt lt0_0))).ext E106).other W110 (Or.inl (Nat.ne_of_lt lt0_0))).other W113 (Or.inl (Nat.ne_of_lt lt0_0))).other W116 (Or.inl (Nat.ne_of_lt lt0_0)))
 have F119 := ((((((f2.ext E102).other W105 (Or.inl (Nat.ne_of_lt lt0_0))).ext E106).other W110 (Or.inl (Nat.ne_of_lt lt0_0))).other W113 (Or.inl (Nat.ne_of_lt lt0_0))).other W116 (Or.inl (Nat.ne_of_lt lt0_0)))
 have F120 := (F115.wr W116)
 have F121 := ((((Fw105.ext E106).other W110 (Or.inr (sn7 hw))).other W113 (Or.inr (sn8 hw))).other W116 (Or.inr (sn9 hw)))
 have F122 := ((Fw110.other W113 (Or.inr (sn10 hw))).other W116 (Or.inr (sn11 hw)))
 have F123 := (Fw113.other W116 (Or.inr (sn12 hw)))
 have F124 := ((((((f8.ext E102).other W105 (Or.inr (sn13 hw))).ext E106).other W110 (Or.inr (sn14 hw))).other W113 (Or.inr (sn15 hw))).other W116 (Or.inr (sn16 hw)))
 have F125 := ((((((f9.ext E102).other W105 (Or.inr (sn17 hw))).ext E106).other W110 (Or.inr (sn18 hw))).other W113 (Or.inr (sn19 hw))).other W116 (Or.inr (sn20 hw)))
 have F126 := ((((((f10.ext E102).other W105 (Or.inr (sn21 hw))).ext E106).other W110 (Or.inr (sn22 hw))).other W113 (Or.inr (sn23 hw))).other W116 (Or.inr (sn24 hw)))
 have F127 := ((((((f11.ext E102).other W105 (Or.inr (sn25 hw))).ext E106).other W110 (Or.inr (sn26 hw))).other W113 (Or.inr (sn27 hw))).other W116 (Or.inr (sn28 hw)))
 have F128 := ((((((f12.ext E102).other W105 (Or.inr (sn29 hw))).ext E106).other W110 (Or.inr (sn30 hw))).other W113 (Or.inr (sn31 hw))).other W116 (Or.inr (sn32 hw)))
 have F129 := ((((F107.ext E106).other W110 (Ne.symm (Nat.ne_of_lt lt_b102))).other W113 (Ne.symm (Nat.ne_of_lt lt_b102))).other W116 (Ne.symm (Nat.ne_of_lt lt_b102)))
 have F130 := (((Vw106.other W110 (Ne.symm (Nat.ne_of_lt (Nat.lt_trans lt_b102 lt_b106)))).other W113 (Ne.symm (Nat.ne_of_lt (Nat.lt_trans lt_b102 lt_b106)))).other W116 (Ne.symm (Nat.ne_of_lt (Nat.lt_trans lt_b102 lt_b106))))
 exact k_ret X116 hx hret (D d5_55) hlk (by decide) (by decide) (by rw [e116]; exact ⟨N116, ⟨b102, k102, b106, k106, rfl, ⟨F117, F118, F119⟩, ⟨F120, F121, F122, F123, Fw116, F124, F125, F126, F127, F128⟩, F129, F130, g_b102, lt_b102, g_b106, lt_b106, Z116⟩⟩)
theorem pd_2 : parseMethodDescriptor "(JJ)V" = some ⟨[.long, .long], none⟩ := by decide +kernel
theorem d2_19 : decode c2 19 = .ok (.putfield 18, 3) := by decide +kernel
theorem d2_22 : decode c2 22 = .ok (.return_, 1) := by decide +kernel
abbrev R2_2 : Room := { frames := 2, cells := 3, slots := 9, locals := 30 }
def Q2_2 (Z : State) (a1 : Addr) (p2 p3 : Int64) (h0 : Heap) (n0 : Nat) (v : Option Value) (h : Heap) (L : List Loc) : Prop := Fr n0 L /\ ((∃ (b103 : Addr) (b118 : Addr) (k119 : ClassId) (b120 : Addr) (k121 : ClassId), v = none /\ BL Z h a1 (.long p2) (.ref b103) /\ BS Z h b103 (.ref b118) (.ref b120) (.long p2) (.long p3) (.int 0) (.long 0) (.int 0) (.long 0) (.int 0) /\ Arv Z h b118 k119 .long (0 : Int32) [] (.long 0) /\ Arv Z h b120 k121 .long (0 : Int32) [] (.long 0) /\ n0 <= b103 /\ a1 < b103 /\ n0 <= b118 /\ b103 < b118 /\ n0 <= b120 /\ b118 < b120 /\ n0 <= h.size))
theorem sn33 {Z : State} {a0 : Array Value} (hw : WW a0 Z) : RoadKit.slotOf Z "com/example/halter/halter/SlidingLogLimiter$Log" "limit" "J" ≠ RoadKit.slotOf Z "com/example/halter/halter/SlidingLogLimiter$Log" "admitted" "Lcom/example/halter/halter/SlidingSum;" := slot_ne (Or.inr (k_w hw 20 rfl)) (Or.inr (k_w hw 38 rfl)) (by decide) (t := .long) (t' := (.object "com/example/halter/halter/SlidingSum")) (by decide) (by decide)
theorem pn_2 : plainName "com/example/halter/halter/SlidingLogLimiter$Log" = true := by first | (simp [plainName, overriddenIn]; done) | decide +kernel
theorem rm2_2 (l : Launch) (Z : State) (a0 : Array Value) (hw : WW a0 Z) (ws : List Jvm.Cond) (a1 : Addr) (p2 p3 : Int64) (h0 : Heap) (n0 : Nat) (Z0 : n0 <= h0.size) (B0 : BL Z h0 a1 (.long 0) .null) (g_a1 : n0 <= a1) (hp0 : ¬ p2 < (1 : Int64)) (hp1 : ¬ (8 : Int64) < p2) (hp2 : ¬ p3 < (1 : Int64)) :
    KMet l (⟨"com/example/halter/halter/SlidingLogLimiter$Log", "<init>", "(JJ)V"⟩ : MethodName) prog_18_method_1_code 5 none ws R2_2 #[(.ref a1), (.long p2), (.long p3)] Z h0 R2_2.cells R2_2.slots (Q2_2 Z a1 p2 p3 h0 n0) := by
 refine k_body (plainFor_of_name pn_2) (fun m => ef5_4 m a1 p2 p3) ?_
 intro p e s m below meth c s₁ hx D hml hlk hret hown hnm hZ X0 e0
 have N0 := Fr.nil n0
 obtain ⟨f0, f1, f2⟩ := B0
 refine k_aloadN X0 hx 1 (D d2_0) rfl rfl ?_
 refine k_callI X0 hx hZ hown 4 (a := a1) rfl (k_w hw 11 rfl) (k_w hw 12 rfl) (k_w hw 14 rfl) (k_w hw 15 rfl) rfl (by decide) (rm3_3 l Z a0 hw [] a1 h0 n0 Z0 ) (by decide) (by decide) e0 (by rw [hml]; rfl) (argsL := []) (rest := []) (lenOf pd_1 rfl) rfl (W := 0) (Nat.le_refl _) rfl (D d2_1) (by decide) (by decide) (fun T101 L101 r101 X101 q101 => ?_)
 obtain ⟨N101, e101, q101⟩ := q101
 have N101' := Fr.app N0 N101
 obtain rfl := q101
 refine k_n0 ?_
 refine k_aloadN X101 hx 5 (D d2_4) rfl rfl ?_
 refine k_lloadN X101 hx 6 (D d2_5) rfl ?_
 refine k_putF1 X101 hx hZ hown 9 (k_w hw 19 rfl) e101 f1 f0 (Or.inr ⟨(k_w hw 20 rfl), rfl, hnm⟩) (k_w hw 6 rfl) .long rfl rfl (D d2_6) (fun T102 h102 X102 e102 W102 => ?_)
 have Fw102 := f1.same W102
 have N102 := Fr.snoc X102 N101' g_a1
 have Z102 := k_zw Z0 W102
 refine k_aloadN X102 hx 10 (D d2_9) rfl rfl ?_
 refine k_newO X102 hx hZ hown 13 (k_w hw 21 rfl) (k_w hw 22 rfl) (k_w hw 23 rfl) e102 (D d2_10) (by decide) (by decide) (fun T103 h103 b103 g103 X103 e103 E103 A103 D103 => ?_)
 have F104 := (f0.wr W102)
 have g_b103 : n0 <= b103 := Nat.le_trans Z102 (Nat.le_of_eq g103.symm)
 have lt_b103 : a1 < b103 := Nat.lt_of_lt_of_le F104.lt (Nat.le_of_eq g103.symm)
 have Z103 : n0 <= h103.size := Nat.le_trans Z102 E103.1
 have F105 : Fld Z h103 b103 "com/example/halter/halter/SlidingSum" "times" "[J" .null := D103 (Or.inl (k_w hw 30 rfl)) (ty := (.array .long)) (by decide)
 have F106 : Fld Z h103 b103 "com/example/halter/halter/SlidingSum" "costs" "[J" .null := D103 (Or.inl (k_w hw 32 rfl)) (ty := (.array .long)) (by decide)
 have F107 : Fld Z h103 b103 "com/example/halter/halter/SlidingSum" "most" "J" (.long 0) := D103 (Or.inr (k_w hw 34 rfl)) (ty := .long) (by decide)
 have F108 : Fld Z h103 b103 "com/example/halter/halter/SlidingSum" "length" "J" (.long 0) := D103 (Or.inr (k_w hw 36 rfl)) (ty := .long) (by decide)
 have F109 : Fld Z h103 b103 "com/example/halter/halter/SlidingSum" "started" "Z" (.int 0) := D103 (Or.inl (k_w hw 54 rfl)) (ty := .boolean) (by decide)
 have F110 : Fld Z h103 b103 "com/example/halter/halter/SlidingSum" "latest" "J" (.long 0) := D103 (Or.inl (k_w hw 56 rfl)) (ty := .long) (by decide)
 have F111 : Fld Z h103 b103 "com/example/halter/halter/SlidingSum" "size" "I" (.int 0) := D103 (Or.inl (k_w hw 62 rfl)) (ty := .int) (by decide)
 have F112 : Fld Z h103 b103 "com/example/halter/halter/SlidingSum" "sum" "J" (.long 0) := D103 (Or.inl (k_w hw 64 rfl)) (ty := .long) (by decide)
 have F113 : Fld Z h103 b103 "com/example/halter/halter/SlidingSum" "head" "I" (.int 0) := D103 (Or.inl (k_w hw 100 rfl)) (ty := .int) (by decide)
 refine k_dup X103 hx 14 (D d2_13) rfl ?_
 refine k_lloadN X103 hx 15 (D d2_14) rfl ?_
 refine k_lloadN X103 hx 16 (D d2_15) rfl ?_
 have F114 := (F104.ext E103)
 have F115 := (Fw102.ext E103)
 have F116 := ((f2.other W102 (Or.inr (sn0 hw))).ext E103)
 refine k_callI X103 hx hZ hown 19 (a := b103) rfl (k_w hw 24 rfl) (k_w hw 25 rfl) (k_w hw 23 rfl) (k_w hw 26 rfl) rfl (by decide) (rm5_4 l Z a0 hw [] b103 a1 p2 p3 h103 n0 Z103 ⟨F114, F115, F116⟩ g_a1 ⟨A103, F105, F106, F107, F108, F109, F110, F111, F112, F113⟩ g_b103 lt_b103 hp0 hp1 hp2) (by decide) (by decide) e103 (by rw [hml]; rfl) (argsL := [(.long p2), (.long p3)]) (rest := [(.ref b103), (.ref a1)]) (lenOf pd_2 rfl) rfl (W := 2) (Nat.le_refl _) rfl (D d2_16) (by decide) (by decide) (fun T117 L117 r117 X117 q117 => ?_)
 obtain ⟨N117, q117⟩ := q117
 have N117' := Fr.app N102 N117
 obtain ⟨b118, k119, b120, k121, rfl, ⟨F122, F123, F124⟩, ⟨F125, F126, F127, F128, F129, F130, F131, F132, F133, F134⟩, F135, F136, g_b118, lt137, g_b120, lt138, Z139⟩ := q117
 refine k_n0 ?_
 refine k_putF1 X117 hx hZ hown 22 (k_w hw 37 rfl) rfl F124 F122 (Or.inr ⟨(k_w hw 38 rfl), rfl, hnm⟩) (k_w hw 6 rfl) (.object "com/example/halter/halter/SlidingSum") rfl rfl (D d2_19) (fun T140 h140 X140 e140 W140 => ?_)
 have Fw140 := F124.same W140
 have N140 := Fr.snoc X140 N117' g_a1
 have Z140 := k_zw Z139 W140
 have F141 := (F122.wr W140)
 have F142 := (F123.other W140 (Or.inr (sn33 hw)))
 have F143 := (F125.wr W140)
 have F144 := (F126.other W140 (Or.inl (Ne.symm (Nat.ne_of_lt lt_b103))))
 have F145 := (F127.other W140 (Or.inl (Ne.symm (Nat.ne_of_lt lt_b103))))
 have F146 := (F128.other W140 (Or.inl (Ne.symm (Nat.ne_of_lt lt_b103))))
 have F147 := (F129.other W140 (Or.inl (Ne.symm (Nat.ne_of_lt lt_b103))))
 have F148 := (F130.other W140 (Or.inl (Ne.symm (Nat.ne_of_lt lt_b103))))
 have F149 := (F131.other W140 (Or.inl (Ne.symm (Nat.ne_of_lt lt_b103))))
 have F150 := (F132.other W140 (Or.inl (Ne.symm (Nat.ne_of_lt lt_b103))))
 have F151 := (F133.other W140 (Or.inl (Ne.symm (Nat.ne_of_lt lt_b103))))
 have F152 := (F134.other W140 (Or.inl (Ne.symm (Nat.ne_of_lt lt_b103))))
 have F153 := (F135.other W140 (Ne.symm (Nat.ne_of_lt (Nat.lt_trans lt_b103 lt137))))
 have F154 := (F136.other W140 (Ne.symm (Nat.ne_of_lt (Nat.lt_trans (Nat.lt_trans lt_b103 lt137) lt138))))
 exact k_ret X140 hx hret (D d2_22) hlk (by decide) (by decide) (by rw [e140]; exact ⟨N140, ⟨b103, b118, k119, b120, k121, rfl, ⟨F141, F142, Fw140⟩, ⟨F143, F144, F145, F146, F147, F148, F149, F150, F151, F152⟩, F153, F154, g_b103, lt_b103, g_b118, lt137, g_b120, lt138, Z140⟩⟩)
abbrev c6 := prog_18_method_3_code
theorem d6_0 : decode c6 0 = .ok (.aload_n 0, 1) := by decide +kernel
theorem d6_1 : decode c6 1 = .ok (.getfield 18, 3) := by decide +kernel
theorem d6_4 : decode c6 4 = .ok (.lload_n 1, 1) := by decide +kernel
theorem d6_5 : decode c6 5 = .ok (.invokevirtual 28, 3) := by decide +kernel
abbrev c7 := prog_20_method_2_code
theorem d7_0 : decode c7 0 = .ok (.aload_n 0, 1) := by decide +kernel
theorem d7_1 : decode c7 1 = .ok (.lload_n 1, 1) := by decide +kernel
theorem d7_2 : decode c7 2 = .ok (.invokevirtual 32, 3) := by decide +kernel
abbrev c8 := prog_20_method_7_code
theorem d8_0 : decode c8 0 = .ok (.aload_n 0, 1) := by decide +kernel
theorem d8_1 : decode c8 1 = .ok (.getfield 49, 3) := by decide +kernel
theorem d8_4 : decode c8 4 = .ok (.ifCond .eq 14, 3) := by decide +kernel
theorem d8_18 : decode c8 18 = .ok (.aload_n 0, 1) := by decide +kernel
theorem d8_19 : decode c8 19 = .ok (.lload_n 1, 1) := by decide +kernel
theorem d8_20 : decode c8 20 = .ok (.putfield 53, 3) := by decide +kernel
theorem d8_23 : decode c8 23 = .ok (.aload_n 0, 1) := by decide +kernel
theorem d8_24 : decode c8 24 = .ok (.iconst 1, 1) := by decide +kernel
theorem d8_25 : decode c8 25 = .ok (.putfield 49, 3) := by decide +kernel
theorem sn34 {Z : State} {a0 : Array Value} (hw : WW a0 Z) : RoadKit.slotOf Z "com/example/halter/halter/SlidingSum" "started" "Z" ≠ RoadKit.slotOf Z "com/example/halter/halter/SlidingSum" "latest" "J" := slot_ne (Or.inl (k_w hw 54 rfl)) (Or.inl (k_w hw 56 rfl)) (by decide) (t := .boolean) (t' := .long) (by decide) (by decide)
theorem d8_28 : decode c8 28 = .ok (.aload_n 0, 1) := by decide +kernel
theorem d8_29 : decode c8 29 = .ok (.invokevirtual 56, 3) := by decide +kernel
theorem sn35 {Z : State} {a0 : Array Value} (hw : WW a0 Z) : RoadKit.slotOf Z "com/example/halter/halter/SlidingSum" "times" "[J" ≠ RoadKit.slotOf Z "com/example/halter/halter/SlidingSum" "latest" "J" := slot_ne (Or.inl (k_w hw 30 rfl)) (Or.inl (k_w hw 56 rfl)) (by decide) (t := (.array .long)) (t' := .long) (by decide) (by decide)
theorem sn36 {Z : State} {a0 : Array Value} (hw : WW a0 Z) : RoadKit.slotOf Z "com/example/halter/halter/SlidingSum" "times" "[J" ≠ RoadKit.slotOf Z "com/example/halter/halter/SlidingSum" "started" "Z" := slot_ne (Or.inl (k_w hw 30 rfl)) (Or.inl (k_w hw 54 rfl)) (by decide) (t := (.array .long)) (t' := .boolean) (by decide) (by decide)
theorem sn37 {Z : State} {a0 : Array Value} (hw : WW a0 Z) : RoadKit.slotOf Z "com/example/halter/halter/SlidingSum" "costs" "[J" ≠ RoadKit.slotOf Z "com/example/halter/halter/SlidingSum" "latest" "J" := slot_ne (Or.inl (k_w hw 32 rfl)) (Or.inl (k_w hw 56 rfl)) (by decide) (t := (.array .long)) (t' := .long) (by decide) (by decide)
theorem sn38 {Z : State} {a0 : Array Value} (hw : WW a0 Z) : RoadKit.slotOf Z "com/example/halter/halter/SlidingSum" "costs" "[J" ≠ RoadKit.slotOf Z "com/example/halter/halter/SlidingSum" "started" "Z" := slot_ne (Or.inl (k_w hw 32 rfl)) (Or.inl (k_w hw 54 rfl)) (by decide) (t := (.array .long)) (t' := .boolean) (by decide) (by decide)
theorem sn39 {Z : State} {a0 : Array Value} (hw : WW a0 Z) : RoadKit.slotOf Z "com/example/halter/halter/SlidingSum" "most" "J" ≠ RoadKit.slotOf Z "com/example/halter/halter/SlidingSum" "latest" "J" := slot_ne (Or.inr (k_w hw 34 rfl)) (Or.inl (k_w hw 56 rfl)) (by decide) (t := .long) (t' := .long) (by decide) (by decide)
theorem sn40 {Z : State} {a0 : Array Value} (hw : WW a0 Z) : RoadKit.slotOf Z "com/example/halter/halter/SlidingSum" "most" "J" ≠ RoadKit.slotOf Z "com/example/halter/halter/SlidingSum" "started" "Z" := slot_ne (Or.inr (k_w hw 34 rfl)) (Or.inl (k_w hw 54 rfl)) (by decide) (t := .long) (t' := .boolean) (by decide) (by decide)
theorem sn41 {Z : State} {a0 : Array Value} (hw : WW a0 Z) : RoadKit.slotOf Z "com/example/halter/halter/SlidingSum" "length" "J" ≠ RoadKit.slotOf Z "com/example/halter/halter/SlidingSum" "latest" "J" := slot_ne (Or.inr (k_w hw 36 rfl)) (Or.inl (k_w hw 56 rfl)) (by decide) (t := .long) (t' := .long) (by decide) (by decide)
theorem sn42 {Z : State} {a0 : Array Value} (hw : WW a0 Z) : RoadKit.slotOf Z "com/example/halter/halter/SlidingSum" "length" "J" ≠ RoadKit.slotOf Z "com/example/halter/halter/SlidingSum" "started" "Z" := slot_ne (Or.inr (k_w hw 36 rfl)) (Or.inl (k_w hw 54 rfl)) (by decide) (t := .long) (t' := .boolean) (by decide) (by decide)
theorem sn43 {Z : State} {a0 : Array Value} (hw : WW a0 Z) : RoadKit.slotOf Z "com/example/halter/halter/SlidingSum" "latest" "J" ≠ RoadKit.slotOf Z "com/example/halter/halter/SlidingSum" "started" "Z" := slot_ne (Or.inl (k_w hw 56 rfl)) (Or.inl (k_w hw 54 rfl)) (by decide) (t := .long) (t' := .boolean) (by decide) (by decide)
theorem sn44 {Z : State} {a0 : Array Value} (hw : WW a0 Z) : RoadKit.slotOf Z "com/example/halter/halter/SlidingSum" "size" "I" ≠ RoadKit.slotOf Z "com/example/halter/halter/SlidingSum" "latest" "J" := slot_ne (Or.inl (k_w hw 62 rfl)) (Or.inl (k_w hw 56 rfl)) (by decide) (t := .int) (t' := .long) (by decide) (by decide)
theorem sn45 {Z : State} {a0 : Array Value} (hw : WW a0 Z) : RoadKit.slotOf Z "com/example/halter/halter/SlidingSum" "size" "I" ≠ RoadKit.slotOf Z "com/example/halter/halter/SlidingSum" "started" "Z" := slot_ne (Or.inl (k_w hw 62 rfl)) (Or.inl (k_w hw 54 rfl)) (by decide) (t := .int) (t' := .boolean) (by decide) (by decide)
theorem sn46 {Z : State} {a0 : Array Value} (hw : WW a0 Z) : RoadKit.slotOf Z "com/example/halter/halter/SlidingSum" "sum" "J" ≠ RoadKit.slotOf Z "com/example/halter/halter/SlidingSum" "latest" "J" := slot_ne (Or.inl (k_w hw 64 rfl)) (Or.inl (k_w hw 56 rfl)) (by decide) (t := .long) (t' := .long) (by decide) (by decide)
theorem sn47 {Z : State} {a0 : Array Value} (hw : WW a0 Z) : RoadKit.slotOf Z "com/example/halter/halter/SlidingSum" "sum" "J" ≠ RoadKit.slotOf Z "com/example/halter/halter/SlidingSum" "started" "Z" := slot_ne (Or.inl (k_w hw 64 rfl)) (Or.inl (k_w hw 54 rfl)) (by decide) (t := .long) (t' := .boolean) (by decide) (by decide)
theorem sn48 {Z : State} {a0 : Array Value} (hw : WW a0 Z) : RoadKit.slotOf Z "com/example/halter/halter/SlidingSum" "head" "I" ≠ RoadKit.slotOf Z "com/example/halter/halter/SlidingSum" "latest" "J" := slot_ne (Or.inl (k_w hw 100 rfl)) (Or.inl (k_w hw 56 rfl)) (by decide) (t := .int) (t' := .long) (by decide) (by decide)
theorem sn49 {Z : State} {a0 : Array Value} (hw : WW a0 Z) : RoadKit.slotOf Z "com/example/halter/halter/SlidingSum" "head" "I" ≠ RoadKit.slotOf Z "com/example/halter/halter/SlidingSum" "started" "Z" := slot_ne (Or.inl (k_w hw 100 rfl)) (Or.inl (k_w hw 54 rfl)) (by decide) (t := .int) (t' := .boolean) (by decide) (by decide)
abbrev c9 := prog_20_method_8_code
theorem d9_0 : decode c9 0 = .ok (.aload_n 0, 1) := by decide +kernel
theorem d9_1 : decode c9 1 = .ok (.getfield 45, 3) := by decide +kernel
theorem d9_4 : decode c9 4 = .ok (.ifCond .le 65, 3) := by decide +kernel
theorem d9_69 : decode c9 69 = .ok (.aload_n 0, 1) := by decide +kernel
theorem d9_70 : decode c9 70 = .ok (.getfield 7, 3) := by decide +kernel
theorem d9_73 : decode c9 73 = .ok (.arraylength, 1) := by decide +kernel
theorem d9_74 : decode c9 74 = .ok (.istore_n 1, 1) := by decide +kernel
theorem d9_75 : decode c9 75 = .ok (.iload_n 1, 1) := by decide +kernel
theorem d9_76 : decode c9 76 = .ok (.bipush 8, 2) := by decide +kernel
theorem d9_78 : decode c9 78 = .ok (.if_icmp .le 20, 3) := by decide +kernel
theorem d9_98 : decode c9 98 = .ok (.iload_n 1, 1) := by decide +kernel
theorem d9_99 : decode c9 99 = .ok (.aload_n 0, 1) := by decide +kernel
theorem d9_100 : decode c9 100 = .ok (.getfield 7, 3) := by decide +kernel
theorem d9_103 : decode c9 103 = .ok (.arraylength, 1) := by decide +kernel
theorem d9_104 : decode c9 104 = .ok (.if_icmp .eq 8, 3) := by decide +kernel
theorem d9_112 : decode c9 112 = .ok (.return_, 1) := by decide +kernel
abbrev R9_8 : Room := { frames := 0, cells := 0, slots := 0, locals := 0 }
def Q9_8 (Z : State) (a1 a2 a4 a5 : Addr) (p3 p6 p7 : Int64) (k8 k9 : ClassId) (h0 : Heap) (n0 : Nat) (v : Option Value) (h : Heap) (L : List Loc) : Prop := Fr n0 L /\ ((v = none /\ BL Z h a2 (.long p3) (.ref a1) /\ BS Z h a1 (.ref a4) (.ref a5) (.long p3) (.long p6) (.int 1) (.long p7) (.int 0) (.long 0) (.int 0) /\ Arv Z h a4 k8 .long (0 : Int32) [] (.long 0) /\ Arv Z h a5 k9 .long (0 : Int32) [] (.long 0) /\ n0 <= h.size))
theorem ef9_8 (m : MethodId) (x0 : Addr) : entryFrame m #[(.ref x0)] 2 = mkF m 0 #[.val (.ref x0), .unset] [] := by first | (simp [entryFrame, mkF, argsToLocals, Value.category]; done) | rfl
theorem rm9_8 (l : Launch) (Z : State) (a0 : Array Value) (hw : WW a0 Z) (ws : List Jvm.Cond) (a1 a2 a4 a5 : Addr) (p3 p6 p7 : Int64) (k8 k9 : ClassId) (h0 : Heap) (n0 : Nat) (Z0 : n0 <= h0.size) (B0 : BL Z h0 a2 (.long p3) (.ref a1)) (g_a2 : n0 <= a2) (B2 : BS Z h0 a1 (.ref a4) (.ref a5) (.long p3) (.long p6) (.int 1) (.long p7) (.int 0) (.long 0) (.int 0)) (g_a1 : n0 <= a1) (F0_4 : Arv Z h0 a4 k8 .long (0 : Int32) [] (.long 0)) (g_a4 : n0 <= a4) (F0_6 : Arv Z h0 a5 k9 .long (0 : Int32) [] (.long 0)) (g_a5 : n0 <= a5) (lt0_0 : a2 < a1) (lt0_1 : a1 < a4) (lt0_2 : a4 < a5) (hp0 : ¬ p3 < (1 : Int64)) (hp1 : ¬ (8 : Int64) < p3) (hp2 : ¬ p6 < (1 : Int64)) :
    KMet l (⟨"com/example/halter/halter/SlidingSum", "forgetWhatLeftTheWindow", "()V"⟩ : MethodName) prog_20_method_8_code 2 none ws R9_8 #[(.ref a1)] Z h0 R9_8.cells R9_8.slots (Q9_8 Z a1 a2 a4 a5 p3 p6 p7 k8 k9 h0 n0) := by
 refine k_body (plainFor_of_name pn_1) (fun m => ef9_8 m a1) ?_
 intro p e s m below meth c s₁ hx D hml hlk hret hown hnm hZ X0 e0
 have N0 := Fr.nil n0
 obtain ⟨f0, f1, f2⟩ := B0
 obtain ⟨f3, f4, f5, f6, f7, f8, f9, f10, f11, f12⟩ := B2
 refine k_aloadN X0 hx 1 (D d9_0) rfl rfl ?_
 refine k_getF1 X0 hx hZ hown 4 (k_w hw 61 rfl) e0 f10 (D d9_1) (fun T101 X101 e101 => ?_)
 refine k_if_le X101 hx 7 69 (D d9_4) (fun _ => ?_) (fun hc => absurd hc (by decide))
 refine k_aloadN X101 hx 70 (D d9_69) rfl rfl ?_
 refine k_getF1 X101 hx hZ hown 73 (k_w hw 29 rfl) e101 f4 (D d9_70) (fun T102 X102 e102 => ?_)
 refine k_alen X102 hx hZ 74 e102 F0_4 (D d9_73) ?_
 refine k_istoreN X102 hx 75 (D d9_74) (Ls' := #[rv a1, iv 0]) rfl ?_
 refine k_iloadN X102 hx 76 (D d9_75) rfl ?_
 refine k_bipush X102 hx 78 (D d9_76) (z := (8 : Int32)) rfl ?_
 refine k_icmp_le X102 hx 81 98 (D d9_78) (fun _ => ?_) (fun hc => absurd hc (by decide))
 refine k_iloadN X102 hx 99 (D d9_98) rfl ?_
 refine k_aloadN X102 hx 100 (D d9_99) rfl rfl ?_
 refine k_getF1 X102 hx hZ hown 103 (k_w hw 29 rfl) e102 f4 (D d9_100) (fun T103 X103 e103 => ?_)
 refine k_alen X103 hx hZ 104 e103 F0_4 (D d9_103) ?_
 refine k_icmp_eq X103 hx 107 112 (D d9_104) (fun _ => ?_) (fun hc => absurd (by decide) hc)
 exact k_ret X103 hx hret (D d9_112) hlk (by decide) (by decide) (by rw [e103]; exact ⟨N0, ⟨rfl, ⟨f0, f1, f2⟩, ⟨f3, f4, f5, f6, f7, f8, f9, f10, f11, f12⟩, F0_4, F0_6, Z0⟩⟩)
theorem d8_32 : decode c8 32 = .ok (.return_, 1) := by decide +kernel
abbrev R8_7 : Room := { frames := 1, cells := 0, slots := 0, locals := 13 }
def Q8_7 (Z : State) (a1 a3 a5 a6 : Addr) (p2 p4 p7 : Int64) (k8 k9 : ClassId) (h0 : Heap) (n0 : Nat) (v : Option Value) (h : Heap) (L : List Loc) : Prop := Fr n0 L /\ ((v = none /\ BL Z h a3 (.long p4) (.ref a1) /\ BS Z h a1 (.ref a5) (.ref a6) (.long p4) (.long p7) (.int 1) (.long p2) (.int 0) (.long 0) (.int 0) /\ Arv Z h a5 k8 .long (0 : Int32) [] (.long 0) /\ Arv Z h a6 k9 .long (0 : Int32) [] (.long 0) /\ n0 <= h.size))
theorem ef8_7 (m : MethodId) (x0 : Addr) (x1 : Int64) : entryFrame m #[(.ref x0), (.long x1)] 3 = mkF m 0 #[.val (.ref x0), .val (.long x1), .second] [] := by first | (simp [entryFrame, mkF, argsToLocals, Value.category]; done) | rfl
theorem rm8_7 (l : Launch) (Z : State) (a0 : Array Value) (hw : WW a0 Z) (ws : List Jvm.Cond) (a1 a3 a5 a6 : Addr) (p2 p4 p7 : Int64) (k8 k9 : ClassId) (h0 : Heap) (n0 : Nat) (Z0 : n0 <= h0.size) (B0 : BL Z h0 a3 (.long p4) (.ref a1)) (g_a3 : n0 <= a3) (B2 : BS Z h0 a1 (.ref a5) (.ref a6) (.long p4) (.long p7) (.int 0) (.long 0) (.int 0) (.long 0) (.int 0)) (g_a1 : n0 <= a1) (F0_4 : Arv Z h0 a5 k8 .long (0 : Int32) [] (.long 0)) (g_a5 : n0 <= a5) (F0_6 : Arv Z h0 a6 k9 .long (0 : Int32) [] (.long 0)) (g_a6 : n0 <= a6) (lt0_0 : a3 < a1) (lt0_1 : a1 < a5) (lt0_2 : a5 < a6) (hp0 : ¬ p4 < (1 : Int64)) (hp1 : ¬ (8 : Int64) < p4) (hp2 : ¬ p7 < (1 : Int64)) :
    KMet l (⟨"com/example/halter/halter/SlidingSum", "catchUp", "(J)V"⟩ : MethodName) prog_20_method_7_code 3 none ws R8_7 #[(.ref a1), (.long p2)] Z h0 R8_7.cells R8_7.slots (Q8_7 Z a1 a3 a5 a6 p2 p4 p7 k8 k9 h0 n0) := by
 refine k_body (plainFor_of_name pn_1) (fun m => ef8_7 m a1 p2) ?_
 intro p e s m below meth c s₁ hx D hml hlk hret hown hnm hZ X0 e0
 have N0 := Fr.nil n0
 obtain ⟨f0, f1, f2⟩ := B0
 obtain ⟨f3, f4, f5, f6, f7, f8, f9, f10, f11, f12⟩ := B2
 refine k_aloadN X0 hx 1 (D d8_0) rfl rfl ?_
 refine k_getF1 X0 hx hZ hown 4 (k_w hw 53 rfl) e0 f8 (D d8_1) (fun T101 X101 e101 => ?_)
 refine k_if_eq X101 hx 7 18 (D d8_4) (fun _ => ?_) (fun hc => absurd (by decide) hc)
 refine k_aloadN X101 hx 19 (D d8_18) rfl rfl ?_
 refine k_lloadN X101 hx 20 (D d8_19) rfl ?_
 refine k_putF1 X101 hx hZ hown 23 (k_w hw 55 rfl) e101 f9 f3 (Or.inl (k_w hw 56 rfl)) (k_w hw 22 rfl) .long rfl rfl (D d8_20) (fun T102 h102 X102 e102 W102 => ?_)
 have Fw102 := f9.same W102
 have N102 := Fr.snoc X102 N0 g_a1
 have Z102 := k_zw Z0 W102
 refine k_aloadN X102 hx 24 (D d8_23) rfl rfl ?_
 refine k_iconst X102 hx 25 (D d8_24) (z := (1 : Int32)) rfl ?_
 have F103 := (f8.other W102 (Or.inr (sn34 hw)))
 have F104 := (f3.wr W102)
 refine k_putF1 X102 hx hZ hown 28 (k_w hw 53 rfl) e102 F103 F104 (Or.inl (k_w hw 54 rfl)) (k_w hw 22 rfl) .boolean rfl rfl (D d8_25) (fun T105 h105 X105 e105 W105 => ?_)
 have Fw105 := F103.same W105
 have N105 := Fr.snoc X105 N102 g_a1
 have Z105 := k_zw Z102 W105
 refine k_aloadN X105 hx 29 (D d8_28) rfl rfl ?_
 have F106 := ((f0.wr W102).wr W105)
 have F107 := ((f1.other W102 (Or.inl (Nat.ne_of_lt lt0_0))).other W105 (Or.inl (Nat.ne_of_lt lt0_0)))
 have F108 := ((f2.other W102 (Or.inl (Nat.ne_of_lt lt0_0))).other W105 (Or.inl (Nat.ne_of_lt lt0_0)))
 have F109 := (F104.wr W105)
 have F110 := ((f4.other W102 (Or.inr (sn35 hw))).other W105 (Or.inr (sn36 hw)))
 have F111 := ((f5.other W102 (Or.inr (sn37 hw))).other W105 (Or.inr (sn38 hw)))
 have F112 := ((f6.other W102 (Or.inr (sn39 hw))).other W105 (Or.inr (sn40 hw)))
 have F113 := ((f7.other W102 (Or.inr (sn41 hw))).other W105 (Or.inr (sn42 hw)))
 have F114 := (Fw102.other W105 (Or.inr (sn43 hw)))
 have F115 := ((f10.other W102 (Or.inr (sn44 hw))).other W105 (Or.inr (sn45 hw)))
 have F116 := ((f11.other W102 (Or.inr (sn46 hw))).other W105 (Or.inr (sn47 hw)))
 have F117 := ((f12.other W102 (Or.inr (sn48 hw))).other W105 (Or.inr (sn49 hw)))
 have F118 := ((F0_4.other W102 (Ne.symm (Nat.ne_of_lt lt0_1))).other W105 (Ne.symm (Nat.ne_of_lt lt0_1)))
 have F119 := ((F0_6.other W102 (Ne.symm (Nat.ne_of_lt (Nat.lt_trans lt0_1 lt0_2)))).other W105 (Ne.symm (Nat.ne_of_lt (Nat.lt_trans lt0_1 lt0_2))))
 refine k_callP X105 hx hZ hown 32 (a := a1) (k_w hw 57 rfl) (k_w hw 58 rfl) (k_w hw 59 rfl) (k_w hw 22 rfl) (k_w hw 23 rfl) (k_w hw 60 rfl) (by decide) F109 (rm9_8 l Z a0 hw [] a1 a3 a5 a6 p4 p7 p2 k8 k9 h105 n0 Z105 ⟨F106, F107, F108⟩ g_a3 ⟨F109, F110, F111, F112, F113, Fw105, F114, F115, F116, F117⟩ g_a1 F118 g_a5 F119 g_a6 lt0_0 lt0_1 lt0_2 hp0 hp1 hp2) (by decide) (by decide) e105 (by rw [hml]; rfl) (argsL := []) (rest := []) (lenOf pd_1 rfl) rfl (W := 0) (Nat.le_refl _) rfl (D d8_29) (by decide) (by decide) (fun T120 L120 r120 X120 q120 => ?_)
 obtain ⟨N120, q120⟩ := q120
 have N120' := Fr.app N105 N120
 obtain ⟨rfl, ⟨F121, F122, F123⟩, ⟨F124, F125, F126, F127, F128, F129, F130, F131, F132, F133⟩, F134, F135, Z136⟩ := q120
 refine k_n0 ?_
 exact k_ret X120 hx hret (D d8_32) hlk (by decide) (by decide) ⟨N120', ⟨rfl, ⟨F121, F122, F123⟩, ⟨F124, F125, F126, F127, F128, F129, F130, F131, F132, F133⟩, F134, F135, Z136⟩⟩
theorem pd_3 : parseMethodDescriptor "(J)V" = some ⟨[.long], none⟩ := by decide +kernel
theorem d7_5 : decode c7 5 = .ok (.aload_n 0, 1) := by decide +kernel
theorem d7_6 : decode c7 6 = .ok (.getfield 36, 3) := by decide +kernel
theorem d7_9 : decode c7 9 = .ok (.lreturn, 1) := by decide +kernel
abbrev R7_6 : Room := { frames := 2, cells := 0, slots := 0, locals := 27 }
def Q7_6 (Z : State) (a1 a3 a5 a6 : Addr) (p2 p4 p7 : Int64) (k8 k9 : ClassId) (h0 : Heap) (n0 : Nat) (v : Option Value) (h : Heap) (L : List Loc) : Prop := Fr n0 L /\ ((v = some (.long 0) /\ BL Z h a3 (.long p4) (.ref a1) /\ BS Z h a1 (.ref a5) (.ref a6) (.long p4) (.long p7) (.int 1) (.long p2) (.int 0) (.long 0) (.int 0) /\ Arv Z h a5 k8 .long (0 : Int32) [] (.long 0) /\ Arv Z h a6 k9 .long (0 : Int32) [] (.long 0) /\ n0 <= h.size))
theorem rm7_6 (l : Launch) (Z : State) (a0 : Array Value) (hw : WW a0 Z) (ws : List Jvm.Cond) (a1 a3 a5 a6 : Addr) (p2 p4 p7 : Int64) (k8 k9 : ClassId) (h0 : Heap) (n0 : Nat) (Z0 : n0 <= h0.size) (B0 : BL Z h0 a3 (.long p4) (.ref a1)) (g_a3 : n0 <= a3) (B2 : BS Z h0 a1 (.ref a5) (.ref a6) (.long p4) (.long p7) (.int 0) (.long 0) (.int 0) (.long 0) (.int 0)) (g_a1 : n0 <= a1) (F0_4 : Arv Z h0 a5 k8 .long (0 : Int32) [] (.long 0)) (g_a5 : n0 <= a5) (F0_6 : Arv Z h0 a6 k9 .long (0 : Int32) [] (.long 0)) (g_a6 : n0 <= a6) (lt0_0 : a3 < a1) (lt0_1 : a1 < a5) (lt0_2 : a5 < a6) (hp0 : ¬ p4 < (1 : Int64)) (hp1 : ¬ (8 : Int64) < p4) (hp2 : ¬ p7 < (1 : Int64)) :
    KMet l (⟨"com/example/halter/halter/SlidingSum", "at", "(J)J"⟩ : MethodName) prog_20_method_2_code 3 (some .long) ws R7_6 #[(.ref a1), (.long p2)] Z h0 R7_6.cells R7_6.slots (Q7_6 Z a1 a3 a5 a6 p2 p4 p7 k8 k9 h0 n0) := by
 refine k_body (plainFor_of_name pn_1) (fun m => ef8_7 m a1 p2) ?_
 intro p e s m below meth c s₁ hx D hml hlk hret hown hnm hZ X0 e0
 have N0 := Fr.nil n0
 obtain ⟨f0, f1, f2⟩ := B0
 obtain ⟨f3, f4, f5, f6, f7, f8, f9, f10, f11, f12⟩ := B2
 refine k_aloadN X0 hx 1 (D d7_0) rfl rfl ?_
 refine k_lloadN X0 hx 2 (D d7_1) rfl ?_
 refine k_callP X0 hx hZ hown 5 (a := a1) (k_w hw 49 rfl) (k_w hw 50 rfl) (k_w hw 51 rfl) (k_w hw 22 rfl) (k_w hw 23 rfl) (k_w hw 52 rfl) (by decide) f3 (rm8_7 l Z a0 hw [] a1 a3 a5 a6 p2 p4 p7 k8 k9 h0 n0 Z0 ⟨f0, f1, f2⟩ g_a3 ⟨f3, f4, f5, f6, f7, f8, f9, f10, f11, f12⟩ g_a1 F0_4 g_a5 F0_6 g_a6 lt0_0 lt0_1 lt0_2 hp0 hp1 hp2) (by decide) (by decide) e0 (by rw [hml]; rfl) (argsL := [(.long p2)]) (rest := []) (lenOf pd_3 rfl) rfl (W := 0) (Nat.le_refl _) rfl (D d7_2) (by decide) (by decide) (fun T101 L101 r101 X101 q101 => ?_)
 obtain ⟨N101, q101⟩ := q101
 have N101' := Fr.app N0 N101
 obtain ⟨rfl, ⟨F102, F103, F104⟩, ⟨F105, F106, F107, F108, F109, F110, F111, F112, F113, F114⟩, F115, F116, Z117⟩ := q101
 refine k_n0 ?_
 refine k_aloadN X101 hx 6 (D d7_5) rfl rfl ?_
 refine k_getF1 X101 hx hZ hown 9 (k_w hw 63 rfl) rfl F113 (D d7_6) (fun T118 X118 e118 => ?_)
 exact k_retL X118 hx hret (D d7_9) hlk (by decide) (by decide) (by rw [e118]; exact ⟨N101', ⟨rfl, ⟨F102, F103, F104⟩, ⟨F105, F106, F107, F108, F109, F110, F111, F112, F113, F114⟩, F115, F116, Z117⟩⟩)
theorem pd_4 : parseMethodDescriptor "(J)J" = some ⟨[.long], some .long⟩ := by decide +kernel
theorem d6_8 : decode c6 8 = .ok (.lconst 0, 1) := by decide +kernel
theorem d6_9 : decode c6 9 = .ok (.lcmp, 1) := by decide +kernel
theorem d6_10 : decode c6 10 = .ok (.ifCond .ne 7, 3) := by decide +kernel
theorem d6_13 : decode c6 13 = .ok (.iconst 1, 1) := by decide +kernel
theorem d6_14 : decode c6 14 = .ok (.goto 4, 3) := by decide +kernel
theorem d6_18 : decode c6 18 = .ok (.ireturn, 1) := by decide +kernel
abbrev R6_5 : Room := { frames := 3, cells := 0, slots := 0, locals := 41 }
def Q6_5 (Z : State) (a1 a4 a5 a6 : Addr) (p2 p3 p7 : Int64) (k8 k9 : ClassId) (h0 : Heap) (n0 : Nat) (v : Option Value) (h : Heap) (L : List Loc) : Prop := Fr n0 L /\ ((v = some (.int 1) /\ BL Z h a1 (.long p3) (.ref a4) /\ BS Z h a4 (.ref a5) (.ref a6) (.long p3) (.long p7) (.int 1) (.long p2) (.int 0) (.long 0) (.int 0) /\ Arv Z h a5 k8 .long (0 : Int32) [] (.long 0) /\ Arv Z h a6 k9 .long (0 : Int32) [] (.long 0) /\ n0 <= h.size))
theorem rm6_5 (l : Launch) (Z : State) (a0 : Array Value) (hw : WW a0 Z) (ws : List Jvm.Cond) (a1 a4 a5 a6 : Addr) (p2 p3 p7 : Int64) (k8 k9 : ClassId) (h0 : Heap) (n0 : Nat) (Z0 : n0 <= h0.size) (B0 : BL Z h0 a1 (.long p3) (.ref a4)) (g_a1 : n0 <= a1) (B2 : BS Z h0 a4 (.ref a5) (.ref a6) (.long p3) (.long p7) (.int 0) (.long 0) (.int 0) (.long 0) (.int 0)) (g_a4 : n0 <= a4) (F0_4 : Arv Z h0 a5 k8 .long (0 : Int32) [] (.long 0)) (g_a5 : n0 <= a5) (F0_6 : Arv Z h0 a6 k9 .long (0 : Int32) [] (.long 0)) (g_a6 : n0 <= a6) (lt0_0 : a1 < a4) (lt0_1 : a4 < a5) (lt0_2 : a5 < a6) (hp0 : ¬ p3 < (1 : Int64)) (hp1 : ¬ (8 : Int64) < p3) (hp2 : ¬ p7 < (1 : Int64)) :
    KMet l (⟨"com/example/halter/halter/SlidingLogLimiter$Log", "idleAt", "(J)Z"⟩ : MethodName) prog_18_method_3_code 3 (some .boolean) ws R6_5 #[(.ref a1), (.long p2)] Z h0 R6_5.cells R6_5.slots (Q6_5 Z a1 a4 a5 a6 p2 p3 p7 k8 k9 h0 n0) := by
 refine k_body (plainFor_of_name pn_2) (fun m => ef8_7 m a1 p2) ?_
 intro p e s m below meth c s₁ hx D hml hlk hret hown hnm hZ X0 e0
 have N0 := Fr.nil n0
 obtain ⟨f0, f1, f2⟩ := B0
 obtain ⟨f3, f4, f5, f6, f7, f8, f9, f10, f11, f12⟩ := B2
 refine k_aloadN X0 hx 1 (D d6_0) rfl rfl ?_
 refine k_getF1 X0 hx hZ hown 4 (k_w hw 37 rfl) e0 f2 (D d6_1) (fun T101 X101 e101 => ?_)
 refine k_lloadN X101 hx 5 (D d6_4) rfl ?_
 refine k_callV X101 hx hZ hown 8 (a := a4) (k_w hw 44 rfl) (k_w hw 45 rfl) (k_w hw 47 rfl) (k_w hw 46 rfl) (k_w hw 23 rfl) (k_w hw 48 rfl) (by decide) f3 (rm7_6 l Z a0 hw [] a4 a1 a5 a6 p2 p3 p7 k8 k9 h0 n0 Z0 ⟨f0, f1, f2⟩ g_a1 ⟨f3, f4, f5, f6, f7, f8, f9, f10, f11, f12⟩ g_a4 F0_4 g_a5 F0_6 g_a6 lt0_0 lt0_1 lt0_2 hp0 hp1 hp2) (by decide) (by decide) e101 (by rw [hml]; rfl) (argsL := [(.long p2)]) (rest := []) (lenOf pd_4 rfl) rfl (W := 0) (Nat.le_refl _) rfl (D d6_5) (by decide) (by decide) (fun T102 L102 r102 X102 q102 => ?_)
 obtain ⟨N102, q102⟩ := q102
 have N102' := Fr.app N0 N102
 obtain ⟨rfl, ⟨F103, F104, F105⟩, ⟨F106, F107, F108, F109, F110, F111, F112, F113, F114, F115⟩, F116, F117, Z118⟩ := q102
 refine k_n1 ?_
 refine k_lconst X102 hx 9 (D d6_8) (z := (0 : Int64)) rfl ?_
 refine k_lcif_ne X102 hx 13 17 10 (D d6_9) (D d6_10) (fun hc => absurd (by decide) hc) (fun _ => ?_)
 refine k_iconst X102 hx 14 (D d6_13) (z := (1 : Int32)) rfl ?_
 refine k_goto X102 hx 18 (D d6_14) ?_
 exact k_retN X102 hx (t := .boolean) hret (by simp) (D d6_18) hlk (by decide) (by decide) (z' := (1 : Int32)) rfl ⟨N102', ⟨rfl, ⟨F103, F104, F105⟩, ⟨F106, F107, F108, F109, F110, F111, F112, F113, F114, F115⟩, F116, F117, Z118⟩⟩
theorem pd_5 : parseMethodDescriptor "(J)Z" = some ⟨[.long], some .boolean⟩ := by decide +kernel
abbrev R1_9 : Room := { frames := 0, cells := 0, slots := 0, locals := 0 }
def f1_9 (p1 : Int64) : Int64 := (if (0 : Int64) < p1 then p1 else (0 : Int64))
theorem own_mx_f1_9 (p1 : Int64) : ((0 : Int64).toInt < p1.toInt -> (f1_9 p1).toInt = p1.toInt) /\ (¬ (0 : Int64).toInt < p1.toInt -> (f1_9 p1).toInt = (0 : Int64).toInt) := by
  unfold f1_9
  simp only [Int64.lt_iff_toInt_lt]
  exact ⟨fun h => by rw [if_pos h], fun h => by rw [if_neg h]⟩
def Q1_9 (Z : State) (p1 : Int64) (h0 : Heap) (n0 : Nat) (v : Option Value) (h : Heap) (L : List Loc) : Prop := Fr n0 L /\ h = h0 /\ v = some (.long (f1_9 p1))
theorem ef1_9 (m : MethodId) (x1 : Int64) : entryFrame m #[(.long 0), (.long x1)] 4 = mkF m 0 #[.val (.long 0), .second, .val (.long x1), .second] [] := by first | (simp [entryFrame, mkF, argsToLocals, Value.category]; done) | rfl
theorem rm1_9 (l : Launch) (Z : State) (a0 : Array Value) (hw : WW a0 Z) (ws : List Jvm.Cond) (p1 : Int64) (h0 : Heap) (n0 : Nat) (Z0 : n0 <= h0.size)  :
    KMet l (⟨"java/lang/Math", "max", "(JJ)J"⟩ : MethodName) jdk_29_method_66_code 4 (some .long) ws R1_9 #[(.long 0), (.long p1)] Z h0 R1_9.cells R1_9.slots (Q1_9 Z p1 h0 n0) := by
 refine k_body (Jvm.Free.JP.mathPlain rfl (by decide +kernel)) (fun m => ef1_9 m p1) ?_
 intro p e s m below meth c s₁ hx D hml hlk hret hown hnm hZ X0 e0
 have N0 := Fr.nil n0
 refine k_lloadN X0 hx 1 (D d1_0) rfl ?_
 refine k_lloadN X0 hx 2 (D d1_1) rfl ?_
 refine k_lcif_lt X0 hx 6 10 3 (D d1_2) (D d1_3) (fun hc101 => ?_) (fun hc101 => ?_)
 ·
  refine k_lloadN X0 hx 11 (D d1_10) rfl ?_
  have hf : f1_9 p1 = p1 := by simp only [f1_9, if_pos hc101]
  exact k_retL X0 hx hret (D d1_11) hlk (by decide) (by decide) ⟨N0, e0, by rw [hf]⟩
 ·
  refine k_lloadN X0 hx 7 (D d1_6) rfl ?_
  refine k_goto X0 hx 11 (D d1_7) ?_
  have hf : f1_9 p1 = (0 : Int64) := by simp only [f1_9, if_neg hc101]
  exact k_retL X0 hx hret (D d1_11) hlk (by decide) (by decide) ⟨N0, e0, by rw [hf]⟩
abbrev c10 := prog_18_method_2_code
theorem d10_0 : decode c10 0 = .ok (.lload_n 1, 1) := by decide +kernel
theorem d10_1 : decode c10 1 = .ok (.invokestatic 22, 3) := by decide +kernel
abbrev c11 := prog_12_method_2_code
theorem d11_0 : decode c11 0 = .ok (.lload_n 0, 1) := by decide +kernel
theorem d11_1 : decode c11 1 = .ok (.lconst 1, 1) := by decide +kernel
theorem d11_2 : decode c11 2 = .ok (.lcmp, 1) := by decide +kernel
theorem d11_3 : decode c11 3 = .ok (.ifCond .ge 17, 3) := by decide +kernel
theorem d11_20 : decode c11 20 = .ok (.return_, 1) := by decide +kernel
abbrev R11_11 : Room := { frames := 0, cells := 0, slots := 0, locals := 0 }
def Q11_11 (Z : State) (p1 : Int64) (h0 : Heap) (n0 : Nat) (v : Option Value) (h : Heap) (L : List Loc) : Prop := Fr n0 L /\ h = h0 /\ ((v = none))
theorem ef11_11 (m : MethodId) (x0 : Int64) : entryFrame m #[(.long x0)] 2 = mkF m 0 #[.val (.long x0), .second] [] := by first | (simp [entryFrame, mkF, argsToLocals, Value.category]; done) | rfl
theorem pn_3 : plainName "com/example/halter/halter/Limiter" = true := by first | (simp [plainName, overriddenIn]; done) | decide +kernel
theorem rm11_11 (l : Launch) (Z : State) (a0 : Array Value) (hw : WW a0 Z) (ws : List Jvm.Cond) (p1 : Int64) (h0 : Heap) (n0 : Nat) (Z0 : n0 <= h0.size) (hp0 : ¬ p1 < (1 : Int64)) :
    KMet l (⟨"com/example/halter/halter/Limiter", "checkCost", "(J)V"⟩ : MethodName) prog_12_method_2_code 2 none ws R11_11 #[(.long p1)] Z h0 R11_11.cells R11_11.slots (Q11_11 Z p1 h0 n0) := by
 refine k_body (plainFor_of_name pn_3) (fun m => ef11_11 m p1) ?_
 intro p e s m below meth c s₁ hx D hml hlk hret hown hnm hZ X0 e0
 have N0 := Fr.nil n0
 refine k_lloadN X0 hx 1 (D d11_0) rfl ?_
 refine k_lconst X0 hx 2 (D d11_1) (z := (1 : Int64)) rfl ?_
 refine k_lcif_ge X0 hx 6 20 3 (D d11_2) (D d11_3) (fun _ => ?_) (fun hc => absurd hc hp0)
 exact k_ret X0 hx hret (D d11_20) hlk (by decide) (by decide) ⟨N0, e0, rfl⟩
theorem d10_4 : decode c10 4 = .ok (.lload_n 1, 1) := by decide +kernel
theorem d10_5 : decode c10 5 = .ok (.aload_n 0, 1) := by decide +kernel
theorem d10_6 : decode c10 6 = .ok (.getfield 7, 3) := by decide +kernel
theorem d10_9 : decode c10 9 = .ok (.aload_n 0, 1) := by decide +kernel
theorem d10_10 : decode c10 10 = .ok (.getfield 18, 3) := by decide +kernel
theorem d10_13 : decode c10 13 = .ok (.lload_n 3, 1) := by decide +kernel
theorem d10_14 : decode c10 14 = .ok (.invokevirtual 28, 3) := by decide +kernel
theorem d10_17 : decode c10 17 = .ok (.lsub, 1) := by decide +kernel
theorem d10_18 : decode c10 18 = .ok (.lcmp, 1) := by decide +kernel
theorem d10_19 : decode c10 19 = .ok (.ifCond .gt 7, 3) := by decide +kernel
theorem d10_26 : decode c10 26 = .ok (.iconst 0, 1) := by decide +kernel
theorem d10_27 : decode c10 27 = .ok (.istore 5, 2) := by decide +kernel
theorem d10_29 : decode c10 29 = .ok (.iload 5, 2) := by decide +kernel
theorem d10_31 : decode c10 31 = .ok (.ifCond .eq 12, 3) := by decide +kernel
theorem d10_43 : decode c10 43 = .ok (.iload 5, 2) := by decide +kernel
theorem d10_45 : decode c10 45 = .ok (.ireturn, 1) := by decide +kernel
theorem d10_22 : decode c10 22 = .ok (.iconst 1, 1) := by decide +kernel
theorem d10_23 : decode c10 23 = .ok (.goto 4, 3) := by decide +kernel
theorem d10_34 : decode c10 34 = .ok (.aload_n 0, 1) := by decide +kernel
theorem d10_35 : decode c10 35 = .ok (.getfield 18, 3) := by decide +kernel
theorem d10_38 : decode c10 38 = .ok (.lload_n 1, 1) := by decide +kernel
theorem d10_39 : decode c10 39 = .ok (.lload_n 3, 1) := by decide +kernel
theorem d10_40 : decode c10 40 = .ok (.invokevirtual 32, 3) := by decide +kernel
abbrev c12 := prog_20_method_3_code
theorem d12_0 : decode c12 0 = .ok (.aload_n 0, 1) := by decide +kernel
theorem d12_1 : decode c12 1 = .ok (.lload_n 3, 1) := by decide +kernel
theorem d12_2 : decode c12 2 = .ok (.invokevirtual 32, 3) := by decide +kernel
theorem d8_7 : decode c8 7 = .ok (.lload_n 1, 1) := by decide +kernel
theorem d8_8 : decode c8 8 = .ok (.aload_n 0, 1) := by decide +kernel
theorem d8_9 : decode c8 9 = .ok (.getfield 53, 3) := by decide +kernel
theorem d8_12 : decode c8 12 = .ok (.lsub, 1) := by decide +kernel
theorem d8_13 : decode c8 13 = .ok (.lconst 0, 1) := by decide +kernel
theorem d8_14 : decode c8 14 = .ok (.lcmp, 1) := by decide +kernel
theorem d8_15 : decode c8 15 = .ok (.ifCond .le 13, 3) := by decide +kernel
abbrev R8_13 : Room := { frames := 1, cells := 0, slots := 0, locals := 13 }
def Q8_13 (Z : State) (a1 a3 a5 a6 : Addr) (p2 p4 p7 : Int64) (k8 k9 : ClassId) (h0 : Heap) (n0 : Nat) (v : Option Value) (h : Heap) (L : List Loc) : Prop := Fr n0 L /\ ((v = none /\ BL Z h a3 (.long p4) (.ref a1) /\ BS Z h a1 (.ref a5) (.ref a6) (.long p4) (.long p7) (.int 1) (.long p2) (.int 0) (.long 0) (.int 0) /\ Arv Z h a5 k8 .long (0 : Int32) [] (.long 0) /\ Arv Z h a6 k9 .long (0 : Int32) [] (.long 0) /\ n0 <= h.size))
theorem rm8_13 (l : Launch) (Z : State) (a0 : Array Value) (hw : WW a0 Z) (ws : List Jvm.Cond) (a1 a3 a5 a6 : Addr) (p2 p4 p7 : Int64) (k8 k9 : ClassId) (h0 : Heap) (n0 : Nat) (Z0 : n0 <= h0.size) (B0 : BL Z h0 a3 (.long p4) (.ref a1)) (g_a3 : n0 <= a3) (B2 : BS Z h0 a1 (.ref a5) (.ref a6) (.long p4) (.long p7) (.int 1) (.long p2) (.int 0) (.long 0) (.int 0)) (g_a1 : n0 <= a1) (F0_4 : Arv Z h0 a5 k8 .long (0 : Int32) [] (.long 0)) (g_a5 : n0 <= a5) (F0_6 : Arv Z h0 a6 k9 .long (0 : Int32) [] (.long 0)) (g_a6 : n0 <= a6) (lt0_0 : a3 < a1) (lt0_1 : a1 < a5) (lt0_2 : a5 < a6) (hp0 : ¬ p4 < (1 : Int64)) (hp1 : ¬ (8 : Int64) < p4) (hp2 : ¬ p7 < (1 : Int64)) :
    KMet l (⟨"com/example/halter/halter/SlidingSum", "catchUp", "(J)V"⟩ : MethodName) prog_20_method_7_code 3 none ws R8_13 #[(.ref a1), (.long p2)] Z h0 R8_13.cells R8_13.slots (Q8_13 Z a1 a3 a5 a6 p2 p4 p7 k8 k9 h0 n0) := by
 refine k_body (plainFor_of_name pn_1) (fun m => ef8_7 m a1 p2) ?_
 intro p e s m below meth c s₁ hx D hml hlk hret hown hnm hZ X0 e0
 have N0 := Fr.nil n0
 obtain ⟨f0, f1, f2⟩ := B0
 obtain ⟨f3, f4, f5, f6, f7, f8, f9, f10, f11, f12⟩ := B2
 refine k_aloadN X0 hx 1 (D d8_0) rfl rfl ?_
 refine k_getF1 X0 hx hZ hown 4 (k_w hw 53 rfl) e0 f8 (D d8_1) (fun T101 X101 e101 => ?_)
 refine k_if_eq X101 hx 7 18 (D d8_4) (fun hc => absurd hc (by decide)) (fun _ => ?_)
 refine k_lloadN X101 hx 8 (D d8_7) rfl ?_
 refine k_aloadN X101 hx 9 (D d8_8) rfl rfl ?_
 refine k_getF1 X101 hx hZ hown 12 (k_w hw 55 rfl) e101 f9 (D d8_9) (fun T102 X102 e102 => ?_)
 refine k_lsubL X102 hx 13 (D d8_12) (z := (0 : Int64)) (Int64.sub_self _) ?_
 refine k_lconst X102 hx 14 (D d8_13) (z := (0 : Int64)) rfl ?_
 refine k_lcif_le X102 hx 18 28 15 (D d8_14) (D d8_15) (fun _ => ?_) (fun hc => absurd hc (by decide))
 refine k_aloadN X102 hx 29 (D d8_28) rfl rfl ?_
 refine k_callP X102 hx hZ hown 32 (a := a1) (k_w hw 57 rfl) (k_w hw 58 rfl) (k_w hw 59 rfl) (k_w hw 22 rfl) (k_w hw 23 rfl) (k_w hw 60 rfl) (by decide) f3 (rm9_8 l Z a0 hw [] a1 a3 a5 a6 p4 p7 p2 k8 k9 h0 n0 Z0 ⟨f0, f1, f2⟩ g_a3 ⟨f3, f4, f5, f6, f7, f8, f9, f10, f11, f12⟩ g_a1 F0_4 g_a5 F0_6 g_a6 lt0_0 lt0_1 lt0_2 hp0 hp1 hp2) (by decide) (by decide) e102 (by rw [hml]; rfl) (argsL := []) (rest := []) (lenOf pd_1 rfl) rfl (W := 0) (Nat.le_refl _) rfl (D d8_29) (by decide) (by decide) (fun T103 L103 r103 X103 q103 => ?_)
 obtain ⟨N103, q103⟩ := q103
 have N103' := Fr.app N0 N103
 obtain ⟨rfl, ⟨F104, F105, F106⟩, ⟨F107, F108, F109, F110, F111, F112, F113, F114, F115, F116⟩, F117, F118, Z119⟩ := q103
 refine k_n0 ?_
 exact k_ret X103 hx hret (D d8_32) hlk (by decide) (by decide) ⟨N103', ⟨rfl, ⟨F104, F105, F106⟩, ⟨F107, F108, F109, F110, F111, F112, F113, F114, F115, F116⟩, F117, F118, Z119⟩⟩
theorem d12_5 : decode c12 5 = .ok (.lload_n 1, 1) := by decide +kernel
theorem d12_6 : decode c12 6 = .ok (.lconst 1, 1) := by decide +kernel
theorem d12_7 : decode c12 7 = .ok (.lcmp, 1) := by decide +kernel
theorem d12_8 : decode c12 8 = .ok (.ifCond .lt 17, 3) := by decide +kernel
theorem d12_11 : decode c12 11 = .ok (.lload_n 1, 1) := by decide +kernel
theorem d12_12 : decode c12 12 = .ok (.aload_n 0, 1) := by decide +kernel
theorem d12_13 : decode c12 13 = .ok (.getfield 25, 3) := by decide +kernel
theorem d12_16 : decode c12 16 = .ok (.aload_n 0, 1) := by decide +kernel
theorem d12_17 : decode c12 17 = .ok (.getfield 36, 3) := by decide +kernel
theorem d12_20 : decode c12 20 = .ok (.lsub, 1) := by decide +kernel
theorem d12_21 : decode c12 21 = .ok (.lcmp, 1) := by decide +kernel
theorem d12_22 : decode c12 22 = .ok (.ifCond .le 25, 3) := by decide +kernel
theorem d12_47 : decode c12 47 = .ok (.aload_n 0, 1) := by decide +kernel
theorem d12_48 : decode c12 48 = .ok (.lload_n 1, 1) := by decide +kernel
theorem d12_49 : decode c12 49 = .ok (.invokevirtual 42, 3) := by decide +kernel
abbrev c13 := prog_20_method_9_code
theorem d13_0 : decode c13 0 = .ok (.aload_n 0, 1) := by decide +kernel
theorem d13_1 : decode c13 1 = .ok (.getfield 45, 3) := by decide +kernel
theorem d13_4 : decode c13 4 = .ok (.ifCond .le 48, 3) := by decide +kernel
theorem d13_52 : decode c13 52 = .ok (.aload_n 0, 1) := by decide +kernel
theorem d13_53 : decode c13 53 = .ok (.getfield 45, 3) := by decide +kernel
theorem d13_56 : decode c13 56 = .ok (.aload_n 0, 1) := by decide +kernel
theorem d13_57 : decode c13 57 = .ok (.getfield 7, 3) := by decide +kernel
theorem d13_60 : decode c13 60 = .ok (.arraylength, 1) := by decide +kernel
theorem d13_61 : decode c13 61 = .ok (.if_icmp .ne 7, 3) := by decide +kernel
theorem d13_64 : decode c13 64 = .ok (.aload_n 0, 1) := by decide +kernel
theorem d13_65 : decode c13 65 = .ok (.invokevirtual 70, 3) := by decide +kernel
abbrev c14 := prog_20_method_10_code
theorem d14_0 : decode c14 0 = .ok (.aload_n 0, 1) := by decide +kernel
theorem d14_1 : decode c14 1 = .ok (.getfield 7, 3) := by decide +kernel
theorem d14_4 : decode c14 4 = .ok (.arraylength, 1) := by decide +kernel
theorem d14_5 : decode c14 5 = .ok (.ldc 73, 2) := by decide +kernel
theorem d14_7 : decode c14 7 = .ok (.if_icmp .ne 13, 3) := by decide +kernel
theorem d14_20 : decode c14 20 = .ok (.ldc2_w 79, 3) := by decide +kernel
theorem d14_23 : decode c14 23 = .ok (.ldc2_w 81, 3) := by decide +kernel
theorem d14_26 : decode c14 26 = .ok (.aload_n 0, 1) := by decide +kernel
theorem d14_27 : decode c14 27 = .ok (.getfield 7, 3) := by decide +kernel
theorem d14_30 : decode c14 30 = .ok (.arraylength, 1) := by decide +kernel
theorem d14_31 : decode c14 31 = .ok (.i2l, 1) := by decide +kernel
theorem d14_32 : decode c14 32 = .ok (.lmul, 1) := by decide +kernel
theorem d14_33 : decode c14 33 = .ok (.invokestatic 83, 3) := by decide +kernel
abbrev R1_16 : Room := { frames := 0, cells := 0, slots := 0, locals := 0 }
def Q1_16 (Z : State)  (h0 : Heap) (n0 : Nat) (v : Option Value) (h : Heap) (L : List Loc) : Prop := Fr n0 L /\ h = h0 /\ ((v = some (.long 8)))
theorem ef1_16 (m : MethodId)  : entryFrame m #[(.long 8), (.long 0)] 4 = mkF m 0 #[.val (.long 8), .second, .val (.long 0), .second] [] := by first | (simp [entryFrame, mkF, argsToLocals, Value.category]; done) | rfl
theorem rm1_16 (l : Launch) (Z : State) (a0 : Array Value) (hw : WW a0 Z) (ws : List Jvm.Cond)  (h0 : Heap) (n0 : Nat) (Z0 : n0 <= h0.size)  :
    KMet l (⟨"java/lang/Math", "max", "(JJ)J"⟩ : MethodName) jdk_29_method_66_code 4 (some .long) ws R1_16 #[(.long 8), (.long 0)] Z h0 R1_16.cells R1_16.slots (Q1_16 Z  h0 n0) := by
 refine k_body (Jvm.Free.JP.mathPlain rfl (by decide +kernel)) (fun m => ef1_16 m ) ?_
 intro p e s m below meth c s₁ hx D hml hlk hret hown hnm hZ X0 e0
 have N0 := Fr.nil n0
 refine k_lloadN X0 hx 1 (D d1_0) rfl ?_
 refine k_lloadN X0 hx 2 (D d1_1) rfl ?_
 refine k_lcif_lt X0 hx 6 10 3 (D d1_2) (D d1_3) (fun hc => absurd hc (by decide)) (fun _ => ?_)
 refine k_lloadN X0 hx 7 (D d1_6) rfl ?_
 refine k_goto X0 hx 11 (D d1_7) ?_
 exact k_retL X0 hx hret (D d1_11) hlk (by decide) (by decide) ⟨N0, e0, rfl⟩
theorem d14_36 : decode c14 36 = .ok (.lstore_n 1, 1) := by decide +kernel
theorem d14_37 : decode c14 37 = .ok (.aload_n 0, 1) := by decide +kernel
theorem d14_38 : decode c14 38 = .ok (.lload_n 1, 1) := by decide +kernel
theorem d14_39 : decode c14 39 = .ok (.aload_n 0, 1) := by decide +kernel
theorem d14_40 : decode c14 40 = .ok (.getfield 25, 3) := by decide +kernel
theorem d14_43 : decode c14 43 = .ok (.ldc2_w 89, 3) := by decide +kernel
theorem d14_46 : decode c14 46 = .ok (.invokestatic 91, 3) := by decide +kernel
abbrev c15 := jdk_29_method_70_code
theorem d15_0 : decode c15 0 = .ok (.lload_n 0, 1) := by decide +kernel
theorem d15_1 : decode c15 1 = .ok (.lload_n 2, 1) := by decide +kernel
theorem d15_2 : decode c15 2 = .ok (.lcmp, 1) := by decide +kernel
theorem d15_3 : decode c15 3 = .ok (.ifCond .gt 7, 3) := by decide +kernel
theorem d15_10 : decode c15 10 = .ok (.lload_n 2, 1) := by decide +kernel
theorem d15_11 : decode c15 11 = .ok (.lreturn, 1) := by decide +kernel
theorem d15_6 : decode c15 6 = .ok (.lload_n 0, 1) := by decide +kernel
theorem d15_7 : decode c15 7 = .ok (.goto 4, 3) := by decide +kernel
abbrev R15_17 : Room := { frames := 0, cells := 0, slots := 0, locals := 0 }
def f15_17 (p1 : Int64) : Int64 := (if (1073741824 : Int64) < p1 then (1073741824 : Int64) else p1)
theorem own_mi_f15_17 (p1 : Int64) (h : ¬ (1073741824 : Int64) < p1) : f15_17 p1 = p1 := by
  unfold f15_17
  split
  · first | rfl | exact absurd (by assumption) h
  · first | rfl | (apply Int64.toInt_inj.mp; rename_i h2; rw [Int64.lt_iff_toInt_lt] at h h2; omega)
def Q15_17 (Z : State) (p1 : Int64) (h0 : Heap) (n0 : Nat) (v : Option Value) (h : Heap) (L : List Loc) : Prop := Fr n0 L /\ h = h0 /\ v = some (.long (f15_17 p1))
theorem ef15_17 (m : MethodId) (x0 : Int64) : entryFrame m #[(.long x0), (.long 1073741824)] 4 = mkF m 0 #[.val (.long x0), .second, .val (.long 1073741824), .second] [] := by first | (simp [entryFrame, mkF, argsToLocals, Value.category]; done) | rfl
theorem rm15_17 (l : Launch) (Z : State) (a0 : Array Value) (hw : WW a0 Z) (ws : List Jvm.Cond) (p1 : Int64) (h0 : Heap) (n0 : Nat) (Z0 : n0 <= h0.size)  :
    KMet l (⟨"java/lang/Math", "min", "(JJ)J"⟩ : MethodName) jdk_29_method_70_code 4 (some .long) ws R15_17 #[(.long p1), (.long 1073741824)] Z h0 R15_17.cells R15_17.slots (Q15_17 Z p1 h0 n0) := by
 refine k_body (Jvm.Free.JP.mathPlain rfl (by decide +kernel)) (fun m => ef15_17 m p1) ?_
 intro p e s m below meth c s₁ hx D hml hlk hret hown hnm hZ X0 e0
 have N0 := Fr.nil n0
 refine k_lloadN X0 hx 1 (D d15_0) rfl ?_
 refine k_lloadN X0 hx 2 (D d15_1) rfl ?_
 refine k_lcif_gt X0 hx 6 10 3 (D d15_2) (D d15_3) (fun hc101 => ?_) (fun hc101 => ?_)
 ·
  refine k_lloadN X0 hx 11 (D d15_10) rfl ?_
  have hf : f15_17 p1 = (1073741824 : Int64) := by simp only [f15_17, if_pos hc101]
  exact k_retL X0 hx hret (D d15_11) hlk (by decide) (by decide) ⟨N0, e0, by rw [hf]⟩
 ·
  refine k_lloadN X0 hx 7 (D d15_6) rfl ?_
  refine k_goto X0 hx 11 (D d15_7) ?_
  have hf : f15_17 p1 = p1 := by simp only [f15_17, if_neg hc101]
  exact k_retL X0 hx hret (D d15_11) hlk (by decide) (by decide) ⟨N0, e0, by rw [hf]⟩
theorem d14_49 : decode c14 49 = .ok (.invokestatic 91, 3) := by decide +kernel
abbrev R15_18 : Room := { frames := 0, cells := 0, slots := 0, locals := 0 }
def f15_18 (p1 : Int64) : Int64 := (if p1 < (8 : Int64) then p1 else (8 : Int64))
theorem own_mi_f15_18 (p1 : Int64) (h : ¬ (8 : Int64) < p1) : f15_18 p1 = p1 := by
  unfold f15_18
  split
  · first | rfl | exact absurd (by assumption) h
  · first | rfl | (apply Int64.toInt_inj.mp; rename_i h2; rw [Int64.lt_iff_toInt_lt] at h h2; omega)
def Q15_18 (Z : State) (p1 : Int64) (h0 : Heap) (n0 : Nat) (v : Option Value) (h : Heap) (L : List Loc) : Prop := Fr n0 L /\ h = h0 /\ v = some (.long (f15_18 p1))
theorem ef15_18 (m : MethodId) (x1 : Int64) : entryFrame m #[(.long 8), (.long x1)] 4 = mkF m 0 #[.val (.long 8), .second, .val (.long x1), .second] [] := by first | (simp [entryFrame, mkF, argsToLocals, Value.category]; done) | rfl
theorem rm15_18 (l : Launch) (Z : State) (a0 : Array Value) (hw : WW a0 Z) (ws : List Jvm.Cond) (p1 : Int64) (h0 : Heap) (n0 : Nat) (Z0 : n0 <= h0.size)  :
    KMet l (⟨"java/lang/Math", "min", "(JJ)J"⟩ : MethodName) jdk_29_method_70_code 4 (some .long) ws R15_18 #[(.long 8), (.long p1)] Z h0 R15_18.cells R15_18.slots (Q15_18 Z p1 h0 n0) := by
 refine k_body (Jvm.Free.JP.mathPlain rfl (by decide +kernel)) (fun m => ef15_18 m p1) ?_
 intro p e s m below meth c s₁ hx D hml hlk hret hown hnm hZ X0 e0
 have N0 := Fr.nil n0
 refine k_lloadN X0 hx 1 (D d15_0) rfl ?_
 refine k_lloadN X0 hx 2 (D d15_1) rfl ?_
 refine k_lcif_gt X0 hx 6 10 3 (D d15_2) (D d15_3) (fun hc101 => ?_) (fun hc101 => ?_)
 ·
  refine k_lloadN X0 hx 11 (D d15_10) rfl ?_
  have hf : f15_18 p1 = p1 := by simp only [f15_18, if_pos hc101]
  exact k_retL X0 hx hret (D d15_11) hlk (by decide) (by decide) ⟨N0, e0, by rw [hf]⟩
 ·
  refine k_lloadN X0 hx 7 (D d15_6) rfl ?_
  refine k_goto X0 hx 11 (D d15_7) ?_
  have hf : f15_18 p1 = (8 : Int64) := by simp only [f15_18, if_neg hc101]
  exact k_retL X0 hx hret (D d15_11) hlk (by decide) (by decide) ⟨N0, e0, by rw [hf]⟩
theorem d14_52 : decode c14 52 = .ok (.l2i, 1) := by decide +kernel
theorem d14_53 : decode c14 53 = .ok (.invokevirtual 66, 3) := by decide +kernel
abbrev c16 := prog_20_method_11_code
theorem d16_0 : decode c16 0 = .ok (.iload_n 1, 1) := by decide +kernel
theorem d16_1 : decode c16 1 = .ok (.newarray .long, 2) := by decide +kernel
theorem d16_3 : decode c16 3 = .ok (.astore_n 2, 1) := by decide +kernel
theorem d16_4 : decode c16 4 = .ok (.iload_n 1, 1) := by decide +kernel
theorem d16_5 : decode c16 5 = .ok (.newarray .long, 2) := by decide +kernel
theorem d16_7 : decode c16 7 = .ok (.astore_n 3, 1) := by decide +kernel
theorem d16_8 : decode c16 8 = .ok (.iconst 0, 1) := by decide +kernel
theorem d16_9 : decode c16 9 = .ok (.istore 4, 2) := by decide +kernel
theorem d16_11 : decode c16 11 = .ok (.iload 4, 2) := by decide +kernel
theorem d16_13 : decode c16 13 = .ok (.aload_n 0, 1) := by decide +kernel
theorem d16_14 : decode c16 14 = .ok (.getfield 45, 3) := by decide +kernel
theorem d16_17 : decode c16 17 = .ok (.if_icmp .ge 39, 3) := by decide +kernel
theorem d16_56 : decode c16 56 = .ok (.aload_n 0, 1) := by decide +kernel
theorem d16_57 : decode c16 57 = .ok (.aload_n 2, 1) := by decide +kernel
theorem d16_58 : decode c16 58 = .ok (.putfield 7, 3) := by decide +kernel
theorem d16_61 : decode c16 61 = .ok (.aload_n 0, 1) := by decide +kernel
theorem d16_62 : decode c16 62 = .ok (.aload_n 3, 1) := by decide +kernel
theorem d16_63 : decode c16 63 = .ok (.putfield 13, 3) := by decide +kernel
theorem d16_66 : decode c16 66 = .ok (.aload_n 0, 1) := by decide +kernel
theorem d16_67 : decode c16 67 = .ok (.iconst 0, 1) := by decide +kernel
theorem d16_68 : decode c16 68 = .ok (.putfield 59, 3) := by decide +kernel
theorem d16_71 : decode c16 71 = .ok (.return_, 1) := by decide +kernel
abbrev R16_19 : Room := { frames := 0, cells := 2, slots := 16, locals := 0 }
def Q16_19 (Z : State) (a1 a3 a5 a6 : Addr) (p2 : Int32) (p4 p7 p8 : Int64) (k9 k10 : ClassId) (h0 : Heap) (n0 : Nat) (v : Option Value) (h : Heap) (L : List Loc) : Prop := Fr n0 L /\ ((∃ (b101 : Addr) (k101 : ClassId) (b114 : Addr) (k114 : ClassId), v = none /\ BL Z h a3 (.long p4) (.ref a1) /\ BS Z h a1 (.ref b101) (.ref b114) (.long p4) (.long p7) (.int 1) (.long p8) (.int 0) (.long 0) (.int 0) /\ Arv Z h a5 k9 .long (0 : Int32) [] (.long 0) /\ Arv Z h a6 k10 .long (0 : Int32) [] (.long 0) /\ Arv Z h b101 k101 .long p2 [(.long 0), (.long 0)] (.long 0) /\ Arv Z h b114 k114 .long p2 [(.long 0), (.long 0)] (.long 0) /\ n0 <= b101 /\ a6 < b101 /\ n0 <= b114 /\ b101 < b114 /\ n0 <= h.size))
theorem sn50 {Z : State} {a0 : Array Value} (hw : WW a0 Z) : RoadKit.slotOf Z "com/example/halter/halter/SlidingSum" "times" "[J" ≠ RoadKit.slotOf Z "com/example/halter/halter/SlidingSum" "head" "I" := slot_ne (Or.inl (k_w hw 30 rfl)) (Or.inl (k_w hw 100 rfl)) (by decide) (t := (.array .long)) (t' := .int) (by decide) (by decide)
theorem sn51 {Z : State} {a0 : Array Value} (hw : WW a0 Z) : RoadKit.slotOf Z "com/example/halter/halter/SlidingSum" "costs" "[J" ≠ RoadKit.slotOf Z "com/example/halter/halter/SlidingSum" "head" "I" := slot_ne (Or.inl (k_w hw 32 rfl)) (Or.inl (k_w hw 100 rfl)) (by decide) (t := (.array .long)) (t' := .int) (by decide) (by decide)
theorem sn52 {Z : State} {a0 : Array Value} (hw : WW a0 Z) : RoadKit.slotOf Z "com/example/halter/halter/SlidingSum" "most" "J" ≠ RoadKit.slotOf Z "com/example/halter/halter/SlidingSum" "head" "I" := slot_ne (Or.inr (k_w hw 34 rfl)) (Or.inl (k_w hw 100 rfl)) (by decide) (t := .long) (t' := .int) (by decide) (by decide)
theorem sn53 {Z : State} {a0 : Array Value} (hw : WW a0 Z) : RoadKit.slotOf Z "com/example/halter/halter/SlidingSum" "length" "J" ≠ RoadKit.slotOf Z "com/example/halter/halter/SlidingSum" "head" "I" := slot_ne (Or.inr (k_w hw 36 rfl)) (Or.inl (k_w hw 100 rfl)) (by decide) (t := .long) (t' := .int) (by decide) (by decide)
theorem sn54 {Z : State} {a0 : Array Value} (hw : WW a0 Z) : RoadKit.slotOf Z "com/example/halter/halter/SlidingSum" "started" "Z" ≠ RoadKit.slotOf Z "com/example/halter/halter/SlidingSum" "head" "I" := slot_ne (Or.inl (k_w hw 54 rfl)) (Or.inl (k_w hw 100 rfl)) (by decide) (t := .boolean) (t' := .int) (by decide) (by decide)
theorem sn55 {Z : State} {a0 : Array Value} (hw : WW a0 Z) : RoadKit.slotOf Z "com/example/halter/halter/SlidingSum" "latest" "J" ≠ RoadKit.slotOf Z "com/example/halter/halter/SlidingSum" "head" "I" := slot_ne (Or.inl (k_w hw 56 rfl)) (Or.inl (k_w hw 100 rfl)) (by decide) (t := .long) (t' := .int) (by decide) (by decide)
theorem sn56 {Z : State} {a0 : Array Value} (hw : WW a0 Z) : RoadKit.slotOf Z "com/example/halter/halter/SlidingSum" "size" "I" ≠ RoadKit.slotOf Z "com/example/halter/halter/SlidingSum" "head" "I" := slot_ne (Or.inl (k_w hw 62 rfl)) (Or.inl (k_w hw 100 rfl)) (by decide) (t := .int) (t' := .int) (by decide) (by decide)
theorem sn57 {Z : State} {a0 : Array Value} (hw : WW a0 Z) : RoadKit.slotOf Z "com/example/halter/halter/SlidingSum" "sum" "J" ≠ RoadKit.slotOf Z "com/example/halter/halter/SlidingSum" "head" "I" := slot_ne (Or.inl (k_w hw 64 rfl)) (Or.inl (k_w hw 100 rfl)) (by decide) (t := .long) (t' := .int) (by decide) (by decide)
theorem ef16_19 (m : MethodId) (x0 : Addr) (x1 : Int32) : entryFrame m #[(.ref x0), (.int x1)] 5 = mkF m 0 #[.val (.ref x0), .val (.int x1), .unset, .unset, .unset] [] := by first | (simp [entryFrame, mkF, argsToLocals, Value.category]; done) | rfl
theorem rm16_19 (l : Launch) (Z : State) (a0 : Array Value) (hw : WW a0 Z) (ws : List Jvm.Cond) (a1 a3 a5 a6 : Addr) (p2 : Int32) (p4 p7 p8 : Int64) (k9 k10 : ClassId) (h0 : Heap) (n0 : Nat) (Z0 : n0 <= h0.size) (B0 : BL Z h0 a3 (.long p4) (.ref a1)) (g_a3 : n0 <= a3) (B2 : BS Z h0 a1 (.ref a5) (.ref a6) (.long p4) (.long p7) (.int 1) (.long p8) (.int 0) (.long 0) (.int 0)) (g_a1 : n0 <= a1) (F0_4 : Arv Z h0 a5 k9 .long (0 : Int32) [] (.long 0)) (g_a5 : n0 <= a5) (F0_6 : Arv Z h0 a6 k10 .long (0 : Int32) [] (.long 0)) (g_a6 : n0 <= a6) (lt0_0 : a3 < a1) (lt0_1 : a1 < a5) (lt0_2 : a5 < a6) (hp0 : ¬ p4 < (1 : Int64)) (hp1 : ¬ (8 : Int64) < p4) (hp2 : ¬ p7 < (1 : Int64)) (hd14 : p2 = p4.toInt32) :
    KMet l (⟨"com/example/halter/halter/SlidingSum", "moveTo", "(I)V"⟩ : MethodName) prog_20_method_11_code 5 none ws R16_19 #[(.ref a1), (.int p2)] Z h0 R16_19.cells R16_19.slots (Q16_19 Z a1 a3 a5 a6 p2 p4 p7 p8 k9 k10 h0 n0) := by
 refine k_body (plainFor_of_name pn_1) (fun m => ef16_19 m a1 p2) ?_
 intro p e s m below meth c s₁ hx D hml hlk hret hown hnm hZ X0 e0
 have N0 := Fr.nil n0
 obtain ⟨f0, f1, f2⟩ := B0
 obtain ⟨f3, f4, f5, f6, f7, f8, f9, f10, f11, f12⟩ := B2
 refine k_iloadN X0 hx 1 (D d16_0) rfl ?_
 refine k_newA X0 hx hZ 3 (k_w hw 28 rfl) e0 (D d16_1) (by intro hq102; have B103 : (1 : Int) <= p4.toInt /\ p4.toInt <= 8 := ⟨kL_ge hp0 (by decide), kL_le hp1 (by decide)⟩; have B104 : (1 : Int) <= p7.toInt /\ p7.toInt <= 9223372036854775807 := ⟨kL_ge hp2 (by decide), Int.le_of_lt_add_one (rng64 p7).2⟩; have q106 : p2.toInt = p4.toInt := k_l2ix hd14 B103 (by decide) (by decide); have B105 : (1 : Int) <= p2.toInt /\ p2.toInt <= 8 := (by rw [q106]; exact B103); have B107 : (1 : Int) <= p2.toInt /\ p2.toInt <= -1 := ⟨B105.1, k_lt hq102 (by decide)⟩; omega) (cap := 8) (k_cap (c := (8 : Int32)) (by intro hq108; have B109 : (1 : Int) <= p4.toInt /\ p4.toInt <= 8 := ⟨kL_ge hp0 (by decide), kL_le hp1 (by decide)⟩; have B110 : (1 : Int) <= p7.toInt /\ p7.toInt <= 9223372036854775807 := ⟨kL_ge hp2 (by decide), Int.le_of_lt_add_one (rng64 p7).2⟩; have q112 : p2.toInt = p4.toInt := k_l2ix hd14 B109 (by decide) (by decide); have B111 : (1 : Int) <= p2.toInt /\ p2.toInt <= 8 := (by rw [q112]; exact B109); have B113 : (9 : Int) <= p2.toInt /\ p2.toInt <= 8 := ⟨k_gt hq108 (by decide), B111.2⟩; omega) rfl) (by decide) (by decide) (by decide) 2 (fun T101 h101 b101 k101 g101 X101 e101 E101 V101 => ?_)
 have g_b101 : n0 <= b101 := Nat.le_trans Z0 (Nat.le_of_eq g101.symm)
 have lt_b101 : a6 < b101 := Nat.lt_of_lt_of_le F0_6.lt (Nat.le_of_eq g101.symm)
 have Z101 : n0 <= h101.size := Nat.le_trans Z0 E101.1
 have Vw101 : Arv Z h101 b101 k101 .long p2 [(.long 0), (.long 0)] (.long 0) := V101
 refine k_astoreN X101 hx 4 (D d16_3) rfl (Ls' := #[rv a1, iv p2, rv b101, u_, u_]) rfl ?_
 refine k_iloadN X101 hx 5 (D d16_4) rfl ?_
 refine k_newA X101 hx hZ 7 (k_w hw 28 rfl) e101 (D d16_5) (by intro hq115; have B116 : (1 : Int) <= p4.toInt /\ p4.toInt <= 8 := ⟨kL_ge hp0 (by decide), kL_le hp1 (by decide)⟩; have B117 : (1 : Int) <= p7.toInt /\ p7.toInt <= 9223372036854775807 := ⟨kL_ge hp2 (by decide), Int.le_of_lt_add_one (rng64 p7).2⟩; have q119 : p2.toInt = p4.toInt := k_l2ix hd14 B116 (by decide) (by decide); have B118 : (1 : Int) <= p2.toInt /\ p2.toInt <= 8 := (by rw [q119]; exact B116); have B120 : (1 : Int) <= p2.toInt /\ p2.toInt <= -1 := ⟨B118.1, k_lt hq115 (by decide)⟩; omega) (cap := 8) (k_cap (c := (8 : Int32)) (by intro hq121; have B122 : (1 : Int) <= p4.toInt /\ p4.toInt <= 8 := ⟨kL_ge hp0 (by decide), kL_le hp1 (by decide)⟩; have B123 : (1 : Int) <= p7.toInt /\ p7.toInt <= 9223372036854775807 := ⟨kL_ge hp2 (by decide), Int.le_of_lt_add_one (rng64 p7).2⟩; have q125 : p2.toInt = p4.toInt := k_l2ix hd14 B122 (by decide) (by decide); have B124 : (1 : Int) <= p2.toInt /\ p2.toInt <= 8 := (by rw [q125]; exact B122); have B126 : (9 : Int) <= p2.toInt /\ p2.toInt <= 8 := ⟨k_gt hq121 (by decide), B124.2⟩; omega) rfl) (by decide) (by decide) (by decide) 2 (fun T114 h114 b114 k114 g114 X114 e114 E114 V114 => ?_)
 have g_b114 : n0 <= b114 := Nat.le_trans Z101 (Nat.le_of_eq g114.symm)
 have lt_b114 : b101 < b114 := Nat.lt_of_lt_of_le Vw101.lt (Nat.le_of_eq g114.symm)
 have Z114 : n0 <= h114.size := Nat.le_trans Z101 E114.1
 have Vw114 : Arv Z h114 b114 k114 .long p2 [(.long 0), (.long 0)] (.long 0) := V114
 refine k_astoreN X114 hx 8 (D d16_7) rfl (Ls' := #[rv a1, iv p2, rv b101, rv b114, u_]) rfl ?_
 refine k_iconst X114 hx 9 (D d16_8) (z := (0 : Int32)) rfl ?_
 refine k_istore X114 hx 11 (D d16_9) (Ls' := #[rv a1, iv p2, rv b101, rv b114, iv 0]) rfl ?_
 refine k_iload X114 hx 13 (D d16_11) rfl ?_
 refine k_aloadN X114 hx 14 (D d16_13) rfl rfl ?_
 have F127 := ((f10.ext E101).ext E114)
 refine k_getF1 X114 hx hZ hown 17 (k_w hw 61 rfl) e114 F127 (D d16_14) (fun T128 X128 e128 => ?_)
 refine k_icmp_ge X128 hx 20 56 (D d16_17) (fun _ => ?_) (fun hc => absurd hc (by decide))
 refine k_aloadN X128 hx 57 (D d16_56) rfl rfl ?_
 refine k_aloadN X128 hx 58 (D d16_57) rfl rfl ?_
 have F129 := ((f4.ext E101).ext E114)
 have F130 := ((f3.ext E101).ext E114)
 refine k_putF1 X128 hx hZ hown 61 (k_w hw 29 rfl) e128 F129 F130 (Or.inl (k_w hw 30 rfl)) (k_w hw 22 rfl) (.array .long) rfl rfl (D d16_58) (fun T131 h131 X131 e131 W131 => ?_)
 have Fw131 := F129.same W131
 have N131 := Fr.snoc X131 N0 g_a1
 have Z131 := k_zw Z114 W131
 refine k_aloadN X131 hx 62 (D d16_61) rfl rfl ?_
 refine k_aloadN X131 hx 63 (D d16_62) rfl rfl ?_
 have F132 := (((f5.ext E101).ext E114).other W131 (Or.inr (sn1 hw)))
 have F133 := (F130.wr W131)
 refine k_putF1 X131 hx hZ hown 66 (k_w hw 31 rfl) e131 F132 F133 (Or.inl (k_w hw 32 rfl)) (k_w hw 22 rfl) (.array .long) rfl rfl (D d16_63) (fun T134 h134 X134 e134 W134 => ?_)
 have Fw134 := F132.same W134
 have N134 := Fr.snoc X134 N131 g_a1
 have Z134 := k_zw Z131 W134
 refine k_aloadN X134 hx 67 (D d16_66) rfl rfl ?_
 refine k_iconst X134 hx 68 (D d16_67) (z := (0 : Int32)) rfl ?_
 have F135 := ((((f12.ext E101).ext E114).other W131 (Or.inr (sn29 hw))).other W134 (Or.inr (sn30 hw)))
 have F136 := (F133.wr W134)
 refine k_putF1 X134 hx hZ hown 71 (k_w hw 99 rfl) e134 F135 F136 (Or.inl (k_w hw 100 rfl)) (k_w hw 22 rfl) .int rfl rfl (D d16_68) (fun T137 h137 X137 e137 W137 => ?_)
 have Fw137 := F135.same W137
 have N137 := Fr.snoc X137 N134 g_a1
 have Z137 := k_zw Z134 W137
 have F138 := (((((f0.ext E101).ext E114).wr W131).wr W134).wr W137)
 have F139 := (((((f1.ext E101).ext E114).other W131 (Or.inl (Nat.ne_of_lt lt0_0))).other W134 (Or.inl (Nat.ne_of_lt lt0_0))).other W137 (Or.inl (Nat.ne_of_lt lt0_0)))
 have F140 := (((((f2.ext E101).ext E114).other W131 (Or.inl (Nat.ne_of_lt lt0_0))).other W134 (Or.inl (Nat.ne_of_lt lt0_0))).other W137 (Or.inl (Nat.ne_of_lt lt0_0)))
 have F141 := (F136.wr W137)
 have F142 := ((Fw131.other W134 (Or.inr (sn7 hw))).other W137 (Or.inr (sn50 hw)))
 have F143 := (Fw134.other W137 (Or.inr (sn51 hw)))
 have F144 := (((((f6.ext E101).ext E114).other W131 (Or.inr (sn2 hw))).other W134 (Or.inr (sn3 hw))).other W137 (Or.inr (sn52 hw)))
 have F145 := (((((f7.ext E101).ext E114).other W131 (Or.inr (sn4 hw))).other W134 (Or.inr (sn5 hw))).other W137 (Or.inr (sn53 hw)))
 have F146 := (((((f8.ext E101).ext E114).other W131 (Or.inr (sn13 hw))).other W134 (Or.inr (sn14 hw))).other W137 (Or.inr (sn54 hw)))
 have F147 := (((((f9.ext E101).ext E114).other W131 (Or.inr (sn17 hw))).other W134 (Or.inr (sn18 hw))).other W137 (Or.inr (sn55 hw)))
 have F148 := (((F127.other W131 (Or.inr (sn21 hw))).other W134 (Or.inr (sn22 hw))).other W137 (Or.inr (sn56 hw)))
 have F149 := (((((f11.ext E101).ext E114).other W131 (Or.inr (sn25 hw))).other W134 (Or.inr (sn26 hw))).other W137 (Or.inr (sn57 hw)))
 have F150 := (((((F0_4.ext E101).ext E114).other W131 (Ne.symm (Nat.ne_of_lt lt0_1))).other W134 (Ne.symm (Nat.ne_of_lt lt0_1))).other W137 (Ne.symm (Nat.ne_of_lt lt0_1)))
 have F151 := (((((F0_6.ext E101).ext E114).other W131 (Ne.symm (Nat.ne_of_lt (Nat.lt_trans lt0_1 lt0_2)))).other W134 (Ne.symm (Nat.ne_of_lt (Nat.lt_trans lt0_1 lt0_2)))).other W137 (Ne.symm (Nat.ne_of_lt (Nat.lt_trans lt0_1 lt0_2))))
 have F152 := ((((Vw101.ext E114).other W131 (Ne.symm (Nat.ne_of_lt (Nat.lt_trans (Nat.lt_trans lt0_1 lt0_2) lt_b101)))).other W134 (Ne.symm (Nat.ne_of_lt (Nat.lt_trans (Nat.lt_trans lt0_1 lt0_2) lt_b101)))).other W137 (Ne.symm (Nat.ne_of_lt (Nat.lt_trans (Nat.lt_trans lt0_1 lt0_2) lt_b101))))
 have F153 := (((Vw114.other W131 (Ne.symm (Nat.ne_of_lt (Nat.lt_trans (Nat.lt_trans (Nat.lt_trans lt0_1 lt0_2) lt_b101) lt_b114)))).other W134 (Ne.symm (Nat.ne_of_lt (Nat.lt_trans (Nat.lt_trans (Nat.lt_trans lt0_1 lt0_2) lt_b101) lt_b114)))).other W137 (Ne.symm (Nat.ne_of_lt (Nat.lt_trans (Nat.lt_trans (Nat.lt_trans lt0_1 lt0_2) lt_b101) lt_b114))))
 exact k_ret X137 hx hret (D d16_71) hlk (by decide) (by decide) (by rw [e137]; exact ⟨N137, ⟨b101, k101, b114, k114, rfl, ⟨F138, F139, F140⟩, ⟨F141, F142, F143, F144, F145, F146, F147, F148, F149, Fw137⟩, F150, F151, F152, F153, g_b101, lt_b101, g_b114, lt_b114, Z137⟩⟩)
theorem pd_6 : parseMethodDescriptor "(I)V" = some ⟨[.int], none⟩ := by decide +kernel
theorem d14_56 : decode c14 56 = .ok (.return_, 1) := by decide +kernel
abbrev R14_15 : Room := { frames := 1, cells := 2, slots := 16, locals := 18 }
def Q14_15 (Z : State) (a1 a2 a4 a5 : Addr) (p3 p6 p7 : Int64) (k8 k9 : ClassId) (h0 : Heap) (n0 : Nat) (v : Option Value) (h : Heap) (L : List Loc) : Prop := Fr n0 L /\ ((∃ (v111 : Int32) (b113 : Addr) (k114 : ClassId) (b115 : Addr) (k116 : ClassId), v111 = p3.toInt32 /\ v = none /\ BL Z h a2 (.long p3) (.ref a1) /\ BS Z h a1 (.ref b113) (.ref b115) (.long p3) (.long p6) (.int 1) (.long p7) (.int 0) (.long 0) (.int 0) /\ Arv Z h a4 k8 .long (0 : Int32) [] (.long 0) /\ Arv Z h a5 k9 .long (0 : Int32) [] (.long 0) /\ Arv Z h b113 k114 .long v111 [(.long 0), (.long 0)] (.long 0) /\ Arv Z h b115 k116 .long v111 [(.long 0), (.long 0)] (.long 0) /\ n0 <= b113 /\ a5 < b113 /\ n0 <= b115 /\ b113 < b115 /\ n0 <= h.size))
theorem ef14_15 (m : MethodId) (x0 : Addr) : entryFrame m #[(.ref x0)] 3 = mkF m 0 #[.val (.ref x0), .unset, .unset] [] := by first | (simp [entryFrame, mkF, argsToLocals, Value.category]; done) | rfl
theorem rm14_15 (l : Launch) (Z : State) (a0 : Array Value) (hw : WW a0 Z) (ws : List Jvm.Cond) (a1 a2 a4 a5 : Addr) (p3 p6 p7 : Int64) (k8 k9 : ClassId) (h0 : Heap) (n0 : Nat) (Z0 : n0 <= h0.size) (B0 : BL Z h0 a2 (.long p3) (.ref a1)) (g_a2 : n0 <= a2) (B2 : BS Z h0 a1 (.ref a4) (.ref a5) (.long p3) (.long p6) (.int 1) (.long p7) (.int 0) (.long 0) (.int 0)) (g_a1 : n0 <= a1) (F0_4 : Arv Z h0 a4 k8 .long (0 : Int32) [] (.long 0)) (g_a4 : n0 <= a4) (F0_6 : Arv Z h0 a5 k9 .long (0 : Int32) [] (.long 0)) (g_a5 : n0 <= a5) (lt0_0 : a2 < a1) (lt0_1 : a1 < a4) (lt0_2 : a4 < a5) (hp0 : ¬ p3 < (1 : Int64)) (hp1 : ¬ (8 : Int64) < p3) (hp2 : ¬ p6 < (1 : Int64)) :
    KMet l (⟨"com/example/halter/halter/SlidingSum", "grow", "()V"⟩ : MethodName) prog_20_method_10_code 3 none ws R14_15 #[(.ref a1)] Z h0 R14_15.cells R14_15.slots (Q14_15 Z a1 a2 a4 a5 p3 p6 p7 k8 k9 h0 n0) := by
 refine k_body (plainFor_of_name pn_1) (fun m => ef14_15 m a1) ?_
 intro p e s m below meth c s₁ hx D hml hlk hret hown hnm hZ X0 e0
 have N0 := Fr.nil n0
 obtain ⟨f0, f1, f2⟩ := B0
 obtain ⟨f3, f4, f5, f6, f7, f8, f9, f10, f11, f12⟩ := B2
 refine k_aloadN X0 hx 1 (D d14_0) rfl rfl ?_
 refine k_getF1 X0 hx hZ hown 4 (k_w hw 29 rfl) e0 f4 (D d14_1) (fun T101 X101 e101 => ?_)
 refine k_alen X101 hx hZ 5 e101 F0_4 (D d14_4) ?_
 refine k_ldc X101 hx hZ hown 7 (k_w hw 87 rfl) (D d14_5) ?_
 refine k_icmp_ne X101 hx 10 20 (D d14_7) (fun _ => ?_) (fun hc => absurd hc (by decide))
 refine k_ldcL X101 hx hZ hown 23 (k_w hw 88 rfl) (D d14_20) ?_
 refine k_ldcL X101 hx hZ hown 26 (k_w hw 89 rfl) (D d14_23) ?_
 refine k_aloadN X101 hx 27 (D d14_26) rfl rfl ?_
 refine k_getF1 X101 hx hZ hown 30 (k_w hw 29 rfl) e101 f4 (D d14_27) (fun T102 X102 e102 => ?_)
 refine k_alen X102 hx hZ 31 e102 F0_4 (D d14_30) ?_
 refine k_i2lL X102 hx 32 (D d14_31) (z := (0 : Int64)) (by decide) ?_
 refine k_lmulL X102 hx 33 (D d14_32) (z := (0 : Int64)) (by decide) ?_
 refine k_callS X102 hx hZ hown 36 (k_w hw 90 rfl) (k_w hw 2 rfl) (k_w hw 3 rfl) (k_w hw 4 rfl) (by decide) (rm1_16 l Z a0 hw []  h0 n0 Z0 ) (by decide) (by decide) e102 (by rw [hml]; rfl) (argsL := [(.long 8), (.long 0)]) (rest := []) (lenOf pd_0 rfl) rfl (W := 0) (Nat.le_refl _) rfl (D d14_33) (by decide) (by decide) (fun T103 L103 r103 X103 q103 => ?_)
 obtain ⟨N103, e103, q103⟩ := q103
 have N103' := Fr.app N0 N103
 obtain rfl := q103
 refine k_n1 ?_
 refine k_lstoreN X103 hx 37 (D d14_36) (Ls' := #[rv a1, jv 8, s_]) rfl ?_
 refine k_aloadN X103 hx 38 (D d14_37) rfl rfl ?_
 refine k_lloadN X103 hx 39 (D d14_38) rfl ?_
 refine k_aloadN X103 hx 40 (D d14_39) rfl rfl ?_
 refine k_getF1 X103 hx hZ hown 43 (k_w hw 33 rfl) e103 f6 (D d14_40) (fun T104 X104 e104 => ?_)
 refine k_ldcL X104 hx hZ hown 46 (k_w hw 91 rfl) (D d14_43) ?_
 refine k_callS X104 hx hZ hown 49 (k_w hw 92 rfl) (k_w hw 93 rfl) (k_w hw 3 rfl) (k_w hw 94 rfl) (by decide) (rm15_17 l Z a0 hw [] p3 h0 n0 Z0 ) (by decide) (by decide) e104 (by rw [hml]; rfl) (argsL := [(.long p3), (.long 1073741824)]) (rest := [(.long 8), (.ref a1)]) (lenOf pd_0 rfl) rfl (W := 3) (Nat.le_refl _) rfl (D d14_46) (by decide) (by decide) (fun T105 L105 r105 X105 q105 => ?_)
 obtain ⟨N105, e105, rfl⟩ := q105
 have N105' := Fr.app N103' N105
 show KEnds p e below s _ _ _ T105 (mkF m 49 #[rv a1, jv 8, s_] ((.long (f15_17 p3)) :: (.long 8) :: (.ref a1) :: []))
 obtain ⟨v106, hv106⟩ : ∃ z, z = f15_17 p3 := ⟨_, rfl⟩
 rw [← hv106]
 have hh107 : p3 = v106 := by rw [hv106]; exact (own_mi_f15_17 _ (k_dL_nalt_nalt hp1 (by decide))).symm
 subst hh107
 refine k_callS X105 hx hZ hown 52 (k_w hw 92 rfl) (k_w hw 93 rfl) (k_w hw 3 rfl) (k_w hw 94 rfl) (by decide) (rm15_18 l Z a0 hw [] p3 h0 n0 Z0 ) (by decide) (by decide) e105 (by rw [hml]; rfl) (argsL := [(.long 8), (.long p3)]) (rest := [(.ref a1)]) (lenOf pd_0 rfl) rfl (W := 1) (Nat.le_refl _) rfl (D d14_49) (by decide) (by decide) (fun T108 L108 r108 X108 q108 => ?_)
 obtain ⟨N108, e108, rfl⟩ := q108
 have N108' := Fr.app N105' N108
 show KEnds p e below s _ _ _ T108 (mkF m 52 #[rv a1, jv 8, s_] ((.long (f15_18 p3)) :: (.ref a1) :: []))
 obtain ⟨v109, hv109⟩ : ∃ z, z = f15_18 p3 := ⟨_, rfl⟩
 rw [← hv109]
 have hh110 : p3 = v109 := by rw [hv109]; exact (own_mi_f15_18 _ (k_dL_nalt_nalt hp1 (by decide))).symm
 subst hh110
 refine k_l2i X108 hx 53 (D d14_52) (fun v111 hv111 => ?_)
 refine k_callP X108 hx hZ hown 56 (a := a1) (k_w hw 95 rfl) (k_w hw 96 rfl) (k_w hw 97 rfl) (k_w hw 22 rfl) (k_w hw 23 rfl) (k_w hw 98 rfl) (by decide) f3 (rm16_19 l Z a0 hw [] a1 a2 a4 a5 v111 p3 p6 p7 k8 k9 h0 n0 Z0 ⟨f0, f1, f2⟩ g_a2 ⟨f3, f4, f5, f6, f7, f8, f9, f10, f11, f12⟩ g_a1 F0_4 g_a4 F0_6 g_a5 lt0_0 lt0_1 lt0_2 hp0 hp1 hp2 hv111) (by decide) (by decide) e108 (by rw [hml]; rfl) (argsL := [(.int v111)]) (rest := []) (lenOf pd_6 rfl) rfl (W := 0) (Nat.le_refl _) rfl (D d14_53) (by decide) (by decide) (fun T112 L112 r112 X112 q112 => ?_)
 obtain ⟨N112, q112⟩ := q112
 have N112' := Fr.app N108' N112
 obtain ⟨b113, k114, b115, k116, rfl, ⟨F117, F118, F119⟩, ⟨F120, F121, F122, F123, F124, F125, F126, F127, F128, F129⟩, F130, F131, F132, F133, g_b113, lt134, g_b115, lt135, Z136⟩ := q112
 refine k_n0 ?_
 exact k_ret X112 hx hret (D d14_56) hlk (by decide) (by decide) ⟨N112', ⟨v111, b113, k114, b115, k116, hv111, rfl, ⟨F117, F118, F119⟩, ⟨F120, F121, F122, F123, F124, F125, F126, F127, F128, F129⟩, F130, F131, F132, F133, g_b113, lt134, g_b115, lt135, Z136⟩⟩
theorem d13_68 : decode c13 68 = .ok (.aload_n 0, 1) := by decide +kernel
theorem d13_69 : decode c13 69 = .ok (.aload_n 0, 1) := by decide +kernel
theorem d13_70 : decode c13 70 = .ok (.getfield 45, 3) := by decide +kernel
theorem d13_73 : decode c13 73 = .ok (.invokevirtual 62, 3) := by decide +kernel
abbrev c17 := prog_20_method_12_code
theorem d17_0 : decode c17 0 = .ok (.aload_n 0, 1) := by decide +kernel
theorem d17_1 : decode c17 1 = .ok (.getfield 59, 3) := by decide +kernel
theorem d17_4 : decode c17 4 = .ok (.iload_n 1, 1) := by decide +kernel
theorem d17_5 : decode c17 5 = .ok (.iadd, 1) := by decide +kernel
theorem d17_6 : decode c17 6 = .ok (.istore_n 2, 1) := by decide +kernel
theorem d17_7 : decode c17 7 = .ok (.iload_n 2, 1) := by decide +kernel
theorem d17_8 : decode c17 8 = .ok (.aload_n 0, 1) := by decide +kernel
theorem d17_9 : decode c17 9 = .ok (.getfield 7, 3) := by decide +kernel
theorem d17_12 : decode c17 12 = .ok (.arraylength, 1) := by decide +kernel
theorem d17_13 : decode c17 13 = .ok (.if_icmp .ge 7, 3) := by decide +kernel
theorem d17_16 : decode c17 16 = .ok (.iload_n 2, 1) := by decide +kernel
theorem d17_17 : decode c17 17 = .ok (.goto 10, 3) := by decide +kernel
theorem d17_27 : decode c17 27 = .ok (.ireturn, 1) := by decide +kernel
abbrev R17_20 : Room := { frames := 0, cells := 0, slots := 0, locals := 0 }
def Q17_20 (Z : State) (a1 a2 a3 : Addr) (p4 p5 p6 : Int64) (k7 k9 : ClassId) (p8 : Int32) (h0 : Heap) (n0 : Nat) (v : Option Value) (h : Heap) (L : List Loc) : Prop := Fr n0 L /\ h = h0 /\ ((v = some (.int 0)))
theorem ef17_20 (m : MethodId) (x0 : Addr) : entryFrame m #[(.ref x0), (.int 0)] 3 = mkF m 0 #[.val (.ref x0), .val (.int 0), .unset] [] := by first | (simp [entryFrame, mkF, argsToLocals, Value.category]; done) | rfl
theorem rm17_20 (l : Launch) (Z : State) (a0 : Array Value) (hw : WW a0 Z) (ws : List Jvm.Cond) (a1 a2 a3 : Addr) (p4 p5 p6 : Int64) (k7 k9 : ClassId) (p8 : Int32) (h0 : Heap) (n0 : Nat) (Z0 : n0 <= h0.size) (B0 : BS Z h0 a1 (.ref a2) (.ref a3) (.long p4) (.long p5) (.int 1) (.long p6) (.int 0) (.long 0) (.int 0)) (F0_1 : Arv Z h0 a2 k7 .long p8 [(.long 0), (.long 0)] (.long 0)) (F0_2 : Arv Z h0 a3 k9 .long p8 [(.long 0), (.long 0)] (.long 0)) (lt0_0 : a1 < a2) (lt0_1 : a2 < a3) (hp0 : ¬ p4 < (1 : Int64)) (hp1 : ¬ (8 : Int64) < p4) (hp2 : ¬ p5 < (1 : Int64)) (hp3 : ¬ p8 < (1 : Int32)) (hp4 : ¬ (8 : Int32) < p8) (hd10 : p8 = p4.toInt32) :
    KMet l (⟨"com/example/halter/halter/SlidingSum", "place", "(I)I"⟩ : MethodName) prog_20_method_12_code 3 (some .int) ws R17_20 #[(.ref a1), (.int 0)] Z h0 R17_20.cells R17_20.slots (Q17_20 Z a1 a2 a3 p4 p5 p6 k7 k9 p8 h0 n0) := by
 refine k_body (plainFor_of_name pn_1) (fun m => ef17_20 m a1) ?_
 intro p e s m below meth c s₁ hx D hml hlk hret hown hnm hZ X0 e0
 have N0 := Fr.nil n0
 obtain ⟨f0, f1, f2, f3, f4, f5, f6, f7, f8, f9⟩ := B0
 refine k_aloadN X0 hx 1 (D d17_0) rfl rfl ?_
 refine k_getF1 X0 hx hZ hown 4 (k_w hw 99 rfl) e0 f9 (D d17_1) (fun T101 X101 e101 => ?_)
 refine k_iloadN X101 hx 5 (D d17_4) rfl ?_
 refine k_iaddL X101 hx 6 (D d17_5) (z := (0 : Int32)) (by decide) ?_
 refine k_istoreN X101 hx 7 (D d17_6) (Ls' := #[rv a1, iv 0, iv 0]) rfl ?_
 refine k_iloadN X101 hx 8 (D d17_7) rfl ?_
 refine k_aloadN X101 hx 9 (D d17_8) rfl rfl ?_
 refine k_getF1 X101 hx hZ hown 12 (k_w hw 29 rfl) e101 f1 (D d17_9) (fun T102 X102 e102 => ?_)
 refine k_alen X102 hx hZ 13 e102 F0_1 (D d17_12) ?_
 refine k_icmp_ge X102 hx 16 20 (D d17_13) (fun hc => absurd (k_d_alt_nxlt hp3 (by decide)) hc) (fun _ => ?_)
 refine k_iloadN X102 hx 17 (D d17_16) rfl ?_
 refine k_goto X102 hx 27 (D d17_17) ?_
 exact k_retI X102 hx hret (D d17_27) hlk (by decide) (by decide) ⟨N0, e102, rfl⟩
theorem pd_7 : parseMethodDescriptor "(I)I" = some ⟨[.int], some .int⟩ := by decide +kernel
theorem d13_76 : decode c13 76 = .ok (.istore_n 3, 1) := by decide +kernel
theorem d13_77 : decode c13 77 = .ok (.aload_n 0, 1) := by decide +kernel
theorem d13_78 : decode c13 78 = .ok (.getfield 7, 3) := by decide +kernel
theorem d13_81 : decode c13 81 = .ok (.iload_n 3, 1) := by decide +kernel
theorem d13_82 : decode c13 82 = .ok (.aload_n 0, 1) := by decide +kernel
theorem d13_83 : decode c13 83 = .ok (.getfield 53, 3) := by decide +kernel
theorem d13_86 : decode c13 86 = .ok (.lastore, 1) := by decide +kernel
theorem d13_87 : decode c13 87 = .ok (.aload_n 0, 1) := by decide +kernel
theorem d13_88 : decode c13 88 = .ok (.getfield 13, 3) := by decide +kernel
theorem d13_91 : decode c13 91 = .ok (.iload_n 3, 1) := by decide +kernel
theorem d13_92 : decode c13 92 = .ok (.lload_n 1, 1) := by decide +kernel
theorem d13_93 : decode c13 93 = .ok (.lastore, 1) := by decide +kernel
theorem d13_94 : decode c13 94 = .ok (.aload_n 0, 1) := by decide +kernel
theorem d13_95 : decode c13 95 = .ok (.dup, 1) := by decide +kernel
theorem d13_96 : decode c13 96 = .ok (.getfield 45, 3) := by decide +kernel
theorem d13_99 : decode c13 99 = .ok (.iconst 1, 1) := by decide +kernel
theorem d13_100 : decode c13 100 = .ok (.iadd, 1) := by decide +kernel
theorem d13_101 : decode c13 101 = .ok (.putfield 45, 3) := by decide +kernel
theorem d13_104 : decode c13 104 = .ok (.aload_n 0, 1) := by decide +kernel
theorem d13_105 : decode c13 105 = .ok (.dup, 1) := by decide +kernel
theorem d13_106 : decode c13 106 = .ok (.getfield 36, 3) := by decide +kernel
theorem sn58 {Z : State} {a0 : Array Value} (hw : WW a0 Z) : RoadKit.slotOf Z "com/example/halter/halter/SlidingSum" "sum" "J" ≠ RoadKit.slotOf Z "com/example/halter/halter/SlidingSum" "size" "I" := slot_ne (Or.inl (k_w hw 64 rfl)) (Or.inl (k_w hw 62 rfl)) (by decide) (t := .long) (t' := .int) (by decide) (by decide)
theorem d13_109 : decode c13 109 = .ok (.lload_n 1, 1) := by decide +kernel
theorem d13_110 : decode c13 110 = .ok (.ladd, 1) := by decide +kernel
theorem d13_111 : decode c13 111 = .ok (.putfield 36, 3) := by decide +kernel
theorem d13_114 : decode c13 114 = .ok (.return_, 1) := by decide +kernel
abbrev R13_14 : Room := { frames := 2, cells := 2, slots := 16, locals := 32 }
def Q13_14 (Z : State) (a1 a3 a5 a6 : Addr) (p2 p4 p7 p8 : Int64) (k9 k10 : ClassId) (h0 : Heap) (n0 : Nat) (v : Option Value) (h : Heap) (L : List Loc) : Prop := Fr n0 L /\ ((∃ (v105 : Int32) (b106 : Addr) (k107 : ClassId) (b108 : Addr) (k109 : ClassId), v105 = p4.toInt32 /\ ¬ v105 < (1 : Int32) /\ ¬ (8 : Int32) < v105 /\ v = none /\ BL Z h a3 (.long p4) (.ref a1) /\ BS Z h a1 (.ref b106) (.ref b108) (.long p4) (.long p7) (.int 1) (.long p8) (.int 1) (.long p2) (.int 0) /\ Arv Z h a5 k9 .long (0 : Int32) [] (.long 0) /\ Arv Z h a6 k10 .long (0 : Int32) [] (.long 0) /\ Arv Z h b106 k107 .long v105 [(.long p8), (.long 0)] (.long 0) /\ Arv Z h b108 k109 .long v105 [(.long p2), (.long 0)] (.long 0) /\ n0 <= b106 /\ a6 < b106 /\ n0 <= b108 /\ b106 < b108 /\ n0 <= h.size))
theorem sn59 {Z : State} {a0 : Array Value} (hw : WW a0 Z) : RoadKit.slotOf Z "com/example/halter/halter/SlidingSum" "times" "[J" ≠ RoadKit.slotOf Z "com/example/halter/halter/SlidingSum" "size" "I" := slot_ne (Or.inl (k_w hw 30 rfl)) (Or.inl (k_w hw 62 rfl)) (by decide) (t := (.array .long)) (t' := .int) (by decide) (by decide)
theorem sn60 {Z : State} {a0 : Array Value} (hw : WW a0 Z) : RoadKit.slotOf Z "com/example/halter/halter/SlidingSum" "times" "[J" ≠ RoadKit.slotOf Z "com/example/halter/halter/SlidingSum" "sum" "J" := slot_ne (Or.inl (k_w hw 30 rfl)) (Or.inl (k_w hw 64 rfl)) (by decide) (t := (.array .long)) (t' := .long) (by decide) (by decide)
theorem sn61 {Z : State} {a0 : Array Value} (hw : WW a0 Z) : RoadKit.slotOf Z "com/example/halter/halter/SlidingSum" "costs" "[J" ≠ RoadKit.slotOf Z "com/example/halter/halter/SlidingSum" "size" "I" := slot_ne (Or.inl (k_w hw 32 rfl)) (Or.inl (k_w hw 62 rfl)) (by decide) (t := (.array .long)) (t' := .int) (by decide) (by decide)
theorem sn62 {Z : State} {a0 : Array Value} (hw : WW a0 Z) : RoadKit.slotOf Z "com/example/halter/halter/SlidingSum" "costs" "[J" ≠ RoadKit.slotOf Z "com/example/halter/halter/SlidingSum" "sum" "J" := slot_ne (Or.inl (k_w hw 32 rfl)) (Or.inl (k_w hw 64 rfl)) (by decide) (t := (.array .long)) (t' := .long) (by decide) (by decide)
theorem sn63 {Z : State} {a0 : Array Value} (hw : WW a0 Z) : RoadKit.slotOf Z "com/example/halter/halter/SlidingSum" "most" "J" ≠ RoadKit.slotOf Z "com/example/halter/halter/SlidingSum" "size" "I" := slot_ne (Or.inr (k_w hw 34 rfl)) (Or.inl (k_w hw 62 rfl)) (by decide) (t := .long) (t' := .int) (by decide) (by decide)
theorem sn64 {Z : State} {a0 : Array Value} (hw : WW a0 Z) : RoadKit.slotOf Z "com/example/halter/halter/SlidingSum" "most" "J" ≠ RoadKit.slotOf Z "com/example/halter/halter/SlidingSum" "sum" "J" := slot_ne (Or.inr (k_w hw 34 rfl)) (Or.inl (k_w hw 64 rfl)) (by decide) (t := .long) (t' := .long) (by decide) (by decide)
theorem sn65 {Z : State} {a0 : Array Value} (hw : WW a0 Z) : RoadKit.slotOf Z "com/example/halter/halter/SlidingSum" "length" "J" ≠ RoadKit.slotOf Z "com/example/halter/halter/SlidingSum" "size" "I" := slot_ne (Or.inr (k_w hw 36 rfl)) (Or.inl (k_w hw 62 rfl)) (by decide) (t := .long) (t' := .int) (by decide) (by decide)
theorem sn66 {Z : State} {a0 : Array Value} (hw : WW a0 Z) : RoadKit.slotOf Z "com/example/halter/halter/SlidingSum" "length" "J" ≠ RoadKit.slotOf Z "com/example/halter/halter/SlidingSum" "sum" "J" := slot_ne (Or.inr (k_w hw 36 rfl)) (Or.inl (k_w hw 64 rfl)) (by decide) (t := .long) (t' := .long) (by decide) (by decide)
theorem sn67 {Z : State} {a0 : Array Value} (hw : WW a0 Z) : RoadKit.slotOf Z "com/example/halter/halter/SlidingSum" "started" "Z" ≠ RoadKit.slotOf Z "com/example/halter/halter/SlidingSum" "size" "I" := slot_ne (Or.inl (k_w hw 54 rfl)) (Or.inl (k_w hw 62 rfl)) (by decide) (t := .boolean) (t' := .int) (by decide) (by decide)
theorem sn68 {Z : State} {a0 : Array Value} (hw : WW a0 Z) : RoadKit.slotOf Z "com/example/halter/halter/SlidingSum" "started" "Z" ≠ RoadKit.slotOf Z "com/example/halter/halter/SlidingSum" "sum" "J" := slot_ne (Or.inl (k_w hw 54 rfl)) (Or.inl (k_w hw 64 rfl)) (by decide) (t := .boolean) (t' := .long) (by decide) (by decide)
theorem sn69 {Z : State} {a0 : Array Value} (hw : WW a0 Z) : RoadKit.slotOf Z "com/example/halter/halter/SlidingSum" "latest" "J" ≠ RoadKit.slotOf Z "com/example/halter/halter/SlidingSum" "size" "I" := slot_ne (Or.inl (k_w hw 56 rfl)) (Or.inl (k_w hw 62 rfl)) (by decide) (t := .long) (t' := .int) (by decide) (by decide)
theorem sn70 {Z : State} {a0 : Array Value} (hw : WW a0 Z) : RoadKit.slotOf Z "com/example/halter/halter/SlidingSum" "latest" "J" ≠ RoadKit.slotOf Z "com/example/halter/halter/SlidingSum" "sum" "J" := slot_ne (Or.inl (k_w hw 56 rfl)) (Or.inl (k_w hw 64 rfl)) (by decide) (t := .long) (t' := .long) (by decide) (by decide)
theorem sn71 {Z : State} {a0 : Array Value} (hw : WW a0 Z) : RoadKit.slotOf Z "com/example/halter/halter/SlidingSum" "size" "I" ≠ RoadKit.slotOf Z "com/example/halter/halter/SlidingSum" "sum" "J" := slot_ne (Or.inl (k_w hw 62 rfl)) (Or.inl (k_w hw 64 rfl)) (by decide) (t := .int) (t' := .long) (by decide) (by decide)
theorem sn72 {Z : State} {a0 : Array Value} (hw : WW a0 Z) : RoadKit.slotOf Z "com/example/halter/halter/SlidingSum" "head" "I" ≠ RoadKit.slotOf Z "com/example/halter/halter/SlidingSum" "size" "I" := slot_ne (Or.inl (k_w hw 100 rfl)) (Or.inl (k_w hw 62 rfl)) (by decide) (t := .int) (t' := .int) (by decide) (by decide)
theorem sn73 {Z : State} {a0 : Array Value} (hw : WW a0 Z) : RoadKit.slotOf Z "com/example/halter/halter/SlidingSum" "head" "I" ≠ RoadKit.slotOf Z "com/example/halter/halter/SlidingSum" "sum" "J" := slot_ne (Or.inl (k_w hw 100 rfl)) (Or.inl (k_w hw 64 rfl)) (by decide) (t := .int) (t' := .long) (by decide) (by decide)
theorem ef13_14 (m : MethodId) (x0 : Addr) (x1 : Int64) : entryFrame m #[(.ref x0), (.long x1)] 4 = mkF m 0 #[.val (.ref x0), .val (.long x1), .second, .unset] [] := by first | (simp [entryFrame, mkF, argsToLocals, Value.category]; done) | rfl
theorem rm13_14 (l : Launch) (Z : State) (a0 : Array Value) (hw : WW a0 Z) (ws : List Jvm.Cond) (a1 a3 a5 a6 : Addr) (p2 p4 p7 p8 : Int64) (k9 k10 : ClassId) (h0 : Heap) (n0 : Nat) (Z0 : n0 <= h0.size) (B0 : BL Z h0 a3 (.long p4) (.ref a1)) (g_a3 : n0 <= a3) (B2 : BS Z h0 a1 (.ref a5) (.ref a6) (.long p4) (.long p7) (.int 1) (.long p8) (.int 0) (.long 0) (.int 0)) (g_a1 : n0 <= a1) (F0_4 : Arv Z h0 a5 k9 .long (0 : Int32) [] (.long 0)) (g_a5 : n0 <= a5) (F0_6 : Arv Z h0 a6 k10 .long (0 : Int32) [] (.long 0)) (g_a6 : n0 <= a6) (lt0_0 : a3 < a1) (lt0_1 : a1 < a5) (lt0_2 : a5 < a6) (hp0 : ¬ p4 < (1 : Int64)) (hp1 : ¬ (8 : Int64) < p4) (hp2 : ¬ p7 < (1 : Int64)) (hp3 : ¬ p2 < (1 : Int64)) :
    KMet l (⟨"com/example/halter/halter/SlidingSum", "remember", "(J)V"⟩ : MethodName) prog_20_method_9_code 4 none ws R13_14 #[(.ref a1), (.long p2)] Z h0 R13_14.cells R13_14.slots (Q13_14 Z a1 a3 a5 a6 p2 p4 p7 p8 k9 k10 h0 n0) := by
 refine k_body (plainFor_of_name pn_1) (fun m => ef13_14 m a1 p2) ?_
 intro p e s m below meth c s₁ hx D hml hlk hret hown hnm hZ X0 e0
 have N0 := Fr.nil n0
 obtain ⟨f0, f1, f2⟩ := B0
 obtain ⟨f3, f4, f5, f6, f7, f8, f9, f10, f11, f12⟩ := B2
 refine k_aloadN X0 hx 1 (D d13_0) rfl rfl ?_
 refine k_getF1 X0 hx hZ hown 4 (k_w hw 61 rfl) e0 f10 (D d13_1) (fun T101 X101 e101 => ?_)
 refine k_if_le X101 hx 7 52 (D d13_4) (fun _ => ?_) (fun hc => absurd hc (by decide))
 refine k_aloadN X101 hx 53 (D d13_52) rfl rfl ?_
 refine k_getF1 X101 hx hZ hown 56 (k_w hw 61 rfl) e101 f10 (D d13_53) (fun T102 X102 e102 => ?_)
 refine k_aloadN X102 hx 57 (D d13_56) rfl rfl ?_
 refine k_getF1 X102 hx hZ hown 60 (k_w hw 29 rfl) e102 f4 (D d13_57) (fun T103 X103 e103 => ?_)
 refine k_alen X103 hx hZ 61 e103 F0_4 (D d13_60) ?_
 refine k_icmp_ne X103 hx 64 68 (D d13_61) (fun hc => absurd (by decide) hc) (fun _ => ?_)
 refine k_aloadN X103 hx 65 (D d13_64) rfl rfl ?_
 refine k_callP X103 hx hZ hown 68 (a := a1) (k_w hw 83 rfl) (k_w hw 84 rfl) (k_w hw 85 rfl) (k_w hw 22 rfl) (k_w hw 23 rfl) (k_w hw 86 rfl) (by decide) f3 (rm14_15 l Z a0 hw [] a1 a3 a5 a6 p4 p7 p8 k9 k10 h0 n0 Z0 ⟨f0, f1, f2⟩ g_a3 ⟨f3, f4, f5, f6, f7, f8, f9, f10, f11, f12⟩ g_a1 F0_4 g_a5 F0_6 g_a6 lt0_0 lt0_1 lt0_2 hp0 hp1 hp2) (by decide) (by decide) e103 (by rw [hml]; rfl) (argsL := []) (rest := []) (lenOf pd_1 rfl) rfl (W := 0) (Nat.le_refl _) rfl (D d13_65) (by decide) (by decide) (fun T104 L104 r104 X104 q104 => ?_)
 obtain ⟨N104, q104⟩ := q104
 have N104' := Fr.app N0 N104
 obtain ⟨v105, b106, k107, b108, k109, h110, rfl, ⟨F111, F112, F113⟩, ⟨F114, F115, F116, F117, F118, F119, F120, F121, F122, F123⟩, F124, F125, F126, F127, g_b106, lt128, g_b108, lt129, Z130⟩ := q104
 refine k_n0 ?_
 refine k_aloadN X104 hx 69 (D d13_68) rfl rfl ?_
 refine k_aloadN X104 hx 70 (D d13_69) rfl rfl ?_
 refine k_getF1 X104 hx hZ hown 73 (k_w hw 61 rfl) rfl F121 (D d13_70) (fun T131 X131 e131 => ?_)
 have hp132 : ¬ v105 < (1 : Int32) := by
  intro hq133
  have B134 : (1 : Int) <= p4.toInt /\ p4.toInt <= 8 := ⟨kL_ge hp0 (by decide), kL_le hp1 (by decide)⟩
  have B135 : (1 : Int) <= p7.toInt /\ p7.toInt <= 9223372036854775807 := ⟨kL_ge hp2 (by decide), Int.le_of_lt_add_one (rng64 p7).2⟩
  have B136 : (1 : Int) <= p2.toInt /\ p2.toInt <= 9223372036854775807 := ⟨kL_ge hp3 (by decide), Int.le_of_lt_add_one (rng64 p2).2⟩
  have q138 : v105.toInt = p4.toInt := k_l2ix h110 B134 (by decide) (by decide)
  have B137 : (1 : Int) <= v105.toInt /\ v105.toInt <= 8 := (by rw [q138]; exact B134)
  have B139 : (1 : Int) <= v105.toInt /\ v105.toInt <= 0 := ⟨B137.1, k_lt hq133 (by decide)⟩
  omega
 have hp140 : ¬ (8 : Int32) < v105 := by
  intro hq141
  have B142 : (1 : Int) <= p4.toInt /\ p4.toInt <= 8 := ⟨kL_ge hp0 (by decide), kL_le hp1 (by decide)⟩
  have B143 : (1 : Int) <= p7.toInt /\ p7.toInt <= 9223372036854775807 := ⟨kL_ge hp2 (by decide), Int.le_of_lt_add_one (rng64 p7).2⟩
  have B144 : (1 : Int) <= p2.toInt /\ p2.toInt <= 9223372036854775807 := ⟨kL_ge hp3 (by decide), Int.le_of_lt_add_one (rng64 p2).2⟩
  have q146 : v105.toInt = p4.toInt := k_l2ix h110 B142 (by decide) (by decide)
  have B145 : (1 : Int) <= v105.toInt /\ v105.toInt <= 8 := (by rw [q146]; exact B142)
  have B147 : (9 : Int) <= v105.toInt /\ v105.toInt <= 8 := ⟨k_gt hq141 (by decide), B145.2⟩
  omega
 refine k_callP X131 hx hZ hown 76 (a := a1) (k_w hw 101 rfl) (k_w hw 102 rfl) (k_w hw 103 rfl) (k_w hw 22 rfl) (k_w hw 23 rfl) (k_w hw 104 rfl) (by decide) F114 (rm17_20 l Z a0 hw [] a1 b106 b108 p4 p7 p8 k107 k109 v105 T104.heap n0 Z130 ⟨F114, F115, F116, F117, F118, F119, F120, F121, F122, F123⟩ F126 F127 (Nat.lt_trans (Nat.lt_trans lt0_1 lt0_2) lt128) lt129 hp0 hp1 hp2 hp132 hp140 h110) (by decide) (by decide) e131 (by rw [hml]; rfl) (argsL := [(.int 0)]) (rest := []) (lenOf pd_7 rfl) rfl (W := 0) (Nat.le_refl _) rfl (D d13_73) (by decide) (by decide) (fun T148 L148 r148 X148 q148 => ?_)
 obtain ⟨N148, e148, q148⟩ := q148
 have N148' := Fr.app N104' N148
 obtain rfl := q148
 refine k_n1 ?_
 refine k_istoreN X148 hx 77 (D d13_76) (Ls' := #[rv a1, jv p2, s_, iv 0]) rfl ?_
 refine k_aloadN X148 hx 78 (D d13_77) rfl rfl ?_
 refine k_getF1 X148 hx hZ hown 81 (k_w hw 29 rfl) e148 F115 (D d13_78) (fun T149 X149 e149 => ?_)
 refine k_iloadN X149 hx 82 (D d13_81) rfl ?_
 refine k_aloadN X149 hx 83 (D d13_82) rfl rfl ?_
 refine k_getF1 X149 hx hZ hown 86 (k_w hw 55 rfl) e149 F120 (D d13_83) (fun T150 X150 e150 => ?_)
 refine k_lastore X150 hx hZ 87 e150 F126 ⟨by decide, (Classical.byContradiction (fun hq152 => by have B153 : (1 : Int) <= p4.toInt /\ p4.toInt <= 8 := ⟨kL_ge hp0 (by decide), kL_le hp1 (by decide)⟩; have B154 : (1 : Int) <= p7.toInt /\ p7.toInt <= 9223372036854775807 := ⟨kL_ge hp2 (by decide), Int.le_of_lt_add_one (rng64 p7).2⟩; have B155 : (1 : Int) <= p2.toInt /\ p2.toInt <= 9223372036854775807 := ⟨kL_ge hp3 (by decide), Int.le_of_lt_add_one (rng64 p2).2⟩; have q157 : v105.toInt = p4.toInt := k_l2ix h110 B153 (by decide) (by decide); have B156 : (1 : Int) <= v105.toInt /\ v105.toInt <= 8 := (by rw [q157]; exact B153); have B158 : (1 : Int) <= v105.toInt /\ v105.toInt <= 0 := ⟨B156.1, k_le hq152 (by decide)⟩; omega))⟩ (i := 0) rfl (Nat.le_of_ble_eq_true rfl) (D d13_86) (fun T151 h151 X151 e151 W151 V151 => ?_)
 have Vw151 : Arv Z h151 b106 k107 .long v105 [(.long p8), (.long 0)] (.long 0) := V151
 have N151 := Fr.snoc X151 N148' g_b106
 have Z151 := k_zw Z130 W151
 refine k_aloadN X151 hx 88 (D d13_87) rfl rfl ?_
 have F159 := (F116.other W151 (Or.inl (Nat.ne_of_lt (Nat.lt_trans (Nat.lt_trans lt0_1 lt0_2) lt128))))
 refine k_getF1 X151 hx hZ hown 91 (k_w hw 31 rfl) e151 F159 (D d13_88) (fun T160 X160 e160 => ?_)
 refine k_iloadN X160 hx 92 (D d13_91) rfl ?_
 refine k_lloadN X160 hx 93 (D d13_92) rfl ?_
 have F161 := (F127.other W151 (Ne.symm (Nat.ne_of_lt lt129)))
 refine k_lastore X160 hx hZ 94 e160 F161 ⟨by decide, (Classical.byContradiction (fun hq163 => by have B164 : (1 : Int) <= p4.toInt /\ p4.toInt <= 8 := ⟨kL_ge hp0 (by decide), kL_le hp1 (by decide)⟩; have B165 : (1 : Int) <= p7.toInt /\ p7.toInt <= 9223372036854775807 := ⟨kL_ge hp2 (by decide), Int.le_of_lt_add_one (rng64 p7).2⟩; have B166 : (1 : Int) <= p2.toInt /\ p2.toInt <= 9223372036854775807 := ⟨kL_ge hp3 (by decide), Int.le_of_lt_add_one (rng64 p2).2⟩; have q168 : v105.toInt = p4.toInt := k_l2ix h110 B164 (by decide) (by decide); have B167 : (1 : Int) <= v105.toInt /\ v105.toInt <= 8 := (by rw [q168]; exact B164); have B169 : (1 : Int) <= v105.toInt /\ v105.toInt <= 0 := ⟨B167.1, k_le hq163 (by decide)⟩; omega))⟩ (i := 0) rfl (Nat.le_of_ble_eq_true rfl) (D d13_93) (fun T162 h162 X162 e162 W162 V162 => ?_)
 have Vw162 : Arv Z h162 b108 k109 .long v105 [(.long p2), (.long 0)] (.long 0) := V162
 have N162 := Fr.snoc X162 N151 g_b108
 have Z162 := k_zw Z151 W162
 refine k_aloadN X162 hx 95 (D d13_94) rfl rfl ?_
 refine k_dup X162 hx 96 (D d13_95) rfl ?_
 have F170 := ((F121.other W151 (Or.inl (Nat.ne_of_lt (Nat.lt_trans (Nat.lt_trans lt0_1 lt0_2) lt128)))).other W162 (Or.inl (Nat.ne_of_lt (Nat.lt_trans (Nat.lt_trans (Nat.lt_trans lt0_1 lt0_2) lt128) lt129))))
 refine k_getF1 X162 hx hZ hown 99 (k_w hw 61 rfl) e162 F170 (D d13_96) (fun T171 X171 e171 => ?_)
 refine k_iconst X171 hx 100 (D d13_99) (z := (1 : Int32)) rfl ?_
 refine k_iaddL X171 hx 101 (D d13_100) (z := (1 : Int32)) (by decide) ?_
 have F172 := ((F114.wr W151).wr W162)
 refine k_putF1 X171 hx hZ hown 104 (k_w hw 61 rfl) e171 F170 F172 (Or.inl (k_w hw 62 rfl)) (k_w hw 22 rfl) .int rfl rfl (D d13_101) (fun T173 h173 X173 e173 W173 => ?_)
 have Fw173 := F170.same W173
 have N173 := Fr.snoc X173 N162 g_a1
 have Z173 := k_zw Z162 W173
 refine k_aloadN X173 hx 105 (D d13_104) rfl rfl ?_
 refine k_dup X173 hx 106 (D d13_105) rfl ?_
 have F174 := (((F122.other W151 (Or.inl (Nat.ne_of_lt (Nat.lt_trans (Nat.lt_trans lt0_1 lt0_2) lt128)))).other W162 (Or.inl (Nat.ne_of_lt (Nat.lt_trans (Nat.lt_trans (Nat.lt_trans lt0_1 lt0_2) lt128) lt129)))).other W173 (Or.inr (sn58 hw)))
 refine k_getF1 X173 hx hZ hown 109 (k_w hw 63 rfl) e173 F174 (D d13_106) (fun T175 X175 e175 => ?_)
 refine k_lloadN X175 hx 110 (D d13_109) rfl ?_
 refine k_laddL X175 hx 111 (D d13_110) (z := p2) (Int64.zero_add _) ?_
 have F176 := (F172.wr W173)
 refine k_putF1 X175 hx hZ hown 114 (k_w hw 63 rfl) e175 F174 F176 (Or.inl (k_w hw 64 rfl)) (k_w hw 22 rfl) .long rfl rfl (D d13_111) (fun T177 h177 X177 e177 W177 => ?_)
 have Fw177 := F174.same W177
 have N177 := Fr.snoc X177 N173 g_a1
 have Z177 := k_zw Z173 W177
 have F178 := ((((F111.wr W151).wr W162).wr W173).wr W177)
 have F179 := ((((F112.other W151 (Or.inl (Nat.ne_of_lt (Nat.lt_trans (Nat.lt_trans (Nat.lt_trans lt0_0 lt0_1) lt0_2) lt128)))).other W162 (Or.inl (Nat.ne_of_lt (Nat.lt_trans (Nat.lt_trans (Nat.lt_trans (Nat.lt_trans lt0_0 lt0_1) lt0_2) lt128) lt129)))).other W173 (Or.inl (Nat.ne_of_lt lt0_0))).other W177 (Or.inl (Nat.ne_of_lt lt0_0)))
 have F180 := ((((F113.other W151 (Or.inl (Nat.ne_of_lt (Nat.lt_trans (Nat.lt_trans (Nat.lt_trans lt0_0 lt0_1) lt0_2) lt128)))).other W162 (Or.inl (Nat.ne_of_lt (Nat.lt_trans (Nat.lt_trans (Nat.lt_trans (Nat.lt_trans lt0_0 lt0_1) lt0_2) lt128) lt129)))).other W173 (Or.inl (Nat.ne_of_lt lt0_0))).other W177 (Or.inl (Nat.ne_of_lt lt0_0)))
 have F181 := (F176.wr W177)
 have F182 := ((((F115.other W151 (Or.inl (Nat.ne_of_lt (Nat.lt_trans (Nat.lt_trans lt0_1 lt0_2) lt128)))).other W162 (Or.inl (Nat.ne_of_lt (Nat.lt_trans (Nat.lt_trans (Nat.lt_trans lt0_1 lt0_2) lt128) lt129)))).other W173 (Or.inr (sn59 hw))).other W177 (Or.inr (sn60 hw)))
 have F183 := (((F159.other W162 (Or.inl (Nat.ne_of_lt (Nat.lt_trans (Nat.lt_trans (Nat.lt_trans lt0_1 lt0_2) lt128) lt129)))).other W173 (Or.inr (sn61 hw))).other W177 (Or.inr (sn62 hw)))
 have F184 := ((((F117.other W151 (Or.inl (Nat.ne_of_lt (Nat.lt_trans (Nat.lt_trans lt0_1 lt0_2) lt128)))).other W162 (Or.inl (Nat.ne_of_lt (Nat.lt_trans (Nat.lt_trans (Nat.lt_trans lt0_1 lt0_2) lt128) lt129)))).other W173 (Or.inr (sn63 hw))).other W177 (Or.inr (sn64 hw)))
 have F185 := ((((F118.other W151 (Or.inl (Nat.ne_of_lt (Nat.lt_trans (Nat.lt_trans lt0_1 lt0_2) lt128)))).other W162 (Or.inl (Nat.ne_of_lt (Nat.lt_trans (Nat.lt_trans (Nat.lt_trans lt0_1 lt0_2) lt128) lt129)))).other W173 (Or.inr (sn65 hw))).other W177 (Or.inr (sn66 hw)))
 have F186 := ((((F119.other W151 (Or.inl (Nat.ne_of_lt (Nat.lt_trans (Nat.lt_trans lt0_1 lt0_2) lt128)))).other W162 (Or.inl (Nat.ne_of_lt (Nat.lt_trans (Nat.lt_trans (Nat.lt_trans lt0_1 lt0_2) lt128) lt129)))).other W173 (Or.inr (sn67 hw))).other W177 (Or.inr (sn68 hw)))
 have F187 := ((((F120.other W151 (Or.inl (Nat.ne_of_lt (Nat.lt_trans (Nat.lt_trans lt0_1 lt0_2) lt128)))).other W162 (Or.inl (Nat.ne_of_lt (Nat.lt_trans (Nat.lt_trans (Nat.lt_trans lt0_1 lt0_2) lt128) lt129)))).other W173 (Or.inr (sn69 hw))).other W177 (Or.inr (sn70 hw)))
 have F188 := (Fw173.other W177 (Or.inr (sn71 hw)))
 have F189 := ((((F123.other W151 (Or.inl (Nat.ne_of_lt (Nat.lt_trans (Nat.lt_trans lt0_1 lt0_2) lt128)))).other W162 (Or.inl (Nat.ne_of_lt (Nat.lt_trans (Nat.lt_trans (Nat.lt_trans lt0_1 lt0_2) lt128) lt129)))).other W173 (Or.inr (sn72 hw))).other W177 (Or.inr (sn73 hw)))
 have F190 := ((((F124.other W151 (Nat.ne_of_lt (Nat.lt_trans lt0_2 lt128))).other W162 (Nat.ne_of_lt (Nat.lt_trans (Nat.lt_trans lt0_2 lt128) lt129))).other W173 (Ne.symm (Nat.ne_of_lt lt0_1))).other W177 (Ne.symm (Nat.ne_of_lt lt0_1)))
 have F191 := ((((F125.other W151 (Nat.ne_of_lt lt128)).other W162 (Nat.ne_of_lt (Nat.lt_trans lt128 lt129))).other W173 (Ne.symm (Nat.ne_of_lt (Nat.lt_trans lt0_1 lt0_2)))).other W177 (Ne.symm (Nat.ne_of_lt (Nat.lt_trans lt0_1 lt0_2))))
 have F192 := (((Vw151.other W162 (Nat.ne_of_lt lt129)).other W173 (Ne.symm (Nat.ne_of_lt (Nat.lt_trans (Nat.lt_trans lt0_1 lt0_2) lt128)))).other W177 (Ne.symm (Nat.ne_of_lt (Nat.lt_trans (Nat.lt_trans lt0_1 lt0_2) lt128))))
 have F193 := ((Vw162.other W173 (Ne.symm (Nat.ne_of_lt (Nat.lt_trans (Nat.lt_trans (Nat.lt_trans lt0_1 lt0_2) lt128) lt129)))).other W177 (Ne.symm (Nat.ne_of_lt (Nat.lt_trans (Nat.lt_trans (Nat.lt_trans lt0_1 lt0_2) lt128) lt129))))
 exact k_ret X177 hx hret (D d13_114) hlk (by decide) (by decide) (by rw [e177]; exact ⟨N177, ⟨v105, b106, k107, b108, k109, h110, hp132, hp140, rfl, ⟨F178, F179, F180⟩, ⟨F181, F182, F183, F184, F185, F186, F187, F188, Fw177, F189⟩, F190, F191, F192, F193, g_b106, lt128, g_b108, lt129, Z177⟩⟩)
theorem d12_52 : decode c12 52 = .ok (.return_, 1) := by decide +kernel
abbrev R12_12 : Room := { frames := 3, cells := 2, slots := 16, locals := 47 }
def Q12_12 (Z : State) (a1 a4 a6 a7 : Addr) (p2 p3 p5 p8 : Int64) (k9 k10 : ClassId) (h0 : Heap) (n0 : Nat) (v : Option Value) (h : Heap) (L : List Loc) : Prop := Fr n0 L /\ ((∃ (v121 : Int32) (b122 : Addr) (k123 : ClassId) (b124 : Addr) (k125 : ClassId), v121 = p5.toInt32 /\ ¬ v121 < (1 : Int32) /\ ¬ (8 : Int32) < v121 /\ v = none /\ BL Z h a4 (.long p5) (.ref a1) /\ BS Z h a1 (.ref b122) (.ref b124) (.long p5) (.long p8) (.int 1) (.long p3) (.int 1) (.long p2) (.int 0) /\ Arv Z h a6 k9 .long (0 : Int32) [] (.long 0) /\ Arv Z h a7 k10 .long (0 : Int32) [] (.long 0) /\ Arv Z h b122 k123 .long v121 [(.long p3), (.long 0)] (.long 0) /\ Arv Z h b124 k125 .long v121 [(.long p2), (.long 0)] (.long 0) /\ n0 <= b122 /\ a7 < b122 /\ n0 <= b124 /\ b122 < b124 /\ n0 <= h.size))
theorem rm12_12 (l : Launch) (Z : State) (a0 : Array Value) (hw : WW a0 Z) (ws : List Jvm.Cond) (a1 a4 a6 a7 : Addr) (p2 p3 p5 p8 : Int64) (k9 k10 : ClassId) (h0 : Heap) (n0 : Nat) (Z0 : n0 <= h0.size) (B0 : BL Z h0 a4 (.long p5) (.ref a1)) (g_a4 : n0 <= a4) (B2 : BS Z h0 a1 (.ref a6) (.ref a7) (.long p5) (.long p8) (.int 1) (.long p3) (.int 0) (.long 0) (.int 0)) (g_a1 : n0 <= a1) (F0_4 : Arv Z h0 a6 k9 .long (0 : Int32) [] (.long 0)) (g_a6 : n0 <= a6) (F0_6 : Arv Z h0 a7 k10 .long (0 : Int32) [] (.long 0)) (g_a7 : n0 <= a7) (lt0_0 : a4 < a1) (lt0_1 : a1 < a6) (lt0_2 : a6 < a7) (hp0 : ¬ p5 < (1 : Int64)) (hp1 : ¬ (8 : Int64) < p5) (hp2 : ¬ p8 < (1 : Int64)) (hp3 : ¬ p2 < (1 : Int64)) (hx15 : ¬ p5 < p2) :
    KMet l (⟨"com/example/halter/halter/SlidingSum", "add", "(JJ)V"⟩ : MethodName) prog_20_method_3_code 5 none ws R12_12 #[(.ref a1), (.long p2), (.long p3)] Z h0 R12_12.cells R12_12.slots (Q12_12 Z a1 a4 a6 a7 p2 p3 p5 p8 k9 k10 h0 n0) := by
 refine k_body (plainFor_of_name pn_1) (fun m => ef5_4 m a1 p2 p3) ?_
 intro p e s m below meth c s₁ hx D hml hlk hret hown hnm hZ X0 e0
 have N0 := Fr.nil n0
 obtain ⟨f0, f1, f2⟩ := B0
 obtain ⟨f3, f4, f5, f6, f7, f8, f9, f10, f11, f12⟩ := B2
 refine k_aloadN X0 hx 1 (D d12_0) rfl rfl ?_
 refine k_lloadN X0 hx 2 (D d12_1) rfl ?_
 refine k_callP X0 hx hZ hown 5 (a := a1) (k_w hw 49 rfl) (k_w hw 50 rfl) (k_w hw 51 rfl) (k_w hw 22 rfl) (k_w hw 23 rfl) (k_w hw 52 rfl) (by decide) f3 (rm8_13 l Z a0 hw [] a1 a4 a6 a7 p3 p5 p8 k9 k10 h0 n0 Z0 ⟨f0, f1, f2⟩ g_a4 ⟨f3, f4, f5, f6, f7, f8, f9, f10, f11, f12⟩ g_a1 F0_4 g_a6 F0_6 g_a7 lt0_0 lt0_1 lt0_2 hp0 hp1 hp2) (by decide) (by decide) e0 (by rw [hml]; rfl) (argsL := [(.long p3)]) (rest := []) (lenOf pd_3 rfl) rfl (W := 0) (Nat.le_refl _) rfl (D d12_2) (by decide) (by decide) (fun T101 L101 r101 X101 q101 => ?_)
 obtain ⟨N101, q101⟩ := q101
 have N101' := Fr.app N0 N101
 obtain ⟨rfl, ⟨F102, F103, F104⟩, ⟨F105, F106, F107, F108, F109, F110, F111, F112, F113, F114⟩, F115, F116, Z117⟩ := q101
 refine k_n0 ?_
 refine k_lloadN X101 hx 6 (D d12_5) rfl ?_
 refine k_lconst X101 hx 7 (D d12_6) (z := (1 : Int64)) rfl ?_
 refine k_lcif_lt X101 hx 11 25 8 (D d12_7) (D d12_8) (fun hc => absurd hc hp3) (fun _ => ?_)
 refine k_lloadN X101 hx 12 (D d12_11) rfl ?_
 refine k_aloadN X101 hx 13 (D d12_12) rfl rfl ?_
 refine k_getF1 X101 hx hZ hown 16 (k_w hw 33 rfl) rfl F108 (D d12_13) (fun T118 X118 e118 => ?_)
 refine k_aloadN X118 hx 17 (D d12_16) rfl rfl ?_
 refine k_getF1 X118 hx hZ hown 20 (k_w hw 63 rfl) e118 F113 (D d12_17) (fun T119 X119 e119 => ?_)
 refine k_lsubL X119 hx 21 (D d12_20) (z := p5) (Int64.sub_zero _) ?_
 refine k_lcif_le X119 hx 25 47 22 (D d12_21) (D d12_22) (fun _ => ?_) (fun hc => absurd hc hx15)
 refine k_aloadN X119 hx 48 (D d12_47) rfl rfl ?_
 refine k_lloadN X119 hx 49 (D d12_48) rfl ?_
 refine k_callP X119 hx hZ hown 52 (a := a1) (k_w hw 79 rfl) (k_w hw 80 rfl) (k_w hw 81 rfl) (k_w hw 22 rfl) (k_w hw 23 rfl) (k_w hw 82 rfl) (by decide) F105 (rm13_14 l Z a0 hw [] a1 a4 a6 a7 p2 p5 p8 p3 k9 k10 T101.heap n0 Z117 ⟨F102, F103, F104⟩ g_a4 ⟨F105, F106, F107, F108, F109, F110, F111, F112, F113, F114⟩ g_a1 F115 g_a6 F116 g_a7 lt0_0 lt0_1 lt0_2 hp0 hp1 hp2 hp3) (by decide) (by decide) e119 (by rw [hml]; rfl) (argsL := [(.long p2)]) (rest := []) (lenOf pd_3 rfl) rfl (W := 0) (Nat.le_refl _) rfl (D d12_49) (by decide) (by decide) (fun T120 L120 r120 X120 q120 => ?_)
 obtain ⟨N120, q120⟩ := q120
 have N120' := Fr.app N101' N120
 obtain ⟨v121, b122, k123, b124, k125, h126, hc127, hc128, rfl, ⟨F129, F130, F131⟩, ⟨F132, F133, F134, F135, F136, F137, F138, F139, F140, F141⟩, F142, F143, F144, F145, g_b122, lt146, g_b124, lt147, Z148⟩ := q120
 refine k_n0 ?_
 exact k_ret X120 hx hret (D d12_52) hlk (by decide) (by decide) ⟨N120', ⟨v121, b122, k123, b124, k125, h126, hc127, hc128, rfl, ⟨F129, F130, F131⟩, ⟨F132, F133, F134, F135, F136, F137, F138, F139, F140, F141⟩, F142, F143, F144, F145, g_b122, lt146, g_b124, lt147, Z148⟩⟩
abbrev R10_10 : Room := { frames := 4, cells := 2, slots := 16, locals := 63 }
def Q10_10 (Z : State) (a1 a5 a6 a7 : Addr) (p2 p3 p4 p8 : Int64) (k9 k10 : ClassId) (h0 : Heap) (n0 : Nat) (v : Option Value) (h : Heap) (L : List Loc) : Prop := Fr n0 L /\ ((p4 < p2 /\ v = some (.int 0) /\ BL Z h a1 (.long p4) (.ref a5) /\ BS Z h a5 (.ref a6) (.ref a7) (.long p4) (.long p8) (.int 1) (.long p3) (.int 0) (.long 0) (.int 0) /\ Arv Z h a6 k9 .long (0 : Int32) [] (.long 0) /\ Arv Z h a7 k10 .long (0 : Int32) [] (.long 0) /\ n0 <= h.size) \/ (∃ (v124 : Int32) (b125 : Addr) (k126 : ClassId) (b127 : Addr) (k128 : ClassId), v124 = p4.toInt32 /\ ¬ p4 < p2 /\ ¬ v124 < (1 : Int32) /\ ¬ (8 : Int32) < v124 /\ v = some (.int 1) /\ BL Z h a1 (.long p4) (.ref a5) /\ BS Z h a5 (.ref b125) (.ref b127) (.long p4) (.long p8) (.int 1) (.long p3) (.int 1) (.long p2) (.int 0) /\ Arv Z h a6 k9 .long (0 : Int32) [] (.long 0) /\ Arv Z h a7 k10 .long (0 : Int32) [] (.long 0) /\ Arv Z h b125 k126 .long v124 [(.long p3), (.long 0)] (.long 0) /\ Arv Z h b127 k128 .long v124 [(.long p2), (.long 0)] (.long 0) /\ n0 <= b125 /\ a7 < b125 /\ n0 <= b127 /\ b125 < b127 /\ n0 <= h.size))
theorem ef10_10 (m : MethodId) (x0 : Addr) (x1 : Int64) (x2 : Int64) : entryFrame m #[(.ref x0), (.long x1), (.long x2)] 6 = mkF m 0 #[.val (.ref x0), .val (.long x1), .second, .val (.long x2), .second, .unset] [] := by first | (simp [entryFrame, mkF, argsToLocals, Value.category]; done) | rfl
theorem rm10_10 (l : Launch) (Z : State) (a0 : Array Value) (hw : WW a0 Z) (ws : List Jvm.Cond) (a1 a5 a6 a7 : Addr) (p2 p3 p4 p8 : Int64) (k9 k10 : ClassId) (h0 : Heap) (n0 : Nat) (Z0 : n0 <= h0.size) (B0 : BL Z h0 a1 (.long p4) (.ref a5)) (g_a1 : n0 <= a1) (B2 : BS Z h0 a5 (.ref a6) (.ref a7) (.long p4) (.long p8) (.int 0) (.long 0) (.int 0) (.long 0) (.int 0)) (g_a5 : n0 <= a5) (F0_4 : Arv Z h0 a6 k9 .long (0 : Int32) [] (.long 0)) (g_a6 : n0 <= a6) (F0_6 : Arv Z h0 a7 k10 .long (0 : Int32) [] (.long 0)) (g_a7 : n0 <= a7) (lt0_0 : a1 < a5) (lt0_1 : a5 < a6) (lt0_2 : a6 < a7) (hp0 : ¬ p4 < (1 : Int64)) (hp1 : ¬ (8 : Int64) < p4) (hp2 : ¬ p8 < (1 : Int64)) (hp3 : ¬ p2 < (1 : Int64)) :
    KMet l (⟨"com/example/halter/halter/SlidingLogLimiter$Log", "tryAcquire", "(JJ)Z"⟩ : MethodName) prog_18_method_2_code 6 (some .boolean) ws R10_10 #[(.ref a1), (.long p2), (.long p3)] Z h0 R10_10.cells R10_10.slots (Q10_10 Z a1 a5 a6 a7 p2 p3 p4 p8 k9 k10 h0 n0) := by
 refine k_body (plainFor_of_name pn_2) (fun m => ef10_10 m a1 p2 p3) ?_
 intro p e s m below meth c s₁ hx D hml hlk hret hown hnm hZ X0 e0
 have N0 := Fr.nil n0
 obtain ⟨f0, f1, f2⟩ := B0
 obtain ⟨f3, f4, f5, f6, f7, f8, f9, f10, f11, f12⟩ := B2
 refine k_lloadN X0 hx 1 (D d10_0) rfl ?_
 refine k_callS X0 hx hZ hown 4 (k_w hw 70 rfl) (k_w hw 71 rfl) (k_w hw 72 rfl) (k_w hw 73 rfl) (by decide) (rm11_11 l Z a0 hw [] p2 h0 n0 Z0 hp3) (by decide) (by decide) e0 (by rw [hml]; rfl) (argsL := [(.long p2)]) (rest := []) (lenOf pd_3 rfl) rfl (W := 0) (Nat.le_refl _) rfl (D d10_1) (by decide) (by decide) (fun T101 L101 r101 X101 q101 => ?_)
 obtain ⟨N101, e101, q101⟩ := q101
 have N101' := Fr.app N0 N101
 obtain rfl := q101
 refine k_n0 ?_
 refine k_lloadN X101 hx 5 (D d10_4) rfl ?_
 refine k_aloadN X101 hx 6 (D d10_5) rfl rfl ?_
 refine k_getF1 X101 hx hZ hown 9 (k_w hw 19 rfl) e101 f1 (D d10_6) (fun T102 X102 e102 => ?_)
 refine k_aloadN X102 hx 10 (D d10_9) rfl rfl ?_
 refine k_getF1 X102 hx hZ hown 13 (k_w hw 37 rfl) e102 f2 (D d10_10) (fun T103 X103 e103 => ?_)
 refine k_lloadN X103 hx 14 (D d10_13) rfl ?_
 refine k_callV X103 hx hZ hown 17 (a := a5) (k_w hw 44 rfl) (k_w hw 45 rfl) (k_w hw 47 rfl) (k_w hw 46 rfl) (k_w hw 23 rfl) (k_w hw 48 rfl) (by decide) f3 (rm7_6 l Z a0 hw [] a5 a1 a6 a7 p3 p4 p8 k9 k10 h0 n0 Z0 ⟨f0, f1, f2⟩ g_a1 ⟨f3, f4, f5, f6, f7, f8, f9, f10, f11, f12⟩ g_a5 F0_4 g_a6 F0_6 g_a7 lt0_0 lt0_1 lt0_2 hp0 hp1 hp2) (by decide) (by decide) e103 (by rw [hml]; rfl) (argsL := [(.long p3)]) (rest := [(.long p4), (.long p2)]) (lenOf pd_4 rfl) rfl (W := 4) (Nat.le_refl _) rfl (D d10_14) (by decide) (by decide) (fun T104 L104 r104 X104 q104 => ?_)
 obtain ⟨N104, q104⟩ := q104
 have N104' := Fr.app N101' N104
 obtain ⟨rfl, ⟨F105, F106, F107⟩, ⟨F108, F109, F110, F111, F112, F113, F114, F115, F116, F117⟩, F118, F119, Z120⟩ := q104
 refine k_n1 ?_
 refine k_lsubL X104 hx 18 (D d10_17) (z := p4) (Int64.sub_zero _) ?_
 refine k_lcif_gt X104 hx 22 26 19 (D d10_18) (D d10_19) (fun hc121 => ?_) (fun hc121 => ?_)
 ·
  refine k_iconst X104 hx 27 (D d10_26) (z := (0 : Int32)) rfl ?_
  refine k_istore X104 hx 29 (D d10_27) (Ls' := #[rv a1, jv p2, s_, jv p3, s_, iv 0]) rfl ?_
  refine k_iload X104 hx 31 (D d10_29) rfl ?_
  refine k_if_eq X104 hx 34 43 (D d10_31) (fun _ => ?_) (fun hc => absurd (by decide) hc)
  refine k_iload X104 hx 45 (D d10_43) rfl ?_
  exact k_retN X104 hx (t := .boolean) hret (by simp) (D d10_45) hlk (by decide) (by decide) (z' := (0 : Int32)) rfl ⟨N104', (Or.inl ⟨hc121, rfl, ⟨F105, F106, F107⟩, ⟨F108, F109, F110, F111, F112, F113, F114, F115, F116, F117⟩, F118, F119, Z120⟩)⟩
 ·
  refine k_iconst X104 hx 23 (D d10_22) (z := (1 : Int32)) rfl ?_
  refine k_goto X104 hx 27 (D d10_23) ?_
  refine k_istore X104 hx 29 (D d10_27) (Ls' := #[rv a1, jv p2, s_, jv p3, s_, iv 1]) rfl ?_
  refine k_iload X104 hx 31 (D d10_29) rfl ?_
  refine k_if_eq X104 hx 34 43 (D d10_31) (fun hc => absurd hc (by decide)) (fun _ => ?_)
  refine k_aloadN X104 hx 35 (D d10_34) rfl rfl ?_
  refine k_getF1 X104 hx hZ hown 38 (k_w hw 37 rfl) rfl F107 (D d10_35) (fun T122 X122 e122 => ?_)
  refine k_lloadN X122 hx 39 (D d10_38) rfl ?_
  refine k_lloadN X122 hx 40 (D d10_39) rfl ?_
  refine k_callV X122 hx hZ hown 43 (a := a5) (k_w hw 74 rfl) (k_w hw 75 rfl) (k_w hw 77 rfl) (k_w hw 76 rfl) (k_w hw 23 rfl) (k_w hw 78 rfl) (by decide) F108 (rm12_12 l Z a0 hw [] a5 a1 a6 a7 p2 p3 p4 p8 k9 k10 T104.heap n0 Z120 ⟨F105, F106, F107⟩ g_a1 ⟨F108, F109, F110, F111, F112, F113, F114, F115, F116, F117⟩ g_a5 F118 g_a6 F119 g_a7 lt0_0 lt0_1 lt0_2 hp0 hp1 hp2 hp3 hc121) (by decide) (by decide) e122 (by rw [hml]; rfl) (argsL := [(.long p2), (.long p3)]) (rest := []) (lenOf pd_2 rfl) rfl (W := 0) (Nat.le_refl _) rfl (D d10_40) (by decide) (by decide) (fun T123 L123 r123 X123 q123 => ?_)
  obtain ⟨N123, q123⟩ := q123
  have N123' := Fr.app N104' N123
  obtain ⟨v124, b125, k126, b127, k128, h129, hc130, hc131, rfl, ⟨F132, F133, F134⟩, ⟨F135, F136, F137, F138, F139, F140, F141, F142, F143, F144⟩, F145, F146, F147, F148, g_b125, lt149, g_b127, lt150, Z151⟩ := q123
  refine k_n0 ?_
  refine k_iload X123 hx 45 (D d10_43) rfl ?_
  exact k_retN X123 hx (t := .boolean) hret (by simp) (D d10_45) hlk (by decide) (by decide) (z' := (1 : Int32)) rfl ⟨N123', (Or.inr ⟨v124, b125, k126, b127, k128, h129, hc121, hc130, hc131, rfl, ⟨F132, F133, F134⟩, ⟨F135, F136, F137, F138, F139, F140, F141, F142, F143, F144⟩, F145, F146, F147, F148, g_b125, lt149, g_b127, lt150, Z151⟩)⟩
theorem pd_8 : parseMethodDescriptor "(JJ)Z" = some ⟨[.long, .long], some .boolean⟩ := by decide +kernel
abbrev R8_23 : Room := { frames := 1, cells := 0, slots := 0, locals := 13 }
def Q8_23 (Z : State) (a1 a3 a5 a6 : Addr) (p2 p4 p7 p8 : Int64) (k9 k10 : ClassId) (h0 : Heap) (n0 : Nat) (v : Option Value) (h : Heap) (L : List Loc) : Prop := Fr n0 L /\ ((∃ (v103 : Int64), v103 = p2 - p8 /\ ¬ (0 : Int64) < v103 /\ v = none /\ BL Z h a3 (.long p4) (.ref a1) /\ BS Z h a1 (.ref a5) (.ref a6) (.long p4) (.long p7) (.int 1) (.long p8) (.int 0) (.long 0) (.int 0) /\ Arv Z h a5 k9 .long (0 : Int32) [] (.long 0) /\ Arv Z h a6 k10 .long (0 : Int32) [] (.long 0) /\ n0 <= h.size) \/ (∃ (v103 : Int64), v103 = p2 - p8 /\ (0 : Int64) < v103 /\ v = none /\ BL Z h a3 (.long p4) (.ref a1) /\ BS Z h a1 (.ref a5) (.ref a6) (.long p4) (.long p7) (.int 1) (.long p2) (.int 0) (.long 0) (.int 0) /\ Arv Z h a5 k9 .long (0 : Int32) [] (.long 0) /\ Arv Z h a6 k10 .long (0 : Int32) [] (.long 0) /\ n0 <= h.size))
theorem rm8_23 (l : Launch) (Z : State) (a0 : Array Value) (hw : WW a0 Z) (ws : List Jvm.Cond) (a1 a3 a5 a6 : Addr) (p2 p4 p7 p8 : Int64) (k9 k10 : ClassId) (h0 : Heap) (n0 : Nat) (Z0 : n0 <= h0.size) (B0 : BL Z h0 a3 (.long p4) (.ref a1)) (g_a3 : n0 <= a3) (B2 : BS Z h0 a1 (.ref a5) (.ref a6) (.long p4) (.long p7) (.int 1) (.long p8) (.int 0) (.long 0) (.int 0)) (g_a1 : n0 <= a1) (F0_4 : Arv Z h0 a5 k9 .long (0 : Int32) [] (.long 0)) (g_a5 : n0 <= a5) (F0_6 : Arv Z h0 a6 k10 .long (0 : Int32) [] (.long 0)) (g_a6 : n0 <= a6) (lt0_0 : a3 < a1) (lt0_1 : a1 < a5) (lt0_2 : a5 < a6) (hp0 : ¬ p4 < (1 : Int64)) (hp1 : ¬ (8 : Int64) < p4) (hp2 : ¬ p7 < (1 : Int64)) :
    KMet l (⟨"com/example/halter/halter/SlidingSum", "catchUp", "(J)V"⟩ : MethodName) prog_20_method_7_code 3 none ws R8_23 #[(.ref a1), (.long p2)] Z h0 R8_23.cells R8_23.slots (Q8_23 Z a1 a3 a5 a6 p2 p4 p7 p8 k9 k10 h0 n0) := by
 refine k_body (plainFor_of_name pn_1) (fun m => ef8_7 m a1 p2) ?_
 intro p e s m below meth c s₁ hx D hml hlk hret hown hnm hZ X0 e0
 have N0 := Fr.nil n0
 obtain ⟨f0, f1, f2⟩ := B0
 obtain ⟨f3, f4, f5, f6, f7, f8, f9, f10, f11, f12⟩ := B2
 refine k_aloadN X0 hx 1 (D d8_0) rfl rfl ?_
 refine k_getF1 X0 hx hZ hown 4 (k_w hw 53 rfl) e0 f8 (D d8_1) (fun T101 X101 e101 => ?_)
 refine k_if_eq X101 hx 7 18 (D d8_4) (fun hc => absurd hc (by decide)) (fun _ => ?_)
 refine k_lloadN X101 hx 8 (D d8_7) rfl ?_
 refine k_aloadN X101 hx 9 (D d8_8) rfl rfl ?_
 refine k_getF1 X101 hx hZ hown 12 (k_w hw 55 rfl) e101 f9 (D d8_9) (fun T102 X102 e102 => ?_)
 refine k_lsub X102 hx 13 (D d8_12) (fun v103 hv103 => ?_)
 refine k_lconst X102 hx 14 (D d8_13) (z := (0 : Int64)) rfl ?_
 refine k_lcif_le X102 hx 18 28 15 (D d8_14) (D d8_15) (fun hc104 => ?_) (fun hc104 => ?_)
 ·
  refine k_aloadN X102 hx 29 (D d8_28) rfl rfl ?_
  refine k_callP X102 hx hZ hown 32 (a := a1) (k_w hw 57 rfl) (k_w hw 58 rfl) (k_w hw 59 rfl) (k_w hw 22 rfl) (k_w hw 23 rfl) (k_w hw 60 rfl) (by decide) f3 (rm9_8 l Z a0 hw [] a1 a3 a5 a6 p4 p7 p8 k9 k10 h0 n0 Z0 ⟨f0, f1, f2⟩ g_a3 ⟨f3, f4, f5, f6, f7, f8, f9, f10, f11, f12⟩ g_a1 F0_4 g_a5 F0_6 g_a6 lt0_0 lt0_1 lt0_2 hp0 hp1 hp2) (by decide) (by decide) e102 (by rw [hml]; rfl) (argsL := []) (rest := []) (lenOf pd_1 rfl) rfl (W := 0) (Nat.le_refl _) rfl (D d8_29) (by decide) (by decide) (fun T105 L105 r105 X105 q105 => ?_)
  obtain ⟨N105, q105⟩ := q105
  have N105' := Fr.app N0 N105
  obtain ⟨rfl, ⟨F106, F107, F108⟩, ⟨F109, F110, F111, F112, F113, F114, F115, F116, F117, F118⟩, F119, F120, Z121⟩ := q105
  refine k_n0 ?_
  exact k_ret X105 hx hret (D d8_32) hlk (by decide) (by decide) ⟨N105', (Or.inl ⟨v103, hv103, hc104, rfl, ⟨F106, F107, F108⟩, ⟨F109, F110, F111, F112, F113, F114, F115, F116, F117, F118⟩, F119, F120, Z121⟩)⟩
 ·
  refine k_aloadN X102 hx 19 (D d8_18) rfl rfl ?_
  refine k_lloadN X102 hx 20 (D d8_19) rfl ?_
  refine k_putF1 X102 hx hZ hown 23 (k_w hw 55 rfl) e102 f9 f3 (Or.inl (k_w hw 56 rfl)) (k_w hw 22 rfl) .long rfl rfl (D d8_20) (fun T122 h122 X122 e122 W122 => ?_)
  have Fw122 := f9.same W122
  have N122 := Fr.snoc X122 N0 g_a1
  have Z122 := k_zw Z0 W122
  refine k_aloadN X122 hx 24 (D d8_23) rfl rfl ?_
  refine k_iconst X122 hx 25 (D d8_24) (z := (1 : Int32)) rfl ?_
  have F123 := (f8.other W122 (Or.inr (sn34 hw)))
  have F124 := (f3.wr W122)
  refine k_putF1 X122 hx hZ hown 28 (k_w hw 53 rfl) e122 F123 F124 (Or.inl (k_w hw 54 rfl)) (k_w hw 22 rfl) .boolean rfl rfl (D d8_25) (fun T125 h125 X125 e125 W125 => ?_)
  have Fw125 := F123.same W125
  have N125 := Fr.snoc X125 N122 g_a1
  have Z125 := k_zw Z122 W125
  refine k_aloadN X125 hx 29 (D d8_28) rfl rfl ?_
  have F126 := ((f0.wr W122).wr W125)
  have F127 := ((f1.other W122 (Or.inl (Nat.ne_of_lt lt0_0))).other W125 (Or.inl (Nat.ne_of_lt lt0_0)))
  have F128 := ((f2.other W122 (Or.inl (Nat.ne_of_lt lt0_0))).other W125 (Or.inl (Nat.ne_of_lt lt0_0)))
  have F129 := (F124.wr W125)
  have F130 := ((f4.other W122 (Or.inr (sn35 hw))).other W125 (Or.inr (sn36 hw)))
  have F131 := ((f5.other W122 (Or.inr (sn37 hw))).other W125 (Or.inr (sn38 hw)))
  have F132 := ((f6.other W122 (Or.inr (sn39 hw))).other W125 (Or.inr (sn40 hw)))
  have F133 := ((f7.other W122 (Or.inr (sn41 hw))).other W125 (Or.inr (sn42 hw)))
  have F134 := (Fw122.other W125 (Or.inr (sn43 hw)))
  have F135 := ((f10.other W122 (Or.inr (sn44 hw))).other W125 (Or.inr (sn45 hw)))
  have F136 := ((f11.other W122 (Or.inr (sn46 hw))).other W125 (Or.inr (sn47 hw)))
  have F137 := ((f12.other W122 (Or.inr (sn48 hw))).other W125 (Or.inr (sn49 hw)))
  have F138 := ((F0_4.other W122 (Ne.symm (Nat.ne_of_lt lt0_1))).other W125 (Ne.symm (Nat.ne_of_lt lt0_1)))
  have F139 := ((F0_6.other W122 (Ne.symm (Nat.ne_of_lt (Nat.lt_trans lt0_1 lt0_2)))).other W125 (Ne.symm (Nat.ne_of_lt (Nat.lt_trans lt0_1 lt0_2))))
  refine k_callP X125 hx hZ hown 32 (a := a1) (k_w hw 57 rfl) (k_w hw 58 rfl) (k_w hw 59 rfl) (k_w hw 22 rfl) (k_w hw 23 rfl) (k_w hw 60 rfl) (by decide) F129 (rm9_8 l Z a0 hw [] a1 a3 a5 a6 p4 p7 p2 k9 k10 h125 n0 Z125 ⟨F126, F127, F128⟩ g_a3 ⟨F129, F130, F131, F132, F133, Fw125, F134, F135, F136, F137⟩ g_a1 F138 g_a5 F139 g_a6 lt0_0 lt0_1 lt0_2 hp0 hp1 hp2) (by decide) (by decide) e125 (by rw [hml]; rfl) (argsL := []) (rest := []) (lenOf pd_1 rfl) rfl (W := 0) (Nat.le_refl _) rfl (D d8_29) (by decide) (by decide) (fun T140 L140 r140 X140 q140 => ?_)
  obtain ⟨N140, q140⟩ := q140
  have N140' := Fr.app N125 N140
  obtain ⟨rfl, ⟨F141, F142, F143⟩, ⟨F144, F145, F146, F147, F148, F149, F150, F151, F152, F153⟩, F154, F155, Z156⟩ := q140
  refine k_n0 ?_
  exact k_ret X140 hx hret (D d8_32) hlk (by decide) (by decide) ⟨N140', (Or.inr ⟨v103, hv103, hc104, rfl, ⟨F141, F142, F143⟩, ⟨F144, F145, F146, F147, F148, F149, F150, F151, F152, F153⟩, F154, F155, Z156⟩)⟩
abbrev R7_22 : Room := { frames := 2, cells := 0, slots := 0, locals := 27 }
def Q7_22 (Z : State) (a1 a3 a5 a6 : Addr) (p2 p4 p7 p8 : Int64) (k9 k10 : ClassId) (h0 : Heap) (n0 : Nat) (v : Option Value) (h : Heap) (L : List Loc) : Prop := Fr n0 L /\ ((∃ (v102 : Int64), v102 = p2 - p8 /\ ¬ (0 : Int64) < v102 /\ v = some (.long 0) /\ BL Z h a3 (.long p4) (.ref a1) /\ BS Z h a1 (.ref a5) (.ref a6) (.long p4) (.long p7) (.int 1) (.long p8) (.int 0) (.long 0) (.int 0) /\ Arv Z h a5 k9 .long (0 : Int32) [] (.long 0) /\ Arv Z h a6 k10 .long (0 : Int32) [] (.long 0) /\ n0 <= h.size) \/ (∃ (v121 : Int64), v121 = p2 - p8 /\ (0 : Int64) < v121 /\ v = some (.long 0) /\ BL Z h a3 (.long p4) (.ref a1) /\ BS Z h a1 (.ref a5) (.ref a6) (.long p4) (.long p7) (.int 1) (.long p2) (.int 0) (.long 0) (.int 0) /\ Arv Z h a5 k9 .long (0 : Int32) [] (.long 0) /\ Arv Z h a6 k10 .long (0 : Int32) [] (.long 0) /\ n0 <= h.size))
theorem rm7_22 (l : Launch) (Z : State) (a0 : Array Value) (hw : WW a0 Z) (ws : List Jvm.Cond) (a1 a3 a5 a6 : Addr) (p2 p4 p7 p8 : Int64) (k9 k10 : ClassId) (h0 : Heap) (n0 : Nat) (Z0 : n0 <= h0.size) (B0 : BL Z h0 a3 (.long p4) (.ref a1)) (g_a3 : n0 <= a3) (B2 : BS Z h0 a1 (.ref a5) (.ref a6) (.long p4) (.long p7) (.int 1) (.long p8) (.int 0) (.long 0) (.int 0)) (g_a1 : n0 <= a1) (F0_4 : Arv Z h0 a5 k9 .long (0 : Int32) [] (.long 0)) (g_a5 : n0 <= a5) (F0_6 : Arv Z h0 a6 k10 .long (0 : Int32) [] (.long 0)) (g_a6 : n0 <= a6) (lt0_0 : a3 < a1) (lt0_1 : a1 < a5) (lt0_2 : a5 < a6) (hp0 : ¬ p4 < (1 : Int64)) (hp1 : ¬ (8 : Int64) < p4) (hp2 : ¬ p7 < (1 : Int64)) :
    KMet l (⟨"com/example/halter/halter/SlidingSum", "at", "(J)J"⟩ : MethodName) prog_20_method_2_code 3 (some .long) ws R7_22 #[(.ref a1), (.long p2)] Z h0 R7_22.cells R7_22.slots (Q7_22 Z a1 a3 a5 a6 p2 p4 p7 p8 k9 k10 h0 n0) := by
 refine k_body (plainFor_of_name pn_1) (fun m => ef8_7 m a1 p2) ?_
 intro p e s m below meth c s₁ hx D hml hlk hret hown hnm hZ X0 e0
 have N0 := Fr.nil n0
 obtain ⟨f0, f1, f2⟩ := B0
 obtain ⟨f3, f4, f5, f6, f7, f8, f9, f10, f11, f12⟩ := B2
 refine k_aloadN X0 hx 1 (D d7_0) rfl rfl ?_
 refine k_lloadN X0 hx 2 (D d7_1) rfl ?_
 refine k_callP X0 hx hZ hown 5 (a := a1) (k_w hw 49 rfl) (k_w hw 50 rfl) (k_w hw 51 rfl) (k_w hw 22 rfl) (k_w hw 23 rfl) (k_w hw 52 rfl) (by decide) f3 (rm8_23 l Z a0 hw [] a1 a3 a5 a6 p2 p4 p7 p8 k9 k10 h0 n0 Z0 ⟨f0, f1, f2⟩ g_a3 ⟨f3, f4, f5, f6, f7, f8, f9, f10, f11, f12⟩ g_a1 F0_4 g_a5 F0_6 g_a6 lt0_0 lt0_1 lt0_2 hp0 hp1 hp2) (by decide) (by decide) e0 (by rw [hml]; rfl) (argsL := [(.long p2)]) (rest := []) (lenOf pd_3 rfl) rfl (W := 0) (Nat.le_refl _) rfl (D d7_2) (by decide) (by decide) (fun T101 L101 r101 X101 q101 => ?_)
 obtain ⟨N101, q101⟩ := q101
 have N101' := Fr.app N0 N101
 rcases q101 with ⟨v102, h103, hc104, rfl, ⟨F105, F106, F107⟩, ⟨F108, F109, F110, F111, F112, F113, F114, F115, F116, F117⟩, F118, F119, Z120⟩ | ⟨v121, h122, hc123, rfl, ⟨F124, F125, F126⟩, ⟨F127, F128, F129, F130, F131, F132, F133, F134, F135, F136⟩, F137, F138, Z139⟩
 ·
  refine k_n0 ?_
  refine k_aloadN X101 hx 6 (D d7_5) rfl rfl ?_
  refine k_getF1 X101 hx hZ hown 9 (k_w hw 63 rfl) rfl F116 (D d7_6) (fun T140 X140 e140 => ?_)
  exact k_retL X140 hx hret (D d7_9) hlk (by decide) (by decide) (by rw [e140]; exact ⟨N101', (Or.inl ⟨v102, h103, hc104, rfl, ⟨F105, F106, F107⟩, ⟨F108, F109, F110, F111, F112, F113, F114, F115, F116, F117⟩, F118, F119, Z120⟩)⟩)
 ·
  refine k_n0 ?_
  refine k_aloadN X101 hx 6 (D d7_5) rfl rfl ?_
  refine k_getF1 X101 hx hZ hown 9 (k_w hw 63 rfl) rfl F135 (D d7_6) (fun T141 X141 e141 => ?_)
  exact k_retL X141 hx hret (D d7_9) hlk (by decide) (by decide) (by rw [e141]; exact ⟨N101', (Or.inr ⟨v121, h122, hc123, rfl, ⟨F124, F125, F126⟩, ⟨F127, F128, F129, F130, F131, F132, F133, F134, F135, F136⟩, F137, F138, Z139⟩)⟩)
abbrev R6_21 : Room := { frames := 3, cells := 0, slots := 0, locals := 41 }
def Q6_21 (Z : State) (a1 a4 a5 a6 : Addr) (p2 p3 p7 p8 : Int64) (k9 k10 : ClassId) (h0 : Heap) (n0 : Nat) (v : Option Value) (h : Heap) (L : List Loc) : Prop := Fr n0 L /\ ((∃ (v103 : Int64), v103 = p2 - p8 /\ ¬ (0 : Int64) < v103 /\ v = some (.int 1) /\ BL Z h a1 (.long p3) (.ref a4) /\ BS Z h a4 (.ref a5) (.ref a6) (.long p3) (.long p7) (.int 1) (.long p8) (.int 0) (.long 0) (.int 0) /\ Arv Z h a5 k9 .long (0 : Int32) [] (.long 0) /\ Arv Z h a6 k10 .long (0 : Int32) [] (.long 0) /\ n0 <= h.size) \/ (∃ (v122 : Int64), v122 = p2 - p8 /\ (0 : Int64) < v122 /\ v = some (.int 1) /\ BL Z h a1 (.long p3) (.ref a4) /\ BS Z h a4 (.ref a5) (.ref a6) (.long p3) (.long p7) (.int 1) (.long p2) (.int 0) (.long 0) (.int 0) /\ Arv Z h a5 k9 .long (0 : Int32) [] (.long 0) /\ Arv Z h a6 k10 .long (0 : Int32) [] (.long 0) /\ n0 <= h.size))
theorem rm6_21 (l : Launch) (Z : State) (a0 : Array Value) (hw : WW a0 Z) (ws : List Jvm.Cond) (a1 a4 a5 a6 : Addr) (p2 p3 p7 p8 : Int64) (k9 k10 : ClassId) (h0 : Heap) (n0 : Nat) (Z0 : n0 <= h0.size) (B0 : BL Z h0 a1 (.long p3) (.ref a4)) (g_a1 : n0 <= a1) (B2 : BS Z h0 a4 (.ref a5) (.ref a6) (.long p3) (.long p7) (.int 1) (.long p8) (.int 0) (.long 0) (.int 0)) (g_a4 : n0 <= a4) (F0_4 : Arv Z h0 a5 k9 .long (0 : Int32) [] (.long 0)) (g_a5 : n0 <= a5) (F0_6 : Arv Z h0 a6 k10 .long (0 : Int32) [] (.long 0)) (g_a6 : n0 <= a6) (lt0_0 : a1 < a4) (lt0_1 : a4 < a5) (lt0_2 : a5 < a6) (hp0 : ¬ p3 < (1 : Int64)) (hp1 : ¬ (8 : Int64) < p3) (hp2 : ¬ p7 < (1 : Int64)) :
    KMet l (⟨"com/example/halter/halter/SlidingLogLimiter$Log", "idleAt", "(J)Z"⟩ : MethodName) prog_18_method_3_code 3 (some .boolean) ws R6_21 #[(.ref a1), (.long p2)] Z h0 R6_21.cells R6_21.slots (Q6_21 Z a1 a4 a5 a6 p2 p3 p7 p8 k9 k10 h0 n0) := by
 refine k_body (plainFor_of_name pn_2) (fun m => ef8_7 m a1 p2) ?_
 intro p e s m below meth c s₁ hx D hml hlk hret hown hnm hZ X0 e0
 have N0 := Fr.nil n0
 obtain ⟨f0, f1, f2⟩ := B0
 obtain ⟨f3, f4, f5, f6, f7, f8, f9, f10, f11, f12⟩ := B2
 refine k_aloadN X0 hx 1 (D d6_0) rfl rfl ?_
 refine k_getF1 X0 hx hZ hown 4 (k_w hw 37 rfl) e0 f2 (D d6_1) (fun T101 X101 e101 => ?_)
 refine k_lloadN X101 hx 5 (D d6_4) rfl ?_
 refine k_callV X101 hx hZ hown 8 (a := a4) (k_w hw 44 rfl) (k_w hw 45 rfl) (k_w hw 47 rfl) (k_w hw 46 rfl) (k_w hw 23 rfl) (k_w hw 48 rfl) (by decide) f3 (rm7_22 l Z a0 hw [] a4 a1 a5 a6 p2 p3 p7 p8 k9 k10 h0 n0 Z0 ⟨f0, f1, f2⟩ g_a1 ⟨f3, f4, f5, f6, f7, f8, f9, f10, f11, f12⟩ g_a4 F0_4 g_a5 F0_6 g_a6 lt0_0 lt0_1 lt0_2 hp0 hp1 hp2) (by decide) (by decide) e101 (by rw [hml]; rfl) (argsL := [(.long p2)]) (rest := []) (lenOf pd_4 rfl) rfl (W := 0) (Nat.le_refl _) rfl (D d6_5) (by decide) (by decide) (fun T102 L102 r102 X102 q102 => ?_)
 obtain ⟨N102, q102⟩ := q102
 have N102' := Fr.app N0 N102
 rcases q102 with ⟨v103, h104, hc105, rfl, ⟨F106, F107, F108⟩, ⟨F109, F110, F111, F112, F113, F114, F115, F116, F117, F118⟩, F119, F120, Z121⟩ | ⟨v122, h123, hc124, rfl, ⟨F125, F126, F127⟩, ⟨F128, F129, F130, F131, F132, F133, F134, F135, F136, F137⟩, F138, F139, Z140⟩
 ·
  refine k_n1 ?_
  refine k_lconst X102 hx 9 (D d6_8) (z := (0 : Int64)) rfl ?_
  refine k_lcif_ne X102 hx 13 17 10 (D d6_9) (D d6_10) (fun hc => absurd (by decide) hc) (fun _ => ?_)
  refine k_iconst X102 hx 14 (D d6_13) (z := (1 : Int32)) rfl ?_
  refine k_goto X102 hx 18 (D d6_14) ?_
  exact k_retN X102 hx (t := .boolean) hret (by simp) (D d6_18) hlk (by decide) (by decide) (z' := (1 : Int32)) rfl ⟨N102', (Or.inl ⟨v103, h104, hc105, rfl, ⟨F106, F107, F108⟩, ⟨F109, F110, F111, F112, F113, F114, F115, F116, F117, F118⟩, F119, F120, Z121⟩)⟩
 ·
  refine k_n1 ?_
  refine k_lconst X102 hx 9 (D d6_8) (z := (0 : Int64)) rfl ?_
  refine k_lcif_ne X102 hx 13 17 10 (D d6_9) (D d6_10) (fun hc => absurd (by decide) hc) (fun _ => ?_)
  refine k_iconst X102 hx 14 (D d6_13) (z := (1 : Int32)) rfl ?_
  refine k_goto X102 hx 18 (D d6_14) ?_
  exact k_retN X102 hx (t := .boolean) hret (by simp) (D d6_18) hlk (by decide) (by decide) (z' := (1 : Int32)) rfl ⟨N102', (Or.inr ⟨v122, h123, hc124, rfl, ⟨F125, F126, F127⟩, ⟨F128, F129, F130, F131, F132, F133, F134, F135, F136, F137⟩, F138, F139, Z140⟩)⟩
theorem d9_7 : decode c9 7 = .ok (.aload_n 0, 1) := by decide +kernel
theorem d9_8 : decode c9 8 = .ok (.getfield 53, 3) := by decide +kernel
theorem d9_11 : decode c9 11 = .ok (.aload_n 0, 1) := by decide +kernel
theorem d9_12 : decode c9 12 = .ok (.getfield 7, 3) := by decide +kernel
theorem d9_15 : decode c9 15 = .ok (.aload_n 0, 1) := by decide +kernel
theorem d9_16 : decode c9 16 = .ok (.getfield 59, 3) := by decide +kernel
theorem d9_19 : decode c9 19 = .ok (.laload, 1) := by decide +kernel
theorem d9_20 : decode c9 20 = .ok (.lsub, 1) := by decide +kernel
theorem d9_21 : decode c9 21 = .ok (.aload_n 0, 1) := by decide +kernel
theorem d9_22 : decode c9 22 = .ok (.getfield 29, 3) := by decide +kernel
theorem d9_25 : decode c9 25 = .ok (.lcmp, 1) := by decide +kernel
theorem d9_26 : decode c9 26 = .ok (.ifCond .lt 43, 3) := by decide +kernel
abbrev R9_27 : Room := { frames := 0, cells := 0, slots := 0, locals := 0 }
def Q9_27 (Z : State) (a1 a2 a4 a5 : Addr) (p3 p6 p7 p8 : Int64) (k9 k11 : ClassId) (p10 : Int32) (h0 : Heap) (n0 : Nat) (v : Option Value) (h : Heap) (L : List Loc) : Prop := Fr n0 L /\ ((v = none /\ BL Z h a2 (.long p3) (.ref a1) /\ BS Z h a1 (.ref a4) (.ref a5) (.long p3) (.long p6) (.int 1) (.long p7) (.int 1) (.long p8) (.int 0) /\ Arv Z h a4 k9 .long p10 [(.long p7), (.long 0)] (.long 0) /\ Arv Z h a5 k11 .long p10 [(.long p8), (.long 0)] (.long 0) /\ n0 <= h.size))
theorem rm9_27 (l : Launch) (Z : State) (a0 : Array Value) (hw : WW a0 Z) (ws : List Jvm.Cond) (a1 a2 a4 a5 : Addr) (p3 p6 p7 p8 : Int64) (k9 k11 : ClassId) (p10 : Int32) (h0 : Heap) (n0 : Nat) (Z0 : n0 <= h0.size) (B0 : BL Z h0 a2 (.long p3) (.ref a1)) (g_a2 : n0 <= a2) (B2 : BS Z h0 a1 (.ref a4) (.ref a5) (.long p3) (.long p6) (.int 1) (.long p7) (.int 1) (.long p8) (.int 0)) (g_a1 : n0 <= a1) (F0_4 : Arv Z h0 a4 k9 .long p10 [(.long p7), (.long 0)] (.long 0)) (g_a4 : n0 <= a4) (F0_6 : Arv Z h0 a5 k11 .long p10 [(.long p8), (.long 0)] (.long 0)) (g_a5 : n0 <= a5) (lt0_0 : a2 < a1) (lt0_1 : a1 < a4) (lt0_2 : a4 < a5) (hp0 : ¬ p3 < (1 : Int64)) (hp1 : ¬ (8 : Int64) < p3) (hp2 : ¬ p6 < (1 : Int64)) (hp3 : ¬ p10 < (1 : Int32)) (hp4 : ¬ (8 : Int32) < p10) (hd16 : p10 = p3.toInt32) (hx17 : ¬ (p3.toInt32) < (1 : Int32)) (hx18 : ¬ (8 : Int32) < (p3.toInt32)) :
    KMet l (⟨"com/example/halter/halter/SlidingSum", "forgetWhatLeftTheWindow", "()V"⟩ : MethodName) prog_20_method_8_code 2 none ws R9_27 #[(.ref a1)] Z h0 R9_27.cells R9_27.slots (Q9_27 Z a1 a2 a4 a5 p3 p6 p7 p8 k9 k11 p10 h0 n0) := by
 refine k_body (plainFor_of_name pn_1) (fun m => ef9_8 m a1) ?_
 intro p e s m below meth c s₁ hx D hml hlk hret hown hnm hZ X0 e0
 have N0 := Fr.nil n0
 obtain ⟨f0, f1, f2⟩ := B0
 obtain ⟨f3, f4, f5, f6, f7, f8, f9, f10, f11, f12⟩ := B2
 refine k_aloadN X0 hx 1 (D d9_0) rfl rfl ?_
 refine k_getF1 X0 hx hZ hown 4 (k_w hw 61 rfl) e0 f10 (D d9_1) (fun T101 X101 e101 => ?_)
 refine k_if_le X101 hx 7 69 (D d9_4) (fun hc => absurd (by decide) hc) (fun _ => ?_)
 refine k_aloadN X101 hx 8 (D d9_7) rfl rfl ?_
 refine k_getF1 X101 hx hZ hown 11 (k_w hw 55 rfl) e101 f9 (D d9_8) (fun T102 X102 e102 => ?_)
 refine k_aloadN X102 hx 12 (D d9_11) rfl rfl ?_
 refine k_getF1 X102 hx hZ hown 15 (k_w hw 29 rfl) e102 f4 (D d9_12) (fun T103 X103 e103 => ?_)
 refine k_aloadN X103 hx 16 (D d9_15) rfl rfl ?_
 refine k_getF1 X103 hx hZ hown 19 (k_w hw 99 rfl) e103 f12 (D d9_16) (fun T104 X104 e104 => ?_)
 refine k_laload X104 hx hZ 20 e104 F0_4 ⟨by decide, (Classical.byContradiction (fun hq105 => by have B106 : (1 : Int) <= p3.toInt /\ p3.toInt <= 8 := ⟨kL_ge hp0 (by decide), kL_le hp1 (by decide)⟩; have B107 : (1 : Int) <= p6.toInt /\ p6.toInt <= 9223372036854775807 := ⟨kL_ge hp2 (by decide), Int.le_of_lt_add_one (rng64 p6).2⟩; have q109 : p10.toInt = p3.toInt := k_l2ix hd16 B106 (by decide) (by decide); have B108 : (1 : Int) <= p10.toInt /\ p10.toInt <= 8 := (by rw [q109]; exact B106); have B110 : (1 : Int) <= p10.toInt /\ p10.toInt <= 0 := ⟨B108.1, k_le hq105 (by decide)⟩; have B111 : (1 : Int) <= (p3.toInt32).toInt /\ (p3.toInt32).toInt <= 8 := ⟨k_ge hx17 (by decide), k_le hx18 (by decide)⟩; omega))⟩ (v := (.long p7)) rfl (D d9_19) ?_
 refine k_lsubL X104 hx 21 (D d9_20) (z := (0 : Int64)) (Int64.sub_self _) ?_
 refine k_aloadN X104 hx 22 (D d9_21) rfl rfl ?_
 refine k_getF1 X104 hx hZ hown 25 (k_w hw 35 rfl) e104 f7 (D d9_22) (fun T112 X112 e112 => ?_)
 refine k_lcif_lt X112 hx 29 69 26 (D d9_25) (D d9_26) (fun _ => ?_) (fun hc => absurd (k_dL_alt_nxlt hp2 (by decide)) hc)
 refine k_aloadN X112 hx 70 (D d9_69) rfl rfl ?_
 refine k_getF1 X112 hx hZ hown 73 (k_w hw 29 rfl) e112 f4 (D d9_70) (fun T113 X113 e113 => ?_)
 refine k_alen X113 hx hZ 74 e113 F0_4 (D d9_73) ?_
 refine k_istoreN X113 hx 75 (D d9_74) (Ls' := #[rv a1, iv p10]) rfl ?_
 refine k_iloadN X113 hx 76 (D d9_75) rfl ?_
 refine k_bipush X113 hx 78 (D d9_76) (z := (8 : Int32)) rfl ?_
 refine k_icmp_le X113 hx 81 98 (D d9_78) (fun _ => ?_) (fun hc => absurd hc hp4)
 refine k_iloadN X113 hx 99 (D d9_98) rfl ?_
 refine k_aloadN X113 hx 100 (D d9_99) rfl rfl ?_
 refine k_getF1 X113 hx hZ hown 103 (k_w hw 29 rfl) e113 f4 (D d9_100) (fun T114 X114 e114 => ?_)
 refine k_alen X114 hx hZ 104 e114 F0_4 (D d9_103) ?_
 refine k_icmp_eq X114 hx 107 112 (D d9_104) (fun _ => ?_) (fun hc => absurd rfl hc)
 exact k_ret X114 hx hret (D d9_112) hlk (by decide) (by decide) (by rw [e114]; exact ⟨N0, ⟨rfl, ⟨f0, f1, f2⟩, ⟨f3, f4, f5, f6, f7, f8, f9, f10, f11, f12⟩, F0_4, F0_6, Z0⟩⟩)
theorem d9_29 : decode c9 29 = .ok (.aload_n 0, 1) := by decide +kernel
theorem d9_30 : decode c9 30 = .ok (.dup, 1) := by decide +kernel
theorem d9_31 : decode c9 31 = .ok (.getfield 36, 3) := by decide +kernel
theorem d9_34 : decode c9 34 = .ok (.aload_n 0, 1) := by decide +kernel
theorem d9_35 : decode c9 35 = .ok (.getfield 13, 3) := by decide +kernel
theorem d9_38 : decode c9 38 = .ok (.aload_n 0, 1) := by decide +kernel
theorem d9_39 : decode c9 39 = .ok (.getfield 59, 3) := by decide +kernel
theorem d9_42 : decode c9 42 = .ok (.laload, 1) := by decide +kernel
theorem d9_43 : decode c9 43 = .ok (.lsub, 1) := by decide +kernel
theorem d9_44 : decode c9 44 = .ok (.putfield 36, 3) := by decide +kernel
theorem d9_47 : decode c9 47 = .ok (.aload_n 0, 1) := by decide +kernel
theorem d9_48 : decode c9 48 = .ok (.aload_n 0, 1) := by decide +kernel
theorem d9_49 : decode c9 49 = .ok (.iconst 1, 1) := by decide +kernel
theorem d9_50 : decode c9 50 = .ok (.invokevirtual 62, 3) := by decide +kernel
theorem d17_20 : decode c17 20 = .ok (.iload_n 2, 1) := by decide +kernel
theorem d17_21 : decode c17 21 = .ok (.aload_n 0, 1) := by decide +kernel
theorem d17_22 : decode c17 22 = .ok (.getfield 7, 3) := by decide +kernel
theorem d17_25 : decode c17 25 = .ok (.arraylength, 1) := by decide +kernel
theorem d17_26 : decode c17 26 = .ok (.isub, 1) := by decide +kernel
abbrev R17_29 : Room := { frames := 0, cells := 0, slots := 0, locals := 0 }
def Q17_29 (Z : State) (a1 a2 a3 : Addr) (p4 p5 p6 p8 p11 : Int64) (k7 k10 : ClassId) (p9 : Int32) (h0 : Heap) (n0 : Nat) (v : Option Value) (h : Heap) (L : List Loc) : Prop := Fr n0 L /\ h = h0 /\ ((¬ (1 : Int32) < p9 /\ v = some (.int 0)) \/ ((1 : Int32) < p9 /\ v = some (.int 1)))
theorem ef17_29 (m : MethodId) (x0 : Addr) : entryFrame m #[(.ref x0), (.int 1)] 3 = mkF m 0 #[.val (.ref x0), .val (.int 1), .unset] [] := by first | (simp [entryFrame, mkF, argsToLocals, Value.category]; done) | rfl
theorem rm17_29 (l : Launch) (Z : State) (a0 : Array Value) (hw : WW a0 Z) (ws : List Jvm.Cond) (a1 a2 a3 : Addr) (p4 p5 p6 p8 p11 : Int64) (k7 k10 : ClassId) (p9 : Int32) (h0 : Heap) (n0 : Nat) (Z0 : n0 <= h0.size) (B0 : BS Z h0 a1 (.ref a2) (.ref a3) (.long p4) (.long p5) (.int 1) (.long p6) (.int 1) (.long 0) (.int 0)) (F0_1 : Arv Z h0 a2 k7 .long p9 [(.long p8), (.long 0)] (.long 0)) (F0_2 : Arv Z h0 a3 k10 .long p9 [(.long p11), (.long 0)] (.long 0)) (lt0_0 : a1 < a2) (lt0_1 : a2 < a3) (hp0 : ¬ p4 < (1 : Int64)) (hp1 : ¬ (8 : Int64) < p4) (hp2 : ¬ p5 < (1 : Int64)) (hp3 : ¬ p9 < (1 : Int32)) (hp4 : ¬ (8 : Int32) < p9) (hd10 : p9 = p4.toInt32) :
    KMet l (⟨"com/example/halter/halter/SlidingSum", "place", "(I)I"⟩ : MethodName) prog_20_method_12_code 3 (some .int) ws R17_29 #[(.ref a1), (.int 1)] Z h0 R17_29.cells R17_29.slots (Q17_29 Z a1 a2 a3 p4 p5 p6 p8 p11 k7 k10 p9 h0 n0) := by
 refine k_body (plainFor_of_name pn_1) (fun m => ef17_29 m a1) ?_
 intro p e s m below meth c s₁ hx D hml hlk hret hown hnm hZ X0 e0
 have N0 := Fr.nil n0
 obtain ⟨f0, f1, f2, f3, f4, f5, f6, f7, f8, f9⟩ := B0
 refine k_aloadN X0 hx 1 (D d17_0) rfl rfl ?_
 refine k_getF1 X0 hx hZ hown 4 (k_w hw 99 rfl) e0 f9 (D d17_1) (fun T101 X101 e101 => ?_)
 refine k_iloadN X101 hx 5 (D d17_4) rfl ?_
 refine k_iaddL X101 hx 6 (D d17_5) (z := (1 : Int32)) (by decide) ?_
 refine k_istoreN X101 hx 7 (D d17_6) (Ls' := #[rv a1, iv 1, iv 1]) rfl ?_
 refine k_iloadN X101 hx 8 (D d17_7) rfl ?_
 refine k_aloadN X101 hx 9 (D d17_8) rfl rfl ?_
 refine k_getF1 X101 hx hZ hown 12 (k_w hw 29 rfl) e101 f1 (D d17_9) (fun T102 X102 e102 => ?_)
 refine k_alen X102 hx hZ 13 e102 F0_1 (D d17_12) ?_
 refine k_icmp_ge X102 hx 16 20 (D d17_13) (fun hc103 => ?_) (fun hc103 => ?_)
 ·
  refine k_iloadN X102 hx 21 (D d17_20) rfl ?_
  refine k_aloadN X102 hx 22 (D d17_21) rfl rfl ?_
  refine k_getF1 X102 hx hZ hown 25 (k_w hw 29 rfl) e102 f1 (D d17_22) (fun T104 X104 e104 => ?_)
  refine k_alen X104 hx hZ 26 e104 F0_1 (D d17_25) ?_
  refine k_isubL X104 hx 27 (D d17_26) (z := (0 : Int32)) (by rw [show p9 = (1 : Int32) from (Classical.byContradiction (fun hq105 => by have B106 : (1 : Int) <= p4.toInt /\ p4.toInt <= 8 := ⟨kL_ge hp0 (by decide), kL_le hp1 (by decide)⟩; have q108 : p9.toInt = p4.toInt := k_l2ix hd10 B106 (by decide) (by decide); have B107 : (1 : Int) <= p9.toInt /\ p9.toInt <= 8 := (by rw [q108]; exact B106); have B109 : (1 : Int) <= p9.toInt /\ p9.toInt <= 1 := ⟨B107.1, k_le hc103 (by decide)⟩; have B110 : (1 : Int) <= (1 : Int32).toInt /\ (1 : Int32).toInt <= 1 := (by decide); have q111 : ¬ p9.toInt = (1 : Int32).toInt := fun q => hq105 (Int32.toInt_inj.mp q); omega))]; decide) ?_
  exact k_retI X104 hx hret (D d17_27) hlk (by decide) (by decide) ⟨N0, e104, (Or.inl ⟨hc103, rfl⟩)⟩
 ·
  refine k_iloadN X102 hx 17 (D d17_16) rfl ?_
  refine k_goto X102 hx 27 (D d17_17) ?_
  exact k_retI X102 hx hret (D d17_27) hlk (by decide) (by decide) ⟨N0, e102, (Or.inr ⟨hc103, rfl⟩)⟩
theorem d9_53 : decode c9 53 = .ok (.putfield 59, 3) := by decide +kernel
theorem d9_56 : decode c9 56 = .ok (.aload_n 0, 1) := by decide +kernel
theorem d9_57 : decode c9 57 = .ok (.dup, 1) := by decide +kernel
theorem d9_58 : decode c9 58 = .ok (.getfield 45, 3) := by decide +kernel
theorem d9_61 : decode c9 61 = .ok (.iconst 1, 1) := by decide +kernel
theorem d9_62 : decode c9 62 = .ok (.isub, 1) := by decide +kernel
theorem d9_63 : decode c9 63 = .ok (.putfield 45, 3) := by decide +kernel
theorem d9_66 : decode c9 66 = .ok (.goto (-66), 3) := by decide +kernel
abbrev R9_28 : Room := { frames := 1, cells := 0, slots := 0, locals := 15 }
def Q9_28 (Z : State) (a1 a2 a4 a5 : Addr) (p3 p6 p7 p8 p10 : Int64) (k9 k12 : ClassId) (p11 : Int32) (h0 : Heap) (n0 : Nat) (v : Option Value) (h : Heap) (L : List Loc) : Prop := Fr n0 L /\ ((∃ (v118 : Int64), v118 = p7 - p10 /\ v118 < p6 /\ v = none /\ BL Z h a2 (.long p3) (.ref a1) /\ BS Z h a1 (.ref a4) (.ref a5) (.long p3) (.long p6) (.int 1) (.long p7) (.int 1) (.long p8) (.int 0) /\ Arv Z h a4 k9 .long p11 [(.long p10), (.long 0)] (.long 0) /\ Arv Z h a5 k12 .long p11 [(.long p8), (.long 0)] (.long 0) /\ n0 <= h.size) \/ (∃ (v118 : Int64), v118 = p7 - p10 /\ ¬ v118 < p6 /\ ¬ (1 : Int32) < p11 /\ v = none /\ BL Z h a2 (.long p3) (.ref a1) /\ BS Z h a1 (.ref a4) (.ref a5) (.long p3) (.long p6) (.int 1) (.long p7) (.int 0) (.long 0) (.int 0) /\ Arv Z h a4 k9 .long p11 [(.long p10), (.long 0)] (.long 0) /\ Arv Z h a5 k12 .long p11 [(.long p8), (.long 0)] (.long 0) /\ n0 <= h.size) \/ (∃ (v118 : Int64), v118 = p7 - p10 /\ ¬ v118 < p6 /\ (1 : Int32) < p11 /\ v = none /\ BL Z h a2 (.long p3) (.ref a1) /\ BS Z h a1 (.ref a4) (.ref a5) (.long p3) (.long p6) (.int 1) (.long p7) (.int 0) (.long 0) (.int 1) /\ Arv Z h a4 k9 .long p11 [(.long p10), (.long 0)] (.long 0) /\ Arv Z h a5 k12 .long p11 [(.long p8), (.long 0)] (.long 0) /\ n0 <= h.size))
theorem rm9_28 (l : Launch) (Z : State) (a0 : Array Value) (hw : WW a0 Z) (ws : List Jvm.Cond) (a1 a2 a4 a5 : Addr) (p3 p6 p7 p8 p10 : Int64) (k9 k12 : ClassId) (p11 : Int32) (h0 : Heap) (n0 : Nat) (Z0 : n0 <= h0.size) (B0 : BL Z h0 a2 (.long p3) (.ref a1)) (g_a2 : n0 <= a2) (B2 : BS Z h0 a1 (.ref a4) (.ref a5) (.long p3) (.long p6) (.int 1) (.long p7) (.int 1) (.long p8) (.int 0)) (g_a1 : n0 <= a1) (F0_4 : Arv Z h0 a4 k9 .long p11 [(.long p10), (.long 0)] (.long 0)) (g_a4 : n0 <= a4) (F0_6 : Arv Z h0 a5 k12 .long p11 [(.long p8), (.long 0)] (.long 0)) (g_a5 : n0 <= a5) (lt0_0 : a2 < a1) (lt0_1 : a1 < a4) (lt0_2 : a4 < a5) (hp0 : ¬ p3 < (1 : Int64)) (hp1 : ¬ (8 : Int64) < p3) (hp2 : ¬ p6 < (1 : Int64)) (hp3 : ¬ p11 < (1 : Int32)) (hp4 : ¬ (8 : Int32) < p11) (hd16 : p11 = p3.toInt32) (hx17 : ¬ (p3.toInt32) < (1 : Int32)) (hx18 : ¬ (8 : Int32) < (p3.toInt32)) (hx19 : (0 : Int64) < (p7 - p10)) :
    KMet l (⟨"com/example/halter/halter/SlidingSum", "forgetWhatLeftTheWindow", "()V"⟩ : MethodName) prog_20_method_8_code 2 none ws R9_28 #[(.ref a1)] Z h0 R9_28.cells R9_28.slots (Q9_28 Z a1 a2 a4 a5 p3 p6 p7 p8 p10 k9 k12 p11 h0 n0) := by
 refine k_body (plainFor_of_name pn_1) (fun m => ef9_8 m a1) ?_
 intro p e s m below meth c s₁ hx D hml hlk hret hown hnm hZ X0 e0
 have N0 := Fr.nil n0
 obtain ⟨f0, f1, f2⟩ := B0
 obtain ⟨f3, f4, f5, f6, f7, f8, f9, f10, f11, f12⟩ := B2
 refine k_aloadN X0 hx 1 (D d9_0) rfl rfl ?_
 refine k_getF1 X0 hx hZ hown 4 (k_w hw 61 rfl) e0 f10 (D d9_1) (fun T101 X101 e101 => ?_)
 refine k_if_le X101 hx 7 69 (D d9_4) (fun hc => absurd (by decide) hc) (fun _ => ?_)
 refine k_aloadN X101 hx 8 (D d9_7) rfl rfl ?_
 refine k_getF1 X101 hx hZ hown 11 (k_w hw 55 rfl) e101 f9 (D d9_8) (fun T102 X102 e102 => ?_)
 refine k_aloadN X102 hx 12 (D d9_11) rfl rfl ?_
 refine k_getF1 X102 hx hZ hown 15 (k_w hw 29 rfl) e102 f4 (D d9_12) (fun T103 X103 e103 => ?_)
 refine k_aloadN X103 hx 16 (D d9_15) rfl rfl ?_
 refine k_getF1 X103 hx hZ hown 19 (k_w hw 99 rfl) e103 f12 (D d9_16) (fun T104 X104 e104 => ?_)
 refine k_laload X104 hx hZ 20 e104 F0_4 ⟨by decide, (Classical.byContradiction (fun hq105 => by have B106 : (1 : Int) <= p3.toInt /\ p3.toInt <= 8 := ⟨kL_ge hp0 (by decide), kL_le hp1 (by decide)⟩; have B107 : (1 : Int) <= p6.toInt /\ p6.toInt <= 9223372036854775807 := ⟨kL_ge hp2 (by decide), Int.le_of_lt_add_one (rng64 p6).2⟩; have q109 : p11.toInt = p3.toInt := k_l2ix hd16 B106 (by decide) (by decide); have B108 : (1 : Int) <= p11.toInt /\ p11.toInt <= 8 := (by rw [q109]; exact B106); have B110 : (1 : Int) <= p11.toInt /\ p11.toInt <= 0 := ⟨B108.1, k_le hq105 (by decide)⟩; have B111 : (1 : Int) <= (p3.toInt32).toInt /\ (p3.toInt32).toInt <= 8 := ⟨k_ge hx17 (by decide), k_le hx18 (by decide)⟩; have B114 : (-9223372036854775808 : Int) <= p7.toInt /\ p7.toInt <= 9223372036854775807 := ⟨(rng64 p7).1, Int.le_of_lt_add_one (rng64 p7).2⟩; have B115 : (-9223372036854775808 : Int) <= p10.toInt /\ p10.toInt <= 9223372036854775807 := ⟨(rng64 p10).1, Int.le_of_lt_add_one (rng64 p10).2⟩; have q116 : ((p7 - p10).toInt - (p7.toInt - p10.toInt)) % 18446744073709551616 = 0 := c_lsub _ _; have B112 : (-9223372036854775808 : Int) <= (p7 - p10).toInt /\ (p7 - p10).toInt <= 9223372036854775807 := ⟨(rng64 (p7 - p10)).1, Int.le_of_lt_add_one (rng64 (p7 - p10)).2⟩; have B117 : (1 : Int) <= (p7 - p10).toInt /\ (p7 - p10).toInt <= 9223372036854775807 := ⟨kL_gt hx19 (by decide), B112.2⟩; omega))⟩ (v := (.long p10)) rfl (D d9_19) ?_
 refine k_lsub X104 hx 21 (D d9_20) (fun v118 hv118 => ?_)
 refine k_aloadN X104 hx 22 (D d9_21) rfl rfl ?_
 refine k_getF1 X104 hx hZ hown 25 (k_w hw 35 rfl) e104 f7 (D d9_22) (fun T119 X119 e119 => ?_)
 refine k_lcif_lt X119 hx 29 69 26 (D d9_25) (D d9_26) (fun hc120 => ?_) (fun hc120 => ?_)
 ·
  refine k_aloadN X119 hx 70 (D d9_69) rfl rfl ?_
  refine k_getF1 X119 hx hZ hown 73 (k_w hw 29 rfl) e119 f4 (D d9_70) (fun T121 X121 e121 => ?_)
  refine k_alen X121 hx hZ 74 e121 F0_4 (D d9_73) ?_
  refine k_istoreN X121 hx 75 (D d9_74) (Ls' := #[rv a1, iv p11]) rfl ?_
  refine k_iloadN X121 hx 76 (D d9_75) rfl ?_
  refine k_bipush X121 hx 78 (D d9_76) (z := (8 : Int32)) rfl ?_
  refine k_icmp_le X121 hx 81 98 (D d9_78) (fun _ => ?_) (fun hc => absurd hc hp4)
  refine k_iloadN X121 hx 99 (D d9_98) rfl ?_
  refine k_aloadN X121 hx 100 (D d9_99) rfl rfl ?_
  refine k_getF1 X121 hx hZ hown 103 (k_w hw 29 rfl) e121 f4 (D d9_100) (fun T122 X122 e122 => ?_)
  refine k_alen X122 hx hZ 104 e122 F0_4 (D d9_103) ?_
  refine k_icmp_eq X122 hx 107 112 (D d9_104) (fun _ => ?_) (fun hc => absurd rfl hc)
  exact k_ret X122 hx hret (D d9_112) hlk (by decide) (by decide) (by rw [e122]; exact ⟨N0, (Or.inl ⟨v118, hv118, hc120, rfl, ⟨f0, f1, f2⟩, ⟨f3, f4, f5, f6, f7, f8, f9, f10, f11, f12⟩, F0_4, F0_6, Z0⟩)⟩)
 ·
  refine k_aloadN X119 hx 30 (D d9_29) rfl rfl ?_
  refine k_dup X119 hx 31 (D d9_30) rfl ?_
  refine k_getF1 X119 hx hZ hown 34 (k_w hw 63 rfl) e119 f11 (D d9_31) (fun T123 X123 e123 => ?_)
  refine k_aloadN X123 hx 35 (D d9_34) rfl rfl ?_
  refine k_getF1 X123 hx hZ hown 38 (k_w hw 31 rfl) e123 f5 (D d9_35) (fun T124 X124 e124 => ?_)
  refine k_aloadN X124 hx 39 (D d9_38) rfl rfl ?_
  refine k_getF1 X124 hx hZ hown 42 (k_w hw 99 rfl) e124 f12 (D d9_39) (fun T125 X125 e125 => ?_)
  refine k_laload X125 hx hZ 43 e125 F0_6 ⟨by decide, (Classical.byContradiction (fun hq126 => by have B127 : (1 : Int) <= p3.toInt /\ p3.toInt <= 8 := ⟨kL_ge hp0 (by decide), kL_le hp1 (by decide)⟩; have B128 : (1 : Int) <= p6.toInt /\ p6.toInt <= 9223372036854775807 := ⟨kL_ge hp2 (by decide), Int.le_of_lt_add_one (rng64 p6).2⟩; have q130 : p11.toInt = p3.toInt := k_l2ix hd16 B127 (by decide) (by decide); have B129 : (1 : Int) <= p11.toInt /\ p11.toInt <= 8 := (by rw [q130]; exact B127); have B131 : (1 : Int) <= p11.toInt /\ p11.toInt <= 0 := ⟨B129.1, k_le hq126 (by decide)⟩; have B132 : (1 : Int) <= (p3.toInt32).toInt /\ (p3.toInt32).toInt <= 8 := ⟨k_ge hx17 (by decide), k_le hx18 (by decide)⟩; have B135 : (-9223372036854775808 : Int) <= p7.toInt /\ p7.toInt <= 9223372036854775807 := ⟨(rng64 p7).1, Int.le_of_lt_add_one (rng64 p7).2⟩; have B136 : (-9223372036854775808 : Int) <= p10.toInt /\ p10.toInt <= 9223372036854775807 := ⟨(rng64 p10).1, Int.le_of_lt_add_one (rng64 p10).2⟩; have q137 : ((p7 - p10).toInt - (p7.toInt - p10.toInt)) % 18446744073709551616 = 0 := c_lsub _ _; have B133 : (-9223372036854775808 : Int) <= (p7 - p10).toInt /\ (p7 - p10).toInt <= 9223372036854775807 := ⟨(rng64 (p7 - p10)).1, Int.le_of_lt_add_one (rng64 (p7 - p10)).2⟩; have B138 : (1 : Int) <= (p7 - p10).toInt /\ (p7 - p10).toInt <= 9223372036854775807 := ⟨kL_gt hx19 (by decide), B133.2⟩; have q141 : (v118.toInt - (p7.toInt - p10.toInt)) % 18446744073709551616 = 0 := (by rw [hv118]; exact c_lsub _ _); have B139 : (-9223372036854775808 : Int) <= v118.toInt /\ v118.toInt <= 9223372036854775807 := ⟨(rng64 v118).1, Int.le_of_lt_add_one (rng64 v118).2⟩; have q142 := kL_m hc120; omega))⟩ (v := (.long p8)) rfl (D d9_42) ?_
  refine k_lsubL X125 hx 44 (D d9_43) (z := (0 : Int64)) (Int64.sub_self _) ?_
  refine k_putF1 X125 hx hZ hown 47 (k_w hw 63 rfl) e125 f11 f3 (Or.inl (k_w hw 64 rfl)) (k_w hw 22 rfl) .long rfl rfl (D d9_44) (fun T143 h143 X143 e143 W143 => ?_)
  have Fw143 := f11.same W143
  have N143 := Fr.snoc X143 N0 g_a1
  have Z143 := k_zw Z0 W143
  refine k_aloadN X143 hx 48 (D d9_47) rfl rfl ?_
  refine k_aloadN X143 hx 49 (D d9_48) rfl rfl ?_
  refine k_iconst X143 hx 50 (D d9_49) (z := (1 : Int32)) rfl ?_
  have F144 := (f3.wr W143)
  have F145 := (f4.other W143 (Or.inr (sn60 hw)))
  have F146 := (f5.other W143 (Or.inr (sn62 hw)))
  have F147 := (f6.other W143 (Or.inr (sn64 hw)))
  have F148 := (f7.other W143 (Or.inr (sn66 hw)))
  have F149 := (f8.other W143 (Or.inr (sn68 hw)))
  have F150 := (f9.other W143 (Or.inr (sn70 hw)))
  have F151 := (f10.other W143 (Or.inr (sn71 hw)))
  have F152 := (f12.other W143 (Or.inr (sn73 hw)))
  have F153 := (F0_4.other W143 (Ne.symm (Nat.ne_of_lt lt0_1)))
  have F154 := (F0_6.other W143 (Ne.symm (Nat.ne_of_lt (Nat.lt_trans lt0_1 lt0_2))))
  refine k_callP X143 hx hZ hown 53 (a := a1) (k_w hw 101 rfl) (k_w hw 102 rfl) (k_w hw 103 rfl) (k_w hw 22 rfl) (k_w hw 23 rfl) (k_w hw 104 rfl) (by decide) F144 (rm17_29 l Z a0 hw [] a1 a4 a5 p3 p6 p7 p10 p8 k9 k12 p11 h143 n0 Z143 ⟨F144, F145, F146, F147, F148, F149, F150, F151, Fw143, F152⟩ F153 F154 lt0_1 lt0_2 hp0 hp1 hp2 hp3 hp4 hd16) (by decide) (by decide) e143 (by rw [hml]; rfl) (argsL := [(.int 1)]) (rest := [(.ref a1)]) (lenOf pd_7 rfl) rfl (W := 1) (Nat.le_refl _) rfl (D d9_50) (by decide) (by decide) (fun T155 L155 r155 X155 q155 => ?_)
  obtain ⟨N155, e155, q155⟩ := q155
  have N155' := Fr.app N143 N155
  rcases q155 with ⟨hc156, rfl⟩ | ⟨hc157, rfl⟩
  ·
   refine k_n1 ?_
   refine k_putF1 X155 hx hZ hown 56 (k_w hw 99 rfl) e155 F152 F144 (Or.inl (k_w hw 100 rfl)) (k_w hw 22 rfl) .int rfl rfl (D d9_53) (fun T158 h158 X158 e158 W158 => ?_)
   have Fw158 := F152.same W158
   have N158 := Fr.snoc X158 N155' g_a1
   have Z158 := k_zw Z143 W158
   refine k_aloadN X158 hx 57 (D d9_56) rfl rfl ?_
   refine k_dup X158 hx 58 (D d9_57) rfl ?_
   have F159 := (F151.other W158 (Or.inr (sn56 hw)))
   refine k_getF1 X158 hx hZ hown 61 (k_w hw 61 rfl) e158 F159 (D d9_58) (fun T160 X160 e160 => ?_)
   refine k_iconst X160 hx 62 (D d9_61) (z := (1 : Int32)) rfl ?_
   refine k_isubL X160 hx 63 (D d9_62) (z := (0 : Int32)) (by decide) ?_
   have F161 := (F144.wr W158)
   refine k_putF1 X160 hx hZ hown 66 (k_w hw 61 rfl) e160 F159 F161 (Or.inl (k_w hw 62 rfl)) (k_w hw 22 rfl) .int rfl rfl (D d9_63) (fun T162 h162 X162 e162 W162 => ?_)
   have Fw162 := F159.same W162
   have N162 := Fr.snoc X162 N158 g_a1
   have Z162 := k_zw Z158 W162
   refine k_goto X162 hx 0 (D d9_66) ?_
   refine k_aloadN X162 hx 1 (D d9_0) rfl rfl ?_
   refine k_getF1 X162 hx hZ hown 4 (k_w hw 61 rfl) e162 Fw162 (D d9_1) (fun T163 X163 e163 => ?_)
   refine k_if_le X163 hx 7 69 (D d9_4) (fun _ => ?_) (fun hc => absurd hc (by decide))
   refine k_aloadN X163 hx 70 (D d9_69) rfl rfl ?_
   have F164 := ((F145.other W158 (Or.inr (sn50 hw))).other W162 (Or.inr (sn59 hw)))
   refine k_getF1 X163 hx hZ hown 73 (k_w hw 29 rfl) e163 F164 (D d9_70) (fun T165 X165 e165 => ?_)
   have F166 := ((F153.other W158 (Ne.symm (Nat.ne_of_lt lt0_1))).other W162 (Ne.symm (Nat.ne_of_lt lt0_1)))
   refine k_alen X165 hx hZ 74 e165 F166 (D d9_73) ?_
   refine k_istoreN X165 hx 75 (D d9_74) (Ls' := #[rv a1, iv p11]) rfl ?_
   refine k_iloadN X165 hx 76 (D d9_75) rfl ?_
   refine k_bipush X165 hx 78 (D d9_76) (z := (8 : Int32)) rfl ?_
   refine k_icmp_le X165 hx 81 98 (D d9_78) (fun _ => ?_) (fun hc => absurd hc hp4)
   refine k_iloadN X165 hx 99 (D d9_98) rfl ?_
   refine k_aloadN X165 hx 100 (D d9_99) rfl rfl ?_
   refine k_getF1 X165 hx hZ hown 103 (k_w hw 29 rfl) e165 F164 (D d9_100) (fun T167 X167 e167 => ?_)
   refine k_alen X167 hx hZ 104 e167 F166 (D d9_103) ?_
   refine k_icmp_eq X167 hx 107 112 (D d9_104) (fun _ => ?_) (fun hc => absurd rfl hc)
   have F178 := (((f0.wr W143).wr W158).wr W162)
   have F179 := (((f1.other W143 (Or.inl (Nat.ne_of_lt lt0_0))).other W158 (Or.inl (Nat.ne_of_lt lt0_0))).other W162 (Or.inl (Nat.ne_of_lt lt0_0)))
   have F180 := (((f2.other W143 (Or.inl (Nat.ne_of_lt lt0_0))).other W158 (Or.inl (Nat.ne_of_lt lt0_0))).other W162 (Or.inl (Nat.ne_of_lt lt0_0)))
   have F181 := (F161.wr W162)
   have F182 := ((F146.other W158 (Or.inr (sn51 hw))).other W162 (Or.inr (sn61 hw)))
   have F183 := ((F147.other W158 (Or.inr (sn52 hw))).other W162 (Or.inr (sn63 hw)))
   have F184 := ((F148.other W158 (Or.inr (sn53 hw))).other W162 (Or.inr (sn65 hw)))
   have F185 := ((F149.other W158 (Or.inr (sn54 hw))).other W162 (Or.inr (sn67 hw)))
   have F186 := ((F150.other W158 (Or.inr (sn55 hw))).other W162 (Or.inr (sn69 hw)))
   have F187 := ((Fw143.other W158 (Or.inr (sn57 hw))).other W162 (Or.inr (sn58 hw)))
   have F188 := (Fw158.other W162 (Or.inr (sn72 hw)))
   have F189 := ((F154.other W158 (Ne.symm (Nat.ne_of_lt (Nat.lt_trans lt0_1 lt0_2)))).other W162 (Ne.symm (Nat.ne_of_lt (Nat.lt_trans lt0_1 lt0_2))))
   exact k_ret X167 hx hret (D d9_112) hlk (by decide) (by decide) (by rw [e167]; exact ⟨N162, (Or.inr (Or.inl ⟨v118, hv118, hc120, hc156, rfl, ⟨F178, F179, F180⟩, ⟨F181, F164, F182, F183, F184, F185, F186, Fw162, F187, F188⟩, F166, F189, Z162⟩))⟩)
  ·
   refine k_n1 ?_
   refine k_putF1 X155 hx hZ hown 56 (k_w hw 99 rfl) e155 F152 F144 (Or.inl (k_w hw 100 rfl)) (k_w hw 22 rfl) .int rfl rfl (D d9_53) (fun T168 h168 X168 e168 W168 => ?_)
   have Fw168 := F152.same W168
   have N168 := Fr.snoc X168 N155' g_a1
   have Z168 := k_zw Z143 W168
   refine k_aloadN X168 hx 57 (D d9_56) rfl rfl ?_
   refine k_dup X168 hx 58 (D d9_57) rfl ?_
   have F169 := (F151.other W168 (Or.inr (sn56 hw)))
   refine k_getF1 X168 hx hZ hown 61 (k_w hw 61 rfl) e168 F169 (D d9_58) (fun T170 X170 e170 => ?_)
   refine k_iconst X170 hx 62 (D d9_61) (z := (1 : Int32)) rfl ?_
   refine k_isubL X170 hx 63 (D d9_62) (z := (0 : Int32)) (by decide) ?_
   have F171 := (F144.wr W168)
   refine k_putF1 X170 hx hZ hown 66 (k_w hw 61 rfl) e170 F169 F171 (Or.inl (k_w hw 62 rfl)) (k_w hw 22 rfl) .int rfl rfl (D d9_63) (fun T172 h172 X172 e172 W172 => ?_)
   have Fw172 := F169.same W172
   have N172 := Fr.snoc X172 N168 g_a1
   have Z172 := k_zw Z168 W172
   refine k_goto X172 hx 0 (D d9_66) ?_
   refine k_aloadN X172 hx 1 (D d9_0) rfl rfl ?_
   refine k_getF1 X172 hx hZ hown 4 (k_w hw 61 rfl) e172 Fw172 (D d9_1) (fun T173 X173 e173 => ?_)
   refine k_if_le X173 hx 7 69 (D d9_4) (fun _ => ?_) (fun hc => absurd hc (by decide))
   refine k_aloadN X173 hx 70 (D d9_69) rfl rfl ?_
   have F174 := ((F145.other W168 (Or.inr (sn50 hw))).other W172 (Or.inr (sn59 hw)))
   refine k_getF1 X173 hx hZ hown 73 (k_w hw 29 rfl) e173 F174 (D d9_70) (fun T175 X175 e175 => ?_)
   have F176 := ((F153.other W168 (Ne.symm (Nat.ne_of_lt lt0_1))).other W172 (Ne.symm (Nat.ne_of_lt lt0_1)))
   refine k_alen X175 hx hZ 74 e175 F176 (D d9_73) ?_
   refine k_istoreN X175 hx 75 (D d9_74) (Ls' := #[rv a1, iv p11]) rfl ?_
   refine k_iloadN X175 hx 76 (D d9_75) rfl ?_
   refine k_bipush X175 hx 78 (D d9_76) (z := (8 : Int32)) rfl ?_
   refine k_icmp_le X175 hx 81 98 (D d9_78) (fun _ => ?_) (fun hc => absurd hc hp4)
   refine k_iloadN X175 hx 99 (D d9_98) rfl ?_
   refine k_aloadN X175 hx 100 (D d9_99) rfl rfl ?_
   refine k_getF1 X175 hx hZ hown 103 (k_w hw 29 rfl) e175 F174 (D d9_100) (fun T177 X177 e177 => ?_)
   refine k_alen X177 hx hZ 104 e177 F176 (D d9_103) ?_
   refine k_icmp_eq X177 hx 107 112 (D d9_104) (fun _ => ?_) (fun hc => absurd rfl hc)
   have F190 := (((f0.wr W143).wr W168).wr W172)
   have F191 := (((f1.other W143 (Or.inl (Nat.ne_of_lt lt0_0))).other W168 (Or.inl (Nat.ne_of_lt lt0_0))).other W172 (Or.inl (Nat.ne_of_lt lt0_0)))
   have F192 := (((f2.other W143 (Or.inl (Nat.ne_of_lt lt0_0))).other W168 (Or.inl (Nat.ne_of_lt lt0_0))).other W172 (Or.inl (Nat.ne_of_lt lt0_0)))
   have F193 := (F171.wr W172)
   have F194 := ((F146.other W168 (Or.inr (sn51 hw))).other W172 (Or.inr (sn61 hw)))
   have F195 := ((F147.other W168 (Or.inr (sn52 hw))).other W172 (Or.inr (sn63 hw)))
   have F196 := ((F148.other W168 (Or.inr (sn53 hw))).other W172 (Or.inr (sn65 hw)))
   have F197 := ((F149.other W168 (Or.inr (sn54 hw))).other W172 (Or.inr (sn67 hw)))
   have F198 := ((F150.other W168 (Or.inr (sn55 hw))).other W172 (Or.inr (sn69 hw)))
   have F199 := ((Fw143.other W168 (Or.inr (sn57 hw))).other W172 (Or.inr (sn58 hw)))
   have F200 := (Fw168.other W172 (Or.inr (sn72 hw)))
   have F201 := ((F154.other W168 (Ne.symm (Nat.ne_of_lt (Nat.lt_trans lt0_1 lt0_2)))).other W172 (Ne.symm (Nat.ne_of_lt (Nat.lt_trans lt0_1 lt0_2))))
   exact k_ret X177 hx hret (D d9_112) hlk (by decide) (by decide) (by rw [e177]; exact ⟨N172, (Or.inr (Or.inr ⟨v118, hv118, hc120, hc157, rfl, ⟨F190, F191, F192⟩, ⟨F193, F174, F194, F195, F196, F197, F198, Fw172, F199, F200⟩, F176, F201, Z172⟩))⟩)
abbrev R8_26 : Room := { frames := 2, cells := 0, slots := 0, locals := 28 }
def Q8_26 (Z : State) (a1 a3 a5 a6 : Addr) (p2 p4 p7 p8 p9 : Int64) (k10 k12 : ClassId) (p11 : Int32) (h0 : Heap) (n0 : Nat) (v : Option Value) (h : Heap) (L : List Loc) : Prop := Fr n0 L /\ ((∃ (v103 : Int64), v103 = p2 - p8 /\ ¬ (0 : Int64) < v103 /\ v = none /\ BL Z h a3 (.long p4) (.ref a1) /\ BS Z h a1 (.ref a5) (.ref a6) (.long p4) (.long p7) (.int 1) (.long p8) (.int 1) (.long p9) (.int 0) /\ Arv Z h a5 k10 .long p11 [(.long p8), (.long 0)] (.long 0) /\ Arv Z h a6 k12 .long p11 [(.long p9), (.long 0)] (.long 0) /\ n0 <= h.size) \/ (∃ (v103 : Int64), v103 = p2 - p8 /\ (0 : Int64) < v103 /\ v103 < p7 /\ v = none /\ BL Z h a3 (.long p4) (.ref a1) /\ BS Z h a1 (.ref a5) (.ref a6) (.long p4) (.long p7) (.int 1) (.long p2) (.int 1) (.long p9) (.int 0) /\ Arv Z h a5 k10 .long p11 [(.long p8), (.long 0)] (.long 0) /\ Arv Z h a6 k12 .long p11 [(.long p9), (.long 0)] (.long 0) /\ n0 <= h.size) \/ (∃ (v103 : Int64), v103 = p2 - p8 /\ (0 : Int64) < v103 /\ ¬ v103 < p7 /\ ¬ (1 : Int32) < p11 /\ v = none /\ BL Z h a3 (.long p4) (.ref a1) /\ BS Z h a1 (.ref a5) (.ref a6) (.long p4) (.long p7) (.int 1) (.long p2) (.int 0) (.long 0) (.int 0) /\ Arv Z h a5 k10 .long p11 [(.long p8), (.long 0)] (.long 0) /\ Arv Z h a6 k12 .long p11 [(.long p9), (.long 0)] (.long 0) /\ n0 <= h.size) \/ (∃ (v103 : Int64), v103 = p2 - p8 /\ (0 : Int64) < v103 /\ ¬ v103 < p7 /\ (1 : Int32) < p11 /\ v = none /\ BL Z h a3 (.long p4) (.ref a1) /\ BS Z h a1 (.ref a5) (.ref a6) (.long p4) (.long p7) (.int 1) (.long p2) (.int 0) (.long 0) (.int 1) /\ Arv Z h a5 k10 .long p11 [(.long p8), (.long 0)] (.long 0) /\ Arv Z h a6 k12 .long p11 [(.long p9), (.long 0)] (.long 0) /\ n0 <= h.size))
theorem rm8_26 (l : Launch) (Z : State) (a0 : Array Value) (hw : WW a0 Z) (ws : List Jvm.Cond) (a1 a3 a5 a6 : Addr) (p2 p4 p7 p8 p9 : Int64) (k10 k12 : ClassId) (p11 : Int32) (h0 : Heap) (n0 : Nat) (Z0 : n0 <= h0.size) (B0 : BL Z h0 a3 (.long p4) (.ref a1)) (g_a3 : n0 <= a3) (B2 : BS Z h0 a1 (.ref a5) (.ref a6) (.long p4) (.long p7) (.int 1) (.long p8) (.int 1) (.long p9) (.int 0)) (g_a1 : n0 <= a1) (F0_4 : Arv Z h0 a5 k10 .long p11 [(.long p8), (.long 0)] (.long 0)) (g_a5 : n0 <= a5) (F0_6 : Arv Z h0 a6 k12 .long p11 [(.long p9), (.long 0)] (.long 0)) (g_a6 : n0 <= a6) (lt0_0 : a3 < a1) (lt0_1 : a1 < a5) (lt0_2 : a5 < a6) (hp0 : ¬ p4 < (1 : Int64)) (hp1 : ¬ (8 : Int64) < p4) (hp2 : ¬ p7 < (1 : Int64)) (hp3 : ¬ p11 < (1 : Int32)) (hp4 : ¬ (8 : Int32) < p11) (hd16 : p11 = p4.toInt32) (hx17 : ¬ (p4.toInt32) < (1 : Int32)) (hx18 : ¬ (8 : Int32) < (p4.toInt32)) :
    KMet l (⟨"com/example/halter/halter/SlidingSum", "catchUp", "(J)V"⟩ : MethodName) prog_20_method_7_code 3 none ws R8_26 #[(.ref a1), (.long p2)] Z h0 R8_26.cells R8_26.slots (Q8_26 Z a1 a3 a5 a6 p2 p4 p7 p8 p9 k10 k12 p11 h0 n0) := by
 refine k_body (plainFor_of_name pn_1) (fun m => ef8_7 m a1 p2) ?_
 intro p e s m below meth c s₁ hx D hml hlk hret hown hnm hZ X0 e0
 have N0 := Fr.nil n0
 obtain ⟨f0, f1, f2⟩ := B0
 obtain ⟨f3, f4, f5, f6, f7, f8, f9, f10, f11, f12⟩ := B2
 refine k_aloadN X0 hx 1 (D d8_0) rfl rfl ?_
 refine k_getF1 X0 hx hZ hown 4 (k_w hw 53 rfl) e0 f8 (D d8_1) (fun T101 X101 e101 => ?_)
 refine k_if_eq X101 hx 7 18 (D d8_4) (fun hc => absurd hc (by decide)) (fun _ => ?_)
 refine k_lloadN X101 hx 8 (D d8_7) rfl ?_
 refine k_aloadN X101 hx 9 (D d8_8) rfl rfl ?_
 refine k_getF1 X101 hx hZ hown 12 (k_w hw 55 rfl) e101 f9 (D d8_9) (fun T102 X102 e102 => ?_)
 refine k_lsub X102 hx 13 (D d8_12) (fun v103 hv103 => ?_)
 refine k_lconst X102 hx 14 (D d8_13) (z := (0 : Int64)) rfl ?_
 refine k_lcif_le X102 hx 18 28 15 (D d8_14) (D d8_15) (fun hc104 => ?_) (fun hc104 => ?_)
 ·
  refine k_aloadN X102 hx 29 (D d8_28) rfl rfl ?_
  refine k_callP X102 hx hZ hown 32 (a := a1) (k_w hw 57 rfl) (k_w hw 58 rfl) (k_w hw 59 rfl) (k_w hw 22 rfl) (k_w hw 23 rfl) (k_w hw 60 rfl) (by decide) f3 (rm9_27 l Z a0 hw [] a1 a3 a5 a6 p4 p7 p8 p9 k10 k12 p11 h0 n0 Z0 ⟨f0, f1, f2⟩ g_a3 ⟨f3, f4, f5, f6, f7, f8, f9, f10, f11, f12⟩ g_a1 F0_4 g_a5 F0_6 g_a6 lt0_0 lt0_1 lt0_2 hp0 hp1 hp2 hp3 hp4 hd16 (by have q := hp3; rw [hd16] at q; exact q) (by have q := hp4; rw [hd16] at q; exact q)) (by decide) (by decide) e102 (by rw [hml]; rfl) (argsL := []) (rest := []) (lenOf pd_1 rfl) rfl (W := 0) (Nat.le_refl _) rfl (D d8_29) (by decide) (by decide) (fun T105 L105 r105 X105 q105 => ?_)
  obtain ⟨N105, q105⟩ := q105
  have N105' := Fr.app N0 N105
  obtain ⟨rfl, ⟨F106, F107, F108⟩, ⟨F109, F110, F111, F112, F113, F114, F115, F116, F117, F118⟩, F119, F120, Z121⟩ := q105
  refine k_n0 ?_
  exact k_ret X105 hx hret (D d8_32) hlk (by decide) (by decide) ⟨N105', (Or.inl ⟨v103, hv103, hc104, rfl, ⟨F106, F107, F108⟩, ⟨F109, F110, F111, F112, F113, F114, F115, F116, F117, F118⟩, F119, F120, Z121⟩)⟩
 ·
  refine k_aloadN X102 hx 19 (D d8_18) rfl rfl ?_
  refine k_lloadN X102 hx 20 (D d8_19) rfl ?_
  refine k_putF1 X102 hx hZ hown 23 (k_w hw 55 rfl) e102 f9 f3 (Or.inl (k_w hw 56 rfl)) (k_w hw 22 rfl) .long rfl rfl (D d8_20) (fun T122 h122 X122 e122 W122 => ?_)
  have Fw122 := f9.same W122
  have N122 := Fr.snoc X122 N0 g_a1
  have Z122 := k_zw Z0 W122
  refine k_aloadN X122 hx 24 (D d8_23) rfl rfl ?_
  refine k_iconst X122 hx 25 (D d8_24) (z := (1 : Int32)) rfl ?_
  have F123 := (f8.other W122 (Or.inr (sn34 hw)))
  have F124 := (f3.wr W122)
  refine k_putF1 X122 hx hZ hown 28 (k_w hw 53 rfl) e122 F123 F124 (Or.inl (k_w hw 54 rfl)) (k_w hw 22 rfl) .boolean rfl rfl (D d8_25) (fun T125 h125 X125 e125 W125 => ?_)
  have Fw125 := F123.same W125
  have N125 := Fr.snoc X125 N122 g_a1
  have Z125 := k_zw Z122 W125
  refine k_aloadN X125 hx 29 (D d8_28) rfl rfl ?_
  have F126 := ((f0.wr W122).wr W125)
  have F127 := ((f1.other W122 (Or.inl (Nat.ne_of_lt lt0_0))).other W125 (Or.inl (Nat.ne_of_lt lt0_0)))
  have F128 := ((f2.other W122 (Or.inl (Nat.ne_of_lt lt0_0))).other W125 (Or.inl (Nat.ne_of_lt lt0_0)))
  have F129 := (F124.wr W125)
  have F130 := ((f4.other W122 (Or.inr (sn35 hw))).other W125 (Or.inr (sn36 hw)))
  have F131 := ((f5.other W122 (Or.inr (sn37 hw))).other W125 (Or.inr (sn38 hw)))
  have F132 := ((f6.other W122 (Or.inr (sn39 hw))).other W125 (Or.inr (sn40 hw)))
  have F133 := ((f7.other W122 (Or.inr (sn41 hw))).other W125 (Or.inr (sn42 hw)))
  have F134 := (Fw122.other W125 (Or.inr (sn43 hw)))
  have F135 := ((f10.other W122 (Or.inr (sn44 hw))).other W125 (Or.inr (sn45 hw)))
  have F136 := ((f11.other W122 (Or.inr (sn46 hw))).other W125 (Or.inr (sn47 hw)))
  have F137 := ((f12.other W122 (Or.inr (sn48 hw))).other W125 (Or.inr (sn49 hw)))
  have F138 := ((F0_4.other W122 (Ne.symm (Nat.ne_of_lt lt0_1))).other W125 (Ne.symm (Nat.ne_of_lt lt0_1)))
  have F139 := ((F0_6.other W122 (Ne.symm (Nat.ne_of_lt (Nat.lt_trans lt0_1 lt0_2)))).other W125 (Ne.symm (Nat.ne_of_lt (Nat.lt_trans lt0_1 lt0_2))))
  refine k_callP X125 hx hZ hown 32 (a := a1) (k_w hw 57 rfl) (k_w hw 58 rfl) (k_w hw 59 rfl) (k_w hw 22 rfl) (k_w hw 23 rfl) (k_w hw 60 rfl) (by decide) F129 (rm9_28 l Z a0 hw [] a1 a3 a5 a6 p4 p7 p2 p9 p8 k10 k12 p11 h125 n0 Z125 ⟨F126, F127, F128⟩ g_a3 ⟨F129, F130, F131, F132, F133, Fw125, F134, F135, F136, F137⟩ g_a1 F138 g_a5 F139 g_a6 lt0_0 lt0_1 lt0_2 hp0 hp1 hp2 hp3 hp4 hd16 (by have q := hp3; rw [hd16] at q; exact q) (by have q := hp4; rw [hd16] at q; exact q) (by have q := hc104; rw [hv103] at q; exact q)) (by decide) (by decide) e125 (by rw [hml]; rfl) (argsL := []) (rest := []) (lenOf pd_1 rfl) rfl (W := 0) (Nat.le_refl _) rfl (D d8_29) (by decide) (by decide) (fun T140 L140 r140 X140 q140 => ?_)
  obtain ⟨N140, q140⟩ := q140
  have N140' := Fr.app N125 N140
  rcases q140 with ⟨v141, h142, hc143, rfl, ⟨F144, F145, F146⟩, ⟨F147, F148, F149, F150, F151, F152, F153, F154, F155, F156⟩, F157, F158, Z159⟩ | ⟨v160, h161, hc162, hc163, rfl, ⟨F164, F165, F166⟩, ⟨F167, F168, F169, F170, F171, F172, F173, F174, F175, F176⟩, F177, F178, Z179⟩ | ⟨v180, h181, hc182, hc183, rfl, ⟨F184, F185, F186⟩, ⟨F187, F188, F189, F190, F191, F192, F193, F194, F195, F196⟩, F197, F198, Z199⟩
  ·
   have hh200 : v103 = v141 := hv103.trans h142.symm
   subst hh200
   refine k_n0 ?_
   exact k_ret X140 hx hret (D d8_32) hlk (by decide) (by decide) ⟨N140', (Or.inr (Or.inl ⟨v103, hv103, hc104, hc143, rfl, ⟨F144, F145, F146⟩, ⟨F147, F148, F149, F150, F151, F152, F153, F154, F155, F156⟩, F157, F158, Z159⟩))⟩
  ·
   have hh201 : v103 = v160 := hv103.trans h161.symm
   subst hh201
   refine k_n0 ?_
   exact k_ret X140 hx hret (D d8_32) hlk (by decide) (by decide) ⟨N140', (Or.inr (Or.inr (Or.inl ⟨v103, hv103, hc104, hc162, hc163, rfl, ⟨F164, F165, F166⟩, ⟨F167, F168, F169, F170, F171, F172, F173, F174, F175, F176⟩, F177, F178, Z179⟩)))⟩
  ·
   have hh202 : v103 = v180 := hv103.trans h181.symm
   subst hh202
   refine k_n0 ?_
   exact k_ret X140 hx hret (D d8_32) hlk (by decide) (by decide) ⟨N140', (Or.inr (Or.inr (Or.inr ⟨v103, hv103, hc104, hc182, hc183, rfl, ⟨F184, F185, F186⟩, ⟨F187, F188, F189, F190, F191, F192, F193, F194, F195, F196⟩, F197, F198, Z199⟩)))⟩
abbrev R7_25 : Room := { frames := 3, cells := 0, slots := 0, locals := 42 }
def Q7_25 (Z : State) (a1 a3 a5 a6 : Addr) (p2 p4 p7 p8 p9 : Int64) (k10 k12 : ClassId) (p11 : Int32) (h0 : Heap) (n0 : Nat) (v : Option Value) (h : Heap) (L : List Loc) : Prop := Fr n0 L /\ ((∃ (v102 : Int64), v102 = p2 - p8 /\ ¬ (0 : Int64) < v102 /\ v = some (.long p9) /\ BL Z h a3 (.long p4) (.ref a1) /\ BS Z h a1 (.ref a5) (.ref a6) (.long p4) (.long p7) (.int 1) (.long p8) (.int 1) (.long p9) (.int 0) /\ Arv Z h a5 k10 .long p11 [(.long p8), (.long 0)] (.long 0) /\ Arv Z h a6 k12 .long p11 [(.long p9), (.long 0)] (.long 0) /\ n0 <= h.size) \/ (∃ (v121 : Int64), v121 = p2 - p8 /\ (0 : Int64) < v121 /\ v121 < p7 /\ v = some (.long p9) /\ BL Z h a3 (.long p4) (.ref a1) /\ BS Z h a1 (.ref a5) (.ref a6) (.long p4) (.long p7) (.int 1) (.long p2) (.int 1) (.long p9) (.int 0) /\ Arv Z h a5 k10 .long p11 [(.long p8), (.long 0)] (.long 0) /\ Arv Z h a6 k12 .long p11 [(.long p9), (.long 0)] (.long 0) /\ n0 <= h.size) \/ (∃ (v141 : Int64), v141 = p2 - p8 /\ (0 : Int64) < v141 /\ ¬ v141 < p7 /\ ¬ (1 : Int32) < p11 /\ v = some (.long 0) /\ BL Z h a3 (.long p4) (.ref a1) /\ BS Z h a1 (.ref a5) (.ref a6) (.long p4) (.long p7) (.int 1) (.long p2) (.int 0) (.long 0) (.int 0) /\ Arv Z h a5 k10 .long p11 [(.long p8), (.long 0)] (.long 0) /\ Arv Z h a6 k12 .long p11 [(.long p9), (.long 0)] (.long 0) /\ n0 <= h.size) \/ (∃ (v162 : Int64), v162 = p2 - p8 /\ (0 : Int64) < v162 /\ ¬ v162 < p7 /\ (1 : Int32) < p11 /\ v = some (.long 0) /\ BL Z h a3 (.long p4) (.ref a1) /\ BS Z h a1 (.ref a5) (.ref a6) (.long p4) (.long p7) (.int 1) (.long p2) (.int 0) (.long 0) (.int 1) /\ Arv Z h a5 k10 .long p11 [(.long p8), (.long 0)] (.long 0) /\ Arv Z h a6 k12 .long p11 [(.long p9), (.long 0)] (.long 0) /\ n0 <= h.size))
theorem rm7_25 (l : Launch) (Z : State) (a0 : Array Value) (hw : WW a0 Z) (ws : List Jvm.Cond) (a1 a3 a5 a6 : Addr) (p2 p4 p7 p8 p9 : Int64) (k10 k12 : ClassId) (p11 : Int32) (h0 : Heap) (n0 : Nat) (Z0 : n0 <= h0.size) (B0 : BL Z h0 a3 (.long p4) (.ref a1)) (g_a3 : n0 <= a3) (B2 : BS Z h0 a1 (.ref a5) (.ref a6) (.long p4) (.long p7) (.int 1) (.long p8) (.int 1) (.long p9) (.int 0)) (g_a1 : n0 <= a1) (F0_4 : Arv Z h0 a5 k10 .long p11 [(.long p8), (.long 0)] (.long 0)) (g_a5 : n0 <= a5) (F0_6 : Arv Z h0 a6 k12 .long p11 [(.long p9), (.long 0)] (.long 0)) (g_a6 : n0 <= a6) (lt0_0 : a3 < a1) (lt0_1 : a1 < a5) (lt0_2 : a5 < a6) (hp0 : ¬ p4 < (1 : Int64)) (hp1 : ¬ (8 : Int64) < p4) (hp2 : ¬ p7 < (1 : Int64)) (hp3 : ¬ p11 < (1 : Int32)) (hp4 : ¬ (8 : Int32) < p11) (hd16 : p11 = p4.toInt32) :
    KMet l (⟨"com/example/halter/halter/SlidingSum", "at", "(J)J"⟩ : MethodName) prog_20_method_2_code 3 (some .long) ws R7_25 #[(.ref a1), (.long p2)] Z h0 R7_25.cells R7_25.slots (Q7_25 Z a1 a3 a5 a6 p2 p4 p7 p8 p9 k10 k12 p11 h0 n0) := by
 refine k_body (plainFor_of_name pn_1) (fun m => ef8_7 m a1 p2) ?_
 intro p e s m below meth c s₁ hx D hml hlk hret hown hnm hZ X0 e0
 have N0 := Fr.nil n0
 obtain ⟨f0, f1, f2⟩ := B0
 obtain ⟨f3, f4, f5, f6, f7, f8, f9, f10, f11, f12⟩ := B2
 refine k_aloadN X0 hx 1 (D d7_0) rfl rfl ?_
 refine k_lloadN X0 hx 2 (D d7_1) rfl ?_
 refine k_callP X0 hx hZ hown 5 (a := a1) (k_w hw 49 rfl) (k_w hw 50 rfl) (k_w hw 51 rfl) (k_w hw 22 rfl) (k_w hw 23 rfl) (k_w hw 52 rfl) (by decide) f3 (rm8_26 l Z a0 hw [] a1 a3 a5 a6 p2 p4 p7 p8 p9 k10 k12 p11 h0 n0 Z0 ⟨f0, f1, f2⟩ g_a3 ⟨f3, f4, f5, f6, f7, f8, f9, f10, f11, f12⟩ g_a1 F0_4 g_a5 F0_6 g_a6 lt0_0 lt0_1 lt0_2 hp0 hp1 hp2 hp3 hp4 hd16 (by have q := hp3; rw [hd16] at q; exact q) (by have q := hp4; rw [hd16] at q; exact q)) (by decide) (by decide) e0 (by rw [hml]; rfl) (argsL := [(.long p2)]) (rest := []) (lenOf pd_3 rfl) rfl (W := 0) (Nat.le_refl _) rfl (D d7_2) (by decide) (by decide) (fun T101 L101 r101 X101 q101 => ?_)
 obtain ⟨N101, q101⟩ := q101
 have N101' := Fr.app N0 N101
 rcases q101 with ⟨v102, h103, hc104, rfl, ⟨F105, F106, F107⟩, ⟨F108, F109, F110, F111, F112, F113, F114, F115, F116, F117⟩, F118, F119, Z120⟩ | ⟨v121, h122, hc123, hc124, rfl, ⟨F125, F126, F127⟩, ⟨F128, F129, F130, F131, F132, F133, F134, F135, F136, F137⟩, F138, F139, Z140⟩ | ⟨v141, h142, hc143, hc144, hc145, rfl, ⟨F146, F147, F148⟩, ⟨F149, F150, F151, F152, F153, F154, F155, F156, F157, F158⟩, F159, F160, Z161⟩ | ⟨v162, h163, hc164, hc165, hc166, rfl, ⟨F167, F168, F169⟩, ⟨F170, F171, F172, F173, F174, F175, F176, F177, F178, F179⟩, F180, F181, Z182⟩
 ·
  refine k_n0 ?_
  refine k_aloadN X101 hx 6 (D d7_5) rfl rfl ?_
  refine k_getF1 X101 hx hZ hown 9 (k_w hw 63 rfl) rfl F116 (D d7_6) (fun T183 X183 e183 => ?_)
  exact k_retL X183 hx hret (D d7_9) hlk (by decide) (by decide) (by rw [e183]; exact ⟨N101', (Or.inl ⟨v102, h103, hc104, rfl, ⟨F105, F106, F107⟩, ⟨F108, F109, F110, F111, F112, F113, F114, F115, F116, F117⟩, F118, F119, Z120⟩)⟩)
 ·
  refine k_n0 ?_
  refine k_aloadN X101 hx 6 (D d7_5) rfl rfl ?_
  refine k_getF1 X101 hx hZ hown 9 (k_w hw 63 rfl) rfl F136 (D d7_6) (fun T184 X184 e184 => ?_)
  exact k_retL X184 hx hret (D d7_9) hlk (by decide) (by decide) (by rw [e184]; exact ⟨N101', (Or.inr (Or.inl ⟨v121, h122, hc123, hc124, rfl, ⟨F125, F126, F127⟩, ⟨F128, F129, F130, F131, F132, F133, F134, F135, F136, F137⟩, F138, F139, Z140⟩))⟩)
 ·
  refine k_n0 ?_
  refine k_aloadN X101 hx 6 (D d7_5) rfl rfl ?_
  refine k_getF1 X101 hx hZ hown 9 (k_w hw 63 rfl) rfl F157 (D d7_6) (fun T185 X185 e185 => ?_)
  exact k_retL X185 hx hret (D d7_9) hlk (by decide) (by decide) (by rw [e185]; exact ⟨N101', (Or.inr (Or.inr (Or.inl ⟨v141, h142, hc143, hc144, hc145, rfl, ⟨F146, F147, F148⟩, ⟨F149, F150, F151, F152, F153, F154, F155, F156, F157, F158⟩, F159, F160, Z161⟩)))⟩)
 ·
  refine k_n0 ?_
  refine k_aloadN X101 hx 6 (D d7_5) rfl rfl ?_
  refine k_getF1 X101 hx hZ hown 9 (k_w hw 63 rfl) rfl F178 (D d7_6) (fun T186 X186 e186 => ?_)
  exact k_retL X186 hx hret (D d7_9) hlk (by decide) (by decide) (by rw [e186]; exact ⟨N101', (Or.inr (Or.inr (Or.inr ⟨v162, h163, hc164, hc165, hc166, rfl, ⟨F167, F168, F169⟩, ⟨F170, F171, F172, F173, F174, F175, F176, F177, F178, F179⟩, F180, F181, Z182⟩)))⟩)
theorem d6_17 : decode c6 17 = .ok (.iconst 0, 1) := by decide +kernel
abbrev R6_24 : Room := { frames := 4, cells := 0, slots := 0, locals := 56 }
def Q6_24 (Z : State) (a1 a4 a5 a6 : Addr) (p2 p3 p7 p8 p9 : Int64) (k10 k12 : ClassId) (p11 : Int32) (h0 : Heap) (n0 : Nat) (v : Option Value) (h : Heap) (L : List Loc) : Prop := Fr n0 L /\ ((∃ (v103 : Int64), v103 = p2 - p8 /\ ¬ (0 : Int64) < v103 /\ ¬ p9 = (0 : Int64) /\ v = some (.int 0) /\ BL Z h a1 (.long p3) (.ref a4) /\ BS Z h a4 (.ref a5) (.ref a6) (.long p3) (.long p7) (.int 1) (.long p8) (.int 1) (.long p9) (.int 0) /\ Arv Z h a5 k10 .long p11 [(.long p8), (.long 0)] (.long 0) /\ Arv Z h a6 k12 .long p11 [(.long p9), (.long 0)] (.long 0) /\ n0 <= h.size) \/ (∃ (v103 : Int64), v103 = p2 - p8 /\ ¬ (0 : Int64) < v103 /\ p9 = (0 : Int64) /\ v = some (.int 1) /\ BL Z h a1 (.long p3) (.ref a4) /\ BS Z h a4 (.ref a5) (.ref a6) (.long p3) (.long p7) (.int 1) (.long p8) (.int 1) (.long p9) (.int 0) /\ Arv Z h a5 k10 .long p11 [(.long p8), (.long 0)] (.long 0) /\ Arv Z h a6 k12 .long p11 [(.long p9), (.long 0)] (.long 0) /\ n0 <= h.size) \/ (∃ (v122 : Int64), v122 = p2 - p8 /\ (0 : Int64) < v122 /\ v122 < p7 /\ ¬ p9 = (0 : Int64) /\ v = some (.int 0) /\ BL Z h a1 (.long p3) (.ref a4) /\ BS Z h a4 (.ref a5) (.ref a6) (.long p3) (.long p7) (.int 1) (.long p2) (.int 1) (.long p9) (.int 0) /\ Arv Z h a5 k10 .long p11 [(.long p8), (.long 0)] (.long 0) /\ Arv Z h a6 k12 .long p11 [(.long p9), (.long 0)] (.long 0) /\ n0 <= h.size) \/ (∃ (v122 : Int64), v122 = p2 - p8 /\ (0 : Int64) < v122 /\ v122 < p7 /\ p9 = (0 : Int64) /\ v = some (.int 1) /\ BL Z h a1 (.long p3) (.ref a4) /\ BS Z h a4 (.ref a5) (.ref a6) (.long p3) (.long p7) (.int 1) (.long p2) (.int 1) (.long p9) (.int 0) /\ Arv Z h a5 k10 .long p11 [(.long p8), (.long 0)] (.long 0) /\ Arv Z h a6 k12 .long p11 [(.long p9), (.long 0)] (.long 0) /\ n0 <= h.size) \/ (∃ (v142 : Int64), v142 = p2 - p8 /\ (0 : Int64) < v142 /\ ¬ v142 < p7 /\ ¬ (1 : Int32) < p11 /\ v = some (.int 1) /\ BL Z h a1 (.long p3) (.ref a4) /\ BS Z h a4 (.ref a5) (.ref a6) (.long p3) (.long p7) (.int 1) (.long p2) (.int 0) (.long 0) (.int 0) /\ Arv Z h a5 k10 .long p11 [(.long p8), (.long 0)] (.long 0) /\ Arv Z h a6 k12 .long p11 [(.long p9), (.long 0)] (.long 0) /\ n0 <= h.size) \/ (∃ (v163 : Int64), v163 = p2 - p8 /\ (0 : Int64) < v163 /\ ¬ v163 < p7 /\ (1 : Int32) < p11 /\ v = some (.int 1) /\ BL Z h a1 (.long p3) (.ref a4) /\ BS Z h a4 (.ref a5) (.ref a6) (.long p3) (.long p7) (.int 1) (.long p2) (.int 0) (.long 0) (.int 1) /\ Arv Z h a5 k10 .long p11 [(.long p8), (.long 0)] (.long 0) /\ Arv Z h a6 k12 .long p11 [(.long p9), (.long 0)] (.long 0) /\ n0 <= h.size))
theorem rm6_24 (l : Launch) (Z : State) (a0 : Array Value) (hw : WW a0 Z) (ws : List Jvm.Cond) (a1 a4 a5 a6 : Addr) (p2 p3 p7 p8 p9 : Int64) (k10 k12 : ClassId) (p11 : Int32) (h0 : Heap) (n0 : Nat) (Z0 : n0 <= h0.size) (B0 : BL Z h0 a1 (.long p3) (.ref a4)) (g_a1 : n0 <= a1) (B2 : BS Z h0 a4 (.ref a5) (.ref a6) (.long p3) (.long p7) (.int 1) (.long p8) (.int 1) (.long p9) (.int 0)) (g_a4 : n0 <= a4) (F0_4 : Arv Z h0 a5 k10 .long p11 [(.long p8), (.long 0)] (.long 0)) (g_a5 : n0 <= a5) (F0_6 : Arv Z h0 a6 k12 .long p11 [(.long p9), (.long 0)] (.long 0)) (g_a6 : n0 <= a6) (lt0_0 : a1 < a4) (lt0_1 : a4 < a5) (lt0_2 : a5 < a6) (hp0 : ¬ p3 < (1 : Int64)) (hp1 : ¬ (8 : Int64) < p3) (hp2 : ¬ p7 < (1 : Int64)) (hp3 : ¬ p11 < (1 : Int32)) (hp4 : ¬ (8 : Int32) < p11) (hd16 : p11 = p3.toInt32) :
    KMet l (⟨"com/example/halter/halter/SlidingLogLimiter$Log", "idleAt", "(J)Z"⟩ : MethodName) prog_18_method_3_code 3 (some .boolean) ws R6_24 #[(.ref a1), (.long p2)] Z h0 R6_24.cells R6_24.slots (Q6_24 Z a1 a4 a5 a6 p2 p3 p7 p8 p9 k10 k12 p11 h0 n0) := by
 refine k_body (plainFor_of_name pn_2) (fun m => ef8_7 m a1 p2) ?_
 intro p e s m below meth c s₁ hx D hml hlk hret hown hnm hZ X0 e0
 have N0 := Fr.nil n0
 obtain ⟨f0, f1, f2⟩ := B0
 obtain ⟨f3, f4, f5, f6, f7, f8, f9, f10, f11, f12⟩ := B2
 refine k_aloadN X0 hx 1 (D d6_0) rfl rfl ?_
 refine k_getF1 X0 hx hZ hown 4 (k_w hw 37 rfl) e0 f2 (D d6_1) (fun T101 X101 e101 => ?_)
 refine k_lloadN X101 hx 5 (D d6_4) rfl ?_
 refine k_callV X101 hx hZ hown 8 (a := a4) (k_w hw 44 rfl) (k_w hw 45 rfl) (k_w hw 47 rfl) (k_w hw 46 rfl) (k_w hw 23 rfl) (k_w hw 48 rfl) (by decide) f3 (rm7_25 l Z a0 hw [] a4 a1 a5 a6 p2 p3 p7 p8 p9 k10 k12 p11 h0 n0 Z0 ⟨f0, f1, f2⟩ g_a1 ⟨f3, f4, f5, f6, f7, f8, f9, f10, f11, f12⟩ g_a4 F0_4 g_a5 F0_6 g_a6 lt0_0 lt0_1 lt0_2 hp0 hp1 hp2 hp3 hp4 hd16) (by decide) (by decide) e101 (by rw [hml]; rfl) (argsL := [(.long p2)]) (rest := []) (lenOf pd_4 rfl) rfl (W := 0) (Nat.le_refl _) rfl (D d6_5) (by decide) (by decide) (fun T102 L102 r102 X102 q102 => ?_)
 obtain ⟨N102, q102⟩ := q102
 have N102' := Fr.app N0 N102
 rcases q102 with ⟨v103, h104, hc105, rfl, ⟨F106, F107, F108⟩, ⟨F109, F110, F111, F112, F113, F114, F115, F116, F117, F118⟩, F119, F120, Z121⟩ | ⟨v122, h123, hc124, hc125, rfl, ⟨F126, F127, F128⟩, ⟨F129, F130, F131, F132, F133, F134, F135, F136, F137, F138⟩, F139, F140, Z141⟩ | ⟨v142, h143, hc144, hc145, hc146, rfl, ⟨F147, F148, F149⟩, ⟨F150, F151, F152, F153, F154, F155, F156, F157, F158, F159⟩, F160, F161, Z162⟩ | ⟨v163, h164, hc165, hc166, hc167, rfl, ⟨F168, F169, F170⟩, ⟨F171, F172, F173, F174, F175, F176, F177, F178, F179, F180⟩, F181, F182, Z183⟩
 ·
  refine k_n1 ?_
  refine k_lconst X102 hx 9 (D d6_8) (z := (0 : Int64)) rfl ?_
  refine k_lcif_ne X102 hx 13 17 10 (D d6_9) (D d6_10) (fun hc184 => ?_) (fun hc184 => ?_)
  ·
   refine k_iconst X102 hx 18 (D d6_17) (z := (0 : Int32)) rfl ?_
   exact k_retN X102 hx (t := .boolean) hret (by simp) (D d6_18) hlk (by decide) (by decide) (z' := (0 : Int32)) rfl ⟨N102', (Or.inl ⟨v103, h104, hc105, hc184, rfl, ⟨F106, F107, F108⟩, ⟨F109, F110, F111, F112, F113, F114, F115, F116, F117, F118⟩, F119, F120, Z121⟩)⟩
  ·
   refine k_iconst X102 hx 14 (D d6_13) (z := (1 : Int32)) rfl ?_
   refine k_goto X102 hx 18 (D d6_14) ?_
   exact k_retN X102 hx (t := .boolean) hret (by simp) (D d6_18) hlk (by decide) (by decide) (z' := (1 : Int32)) rfl ⟨N102', (Or.inr (Or.inl ⟨v103, h104, hc105, hc184, rfl, ⟨F106, F107, F108⟩, ⟨F109, F110, F111, F112, F113, F114, F115, F116, F117, F118⟩, F119, F120, Z121⟩))⟩
 ·
  refine k_n1 ?_
  refine k_lconst X102 hx 9 (D d6_8) (z := (0 : Int64)) rfl ?_
  refine k_lcif_ne X102 hx 13 17 10 (D d6_9) (D d6_10) (fun hc185 => ?_) (fun hc185 => ?_)
  ·
   refine k_iconst X102 hx 18 (D d6_17) (z := (0 : Int32)) rfl ?_
   exact k_retN X102 hx (t := .boolean) hret (by simp) (D d6_18) hlk (by decide) (by decide) (z' := (0 : Int32)) rfl ⟨N102', (Or.inr (Or.inr (Or.inl ⟨v122, h123, hc124, hc125, hc185, rfl, ⟨F126, F127, F128⟩, ⟨F129, F130, F131, F132, F133, F134, F135, F136, F137, F138⟩, F139, F140, Z141⟩)))⟩
  ·
   refine k_iconst X102 hx 14 (D d6_13) (z := (1 : Int32)) rfl ?_
   refine k_goto X102 hx 18 (D d6_14) ?_
   exact k_retN X102 hx (t := .boolean) hret (by simp) (D d6_18) hlk (by decide) (by decide) (z' := (1 : Int32)) rfl ⟨N102', (Or.inr (Or.inr (Or.inr (Or.inl ⟨v122, h123, hc124, hc125, hc185, rfl, ⟨F126, F127, F128⟩, ⟨F129, F130, F131, F132, F133, F134, F135, F136, F137, F138⟩, F139, F140, Z141⟩))))⟩
 ·
  refine k_n1 ?_
  refine k_lconst X102 hx 9 (D d6_8) (z := (0 : Int64)) rfl ?_
  refine k_lcif_ne X102 hx 13 17 10 (D d6_9) (D d6_10) (fun hc => absurd (by decide) hc) (fun _ => ?_)
  refine k_iconst X102 hx 14 (D d6_13) (z := (1 : Int32)) rfl ?_
  refine k_goto X102 hx 18 (D d6_14) ?_
  exact k_retN X102 hx (t := .boolean) hret (by simp) (D d6_18) hlk (by decide) (by decide) (z' := (1 : Int32)) rfl ⟨N102', (Or.inr (Or.inr (Or.inr (Or.inr (Or.inl ⟨v142, h143, hc144, hc145, hc146, rfl, ⟨F147, F148, F149⟩, ⟨F150, F151, F152, F153, F154, F155, F156, F157, F158, F159⟩, F160, F161, Z162⟩)))))⟩
 ·
  refine k_n1 ?_
  refine k_lconst X102 hx 9 (D d6_8) (z := (0 : Int64)) rfl ?_
  refine k_lcif_ne X102 hx 13 17 10 (D d6_9) (D d6_10) (fun hc => absurd (by decide) hc) (fun _ => ?_)
  refine k_iconst X102 hx 14 (D d6_13) (z := (1 : Int32)) rfl ?_
  refine k_goto X102 hx 18 (D d6_14) ?_
  exact k_retN X102 hx (t := .boolean) hret (by simp) (D d6_18) hlk (by decide) (by decide) (z' := (1 : Int32)) rfl ⟨N102', (Or.inr (Or.inr (Or.inr (Or.inr (Or.inr ⟨v163, h164, hc165, hc166, hc167, rfl, ⟨F168, F169, F170⟩, ⟨F171, F172, F173, F174, F175, F176, F177, F178, F179, F180⟩, F181, F182, Z183⟩)))))⟩
abbrev R8_32 : Room := { frames := 1, cells := 0, slots := 0, locals := 13 }
def Q8_32 (Z : State) (a1 a3 a5 a6 : Addr) (p2 p4 p7 p8 : Int64) (k9 k10 : ClassId) (h0 : Heap) (n0 : Nat) (v : Option Value) (h : Heap) (L : List Loc) : Prop := Fr n0 L /\ ((v = none /\ BL Z h a3 (.long p4) (.ref a1) /\ BS Z h a1 (.ref a5) (.ref a6) (.long p4) (.long p7) (.int 1) (.long p8) (.int 0) (.long 0) (.int 0) /\ Arv Z h a5 k9 .long (0 : Int32) [] (.long 0) /\ Arv Z h a6 k10 .long (0 : Int32) [] (.long 0) /\ n0 <= h.size))
theorem rm8_32 (l : Launch) (Z : State) (a0 : Array Value) (hw : WW a0 Z) (ws : List Jvm.Cond) (a1 a3 a5 a6 : Addr) (p2 p4 p7 p8 : Int64) (k9 k10 : ClassId) (h0 : Heap) (n0 : Nat) (Z0 : n0 <= h0.size) (B0 : BL Z h0 a3 (.long p4) (.ref a1)) (g_a3 : n0 <= a3) (B2 : BS Z h0 a1 (.ref a5) (.ref a6) (.long p4) (.long p7) (.int 1) (.long p8) (.int 0) (.long 0) (.int 0)) (g_a1 : n0 <= a1) (F0_4 : Arv Z h0 a5 k9 .long (0 : Int32) [] (.long 0)) (g_a5 : n0 <= a5) (F0_6 : Arv Z h0 a6 k10 .long (0 : Int32) [] (.long 0)) (g_a6 : n0 <= a6) (lt0_0 : a3 < a1) (lt0_1 : a1 < a5) (lt0_2 : a5 < a6) (hp0 : ¬ p4 < (1 : Int64)) (hp1 : ¬ (8 : Int64) < p4) (hp2 : ¬ p7 < (1 : Int64)) (hx14 : ¬ (0 : Int64) < (p2 - p8)) :
    KMet l (⟨"com/example/halter/halter/SlidingSum", "catchUp", "(J)V"⟩ : MethodName) prog_20_method_7_code 3 none ws R8_32 #[(.ref a1), (.long p2)] Z h0 R8_32.cells R8_32.slots (Q8_32 Z a1 a3 a5 a6 p2 p4 p7 p8 k9 k10 h0 n0) := by
 refine k_body (plainFor_of_name pn_1) (fun m => ef8_7 m a1 p2) ?_
 intro p e s m below meth c s₁ hx D hml hlk hret hown hnm hZ X0 e0
 have N0 := Fr.nil n0
 obtain ⟨f0, f1, f2⟩ := B0
 obtain ⟨f3, f4, f5, f6, f7, f8, f9, f10, f11, f12⟩ := B2
 refine k_aloadN X0 hx 1 (D d8_0) rfl rfl ?_
 refine k_getF1 X0 hx hZ hown 4 (k_w hw 53 rfl) e0 f8 (D d8_1) (fun T101 X101 e101 => ?_)
 refine k_if_eq X101 hx 7 18 (D d8_4) (fun hc => absurd hc (by decide)) (fun _ => ?_)
 refine k_lloadN X101 hx 8 (D d8_7) rfl ?_
 refine k_aloadN X101 hx 9 (D d8_8) rfl rfl ?_
 refine k_getF1 X101 hx hZ hown 12 (k_w hw 55 rfl) e101 f9 (D d8_9) (fun T102 X102 e102 => ?_)
 refine k_lsub X102 hx 13 (D d8_12) (fun v103 hv103 => ?_)
 refine k_lconst X102 hx 14 (D d8_13) (z := (0 : Int64)) rfl ?_
 refine k_lcif_le X102 hx 18 28 15 (D d8_14) (D d8_15) (fun _ => ?_) (fun hc => absurd hc (by rw [hv103]; exact hx14))
 refine k_aloadN X102 hx 29 (D d8_28) rfl rfl ?_
 refine k_callP X102 hx hZ hown 32 (a := a1) (k_w hw 57 rfl) (k_w hw 58 rfl) (k_w hw 59 rfl) (k_w hw 22 rfl) (k_w hw 23 rfl) (k_w hw 60 rfl) (by decide) f3 (rm9_8 l Z a0 hw [] a1 a3 a5 a6 p4 p7 p8 k9 k10 h0 n0 Z0 ⟨f0, f1, f2⟩ g_a3 ⟨f3, f4, f5, f6, f7, f8, f9, f10, f11, f12⟩ g_a1 F0_4 g_a5 F0_6 g_a6 lt0_0 lt0_1 lt0_2 hp0 hp1 hp2) (by decide) (by decide) e102 (by rw [hml]; rfl) (argsL := []) (rest := []) (lenOf pd_1 rfl) rfl (W := 0) (Nat.le_refl _) rfl (D d8_29) (by decide) (by decide) (fun T104 L104 r104 X104 q104 => ?_)
 obtain ⟨N104, q104⟩ := q104
 have N104' := Fr.app N0 N104
 obtain ⟨rfl, ⟨F105, F106, F107⟩, ⟨F108, F109, F110, F111, F112, F113, F114, F115, F116, F117⟩, F118, F119, Z120⟩ := q104
 refine k_n0 ?_
 exact k_ret X104 hx hret (D d8_32) hlk (by decide) (by decide) ⟨N104', ⟨rfl, ⟨F105, F106, F107⟩, ⟨F108, F109, F110, F111, F112, F113, F114, F115, F116, F117⟩, F118, F119, Z120⟩⟩
abbrev R12_31 : Room := { frames := 3, cells := 2, slots := 16, locals := 47 }
def Q12_31 (Z : State) (a1 a4 a6 a7 : Addr) (p2 p3 p5 p8 p9 : Int64) (k10 k11 : ClassId) (h0 : Heap) (n0 : Nat) (v : Option Value) (h : Heap) (L : List Loc) : Prop := Fr n0 L /\ ((∃ (v121 : Int32) (b122 : Addr) (k123 : ClassId) (b124 : Addr) (k125 : ClassId), v121 = p5.toInt32 /\ ¬ v121 < (1 : Int32) /\ ¬ (8 : Int32) < v121 /\ v = none /\ BL Z h a4 (.long p5) (.ref a1) /\ BS Z h a1 (.ref b122) (.ref b124) (.long p5) (.long p8) (.int 1) (.long p9) (.int 1) (.long p2) (.int 0) /\ Arv Z h a6 k10 .long (0 : Int32) [] (.long 0) /\ Arv Z h a7 k11 .long (0 : Int32) [] (.long 0) /\ Arv Z h b122 k123 .long v121 [(.long p9), (.long 0)] (.long 0) /\ Arv Z h b124 k125 .long v121 [(.long p2), (.long 0)] (.long 0) /\ n0 <= b122 /\ a7 < b122 /\ n0 <= b124 /\ b122 < b124 /\ n0 <= h.size))
theorem rm12_31 (l : Launch) (Z : State) (a0 : Array Value) (hw : WW a0 Z) (ws : List Jvm.Cond) (a1 a4 a6 a7 : Addr) (p2 p3 p5 p8 p9 : Int64) (k10 k11 : ClassId) (h0 : Heap) (n0 : Nat) (Z0 : n0 <= h0.size) (B0 : BL Z h0 a4 (.long p5) (.ref a1)) (g_a4 : n0 <= a4) (B2 : BS Z h0 a1 (.ref a6) (.ref a7) (.long p5) (.long p8) (.int 1) (.long p9) (.int 0) (.long 0) (.int 0)) (g_a1 : n0 <= a1) (F0_4 : Arv Z h0 a6 k10 .long (0 : Int32) [] (.long 0)) (g_a6 : n0 <= a6) (F0_6 : Arv Z h0 a7 k11 .long (0 : Int32) [] (.long 0)) (g_a7 : n0 <= a7) (lt0_0 : a4 < a1) (lt0_1 : a1 < a6) (lt0_2 : a6 < a7) (hp0 : ¬ p5 < (1 : Int64)) (hp1 : ¬ (8 : Int64) < p5) (hp2 : ¬ p8 < (1 : Int64)) (hp3 : ¬ p2 < (1 : Int64)) (hx15 : ¬ (0 : Int64) < (p3 - p9)) (hx16 : ¬ p5 < p2) :
    KMet l (⟨"com/example/halter/halter/SlidingSum", "add", "(JJ)V"⟩ : MethodName) prog_20_method_3_code 5 none ws R12_31 #[(.ref a1), (.long p2), (.long p3)] Z h0 R12_31.cells R12_31.slots (Q12_31 Z a1 a4 a6 a7 p2 p3 p5 p8 p9 k10 k11 h0 n0) := by
 refine k_body (plainFor_of_name pn_1) (fun m => ef5_4 m a1 p2 p3) ?_
 intro p e s m below meth c s₁ hx D hml hlk hret hown hnm hZ X0 e0
 have N0 := Fr.nil n0
 obtain ⟨f0, f1, f2⟩ := B0
 obtain ⟨f3, f4, f5, f6, f7, f8, f9, f10, f11, f12⟩ := B2
 refine k_aloadN X0 hx 1 (D d12_0) rfl rfl ?_
 refine k_lloadN X0 hx 2 (D d12_1) rfl ?_
 refine k_callP X0 hx hZ hown 5 (a := a1) (k_w hw 49 rfl) (k_w hw 50 rfl) (k_w hw 51 rfl) (k_w hw 22 rfl) (k_w hw 23 rfl) (k_w hw 52 rfl) (by decide) f3 (rm8_32 l Z a0 hw [] a1 a4 a6 a7 p3 p5 p8 p9 k10 k11 h0 n0 Z0 ⟨f0, f1, f2⟩ g_a4 ⟨f3, f4, f5, f6, f7, f8, f9, f10, f11, f12⟩ g_a1 F0_4 g_a6 F0_6 g_a7 lt0_0 lt0_1 lt0_2 hp0 hp1 hp2 hx15) (by decide) (by decide) e0 (by rw [hml]; rfl) (argsL := [(.long p3)]) (rest := []) (lenOf pd_3 rfl) rfl (W := 0) (Nat.le_refl _) rfl (D d12_2) (by decide) (by decide) (fun T101 L101 r101 X101 q101 => ?_)
 obtain ⟨N101, q101⟩ := q101
 have N101' := Fr.app N0 N101
 obtain ⟨rfl, ⟨F102, F103, F104⟩, ⟨F105, F106, F107, F108, F109, F110, F111, F112, F113, F114⟩, F115, F116, Z117⟩ := q101
 refine k_n0 ?_
 refine k_lloadN X101 hx 6 (D d12_5) rfl ?_
 refine k_lconst X101 hx 7 (D d12_6) (z := (1 : Int64)) rfl ?_
 refine k_lcif_lt X101 hx 11 25 8 (D d12_7) (D d12_8) (fun hc => absurd hc hp3) (fun _ => ?_)
 refine k_lloadN X101 hx 12 (D d12_11) rfl ?_
 refine k_aloadN X101 hx 13 (D d12_12) rfl rfl ?_
 refine k_getF1 X101 hx hZ hown 16 (k_w hw 33 rfl) rfl F108 (D d12_13) (fun T118 X118 e118 => ?_)
 refine k_aloadN X118 hx 17 (D d12_16) rfl rfl ?_
 refine k_getF1 X118 hx hZ hown 20 (k_w hw 63 rfl) e118 F113 (D d12_17) (fun T119 X119 e119 => ?_)
 refine k_lsubL X119 hx 21 (D d12_20) (z := p5) (Int64.sub_zero _) ?_
 refine k_lcif_le X119 hx 25 47 22 (D d12_21) (D d12_22) (fun _ => ?_) (fun hc => absurd hc hx16)
 refine k_aloadN X119 hx 48 (D d12_47) rfl rfl ?_
 refine k_lloadN X119 hx 49 (D d12_48) rfl ?_
 refine k_callP X119 hx hZ hown 52 (a := a1) (k_w hw 79 rfl) (k_w hw 80 rfl) (k_w hw 81 rfl) (k_w hw 22 rfl) (k_w hw 23 rfl) (k_w hw 82 rfl) (by decide) F105 (rm13_14 l Z a0 hw [] a1 a4 a6 a7 p2 p5 p8 p9 k10 k11 T101.heap n0 Z117 ⟨F102, F103, F104⟩ g_a4 ⟨F105, F106, F107, F108, F109, F110, F111, F112, F113, F114⟩ g_a1 F115 g_a6 F116 g_a7 lt0_0 lt0_1 lt0_2 hp0 hp1 hp2 hp3) (by decide) (by decide) e119 (by rw [hml]; rfl) (argsL := [(.long p2)]) (rest := []) (lenOf pd_3 rfl) rfl (W := 0) (Nat.le_refl _) rfl (D d12_49) (by decide) (by decide) (fun T120 L120 r120 X120 q120 => ?_)
 obtain ⟨N120, q120⟩ := q120
 have N120' := Fr.app N101' N120
 obtain ⟨v121, b122, k123, b124, k125, h126, hc127, hc128, rfl, ⟨F129, F130, F131⟩, ⟨F132, F133, F134, F135, F136, F137, F138, F139, F140, F141⟩, F142, F143, F144, F145, g_b122, lt146, g_b124, lt147, Z148⟩ := q120
 refine k_n0 ?_
 exact k_ret X120 hx hret (D d12_52) hlk (by decide) (by decide) ⟨N120', ⟨v121, b122, k123, b124, k125, h126, hc127, hc128, rfl, ⟨F129, F130, F131⟩, ⟨F132, F133, F134, F135, F136, F137, F138, F139, F140, F141⟩, F142, F143, F144, F145, g_b122, lt146, g_b124, lt147, Z148⟩⟩
abbrev R10_30 : Room := { frames := 4, cells := 2, slots := 16, locals := 63 }
def Q10_30 (Z : State) (a1 a5 a6 a7 : Addr) (p2 p3 p4 p8 p9 : Int64) (k10 k11 : ClassId) (h0 : Heap) (n0 : Nat) (v : Option Value) (h : Heap) (L : List Loc) : Prop := Fr n0 L /\ ((∃ (v105 : Int64), v105 = p3 - p9 /\ ¬ (0 : Int64) < v105 /\ p4 < p2 /\ v = some (.int 0) /\ BL Z h a1 (.long p4) (.ref a5) /\ BS Z h a5 (.ref a6) (.ref a7) (.long p4) (.long p8) (.int 1) (.long p9) (.int 0) (.long 0) (.int 0) /\ Arv Z h a6 k10 .long (0 : Int32) [] (.long 0) /\ Arv Z h a7 k11 .long (0 : Int32) [] (.long 0) /\ n0 <= h.size) \/ (∃ (v105 : Int64) (v146 : Int32) (b147 : Addr) (k148 : ClassId) (b149 : Addr) (k150 : ClassId), v105 = p3 - p9 /\ v146 = p4.toInt32 /\ ¬ (0 : Int64) < v105 /\ ¬ p4 < p2 /\ ¬ v146 < (1 : Int32) /\ ¬ (8 : Int32) < v146 /\ v = some (.int 1) /\ BL Z h a1 (.long p4) (.ref a5) /\ BS Z h a5 (.ref b147) (.ref b149) (.long p4) (.long p8) (.int 1) (.long p9) (.int 1) (.long p2) (.int 0) /\ Arv Z h a6 k10 .long (0 : Int32) [] (.long 0) /\ Arv Z h a7 k11 .long (0 : Int32) [] (.long 0) /\ Arv Z h b147 k148 .long v146 [(.long p9), (.long 0)] (.long 0) /\ Arv Z h b149 k150 .long v146 [(.long p2), (.long 0)] (.long 0) /\ n0 <= b147 /\ a7 < b147 /\ n0 <= b149 /\ b147 < b149 /\ n0 <= h.size) \/ (∃ (v124 : Int64), v124 = p3 - p9 /\ (0 : Int64) < v124 /\ p4 < p2 /\ v = some (.int 0) /\ BL Z h a1 (.long p4) (.ref a5) /\ BS Z h a5 (.ref a6) (.ref a7) (.long p4) (.long p8) (.int 1) (.long p3) (.int 0) (.long 0) (.int 0) /\ Arv Z h a6 k10 .long (0 : Int32) [] (.long 0) /\ Arv Z h a7 k11 .long (0 : Int32) [] (.long 0) /\ n0 <= h.size) \/ (∃ (v124 : Int64) (v177 : Int32) (b178 : Addr) (k179 : ClassId) (b180 : Addr) (k181 : ClassId), v124 = p3 - p9 /\ v177 = p4.toInt32 /\ (0 : Int64) < v124 /\ ¬ p4 < p2 /\ ¬ v177 < (1 : Int32) /\ ¬ (8 : Int32) < v177 /\ v = some (.int 1) /\ BL Z h a1 (.long p4) (.ref a5) /\ BS Z h a5 (.ref b178) (.ref b180) (.long p4) (.long p8) (.int 1) (.long p3) (.int 1) (.long p2) (.int 0) /\ Arv Z h a6 k10 .long (0 : Int32) [] (.long 0) /\ Arv Z h a7 k11 .long (0 : Int32) [] (.long 0) /\ Arv Z h b178 k179 .long v177 [(.long p3), (.long 0)] (.long 0) /\ Arv Z h b180 k181 .long v177 [(.long p2), (.long 0)] (.long 0) /\ n0 <= b178 /\ a7 < b178 /\ n0 <= b180 /\ b178 < b180 /\ n0 <= h.size))
theorem rm10_30 (l : Launch) (Z : State) (a0 : Array Value) (hw : WW a0 Z) (ws : List Jvm.Cond) (a1 a5 a6 a7 : Addr) (p2 p3 p4 p8 p9 : Int64) (k10 k11 : ClassId) (h0 : Heap) (n0 : Nat) (Z0 : n0 <= h0.size) (B0 : BL Z h0 a1 (.long p4) (.ref a5)) (g_a1 : n0 <= a1) (B2 : BS Z h0 a5 (.ref a6) (.ref a7) (.long p4) (.long p8) (.int 1) (.long p9) (.int 0) (.long 0) (.int 0)) (g_a5 : n0 <= a5) (F0_4 : Arv Z h0 a6 k10 .long (0 : Int32) [] (.long 0)) (g_a6 : n0 <= a6) (F0_6 : Arv Z h0 a7 k11 .long (0 : Int32) [] (.long 0)) (g_a7 : n0 <= a7) (lt0_0 : a1 < a5) (lt0_1 : a5 < a6) (lt0_2 : a6 < a7) (hp0 : ¬ p4 < (1 : Int64)) (hp1 : ¬ (8 : Int64) < p4) (hp2 : ¬ p8 < (1 : Int64)) (hp3 : ¬ p2 < (1 : Int64)) :
    KMet l (⟨"com/example/halter/halter/SlidingLogLimiter$Log", "tryAcquire", "(JJ)Z"⟩ : MethodName) prog_18_method_2_code 6 (some .boolean) ws R10_30 #[(.ref a1), (.long p2), (.long p3)] Z h0 R10_30.cells R10_30.slots (Q10_30 Z a1 a5 a6 a7 p2 p3 p4 p8 p9 k10 k11 h0 n0) := by
 refine k_body (plainFor_of_name pn_2) (fun m => ef10_10 m a1 p2 p3) ?_
 intro p e s m below meth c s₁ hx D hml hlk hret hown hnm hZ X0 e0
 have N0 := Fr.nil n0
 obtain ⟨f0, f1, f2⟩ := B0
 obtain ⟨f3, f4, f5, f6, f7, f8, f9, f10, f11, f12⟩ := B2
 refine k_lloadN X0 hx 1 (D d10_0) rfl ?_
 refine k_callS X0 hx hZ hown 4 (k_w hw 70 rfl) (k_w hw 71 rfl) (k_w hw 72 rfl) (k_w hw 73 rfl) (by decide) (rm11_11 l Z a0 hw [] p2 h0 n0 Z0 hp3) (by decide) (by decide) e0 (by rw [hml]; rfl) (argsL := [(.long p2)]) (rest := []) (lenOf pd_3 rfl) rfl (W := 0) (Nat.le_refl _) rfl (D d10_1) (by decide) (by decide) (fun T101 L101 r101 X101 q101 => ?_)
 obtain ⟨N101, e101, q101⟩ := q101
 have N101' := Fr.app N0 N101
 obtain rfl := q101
 refine k_n0 ?_
 refine k_lloadN X101 hx 5 (D d10_4) rfl ?_
 refine k_aloadN X101 hx 6 (D d10_5) rfl rfl ?_
 refine k_getF1 X101 hx hZ hown 9 (k_w hw 19 rfl) e101 f1 (D d10_6) (fun T102 X102 e102 => ?_)
 refine k_aloadN X102 hx 10 (D d10_9) rfl rfl ?_
 refine k_getF1 X102 hx hZ hown 13 (k_w hw 37 rfl) e102 f2 (D d10_10) (fun T103 X103 e103 => ?_)
 refine k_lloadN X103 hx 14 (D d10_13) rfl ?_
 refine k_callV X103 hx hZ hown 17 (a := a5) (k_w hw 44 rfl) (k_w hw 45 rfl) (k_w hw 47 rfl) (k_w hw 46 rfl) (k_w hw 23 rfl) (k_w hw 48 rfl) (by decide) f3 (rm7_22 l Z a0 hw [] a5 a1 a6 a7 p3 p4 p8 p9 k10 k11 h0 n0 Z0 ⟨f0, f1, f2⟩ g_a1 ⟨f3, f4, f5, f6, f7, f8, f9, f10, f11, f12⟩ g_a5 F0_4 g_a6 F0_6 g_a7 lt0_0 lt0_1 lt0_2 hp0 hp1 hp2) (by decide) (by decide) e103 (by rw [hml]; rfl) (argsL := [(.long p3)]) (rest := [(.long p4), (.long p2)]) (lenOf pd_4 rfl) rfl (W := 4) (Nat.le_refl _) rfl (D d10_14) (by decide) (by decide) (fun T104 L104 r104 X104 q104 => ?_)
 obtain ⟨N104, q104⟩ := q104
 have N104' := Fr.app N101' N104
 rcases q104 with ⟨v105, h106, hc107, rfl, ⟨F108, F109, F110⟩, ⟨F111, F112, F113, F114, F115, F116, F117, F118, F119, F120⟩, F121, F122, Z123⟩ | ⟨v124, h125, hc126, rfl, ⟨F127, F128, F129⟩, ⟨F130, F131, F132, F133, F134, F135, F136, F137, F138, F139⟩, F140, F141, Z142⟩
 ·
  refine k_n1 ?_
  refine k_lsubL X104 hx 18 (D d10_17) (z := p4) (Int64.sub_zero _) ?_
  refine k_lcif_gt X104 hx 22 26 19 (D d10_18) (D d10_19) (fun hc143 => ?_) (fun hc143 => ?_)
  ·
   refine k_iconst X104 hx 27 (D d10_26) (z := (0 : Int32)) rfl ?_
   refine k_istore X104 hx 29 (D d10_27) (Ls' := #[rv a1, jv p2, s_, jv p3, s_, iv 0]) rfl ?_
   refine k_iload X104 hx 31 (D d10_29) rfl ?_
   refine k_if_eq X104 hx 34 43 (D d10_31) (fun _ => ?_) (fun hc => absurd (by decide) hc)
   refine k_iload X104 hx 45 (D d10_43) rfl ?_
   exact k_retN X104 hx (t := .boolean) hret (by simp) (D d10_45) hlk (by decide) (by decide) (z' := (0 : Int32)) rfl ⟨N104', (Or.inl ⟨v105, h106, hc107, hc143, rfl, ⟨F108, F109, F110⟩, ⟨F111, F112, F113, F114, F115, F116, F117, F118, F119, F120⟩, F121, F122, Z123⟩)⟩
  ·
   refine k_iconst X104 hx 23 (D d10_22) (z := (1 : Int32)) rfl ?_
   refine k_goto X104 hx 27 (D d10_23) ?_
   refine k_istore X104 hx 29 (D d10_27) (Ls' := #[rv a1, jv p2, s_, jv p3, s_, iv 1]) rfl ?_
   refine k_iload X104 hx 31 (D d10_29) rfl ?_
   refine k_if_eq X104 hx 34 43 (D d10_31) (fun hc => absurd hc (by decide)) (fun _ => ?_)
   refine k_aloadN X104 hx 35 (D d10_34) rfl rfl ?_
   refine k_getF1 X104 hx hZ hown 38 (k_w hw 37 rfl) rfl F110 (D d10_35) (fun T144 X144 e144 => ?_)
   refine k_lloadN X144 hx 39 (D d10_38) rfl ?_
   refine k_lloadN X144 hx 40 (D d10_39) rfl ?_
   refine k_callV X144 hx hZ hown 43 (a := a5) (k_w hw 74 rfl) (k_w hw 75 rfl) (k_w hw 77 rfl) (k_w hw 76 rfl) (k_w hw 23 rfl) (k_w hw 78 rfl) (by decide) F111 (rm12_31 l Z a0 hw [] a5 a1 a6 a7 p2 p3 p4 p8 p9 k10 k11 T104.heap n0 Z123 ⟨F108, F109, F110⟩ g_a1 ⟨F111, F112, F113, F114, F115, F116, F117, F118, F119, F120⟩ g_a5 F121 g_a6 F122 g_a7 lt0_0 lt0_1 lt0_2 hp0 hp1 hp2 hp3 (by have q := hc107; rw [h106] at q; exact q) hc143) (by decide) (by decide) e144 (by rw [hml]; rfl) (argsL := [(.long p2), (.long p3)]) (rest := []) (lenOf pd_2 rfl) rfl (W := 0) (Nat.le_refl _) rfl (D d10_40) (by decide) (by decide) (fun T145 L145 r145 X145 q145 => ?_)
   obtain ⟨N145, q145⟩ := q145
   have N145' := Fr.app N104' N145
   obtain ⟨v146, b147, k148, b149, k150, h151, hc152, hc153, rfl, ⟨F154, F155, F156⟩, ⟨F157, F158, F159, F160, F161, F162, F163, F164, F165, F166⟩, F167, F168, F169, F170, g_b147, lt171, g_b149, lt172, Z173⟩ := q145
   refine k_n0 ?_
   refine k_iload X145 hx 45 (D d10_43) rfl ?_
   exact k_retN X145 hx (t := .boolean) hret (by simp) (D d10_45) hlk (by decide) (by decide) (z' := (1 : Int32)) rfl ⟨N145', (Or.inr (Or.inl ⟨v105, v146, b147, k148, b149, k150, h106, h151, hc107, hc143, hc152, hc153, rfl, ⟨F154, F155, F156⟩, ⟨F157, F158, F159, F160, F161, F162, F163, F164, F165, F166⟩, F167, F168, F169, F170, g_b147, lt171, g_b149, lt172, Z173⟩))⟩
 ·
  refine k_n1 ?_
  refine k_lsubL X104 hx 18 (D d10_17) (z := p4) (Int64.sub_zero _) ?_
  refine k_lcif_gt X104 hx 22 26 19 (D d10_18) (D d10_19) (fun hc174 => ?_) (fun hc174 => ?_)
  ·
   refine k_iconst X104 hx 27 (D d10_26) (z := (0 : Int32)) rfl ?_
   refine k_istore X104 hx 29 (D d10_27) (Ls' := #[rv a1, jv p2, s_, jv p3, s_, iv 0]) rfl ?_
   refine k_iload X104 hx 31 (D d10_29) rfl ?_
   refine k_if_eq X104 hx 34 43 (D d10_31) (fun _ => ?_) (fun hc => absurd (by decide) hc)
   refine k_iload X104 hx 45 (D d10_43) rfl ?_
   exact k_retN X104 hx (t := .boolean) hret (by simp) (D d10_45) hlk (by decide) (by decide) (z' := (0 : Int32)) rfl ⟨N104', (Or.inr (Or.inr (Or.inl ⟨v124, h125, hc126, hc174, rfl, ⟨F127, F128, F129⟩, ⟨F130, F131, F132, F133, F134, F135, F136, F137, F138, F139⟩, F140, F141, Z142⟩)))⟩
  ·
   refine k_iconst X104 hx 23 (D d10_22) (z := (1 : Int32)) rfl ?_
   refine k_goto X104 hx 27 (D d10_23) ?_
   refine k_istore X104 hx 29 (D d10_27) (Ls' := #[rv a1, jv p2, s_, jv p3, s_, iv 1]) rfl ?_
   refine k_iload X104 hx 31 (D d10_29) rfl ?_
   refine k_if_eq X104 hx 34 43 (D d10_31) (fun hc => absurd hc (by decide)) (fun _ => ?_)
   refine k_aloadN X104 hx 35 (D d10_34) rfl rfl ?_
   refine k_getF1 X104 hx hZ hown 38 (k_w hw 37 rfl) rfl F129 (D d10_35) (fun T175 X175 e175 => ?_)
   refine k_lloadN X175 hx 39 (D d10_38) rfl ?_
   refine k_lloadN X175 hx 40 (D d10_39) rfl ?_
   refine k_callV X175 hx hZ hown 43 (a := a5) (k_w hw 74 rfl) (k_w hw 75 rfl) (k_w hw 77 rfl) (k_w hw 76 rfl) (k_w hw 23 rfl) (k_w hw 78 rfl) (by decide) F130 (rm12_12 l Z a0 hw [] a5 a1 a6 a7 p2 p3 p4 p8 k10 k11 T104.heap n0 Z142 ⟨F127, F128, F129⟩ g_a1 ⟨F130, F131, F132, F133, F134, F135, F136, F137, F138, F139⟩ g_a5 F140 g_a6 F141 g_a7 lt0_0 lt0_1 lt0_2 hp0 hp1 hp2 hp3 hc174) (by decide) (by decide) e175 (by rw [hml]; rfl) (argsL := [(.long p2), (.long p3)]) (rest := []) (lenOf pd_2 rfl) rfl (W := 0) (Nat.le_refl _) rfl (D d10_40) (by decide) (by decide) (fun T176 L176 r176 X176 q176 => ?_)
   obtain ⟨N176, q176⟩ := q176
   have N176' := Fr.app N104' N176
   obtain ⟨v177, b178, k179, b180, k181, h182, hc183, hc184, rfl, ⟨F185, F186, F187⟩, ⟨F188, F189, F190, F191, F192, F193, F194, F195, F196, F197⟩, F198, F199, F200, F201, g_b178, lt202, g_b180, lt203, Z204⟩ := q176
   refine k_n0 ?_
   refine k_iload X176 hx 45 (D d10_43) rfl ?_
   exact k_retN X176 hx (t := .boolean) hret (by simp) (D d10_45) hlk (by decide) (by decide) (z' := (1 : Int32)) rfl ⟨N176', (Or.inr (Or.inr (Or.inr ⟨v124, v177, b178, k179, b180, k181, h125, h182, hc126, hc174, hc183, hc184, rfl, ⟨F185, F186, F187⟩, ⟨F188, F189, F190, F191, F192, F193, F194, F195, F196, F197⟩, F198, F199, F200, F201, g_b178, lt202, g_b180, lt203, Z204⟩)))⟩
abbrev R9_36 : Room := { frames := 0, cells := 0, slots := 0, locals := 0 }
def Q9_36 (Z : State) (a1 a2 a4 a5 : Addr) (p3 p6 p7 p8 : Int64) (k9 k11 : ClassId) (p10 : Int32) (h0 : Heap) (n0 : Nat) (v : Option Value) (h : Heap) (L : List Loc) : Prop := Fr n0 L /\ ((v = none /\ BL Z h a2 (.long p3) (.ref a1) /\ BS Z h a1 (.ref a4) (.ref a5) (.long p3) (.long p6) (.int 1) (.long p7) (.int 1) (.long p8) (.int 0) /\ Arv Z h a4 k9 .long p10 [(.long p7), (.long 0)] (.long 0) /\ Arv Z h a5 k11 .long p10 [(.long p8), (.long 0)] (.long 0) /\ n0 <= h.size))
theorem rm9_36 (l : Launch) (Z : State) (a0 : Array Value) (hw : WW a0 Z) (ws : List Jvm.Cond) (a1 a2 a4 a5 : Addr) (p3 p6 p7 p8 : Int64) (k9 k11 : ClassId) (p10 : Int32) (h0 : Heap) (n0 : Nat) (Z0 : n0 <= h0.size) (B0 : BL Z h0 a2 (.long p3) (.ref a1)) (g_a2 : n0 <= a2) (B2 : BS Z h0 a1 (.ref a4) (.ref a5) (.long p3) (.long p6) (.int 1) (.long p7) (.int 1) (.long p8) (.int 0)) (g_a1 : n0 <= a1) (F0_4 : Arv Z h0 a4 k9 .long p10 [(.long p7), (.long 0)] (.long 0)) (g_a4 : n0 <= a4) (F0_6 : Arv Z h0 a5 k11 .long p10 [(.long p8), (.long 0)] (.long 0)) (g_a5 : n0 <= a5) (lt0_0 : a2 < a1) (lt0_1 : a1 < a4) (lt0_2 : a4 < a5) (hp0 : ¬ p3 < (1 : Int64)) (hp1 : ¬ (8 : Int64) < p3) (hp2 : ¬ p6 < (1 : Int64)) (hp3 : ¬ p10 < (1 : Int32)) (hp4 : ¬ (8 : Int32) < p10) (hd16 : p10 = p3.toInt32) (hx17 : ¬ (p3.toInt32) < (1 : Int32)) (hx18 : ¬ (8 : Int32) < (p3.toInt32)) (hx19 : ¬ p8 < (1 : Int64)) :
    KMet l (⟨"com/example/halter/halter/SlidingSum", "forgetWhatLeftTheWindow", "()V"⟩ : MethodName) prog_20_method_8_code 2 none ws R9_36 #[(.ref a1)] Z h0 R9_36.cells R9_36.slots (Q9_36 Z a1 a2 a4 a5 p3 p6 p7 p8 k9 k11 p10 h0 n0) := by
 refine k_body (plainFor_of_name pn_1) (fun m => ef9_8 m a1) ?_
 intro p e s m below meth c s₁ hx D hml hlk hret hown hnm hZ X0 e0
 have N0 := Fr.nil n0
 obtain ⟨f0, f1, f2⟩ := B0
 obtain ⟨f3, f4, f5, f6, f7, f8, f9, f10, f11, f12⟩ := B2
 refine k_aloadN X0 hx 1 (D d9_0) rfl rfl ?_
 refine k_getF1 X0 hx hZ hown 4 (k_w hw 61 rfl) e0 f10 (D d9_1) (fun T101 X101 e101 => ?_)
 refine k_if_le X101 hx 7 69 (D d9_4) (fun hc => absurd (by decide) hc) (fun _ => ?_)
 refine k_aloadN X101 hx 8 (D d9_7) rfl rfl ?_
 refine k_getF1 X101 hx hZ hown 11 (k_w hw 55 rfl) e101 f9 (D d9_8) (fun T102 X102 e102 => ?_)
 refine k_aloadN X102 hx 12 (D d9_11) rfl rfl ?_
 refine k_getF1 X102 hx hZ hown 15 (k_w hw 29 rfl) e102 f4 (D d9_12) (fun T103 X103 e103 => ?_)
 refine k_aloadN X103 hx 16 (D d9_15) rfl rfl ?_
 refine k_getF1 X103 hx hZ hown 19 (k_w hw 99 rfl) e103 f12 (D d9_16) (fun T104 X104 e104 => ?_)
 refine k_laload X104 hx hZ 20 e104 F0_4 ⟨by decide, (Classical.byContradiction (fun hq105 => by have B106 : (1 : Int) <= p3.toInt /\ p3.toInt <= 8 := ⟨kL_ge hp0 (by decide), kL_le hp1 (by decide)⟩; have B107 : (1 : Int) <= p6.toInt /\ p6.toInt <= 9223372036854775807 := ⟨kL_ge hp2 (by decide), Int.le_of_lt_add_one (rng64 p6).2⟩; have q109 : p10.toInt = p3.toInt := k_l2ix hd16 B106 (by decide) (by decide); have B108 : (1 : Int) <= p10.toInt /\ p10.toInt <= 8 := (by rw [q109]; exact B106); have B110 : (1 : Int) <= p10.toInt /\ p10.toInt <= 0 := ⟨B108.1, k_le hq105 (by decide)⟩; have B111 : (1 : Int) <= (p3.toInt32).toInt /\ (p3.toInt32).toInt <= 8 := ⟨k_ge hx17 (by decide), k_le hx18 (by decide)⟩; have B112 : (1 : Int) <= p8.toInt /\ p8.toInt <= 9223372036854775807 := ⟨kL_ge hx19 (by decide), Int.le_of_lt_add_one (rng64 p8).2⟩; omega))⟩ (v := (.long p7)) rfl (D d9_19) ?_
 refine k_lsubL X104 hx 21 (D d9_20) (z := (0 : Int64)) (Int64.sub_self _) ?_
 refine k_aloadN X104 hx 22 (D d9_21) rfl rfl ?_
 refine k_getF1 X104 hx hZ hown 25 (k_w hw 35 rfl) e104 f7 (D d9_22) (fun T113 X113 e113 => ?_)
 refine k_lcif_lt X113 hx 29 69 26 (D d9_25) (D d9_26) (fun _ => ?_) (fun hc => absurd (k_dL_alt_nxlt hp2 (by decide)) hc)
 refine k_aloadN X113 hx 70 (D d9_69) rfl rfl ?_
 refine k_getF1 X113 hx hZ hown 73 (k_w hw 29 rfl) e113 f4 (D d9_70) (fun T114 X114 e114 => ?_)
 refine k_alen X114 hx hZ 74 e114 F0_4 (D d9_73) ?_
 refine k_istoreN X114 hx 75 (D d9_74) (Ls' := #[rv a1, iv p10]) rfl ?_
 refine k_iloadN X114 hx 76 (D d9_75) rfl ?_
 refine k_bipush X114 hx 78 (D d9_76) (z := (8 : Int32)) rfl ?_
 refine k_icmp_le X114 hx 81 98 (D d9_78) (fun _ => ?_) (fun hc => absurd hc hp4)
 refine k_iloadN X114 hx 99 (D d9_98) rfl ?_
 refine k_aloadN X114 hx 100 (D d9_99) rfl rfl ?_
 refine k_getF1 X114 hx hZ hown 103 (k_w hw 29 rfl) e114 f4 (D d9_100) (fun T115 X115 e115 => ?_)
 refine k_alen X115 hx hZ 104 e115 F0_4 (D d9_103) ?_
 refine k_icmp_eq X115 hx 107 112 (D d9_104) (fun _ => ?_) (fun hc => absurd rfl hc)
 exact k_ret X115 hx hret (D d9_112) hlk (by decide) (by decide) (by rw [e115]; exact ⟨N0, ⟨rfl, ⟨f0, f1, f2⟩, ⟨f3, f4, f5, f6, f7, f8, f9, f10, f11, f12⟩, F0_4, F0_6, Z0⟩⟩)
abbrev R8_35 : Room := { frames := 1, cells := 0, slots := 0, locals := 13 }
def Q8_35 (Z : State) (a1 a3 a5 a6 : Addr) (p2 p4 p7 p8 p9 : Int64) (k10 k12 : ClassId) (p11 : Int32) (h0 : Heap) (n0 : Nat) (v : Option Value) (h : Heap) (L : List Loc) : Prop := Fr n0 L /\ ((v = none /\ BL Z h a3 (.long p4) (.ref a1) /\ BS Z h a1 (.ref a5) (.ref a6) (.long p4) (.long p7) (.int 1) (.long p8) (.int 1) (.long p9) (.int 0) /\ Arv Z h a5 k10 .long p11 [(.long p8), (.long 0)] (.long 0) /\ Arv Z h a6 k12 .long p11 [(.long p9), (.long 0)] (.long 0) /\ n0 <= h.size))
theorem rm8_35 (l : Launch) (Z : State) (a0 : Array Value) (hw : WW a0 Z) (ws : List Jvm.Cond) (a1 a3 a5 a6 : Addr) (p2 p4 p7 p8 p9 : Int64) (k10 k12 : ClassId) (p11 : Int32) (h0 : Heap) (n0 : Nat) (Z0 : n0 <= h0.size) (B0 : BL Z h0 a3 (.long p4) (.ref a1)) (g_a3 : n0 <= a3) (B2 : BS Z h0 a1 (.ref a5) (.ref a6) (.long p4) (.long p7) (.int 1) (.long p8) (.int 1) (.long p9) (.int 0)) (g_a1 : n0 <= a1) (F0_4 : Arv Z h0 a5 k10 .long p11 [(.long p8), (.long 0)] (.long 0)) (g_a5 : n0 <= a5) (F0_6 : Arv Z h0 a6 k12 .long p11 [(.long p9), (.long 0)] (.long 0)) (g_a6 : n0 <= a6) (lt0_0 : a3 < a1) (lt0_1 : a1 < a5) (lt0_2 : a5 < a6) (hp0 : ¬ p4 < (1 : Int64)) (hp1 : ¬ (8 : Int64) < p4) (hp2 : ¬ p7 < (1 : Int64)) (hp3 : ¬ p11 < (1 : Int32)) (hp4 : ¬ (8 : Int32) < p11) (hd16 : p11 = p4.toInt32) (hx17 : ¬ (p4.toInt32) < (1 : Int32)) (hx18 : ¬ (8 : Int32) < (p4.toInt32)) (hx19 : ¬ p9 < (1 : Int64)) (hx20 : ¬ (0 : Int64) < (p2 - p8)) :
    KMet l (⟨"com/example/halter/halter/SlidingSum", "catchUp", "(J)V"⟩ : MethodName) prog_20_method_7_code 3 none ws R8_35 #[(.ref a1), (.long p2)] Z h0 R8_35.cells R8_35.slots (Q8_35 Z a1 a3 a5 a6 p2 p4 p7 p8 p9 k10 k12 p11 h0 n0) := by
 refine k_body (plainFor_of_name pn_1) (fun m => ef8_7 m a1 p2) ?_
 intro p e s m below meth c s₁ hx D hml hlk hret hown hnm hZ X0 e0
 have N0 := Fr.nil n0
 obtain ⟨f0, f1, f2⟩ := B0
 obtain ⟨f3, f4, f5, f6, f7, f8, f9, f10, f11, f12⟩ := B2
 refine k_aloadN X0 hx 1 (D d8_0) rfl rfl ?_
 refine k_getF1 X0 hx hZ hown 4 (k_w hw 53 rfl) e0 f8 (D d8_1) (fun T101 X101 e101 => ?_)
 refine k_if_eq X101 hx 7 18 (D d8_4) (fun hc => absurd hc (by decide)) (fun _ => ?_)
 refine k_lloadN X101 hx 8 (D d8_7) rfl ?_
 refine k_aloadN X101 hx 9 (D d8_8) rfl rfl ?_
 refine k_getF1 X101 hx hZ hown 12 (k_w hw 55 rfl) e101 f9 (D d8_9) (fun T102 X102 e102 => ?_)
 refine k_lsub X102 hx 13 (D d8_12) (fun v103 hv103 => ?_)
 refine k_lconst X102 hx 14 (D d8_13) (z := (0 : Int64)) rfl ?_
 refine k_lcif_le X102 hx 18 28 15 (D d8_14) (D d8_15) (fun _ => ?_) (fun hc => absurd hc (by rw [hv103]; exact hx20))
 refine k_aloadN X102 hx 29 (D d8_28) rfl rfl ?_
 refine k_callP X102 hx hZ hown 32 (a := a1) (k_w hw 57 rfl) (k_w hw 58 rfl) (k_w hw 59 rfl) (k_w hw 22 rfl) (k_w hw 23 rfl) (k_w hw 60 rfl) (by decide) f3 (rm9_36 l Z a0 hw [] a1 a3 a5 a6 p4 p7 p8 p9 k10 k12 p11 h0 n0 Z0 ⟨f0, f1, f2⟩ g_a3 ⟨f3, f4, f5, f6, f7, f8, f9, f10, f11, f12⟩ g_a1 F0_4 g_a5 F0_6 g_a6 lt0_0 lt0_1 lt0_2 hp0 hp1 hp2 hp3 hp4 hd16 (by have q := hp3; rw [hd16] at q; exact q) (by have q := hp4; rw [hd16] at q; exact q) hx19) (by decide) (by decide) e102 (by rw [hml]; rfl) (argsL := []) (rest := []) (lenOf pd_1 rfl) rfl (W := 0) (Nat.le_refl _) rfl (D d8_29) (by decide) (by decide) (fun T104 L104 r104 X104 q104 => ?_)
 obtain ⟨N104, q104⟩ := q104
 have N104' := Fr.app N0 N104
 obtain ⟨rfl, ⟨F105, F106, F107⟩, ⟨F108, F109, F110, F111, F112, F113, F114, F115, F116, F117⟩, F118, F119, Z120⟩ := q104
 refine k_n0 ?_
 exact k_ret X104 hx hret (D d8_32) hlk (by decide) (by decide) ⟨N104', ⟨rfl, ⟨F105, F106, F107⟩, ⟨F108, F109, F110, F111, F112, F113, F114, F115, F116, F117⟩, F118, F119, Z120⟩⟩
theorem d13_7 : decode c13 7 = .ok (.aload_n 0, 1) := by decide +kernel
theorem d13_8 : decode c13 8 = .ok (.getfield 7, 3) := by decide +kernel
theorem d13_11 : decode c13 11 = .ok (.aload_n 0, 1) := by decide +kernel
theorem d13_12 : decode c13 12 = .ok (.aload_n 0, 1) := by decide +kernel
theorem d13_13 : decode c13 13 = .ok (.getfield 45, 3) := by decide +kernel
theorem d13_16 : decode c13 16 = .ok (.iconst 1, 1) := by decide +kernel
theorem d13_17 : decode c13 17 = .ok (.isub, 1) := by decide +kernel
theorem d13_18 : decode c13 18 = .ok (.invokevirtual 62, 3) := by decide +kernel
abbrev R17_38 : Room := { frames := 0, cells := 0, slots := 0, locals := 0 }
def Q17_38 (Z : State) (a1 a2 a3 : Addr) (p4 p5 p6 p7 : Int64) (k8 k10 : ClassId) (p9 : Int32) (h0 : Heap) (n0 : Nat) (v : Option Value) (h : Heap) (L : List Loc) : Prop := Fr n0 L /\ h = h0 /\ ((v = some (.int 0)))
theorem rm17_38 (l : Launch) (Z : State) (a0 : Array Value) (hw : WW a0 Z) (ws : List Jvm.Cond) (a1 a2 a3 : Addr) (p4 p5 p6 p7 : Int64) (k8 k10 : ClassId) (p9 : Int32) (h0 : Heap) (n0 : Nat) (Z0 : n0 <= h0.size) (B0 : BS Z h0 a1 (.ref a2) (.ref a3) (.long p4) (.long p5) (.int 1) (.long p6) (.int 1) (.long p7) (.int 0)) (F0_1 : Arv Z h0 a2 k8 .long p9 [(.long p6), (.long 0)] (.long 0)) (F0_2 : Arv Z h0 a3 k10 .long p9 [(.long p7), (.long 0)] (.long 0)) (lt0_0 : a1 < a2) (lt0_1 : a2 < a3) (hp0 : ¬ p4 < (1 : Int64)) (hp1 : ¬ (8 : Int64) < p4) (hp2 : ¬ p5 < (1 : Int64)) (hp3 : ¬ p9 < (1 : Int32)) (hp4 : ¬ (8 : Int32) < p9) (hd10 : p9 = p4.toInt32) :
    KMet l (⟨"com/example/halter/halter/SlidingSum", "place", "(I)I"⟩ : MethodName) prog_20_method_12_code 3 (some .int) ws R17_38 #[(.ref a1), (.int 0)] Z h0 R17_38.cells R17_38.slots (Q17_38 Z a1 a2 a3 p4 p5 p6 p7 k8 k10 p9 h0 n0) := by
 refine k_body (plainFor_of_name pn_1) (fun m => ef17_20 m a1) ?_
 intro p e s m below meth c s₁ hx D hml hlk hret hown hnm hZ X0 e0
 have N0 := Fr.nil n0
 obtain ⟨f0, f1, f2, f3, f4, f5, f6, f7, f8, f9⟩ := B0
 refine k_aloadN X0 hx 1 (D d17_0) rfl rfl ?_
 refine k_getF1 X0 hx hZ hown 4 (k_w hw 99 rfl) e0 f9 (D d17_1) (fun T101 X101 e101 => ?_)
 refine k_iloadN X101 hx 5 (D d17_4) rfl ?_
 refine k_iaddL X101 hx 6 (D d17_5) (z := (0 : Int32)) (by decide) ?_
 refine k_istoreN X101 hx 7 (D d17_6) (Ls' := #[rv a1, iv 0, iv 0]) rfl ?_
 refine k_iloadN X101 hx 8 (D d17_7) rfl ?_
 refine k_aloadN X101 hx 9 (D d17_8) rfl rfl ?_
 refine k_getF1 X101 hx hZ hown 12 (k_w hw 29 rfl) e101 f1 (D d17_9) (fun T102 X102 e102 => ?_)
 refine k_alen X102 hx hZ 13 e102 F0_1 (D d17_12) ?_
 refine k_icmp_ge X102 hx 16 20 (D d17_13) (fun hc => absurd (k_d_alt_nxlt hp3 (by decide)) hc) (fun _ => ?_)
 refine k_iloadN X102 hx 17 (D d17_16) rfl ?_
 refine k_goto X102 hx 27 (D d17_17) ?_
 exact k_retI X102 hx hret (D d17_27) hlk (by decide) (by decide) ⟨N0, e102, rfl⟩
theorem d13_21 : decode c13 21 = .ok (.laload, 1) := by decide +kernel
theorem d13_22 : decode c13 22 = .ok (.aload_n 0, 1) := by decide +kernel
theorem d13_23 : decode c13 23 = .ok (.getfield 53, 3) := by decide +kernel
theorem d13_26 : decode c13 26 = .ok (.lcmp, 1) := by decide +kernel
theorem d13_27 : decode c13 27 = .ok (.ifCond .ne 25, 3) := by decide +kernel
theorem d13_30 : decode c13 30 = .ok (.aload_n 0, 1) := by decide +kernel
theorem d13_31 : decode c13 31 = .ok (.getfield 13, 3) := by decide +kernel
theorem d13_34 : decode c13 34 = .ok (.aload_n 0, 1) := by decide +kernel
theorem d13_35 : decode c13 35 = .ok (.aload_n 0, 1) := by decide +kernel
theorem d13_36 : decode c13 36 = .ok (.getfield 45, 3) := by decide +kernel
theorem d13_39 : decode c13 39 = .ok (.iconst 1, 1) := by decide +kernel
theorem d13_40 : decode c13 40 = .ok (.isub, 1) := by decide +kernel
theorem d13_41 : decode c13 41 = .ok (.invokevirtual 62, 3) := by decide +kernel
theorem d13_44 : decode c13 44 = .ok (.dup2, 1) := by decide +kernel
theorem d13_45 : decode c13 45 = .ok (.laload, 1) := by decide +kernel
theorem d13_46 : decode c13 46 = .ok (.lload_n 1, 1) := by decide +kernel
theorem d13_47 : decode c13 47 = .ok (.ladd, 1) := by decide +kernel
theorem d13_48 : decode c13 48 = .ok (.lastore, 1) := by decide +kernel
theorem d13_49 : decode c13 49 = .ok (.goto 55, 3) := by decide +kernel
abbrev R13_37 : Room := { frames := 1, cells := 0, slots := 0, locals := 15 }
def Q13_37 (Z : State) (a1 a3 a5 a6 : Addr) (p2 p4 p7 p8 p9 : Int64) (k10 k12 : ClassId) (p11 : Int32) (h0 : Heap) (n0 : Nat) (v : Option Value) (h : Heap) (L : List Loc) : Prop := Fr n0 L /\ ((∃ (v121 : Int64), v121 = p9 + p2 /\ v = none /\ BL Z h a3 (.long p4) (.ref a1) /\ BS Z h a1 (.ref a5) (.ref a6) (.long p4) (.long p7) (.int 1) (.long p8) (.int 1) (.long v121) (.int 0) /\ Arv Z h a5 k10 .long p11 [(.long p8), (.long 0)] (.long 0) /\ Arv Z h a6 k12 .long p11 [(.long v121), (.long 0)] (.long 0) /\ n0 <= h.size))
theorem rm13_37 (l : Launch) (Z : State) (a0 : Array Value) (hw : WW a0 Z) (ws : List Jvm.Cond) (a1 a3 a5 a6 : Addr) (p2 p4 p7 p8 p9 : Int64) (k10 k12 : ClassId) (p11 : Int32) (h0 : Heap) (n0 : Nat) (Z0 : n0 <= h0.size) (B0 : BL Z h0 a3 (.long p4) (.ref a1)) (g_a3 : n0 <= a3) (B2 : BS Z h0 a1 (.ref a5) (.ref a6) (.long p4) (.long p7) (.int 1) (.long p8) (.int 1) (.long p9) (.int 0)) (g_a1 : n0 <= a1) (F0_4 : Arv Z h0 a5 k10 .long p11 [(.long p8), (.long 0)] (.long 0)) (g_a5 : n0 <= a5) (F0_6 : Arv Z h0 a6 k12 .long p11 [(.long p9), (.long 0)] (.long 0)) (g_a6 : n0 <= a6) (lt0_0 : a3 < a1) (lt0_1 : a1 < a5) (lt0_2 : a5 < a6) (hp0 : ¬ p4 < (1 : Int64)) (hp1 : ¬ (8 : Int64) < p4) (hp2 : ¬ p7 < (1 : Int64)) (hp3 : ¬ p11 < (1 : Int32)) (hp4 : ¬ (8 : Int32) < p11) (hp5 : ¬ p2 < (1 : Int64)) (hp6 : ¬ p11 < (2 : Int32)) (hd18 : p11 = p4.toInt32) :
    KMet l (⟨"com/example/halter/halter/SlidingSum", "remember", "(J)V"⟩ : MethodName) prog_20_method_9_code 4 none ws R13_37 #[(.ref a1), (.long p2)] Z h0 R13_37.cells R13_37.slots (Q13_37 Z a1 a3 a5 a6 p2 p4 p7 p8 p9 k10 k12 p11 h0 n0) := by
 refine k_body (plainFor_of_name pn_1) (fun m => ef13_14 m a1 p2) ?_
 intro p e s m below meth c s₁ hx D hml hlk hret hown hnm hZ X0 e0
 have N0 := Fr.nil n0
 obtain ⟨f0, f1, f2⟩ := B0
 obtain ⟨f3, f4, f5, f6, f7, f8, f9, f10, f11, f12⟩ := B2
 refine k_aloadN X0 hx 1 (D d13_0) rfl rfl ?_
 refine k_getF1 X0 hx hZ hown 4 (k_w hw 61 rfl) e0 f10 (D d13_1) (fun T101 X101 e101 => ?_)
 refine k_if_le X101 hx 7 52 (D d13_4) (fun hc => absurd (by decide) hc) (fun _ => ?_)
 refine k_aloadN X101 hx 8 (D d13_7) rfl rfl ?_
 refine k_getF1 X101 hx hZ hown 11 (k_w hw 29 rfl) e101 f4 (D d13_8) (fun T102 X102 e102 => ?_)
 refine k_aloadN X102 hx 12 (D d13_11) rfl rfl ?_
 refine k_aloadN X102 hx 13 (D d13_12) rfl rfl ?_
 refine k_getF1 X102 hx hZ hown 16 (k_w hw 61 rfl) e102 f10 (D d13_13) (fun T103 X103 e103 => ?_)
 refine k_iconst X103 hx 17 (D d13_16) (z := (1 : Int32)) rfl ?_
 refine k_isubL X103 hx 18 (D d13_17) (z := (0 : Int32)) (by decide) ?_
 refine k_callP X103 hx hZ hown 21 (a := a1) (k_w hw 101 rfl) (k_w hw 102 rfl) (k_w hw 103 rfl) (k_w hw 22 rfl) (k_w hw 23 rfl) (k_w hw 104 rfl) (by decide) f3 (rm17_38 l Z a0 hw [] a1 a5 a6 p4 p7 p8 p9 k10 k12 p11 h0 n0 Z0 ⟨f3, f4, f5, f6, f7, f8, f9, f10, f11, f12⟩ F0_4 F0_6 lt0_1 lt0_2 hp0 hp1 hp2 hp3 hp4 hd18) (by decide) (by decide) e103 (by rw [hml]; rfl) (argsL := [(.int 0)]) (rest := [(.ref a5)]) (lenOf pd_7 rfl) rfl (W := 1) (Nat.le_refl _) rfl (D d13_18) (by decide) (by decide) (fun T104 L104 r104 X104 q104 => ?_)
 obtain ⟨N104, e104, q104⟩ := q104
 have N104' := Fr.app N0 N104
 obtain rfl := q104
 refine k_n1 ?_
 refine k_laload X104 hx hZ 22 e104 F0_4 ⟨by decide, (Classical.byContradiction (fun hq105 => by have B106 : (1 : Int) <= p4.toInt /\ p4.toInt <= 8 := ⟨kL_ge hp0 (by decide), kL_le hp1 (by decide)⟩; have B107 : (1 : Int) <= p7.toInt /\ p7.toInt <= 9223372036854775807 := ⟨kL_ge hp2 (by decide), Int.le_of_lt_add_one (rng64 p7).2⟩; have q109 : p11.toInt = p4.toInt := k_l2ix hd18 B106 (by decide) (by decide); have B108 : (2 : Int) <= p11.toInt /\ p11.toInt <= 0 := ⟨k_ge hp6 (by decide), k_le hq105 (by decide)⟩; have B110 : (1 : Int) <= p2.toInt /\ p2.toInt <= 9223372036854775807 := ⟨kL_ge hp5 (by decide), Int.le_of_lt_add_one (rng64 p2).2⟩; omega))⟩ (v := (.long p8)) rfl (D d13_21) ?_
 refine k_aloadN X104 hx 23 (D d13_22) rfl rfl ?_
 refine k_getF1 X104 hx hZ hown 26 (k_w hw 55 rfl) e104 f9 (D d13_23) (fun T111 X111 e111 => ?_)
 refine k_lcif_ne X111 hx 30 52 27 (D d13_26) (D d13_27) (fun hc => absurd rfl hc) (fun _ => ?_)
 refine k_aloadN X111 hx 31 (D d13_30) rfl rfl ?_
 refine k_getF1 X111 hx hZ hown 34 (k_w hw 31 rfl) e111 f5 (D d13_31) (fun T112 X112 e112 => ?_)
 refine k_aloadN X112 hx 35 (D d13_34) rfl rfl ?_
 refine k_aloadN X112 hx 36 (D d13_35) rfl rfl ?_
 refine k_getF1 X112 hx hZ hown 39 (k_w hw 61 rfl) e112 f10 (D d13_36) (fun T113 X113 e113 => ?_)
 refine k_iconst X113 hx 40 (D d13_39) (z := (1 : Int32)) rfl ?_
 refine k_isubL X113 hx 41 (D d13_40) (z := (0 : Int32)) (by decide) ?_
 refine k_callP X113 hx hZ hown 44 (a := a1) (k_w hw 101 rfl) (k_w hw 102 rfl) (k_w hw 103 rfl) (k_w hw 22 rfl) (k_w hw 23 rfl) (k_w hw 104 rfl) (by decide) f3 (rm17_38 l Z a0 hw [] a1 a5 a6 p4 p7 p8 p9 k10 k12 p11 h0 n0 Z0 ⟨f3, f4, f5, f6, f7, f8, f9, f10, f11, f12⟩ F0_4 F0_6 lt0_1 lt0_2 hp0 hp1 hp2 hp3 hp4 hd18) (by decide) (by decide) e113 (by rw [hml]; rfl) (argsL := [(.int 0)]) (rest := [(.ref a6)]) (lenOf pd_7 rfl) rfl (W := 1) (Nat.le_refl _) rfl (D d13_41) (by decide) (by decide) (fun T114 L114 r114 X114 q114 => ?_)
 obtain ⟨N114, e114, q114⟩ := q114
 have N114' := Fr.app N104' N114
 obtain rfl := q114
 refine k_n1 ?_
 refine k_dup2 X114 hx 45 (D d13_44) rfl rfl ?_
 refine k_laload X114 hx hZ 46 e114 F0_6 ⟨by decide, (Classical.byContradiction (fun hq115 => by have B116 : (1 : Int) <= p4.toInt /\ p4.toInt <= 8 := ⟨kL_ge hp0 (by decide), kL_le hp1 (by decide)⟩; have B117 : (1 : Int) <= p7.toInt /\ p7.toInt <= 9223372036854775807 := ⟨kL_ge hp2 (by decide), Int.le_of_lt_add_one (rng64 p7).2⟩; have q119 : p11.toInt = p4.toInt := k_l2ix hd18 B116 (by decide) (by decide); have B118 : (2 : Int) <= p11.toInt /\ p11.toInt <= 0 := ⟨k_ge hp6 (by decide), k_le hq115 (by decide)⟩; have B120 : (1 : Int) <= p2.toInt /\ p2.toInt <= 9223372036854775807 := ⟨kL_ge hp5 (by decide), Int.le_of_lt_add_one (rng64 p2).2⟩; omega))⟩ (v := (.long p9)) rfl (D d13_45) ?_
 refine k_lloadN X114 hx 47 (D d13_46) rfl ?_
 refine k_ladd X114 hx 48 (D d13_47) (fun v121 hv121 => ?_)
 refine k_lastore X114 hx hZ 49 e114 F0_6 ⟨by decide, (Classical.byContradiction (fun hq123 => by have B124 : (1 : Int) <= p4.toInt /\ p4.toInt <= 8 := ⟨kL_ge hp0 (by decide), kL_le hp1 (by decide)⟩; have B125 : (1 : Int) <= p7.toInt /\ p7.toInt <= 9223372036854775807 := ⟨kL_ge hp2 (by decide), Int.le_of_lt_add_one (rng64 p7).2⟩; have q127 : p11.toInt = p4.toInt := k_l2ix hd18 B124 (by decide) (by decide); have B126 : (2 : Int) <= p11.toInt /\ p11.toInt <= 0 := ⟨k_ge hp6 (by decide), k_le hq123 (by decide)⟩; have B128 : (1 : Int) <= p2.toInt /\ p2.toInt <= 9223372036854775807 := ⟨kL_ge hp5 (by decide), Int.le_of_lt_add_one (rng64 p2).2⟩; omega))⟩ (i := 0) rfl (Nat.le_of_ble_eq_true rfl) (D d13_48) (fun T122 h122 X122 e122 W122 V122 => ?_)
 have Vw122 : Arv Z h122 a6 k12 .long p11 [(.long v121), (.long 0)] (.long 0) := V122
 have N122 := Fr.snoc X122 N114' g_a6
 have Z122 := k_zw Z0 W122
 refine k_goto X122 hx 104 (D d13_49) ?_
 refine k_aloadN X122 hx 105 (D d13_104) rfl rfl ?_
 refine k_dup X122 hx 106 (D d13_105) rfl ?_
 have F129 := (f11.other W122 (Or.inl (Nat.ne_of_lt (Nat.lt_trans lt0_1 lt0_2))))
 refine k_getF1 X122 hx hZ hown 109 (k_w hw 63 rfl) e122 F129 (D d13_106) (fun T130 X130 e130 => ?_)
 refine k_lloadN X130 hx 110 (D d13_109) rfl ?_
 refine k_laddL X130 hx 111 (D d13_110) (z := v121) hv121.symm ?_
 have F131 := (f3.wr W122)
 refine k_putF1 X130 hx hZ hown 114 (k_w hw 63 rfl) e130 F129 F131 (Or.inl (k_w hw 64 rfl)) (k_w hw 22 rfl) .long rfl rfl (D d13_111) (fun T132 h132 X132 e132 W132 => ?_)
 have Fw132 := F129.same W132
 have N132 := Fr.snoc X132 N122 g_a1
 have Z132 := k_zw Z122 W132
 have F133 := ((f0.wr W122).wr W132)
 have F134 := ((f1.other W122 (Or.inl (Nat.ne_of_lt (Nat.lt_trans (Nat.lt_trans lt0_0 lt0_1) lt0_2)))).other W132 (Or.inl (Nat.ne_of_lt lt0_0)))
 have F135 := ((f2.other W122 (Or.inl (Nat.ne_of_lt (Nat.lt_trans (Nat.lt_trans lt0_0 lt0_1) lt0_2)))).other W132 (Or.inl (Nat.ne_of_lt lt0_0)))
 have F136 := (F131.wr W132)
 have F137 := ((f4.other W122 (Or.inl (Nat.ne_of_lt (Nat.lt_trans lt0_1 lt0_2)))).other W132 (Or.inr (sn60 hw)))
 have F138 := ((f5.other W122 (Or.inl (Nat.ne_of_lt (Nat.lt_trans lt0_1 lt0_2)))).other W132 (Or.inr (sn62 hw)))
 have F139 := ((f6.other W122 (Or.inl (Nat.ne_of_lt (Nat.lt_trans lt0_1 lt0_2)))).other W132 (Or.inr (sn64 hw)))
 have F140 := ((f7.other W122 (Or.inl (Nat.ne_of_lt (Nat.lt_trans lt0_1 lt0_2)))).other W132 (Or.inr (sn66 hw)))
 have F141 := ((f8.other W122 (Or.inl (Nat.ne_of_lt (Nat.lt_trans lt0_1 lt0_2)))).other W132 (Or.inr (sn68 hw)))
 have F142 := ((f9.other W122 (Or.inl (Nat.ne_of_lt (Nat.lt_trans lt0_1 lt0_2)))).other W132 (Or.inr (sn70 hw)))
 have F143 := ((f10.other W122 (Or.inl (Nat.ne_of_lt (Nat.lt_trans lt0_1 lt0_2)))).other W132 (Or.inr (sn71 hw)))
 have F144 := ((f12.other W122 (Or.inl (Nat.ne_of_lt (Nat.lt_trans lt0_1 lt0_2)))).other W132 (Or.inr (sn73 hw)))
 have F145 := ((F0_4.other W122 (Nat.ne_of_lt lt0_2)).other W132 (Ne.symm (Nat.ne_of_lt lt0_1)))
 have F146 := (Vw122.other W132 (Ne.symm (Nat.ne_of_lt (Nat.lt_trans lt0_1 lt0_2))))
 exact k_ret X132 hx hret (D d13_114) hlk (by decide) (by decide) (by rw [e132]; exact ⟨N132, ⟨v121, hv121, rfl, ⟨F133, F134, F135⟩, ⟨F136, F137, F138, F139, F140, F141, F142, F143, Fw132, F144⟩, F145, F146, Z132⟩⟩)
abbrev R12_34 : Room := { frames := 2, cells := 0, slots := 0, locals := 30 }
def Q12_34 (Z : State) (a1 a4 a6 a7 : Addr) (p2 p3 p5 p8 p9 p10 : Int64) (k11 k13 : ClassId) (p12 : Int32) (h0 : Heap) (n0 : Nat) (v : Option Value) (h : Heap) (L : List Loc) : Prop := Fr n0 L /\ ((∃ (v141 : Int64), v141 = p10 + p2 /\ ¬ p12 < (2 : Int32) /\ v = none /\ BL Z h a4 (.long p5) (.ref a1) /\ BS Z h a1 (.ref a6) (.ref a7) (.long p5) (.long p8) (.int 1) (.long p9) (.int 1) (.long v141) (.int 0) /\ Arv Z h a6 k11 .long p12 [(.long p9), (.long 0)] (.long 0) /\ Arv Z h a7 k13 .long p12 [(.long v141), (.long 0)] (.long 0) /\ n0 <= h.size))
theorem rm12_34 (l : Launch) (Z : State) (a0 : Array Value) (hw : WW a0 Z) (ws : List Jvm.Cond) (a1 a4 a6 a7 : Addr) (p2 p3 p5 p8 p9 p10 : Int64) (k11 k13 : ClassId) (p12 : Int32) (h0 : Heap) (n0 : Nat) (Z0 : n0 <= h0.size) (B0 : BL Z h0 a4 (.long p5) (.ref a1)) (g_a4 : n0 <= a4) (B2 : BS Z h0 a1 (.ref a6) (.ref a7) (.long p5) (.long p8) (.int 1) (.long p9) (.int 1) (.long p10) (.int 0)) (g_a1 : n0 <= a1) (F0_4 : Arv Z h0 a6 k11 .long p12 [(.long p9), (.long 0)] (.long 0)) (g_a6 : n0 <= a6) (F0_6 : Arv Z h0 a7 k13 .long p12 [(.long p10), (.long 0)] (.long 0)) (g_a7 : n0 <= a7) (lt0_0 : a4 < a1) (lt0_1 : a1 < a6) (lt0_2 : a6 < a7) (hp0 : ¬ p5 < (1 : Int64)) (hp1 : ¬ (8 : Int64) < p5) (hp2 : ¬ p8 < (1 : Int64)) (hp3 : ¬ p12 < (1 : Int32)) (hp4 : ¬ (8 : Int32) < p12) (hp5 : ¬ p2 < (1 : Int64)) (hp6 : ¬ p10 < (1 : Int64)) (hd18 : p12 = p5.toInt32) (hx19 : ¬ (p5.toInt32) < (1 : Int32)) (hx20 : ¬ (8 : Int32) < (p5.toInt32)) (hx21 : ¬ (0 : Int64) < (p3 - p9)) (hx22 : ¬ (p5 - p10) < p2) :
    KMet l (⟨"com/example/halter/halter/SlidingSum", "add", "(JJ)V"⟩ : MethodName) prog_20_method_3_code 5 none ws R12_34 #[(.ref a1), (.long p2), (.long p3)] Z h0 R12_34.cells R12_34.slots (Q12_34 Z a1 a4 a6 a7 p2 p3 p5 p8 p9 p10 k11 k13 p12 h0 n0) := by
 refine k_body (plainFor_of_name pn_1) (fun m => ef5_4 m a1 p2 p3) ?_
 intro p e s m below meth c s₁ hx D hml hlk hret hown hnm hZ X0 e0
 have N0 := Fr.nil n0
 obtain ⟨f0, f1, f2⟩ := B0
 obtain ⟨f3, f4, f5, f6, f7, f8, f9, f10, f11, f12⟩ := B2
 refine k_aloadN X0 hx 1 (D d12_0) rfl rfl ?_
 refine k_lloadN X0 hx 2 (D d12_1) rfl ?_
 refine k_callP X0 hx hZ hown 5 (a := a1) (k_w hw 49 rfl) (k_w hw 50 rfl) (k_w hw 51 rfl) (k_w hw 22 rfl) (k_w hw 23 rfl) (k_w hw 52 rfl) (by decide) f3 (rm8_35 l Z a0 hw [] a1 a4 a6 a7 p3 p5 p8 p9 p10 k11 k13 p12 h0 n0 Z0 ⟨f0, f1, f2⟩ g_a4 ⟨f3, f4, f5, f6, f7, f8, f9, f10, f11, f12⟩ g_a1 F0_4 g_a6 F0_6 g_a7 lt0_0 lt0_1 lt0_2 hp0 hp1 hp2 hp3 hp4 hd18 (by have q := hp3; rw [hd18] at q; exact q) (by have q := hp4; rw [hd18] at q; exact q) hp6 hx21) (by decide) (by decide) e0 (by rw [hml]; rfl) (argsL := [(.long p3)]) (rest := []) (lenOf pd_3 rfl) rfl (W := 0) (Nat.le_refl _) rfl (D d12_2) (by decide) (by decide) (fun T101 L101 r101 X101 q101 => ?_)
 obtain ⟨N101, q101⟩ := q101
 have N101' := Fr.app N0 N101
 obtain ⟨rfl, ⟨F102, F103, F104⟩, ⟨F105, F106, F107, F108, F109, F110, F111, F112, F113, F114⟩, F115, F116, Z117⟩ := q101
 refine k_n0 ?_
 refine k_lloadN X101 hx 6 (D d12_5) rfl ?_
 refine k_lconst X101 hx 7 (D d12_6) (z := (1 : Int64)) rfl ?_
 refine k_lcif_lt X101 hx 11 25 8 (D d12_7) (D d12_8) (fun hc => absurd hc hp5) (fun _ => ?_)
 refine k_lloadN X101 hx 12 (D d12_11) rfl ?_
 refine k_aloadN X101 hx 13 (D d12_12) rfl rfl ?_
 refine k_getF1 X101 hx hZ hown 16 (k_w hw 33 rfl) rfl F108 (D d12_13) (fun T118 X118 e118 => ?_)
 refine k_aloadN X118 hx 17 (D d12_16) rfl rfl ?_
 refine k_getF1 X118 hx hZ hown 20 (k_w hw 63 rfl) e118 F113 (D d12_17) (fun T119 X119 e119 => ?_)
 refine k_lsub X119 hx 21 (D d12_20) (fun v120 hv120 => ?_)
 refine k_lcif_le X119 hx 25 47 22 (D d12_21) (D d12_22) (fun _ => ?_) (fun hc => absurd hc (by rw [hv120]; exact hx22))
 refine k_aloadN X119 hx 48 (D d12_47) rfl rfl ?_
 refine k_lloadN X119 hx 49 (D d12_48) rfl ?_
 have hp121 : ¬ p12 < (2 : Int32) := by
  intro hq122
  have B123 : (1 : Int) <= p5.toInt /\ p5.toInt <= 8 := ⟨kL_ge hp0 (by decide), kL_le hp1 (by decide)⟩
  have B124 : (1 : Int) <= p8.toInt /\ p8.toInt <= 9223372036854775807 := ⟨kL_ge hp2 (by decide), Int.le_of_lt_add_one (rng64 p8).2⟩
  have q126 : p12.toInt = p5.toInt := k_l2ix hd18 B123 (by decide) (by decide)
  have B125 : (1 : Int) <= p12.toInt /\ p12.toInt <= 8 := (by rw [q126]; exact B123)
  have B127 : (1 : Int) <= p12.toInt /\ p12.toInt <= 1 := ⟨B125.1, k_lt hq122 (by decide)⟩
  have B128 : (1 : Int) <= p2.toInt /\ p2.toInt <= 9223372036854775807 := ⟨kL_ge hp5 (by decide), Int.le_of_lt_add_one (rng64 p2).2⟩
  have B129 : (1 : Int) <= p10.toInt /\ p10.toInt <= 9223372036854775807 := ⟨kL_ge hp6 (by decide), Int.le_of_lt_add_one (rng64 p10).2⟩
  have B130 : (1 : Int) <= (p5.toInt32).toInt /\ (p5.toInt32).toInt <= 8 := ⟨k_ge hx19 (by decide), k_le hx20 (by decide)⟩
  have B133 : (-9223372036854775808 : Int) <= p3.toInt /\ p3.toInt <= 9223372036854775807 := ⟨(rng64 p3).1, Int.le_of_lt_add_one (rng64 p3).2⟩
  have B134 : (-9223372036854775808 : Int) <= p9.toInt /\ p9.toInt <= 9223372036854775807 := ⟨(rng64 p9).1, Int.le_of_lt_add_one (rng64 p9).2⟩
  have q135 : ((p3 - p9).toInt - (p3.toInt - p9.toInt)) % 18446744073709551616 = 0 := c_lsub _ _
  have B131 : (-9223372036854775808 : Int) <= (p3 - p9).toInt /\ (p3 - p9).toInt <= 9223372036854775807 := ⟨(rng64 (p3 - p9)).1, Int.le_of_lt_add_one (rng64 (p3 - p9)).2⟩
  have B136 : (-9223372036854775808 : Int) <= (p3 - p9).toInt /\ (p3 - p9).toInt <= 0 := ⟨B131.1, kL_le hx21 (by decide)⟩
  have q138 : (p5 - p10).toInt = p5.toInt - p10.toInt := k_lsubx rfl B123 B129 (by decide) (by decide)
  have B137 : (-9223372036854775806 : Int) <= (p5 - p10).toInt /\ (p5 - p10).toInt <= 7 := k_subB' q138 B123 B129
  have q139 := kL_m hx22
  omega
 refine k_callP X119 hx hZ hown 52 (a := a1) (k_w hw 79 rfl) (k_w hw 80 rfl) (k_w hw 81 rfl) (k_w hw 22 rfl) (k_w hw 23 rfl) (k_w hw 82 rfl) (by decide) F105 (rm13_37 l Z a0 hw [] a1 a4 a6 a7 p2 p5 p8 p9 p10 k11 k13 p12 T101.heap n0 Z117 ⟨F102, F103, F104⟩ g_a4 ⟨F105, F106, F107, F108, F109, F110, F111, F112, F113, F114⟩ g_a1 F115 g_a6 F116 g_a7 lt0_0 lt0_1 lt0_2 hp0 hp1 hp2 hp3 hp4 hp5 hp121 hd18) (by decide) (by decide) e119 (by rw [hml]; rfl) (argsL := [(.long p2)]) (rest := []) (lenOf pd_3 rfl) rfl (W := 0) (Nat.le_refl _) rfl (D d12_49) (by decide) (by decide) (fun T140 L140 r140 X140 q140 => ?_)
 obtain ⟨N140, q140⟩ := q140
 have N140' := Fr.app N101' N140
 obtain ⟨v141, h142, rfl, ⟨F143, F144, F145⟩, ⟨F146, F147, F148, F149, F150, F151, F152, F153, F154, F155⟩, F156, F157, Z158⟩ := q140
 refine k_n0 ?_
 exact k_ret X140 hx hret (D d12_52) hlk (by decide) (by decide) ⟨N140', ⟨v141, h142, hp121, rfl, ⟨F143, F144, F145⟩, ⟨F146, F147, F148, F149, F150, F151, F152, F153, F154, F155⟩, F156, F157, Z158⟩⟩
abbrev R9_41 : Room := { frames := 0, cells := 0, slots := 0, locals := 0 }
def Q9_41 (Z : State) (a1 a2 a4 a5 : Addr) (p3 p6 p7 p8 p10 : Int64) (k9 k12 : ClassId) (p11 : Int32) (h0 : Heap) (n0 : Nat) (v : Option Value) (h : Heap) (L : List Loc) : Prop := Fr n0 L /\ ((v = none /\ BL Z h a2 (.long p3) (.ref a1) /\ BS Z h a1 (.ref a4) (.ref a5) (.long p3) (.long p6) (.int 1) (.long p7) (.int 1) (.long p8) (.int 0) /\ Arv Z h a4 k9 .long p11 [(.long p10), (.long 0)] (.long 0) /\ Arv Z h a5 k12 .long p11 [(.long p8), (.long 0)] (.long 0) /\ n0 <= h.size))
theorem rm9_41 (l : Launch) (Z : State) (a0 : Array Value) (hw : WW a0 Z) (ws : List Jvm.Cond) (a1 a2 a4 a5 : Addr) (p3 p6 p7 p8 p10 : Int64) (k9 k12 : ClassId) (p11 : Int32) (h0 : Heap) (n0 : Nat) (Z0 : n0 <= h0.size) (B0 : BL Z h0 a2 (.long p3) (.ref a1)) (g_a2 : n0 <= a2) (B2 : BS Z h0 a1 (.ref a4) (.ref a5) (.long p3) (.long p6) (.int 1) (.long p7) (.int 1) (.long p8) (.int 0)) (g_a1 : n0 <= a1) (F0_4 : Arv Z h0 a4 k9 .long p11 [(.long p10), (.long 0)] (.long 0)) (g_a4 : n0 <= a4) (F0_6 : Arv Z h0 a5 k12 .long p11 [(.long p8), (.long 0)] (.long 0)) (g_a5 : n0 <= a5) (lt0_0 : a2 < a1) (lt0_1 : a1 < a4) (lt0_2 : a4 < a5) (hp0 : ¬ p3 < (1 : Int64)) (hp1 : ¬ (8 : Int64) < p3) (hp2 : ¬ p6 < (1 : Int64)) (hp3 : ¬ p11 < (1 : Int32)) (hp4 : ¬ (8 : Int32) < p11) (hd16 : p11 = p3.toInt32) (hx17 : ¬ (p3.toInt32) < (1 : Int32)) (hx18 : ¬ (8 : Int32) < (p3.toInt32)) (hx19 : ¬ p8 < (1 : Int64)) (hx20 : (0 : Int64) < (p7 - p10)) (hx21 : (p7 - p10) < p6) :
    KMet l (⟨"com/example/halter/halter/SlidingSum", "forgetWhatLeftTheWindow", "()V"⟩ : MethodName) prog_20_method_8_code 2 none ws R9_41 #[(.ref a1)] Z h0 R9_41.cells R9_41.slots (Q9_41 Z a1 a2 a4 a5 p3 p6 p7 p8 p10 k9 k12 p11 h0 n0) := by
 refine k_body (plainFor_of_name pn_1) (fun m => ef9_8 m a1) ?_
 intro p e s m below meth c s₁ hx D hml hlk hret hown hnm hZ X0 e0
 have N0 := Fr.nil n0
 obtain ⟨f0, f1, f2⟩ := B0
 obtain ⟨f3, f4, f5, f6, f7, f8, f9, f10, f11, f12⟩ := B2
 refine k_aloadN X0 hx 1 (D d9_0) rfl rfl ?_
 refine k_getF1 X0 hx hZ hown 4 (k_w hw 61 rfl) e0 f10 (D d9_1) (fun T101 X101 e101 => ?_)
 refine k_if_le X101 hx 7 69 (D d9_4) (fun hc => absurd (by decide) hc) (fun _ => ?_)
 refine k_aloadN X101 hx 8 (D d9_7) rfl rfl ?_
 refine k_getF1 X101 hx hZ hown 11 (k_w hw 55 rfl) e101 f9 (D d9_8) (fun T102 X102 e102 => ?_)
 refine k_aloadN X102 hx 12 (D d9_11) rfl rfl ?_
 refine k_getF1 X102 hx hZ hown 15 (k_w hw 29 rfl) e102 f4 (D d9_12) (fun T103 X103 e103 => ?_)
 refine k_aloadN X103 hx 16 (D d9_15) rfl rfl ?_
 refine k_getF1 X103 hx hZ hown 19 (k_w hw 99 rfl) e103 f12 (D d9_16) (fun T104 X104 e104 => ?_)
 refine k_laload X104 hx hZ 20 e104 F0_4 ⟨by decide, (Classical.byContradiction (fun hq105 => by have B106 : (1 : Int) <= p3.toInt /\ p3.toInt <= 8 := ⟨kL_ge hp0 (by decide), kL_le hp1 (by decide)⟩; have B107 : (1 : Int) <= p6.toInt /\ p6.toInt <= 9223372036854775807 := ⟨kL_ge hp2 (by decide), Int.le_of_lt_add_one (rng64 p6).2⟩; have q109 : p11.toInt = p3.toInt := k_l2ix hd16 B106 (by decide) (by decide); have B108 : (1 : Int) <= p11.toInt /\ p11.toInt <= 8 := (by rw [q109]; exact B106); have B110 : (1 : Int) <= p11.toInt /\ p11.toInt <= 0 := ⟨B108.1, k_le hq105 (by decide)⟩; have B111 : (1 : Int) <= (p3.toInt32).toInt /\ (p3.toInt32).toInt <= 8 := ⟨k_ge hx17 (by decide), k_le hx18 (by decide)⟩; have B112 : (1 : Int) <= p8.toInt /\ p8.toInt <= 9223372036854775807 := ⟨kL_ge hx19 (by decide), Int.le_of_lt_add_one (rng64 p8).2⟩; have B115 : (-9223372036854775808 : Int) <= p7.toInt /\ p7.toInt <= 9223372036854775807 := ⟨(rng64 p7).1, Int.le_of_lt_add_one (rng64 p7).2⟩; have B116 : (-9223372036854775808 : Int) <= p10.toInt /\ p10.toInt <= 9223372036854775807 := ⟨(rng64 p10).1, Int.le_of_lt_add_one (rng64 p10).2⟩; have q117 : ((p7 - p10).toInt - (p7.toInt - p10.toInt)) % 18446744073709551616 = 0 := c_lsub _ _; have B113 : (-9223372036854775808 : Int) <= (p7 - p10).toInt /\ (p7 - p10).toInt <= 9223372036854775807 := ⟨(rng64 (p7 - p10)).1, Int.le_of_lt_add_one (rng64 (p7 - p10)).2⟩; have B118 : (1 : Int) <= (p7 - p10).toInt /\ (p7 - p10).toInt <= 9223372036854775807 := ⟨kL_gt hx20 (by decide), B113.2⟩; have q119 := kL_p hx21; omega))⟩ (v := (.long p10)) rfl (D d9_19) ?_
 refine k_lsub X104 hx 21 (D d9_20) (fun v120 hv120 => ?_)
 refine k_aloadN X104 hx 22 (D d9_21) rfl rfl ?_
 refine k_getF1 X104 hx hZ hown 25 (k_w hw 35 rfl) e104 f7 (D d9_22) (fun T121 X121 e121 => ?_)
 refine k_lcif_lt X121 hx 29 69 26 (D d9_25) (D d9_26) (fun _ => ?_) (fun hc => absurd (by rw [hv120]; exact hx21) hc)
 refine k_aloadN X121 hx 70 (D d9_69) rfl rfl ?_
 refine k_getF1 X121 hx hZ hown 73 (k_w hw 29 rfl) e121 f4 (D d9_70) (fun T122 X122 e122 => ?_)
 refine k_alen X122 hx hZ 74 e122 F0_4 (D d9_73) ?_
 refine k_istoreN X122 hx 75 (D d9_74) (Ls' := #[rv a1, iv p11]) rfl ?_
 refine k_iloadN X122 hx 76 (D d9_75) rfl ?_
 refine k_bipush X122 hx 78 (D d9_76) (z := (8 : Int32)) rfl ?_
 refine k_icmp_le X122 hx 81 98 (D d9_78) (fun _ => ?_) (fun hc => absurd hc hp4)
 refine k_iloadN X122 hx 99 (D d9_98) rfl ?_
 refine k_aloadN X122 hx 100 (D d9_99) rfl rfl ?_
 refine k_getF1 X122 hx hZ hown 103 (k_w hw 29 rfl) e122 f4 (D d9_100) (fun T123 X123 e123 => ?_)
 refine k_alen X123 hx hZ 104 e123 F0_4 (D d9_103) ?_
 refine k_icmp_eq X123 hx 107 112 (D d9_104) (fun _ => ?_) (fun hc => absurd rfl hc)
 exact k_ret X123 hx hret (D d9_112) hlk (by decide) (by decide) (by rw [e123]; exact ⟨N0, ⟨rfl, ⟨f0, f1, f2⟩, ⟨f3, f4, f5, f6, f7, f8, f9, f10, f11, f12⟩, F0_4, F0_6, Z0⟩⟩)
abbrev R8_40 : Room := { frames := 1, cells := 0, slots := 0, locals := 13 }
def Q8_40 (Z : State) (a1 a3 a5 a6 : Addr) (p2 p4 p7 p8 p10 : Int64) (k9 k12 : ClassId) (p11 : Int32) (h0 : Heap) (n0 : Nat) (v : Option Value) (h : Heap) (L : List Loc) : Prop := Fr n0 L /\ ((v = none /\ BL Z h a3 (.long p4) (.ref a1) /\ BS Z h a1 (.ref a5) (.ref a6) (.long p4) (.long p7) (.int 1) (.long p2) (.int 1) (.long p8) (.int 0) /\ Arv Z h a5 k9 .long p11 [(.long p10), (.long 0)] (.long 0) /\ Arv Z h a6 k12 .long p11 [(.long p8), (.long 0)] (.long 0) /\ n0 <= h.size))
theorem rm8_40 (l : Launch) (Z : State) (a0 : Array Value) (hw : WW a0 Z) (ws : List Jvm.Cond) (a1 a3 a5 a6 : Addr) (p2 p4 p7 p8 p10 : Int64) (k9 k12 : ClassId) (p11 : Int32) (h0 : Heap) (n0 : Nat) (Z0 : n0 <= h0.size) (B0 : BL Z h0 a3 (.long p4) (.ref a1)) (g_a3 : n0 <= a3) (B2 : BS Z h0 a1 (.ref a5) (.ref a6) (.long p4) (.long p7) (.int 1) (.long p2) (.int 1) (.long p8) (.int 0)) (g_a1 : n0 <= a1) (F0_4 : Arv Z h0 a5 k9 .long p11 [(.long p10), (.long 0)] (.long 0)) (g_a5 : n0 <= a5) (F0_6 : Arv Z h0 a6 k12 .long p11 [(.long p8), (.long 0)] (.long 0)) (g_a6 : n0 <= a6) (lt0_0 : a3 < a1) (lt0_1 : a1 < a5) (lt0_2 : a5 < a6) (hp0 : ¬ p4 < (1 : Int64)) (hp1 : ¬ (8 : Int64) < p4) (hp2 : ¬ p7 < (1 : Int64)) (hp3 : ¬ p11 < (1 : Int32)) (hp4 : ¬ (8 : Int32) < p11) (hd16 : p11 = p4.toInt32) (hx17 : ¬ (p4.toInt32) < (1 : Int32)) (hx18 : ¬ (8 : Int32) < (p4.toInt32)) (hx19 : ¬ p8 < (1 : Int64)) (hx20 : (0 : Int64) < (p2 - p10)) (hx21 : (p2 - p10) < p7) :
    KMet l (⟨"com/example/halter/halter/SlidingSum", "catchUp", "(J)V"⟩ : MethodName) prog_20_method_7_code 3 none ws R8_40 #[(.ref a1), (.long p2)] Z h0 R8_40.cells R8_40.slots (Q8_40 Z a1 a3 a5 a6 p2 p4 p7 p8 p10 k9 k12 p11 h0 n0) := by
 refine k_body (plainFor_of_name pn_1) (fun m => ef8_7 m a1 p2) ?_
 intro p e s m below meth c s₁ hx D hml hlk hret hown hnm hZ X0 e0
 have N0 := Fr.nil n0
 obtain ⟨f0, f1, f2⟩ := B0
 obtain ⟨f3, f4, f5, f6, f7, f8, f9, f10, f11, f12⟩ := B2
 refine k_aloadN X0 hx 1 (D d8_0) rfl rfl ?_
 refine k_getF1 X0 hx hZ hown 4 (k_w hw 53 rfl) e0 f8 (D d8_1) (fun T101 X101 e101 => ?_)
 refine k_if_eq X101 hx 7 18 (D d8_4) (fun hc => absurd hc (by decide)) (fun _ => ?_)
 refine k_lloadN X101 hx 8 (D d8_7) rfl ?_
 refine k_aloadN X101 hx 9 (D d8_8) rfl rfl ?_
 refine k_getF1 X101 hx hZ hown 12 (k_w hw 55 rfl) e101 f9 (D d8_9) (fun T102 X102 e102 => ?_)
 refine k_lsubL X102 hx 13 (D d8_12) (z := (0 : Int64)) (Int64.sub_self _) ?_
 refine k_lconst X102 hx 14 (D d8_13) (z := (0 : Int64)) rfl ?_
 refine k_lcif_le X102 hx 18 28 15 (D d8_14) (D d8_15) (fun _ => ?_) (fun hc => absurd hc (by decide))
 refine k_aloadN X102 hx 29 (D d8_28) rfl rfl ?_
 refine k_callP X102 hx hZ hown 32 (a := a1) (k_w hw 57 rfl) (k_w hw 58 rfl) (k_w hw 59 rfl) (k_w hw 22 rfl) (k_w hw 23 rfl) (k_w hw 60 rfl) (by decide) f3 (rm9_41 l Z a0 hw [] a1 a3 a5 a6 p4 p7 p2 p8 p10 k9 k12 p11 h0 n0 Z0 ⟨f0, f1, f2⟩ g_a3 ⟨f3, f4, f5, f6, f7, f8, f9, f10, f11, f12⟩ g_a1 F0_4 g_a5 F0_6 g_a6 lt0_0 lt0_1 lt0_2 hp0 hp1 hp2 hp3 hp4 hd16 (by have q := hp3; rw [hd16] at q; exact q) (by have q := hp4; rw [hd16] at q; exact q) hx19 hx20 hx21) (by decide) (by decide) e102 (by rw [hml]; rfl) (argsL := []) (rest := []) (lenOf pd_1 rfl) rfl (W := 0) (Nat.le_refl _) rfl (D d8_29) (by decide) (by decide) (fun T103 L103 r103 X103 q103 => ?_)
 obtain ⟨N103, q103⟩ := q103
 have N103' := Fr.app N0 N103
 obtain ⟨rfl, ⟨F104, F105, F106⟩, ⟨F107, F108, F109, F110, F111, F112, F113, F114, F115, F116⟩, F117, F118, Z119⟩ := q103
 refine k_n0 ?_
 exact k_ret X103 hx hret (D d8_32) hlk (by decide) (by decide) ⟨N103', ⟨rfl, ⟨F104, F105, F106⟩, ⟨F107, F108, F109, F110, F111, F112, F113, F114, F115, F116⟩, F117, F118, Z119⟩⟩
abbrev R17_43 : Room := { frames := 0, cells := 0, slots := 0, locals := 0 }
def Q17_43 (Z : State) (a1 a2 a3 : Addr) (p4 p5 p6 p7 p9 : Int64) (k8 k11 : ClassId) (p10 : Int32) (h0 : Heap) (n0 : Nat) (v : Option Value) (h : Heap) (L : List Loc) : Prop := Fr n0 L /\ h = h0 /\ ((v = some (.int 0)))
theorem rm17_43 (l : Launch) (Z : State) (a0 : Array Value) (hw : WW a0 Z) (ws : List Jvm.Cond) (a1 a2 a3 : Addr) (p4 p5 p6 p7 p9 : Int64) (k8 k11 : ClassId) (p10 : Int32) (h0 : Heap) (n0 : Nat) (Z0 : n0 <= h0.size) (B0 : BS Z h0 a1 (.ref a2) (.ref a3) (.long p4) (.long p5) (.int 1) (.long p6) (.int 1) (.long p7) (.int 0)) (F0_1 : Arv Z h0 a2 k8 .long p10 [(.long p9), (.long 0)] (.long 0)) (F0_2 : Arv Z h0 a3 k11 .long p10 [(.long p7), (.long 0)] (.long 0)) (lt0_0 : a1 < a2) (lt0_1 : a2 < a3) (hp0 : ¬ p4 < (1 : Int64)) (hp1 : ¬ (8 : Int64) < p4) (hp2 : ¬ p5 < (1 : Int64)) (hp3 : ¬ p10 < (1 : Int32)) (hp4 : ¬ (8 : Int32) < p10) (hd10 : p10 = p4.toInt32) :
    KMet l (⟨"com/example/halter/halter/SlidingSum", "place", "(I)I"⟩ : MethodName) prog_20_method_12_code 3 (some .int) ws R17_43 #[(.ref a1), (.int 0)] Z h0 R17_43.cells R17_43.slots (Q17_43 Z a1 a2 a3 p4 p5 p6 p7 p9 k8 k11 p10 h0 n0) := by
 refine k_body (plainFor_of_name pn_1) (fun m => ef17_20 m a1) ?_
 intro p e s m below meth c s₁ hx D hml hlk hret hown hnm hZ X0 e0
 have N0 := Fr.nil n0
 obtain ⟨f0, f1, f2, f3, f4, f5, f6, f7, f8, f9⟩ := B0
 refine k_aloadN X0 hx 1 (D d17_0) rfl rfl ?_
 refine k_getF1 X0 hx hZ hown 4 (k_w hw 99 rfl) e0 f9 (D d17_1) (fun T101 X101 e101 => ?_)
 refine k_iloadN X101 hx 5 (D d17_4) rfl ?_
 refine k_iaddL X101 hx 6 (D d17_5) (z := (0 : Int32)) (by decide) ?_
 refine k_istoreN X101 hx 7 (D d17_6) (Ls' := #[rv a1, iv 0, iv 0]) rfl ?_
 refine k_iloadN X101 hx 8 (D d17_7) rfl ?_
 refine k_aloadN X101 hx 9 (D d17_8) rfl rfl ?_
 refine k_getF1 X101 hx hZ hown 12 (k_w hw 29 rfl) e101 f1 (D d17_9) (fun T102 X102 e102 => ?_)
 refine k_alen X102 hx hZ 13 e102 F0_1 (D d17_12) ?_
 refine k_icmp_ge X102 hx 16 20 (D d17_13) (fun hc => absurd (k_d_alt_nxlt hp3 (by decide)) hc) (fun _ => ?_)
 refine k_iloadN X102 hx 17 (D d17_16) rfl ?_
 refine k_goto X102 hx 27 (D d17_17) ?_
 exact k_retI X102 hx hret (D d17_27) hlk (by decide) (by decide) ⟨N0, e102, rfl⟩
abbrev R17_44 : Room := { frames := 0, cells := 0, slots := 0, locals := 0 }
def Q17_44 (Z : State) (a1 a2 a3 : Addr) (p4 p5 p6 p7 p9 : Int64) (k8 k11 : ClassId) (p10 : Int32) (h0 : Heap) (n0 : Nat) (v : Option Value) (h : Heap) (L : List Loc) : Prop := Fr n0 L /\ h = h0 /\ ((¬ (1 : Int32) < p10 /\ v = some (.int 0)) \/ ((1 : Int32) < p10 /\ v = some (.int 1)))
theorem rm17_44 (l : Launch) (Z : State) (a0 : Array Value) (hw : WW a0 Z) (ws : List Jvm.Cond) (a1 a2 a3 : Addr) (p4 p5 p6 p7 p9 : Int64) (k8 k11 : ClassId) (p10 : Int32) (h0 : Heap) (n0 : Nat) (Z0 : n0 <= h0.size) (B0 : BS Z h0 a1 (.ref a2) (.ref a3) (.long p4) (.long p5) (.int 1) (.long p6) (.int 1) (.long p7) (.int 0)) (F0_1 : Arv Z h0 a2 k8 .long p10 [(.long p9), (.long 0)] (.long 0)) (F0_2 : Arv Z h0 a3 k11 .long p10 [(.long p7), (.long 0)] (.long 0)) (lt0_0 : a1 < a2) (lt0_1 : a2 < a3) (hp0 : ¬ p4 < (1 : Int64)) (hp1 : ¬ (8 : Int64) < p4) (hp2 : ¬ p5 < (1 : Int64)) (hp3 : ¬ p10 < (1 : Int32)) (hp4 : ¬ (8 : Int32) < p10) (hd10 : p10 = p4.toInt32) :
    KMet l (⟨"com/example/halter/halter/SlidingSum", "place", "(I)I"⟩ : MethodName) prog_20_method_12_code 3 (some .int) ws R17_44 #[(.ref a1), (.int 1)] Z h0 R17_44.cells R17_44.slots (Q17_44 Z a1 a2 a3 p4 p5 p6 p7 p9 k8 k11 p10 h0 n0) := by
 refine k_body (plainFor_of_name pn_1) (fun m => ef17_29 m a1) ?_
 intro p e s m below meth c s₁ hx D hml hlk hret hown hnm hZ X0 e0
 have N0 := Fr.nil n0
 obtain ⟨f0, f1, f2, f3, f4, f5, f6, f7, f8, f9⟩ := B0
 refine k_aloadN X0 hx 1 (D d17_0) rfl rfl ?_
 refine k_getF1 X0 hx hZ hown 4 (k_w hw 99 rfl) e0 f9 (D d17_1) (fun T101 X101 e101 => ?_)
 refine k_iloadN X101 hx 5 (D d17_4) rfl ?_
 refine k_iaddL X101 hx 6 (D d17_5) (z := (1 : Int32)) (by decide) ?_
 refine k_istoreN X101 hx 7 (D d17_6) (Ls' := #[rv a1, iv 1, iv 1]) rfl ?_
 refine k_iloadN X101 hx 8 (D d17_7) rfl ?_
 refine k_aloadN X101 hx 9 (D d17_8) rfl rfl ?_
 refine k_getF1 X101 hx hZ hown 12 (k_w hw 29 rfl) e101 f1 (D d17_9) (fun T102 X102 e102 => ?_)
 refine k_alen X102 hx hZ 13 e102 F0_1 (D d17_12) ?_
 refine k_icmp_ge X102 hx 16 20 (D d17_13) (fun hc103 => ?_) (fun hc103 => ?_)
 ·
  refine k_iloadN X102 hx 21 (D d17_20) rfl ?_
  refine k_aloadN X102 hx 22 (D d17_21) rfl rfl ?_
  refine k_getF1 X102 hx hZ hown 25 (k_w hw 29 rfl) e102 f1 (D d17_22) (fun T104 X104 e104 => ?_)
  refine k_alen X104 hx hZ 26 e104 F0_1 (D d17_25) ?_
  refine k_isubL X104 hx 27 (D d17_26) (z := (0 : Int32)) (by rw [show p10 = (1 : Int32) from (Classical.byContradiction (fun hq105 => by have B106 : (1 : Int) <= p4.toInt /\ p4.toInt <= 8 := ⟨kL_ge hp0 (by decide), kL_le hp1 (by decide)⟩; have q108 : p10.toInt = p4.toInt := k_l2ix hd10 B106 (by decide) (by decide); have B107 : (1 : Int) <= p10.toInt /\ p10.toInt <= 8 := (by rw [q108]; exact B106); have B109 : (1 : Int) <= p10.toInt /\ p10.toInt <= 1 := ⟨B107.1, k_le hc103 (by decide)⟩; have B110 : (1 : Int) <= (1 : Int32).toInt /\ (1 : Int32).toInt <= 1 := (by decide); have q111 : ¬ p10.toInt = (1 : Int32).toInt := fun q => hq105 (Int32.toInt_inj.mp q); omega))]; decide) ?_
  exact k_retI X104 hx hret (D d17_27) hlk (by decide) (by decide) ⟨N0, e104, (Or.inl ⟨hc103, rfl⟩)⟩
 ·
  refine k_iloadN X102 hx 17 (D d17_16) rfl ?_
  refine k_goto X102 hx 27 (D d17_17) ?_
  exact k_retI X102 hx hret (D d17_27) hlk (by decide) (by decide) ⟨N0, e102, (Or.inr ⟨hc103, rfl⟩)⟩
abbrev R13_42 : Room := { frames := 1, cells := 0, slots := 0, locals := 15 }
def Q13_42 (Z : State) (a1 a3 a5 a6 : Addr) (p2 p4 p7 p8 p9 p11 : Int64) (k10 k13 : ClassId) (p12 : Int32) (h0 : Heap) (n0 : Nat) (v : Option Value) (h : Heap) (L : List Loc) : Prop := Fr n0 L /\ ((∃ (v150 : Int64), v150 = p9 + p2 /\ ¬ p11 = p8 /\ (1 : Int32) < p12 /\ v = none /\ BL Z h a3 (.long p4) (.ref a1) /\ BS Z h a1 (.ref a5) (.ref a6) (.long p4) (.long p7) (.int 1) (.long p8) (.int 2) (.long v150) (.int 0) /\ Arv Z h a5 k10 .long p12 [(.long p11), (.long p8)] (.long 0) /\ Arv Z h a6 k13 .long p12 [(.long p9), (.long p2)] (.long 0) /\ n0 <= h.size) \/ (∃ (v165 : Int64), v165 = p9 + p2 /\ p11 = p8 /\ v = none /\ BL Z h a3 (.long p4) (.ref a1) /\ BS Z h a1 (.ref a5) (.ref a6) (.long p4) (.long p7) (.int 1) (.long p8) (.int 1) (.long v165) (.int 0) /\ Arv Z h a5 k10 .long p12 [(.long p11), (.long 0)] (.long 0) /\ Arv Z h a6 k13 .long p12 [(.long v165), (.long 0)] (.long 0) /\ n0 <= h.size))
theorem rm13_42 (l : Launch) (Z : State) (a0 : Array Value) (hw : WW a0 Z) (ws : List Jvm.Cond) (a1 a3 a5 a6 : Addr) (p2 p4 p7 p8 p9 p11 : Int64) (k10 k13 : ClassId) (p12 : Int32) (h0 : Heap) (n0 : Nat) (Z0 : n0 <= h0.size) (B0 : BL Z h0 a3 (.long p4) (.ref a1)) (g_a3 : n0 <= a3) (B2 : BS Z h0 a1 (.ref a5) (.ref a6) (.long p4) (.long p7) (.int 1) (.long p8) (.int 1) (.long p9) (.int 0)) (g_a1 : n0 <= a1) (F0_4 : Arv Z h0 a5 k10 .long p12 [(.long p11), (.long 0)] (.long 0)) (g_a5 : n0 <= a5) (F0_6 : Arv Z h0 a6 k13 .long p12 [(.long p9), (.long 0)] (.long 0)) (g_a6 : n0 <= a6) (lt0_0 : a3 < a1) (lt0_1 : a1 < a5) (lt0_2 : a5 < a6) (hp0 : ¬ p4 < (1 : Int64)) (hp1 : ¬ (8 : Int64) < p4) (hp2 : ¬ p7 < (1 : Int64)) (hp3 : ¬ p12 < (1 : Int32)) (hp4 : ¬ (8 : Int32) < p12) (hp5 : ¬ p2 < (1 : Int64)) (hp6 : ¬ p12 < (2 : Int32)) (hd18 : p12 = p4.toInt32) :
    KMet l (⟨"com/example/halter/halter/SlidingSum", "remember", "(J)V"⟩ : MethodName) prog_20_method_9_code 4 none ws R13_42 #[(.ref a1), (.long p2)] Z h0 R13_42.cells R13_42.slots (Q13_42 Z a1 a3 a5 a6 p2 p4 p7 p8 p9 p11 k10 k13 p12 h0 n0) := by
 refine k_body (plainFor_of_name pn_1) (fun m => ef13_14 m a1 p2) ?_
 intro p e s m below meth c s₁ hx D hml hlk hret hown hnm hZ X0 e0
 have N0 := Fr.nil n0
 obtain ⟨f0, f1, f2⟩ := B0
 obtain ⟨f3, f4, f5, f6, f7, f8, f9, f10, f11, f12⟩ := B2
 refine k_aloadN X0 hx 1 (D d13_0) rfl rfl ?_
 refine k_getF1 X0 hx hZ hown 4 (k_w hw 61 rfl) e0 f10 (D d13_1) (fun T101 X101 e101 => ?_)
 refine k_if_le X101 hx 7 52 (D d13_4) (fun hc => absurd (by decide) hc) (fun _ => ?_)
 refine k_aloadN X101 hx 8 (D d13_7) rfl rfl ?_
 refine k_getF1 X101 hx hZ hown 11 (k_w hw 29 rfl) e101 f4 (D d13_8) (fun T102 X102 e102 => ?_)
 refine k_aloadN X102 hx 12 (D d13_11) rfl rfl ?_
 refine k_aloadN X102 hx 13 (D d13_12) rfl rfl ?_
 refine k_getF1 X102 hx hZ hown 16 (k_w hw 61 rfl) e102 f10 (D d13_13) (fun T103 X103 e103 => ?_)
 refine k_iconst X103 hx 17 (D d13_16) (z := (1 : Int32)) rfl ?_
 refine k_isubL X103 hx 18 (D d13_17) (z := (0 : Int32)) (by decide) ?_
 refine k_callP X103 hx hZ hown 21 (a := a1) (k_w hw 101 rfl) (k_w hw 102 rfl) (k_w hw 103 rfl) (k_w hw 22 rfl) (k_w hw 23 rfl) (k_w hw 104 rfl) (by decide) f3 (rm17_43 l Z a0 hw [] a1 a5 a6 p4 p7 p8 p9 p11 k10 k13 p12 h0 n0 Z0 ⟨f3, f4, f5, f6, f7, f8, f9, f10, f11, f12⟩ F0_4 F0_6 lt0_1 lt0_2 hp0 hp1 hp2 hp3 hp4 hd18) (by decide) (by decide) e103 (by rw [hml]; rfl) (argsL := [(.int 0)]) (rest := [(.ref a5)]) (lenOf pd_7 rfl) rfl (W := 1) (Nat.le_refl _) rfl (D d13_18) (by decide) (by decide) (fun T104 L104 r104 X104 q104 => ?_)
 obtain ⟨N104, e104, q104⟩ := q104
 have N104' := Fr.app N0 N104
 obtain rfl := q104
 refine k_n1 ?_
 refine k_laload X104 hx hZ 22 e104 F0_4 ⟨by decide, (Classical.byContradiction (fun hq105 => by have B106 : (1 : Int) <= p4.toInt /\ p4.toInt <= 8 := ⟨kL_ge hp0 (by decide), kL_le hp1 (by decide)⟩; have B107 : (1 : Int) <= p7.toInt /\ p7.toInt <= 9223372036854775807 := ⟨kL_ge hp2 (by decide), Int.le_of_lt_add_one (rng64 p7).2⟩; have q109 : p12.toInt = p4.toInt := k_l2ix hd18 B106 (by decide) (by decide); have B108 : (2 : Int) <= p12.toInt /\ p12.toInt <= 0 := ⟨k_ge hp6 (by decide), k_le hq105 (by decide)⟩; have B110 : (1 : Int) <= p2.toInt /\ p2.toInt <= 9223372036854775807 := ⟨kL_ge hp5 (by decide), Int.le_of_lt_add_one (rng64 p2).2⟩; omega))⟩ (v := (.long p11)) rfl (D d13_21) ?_
 refine k_aloadN X104 hx 23 (D d13_22) rfl rfl ?_
 refine k_getF1 X104 hx hZ hown 26 (k_w hw 55 rfl) e104 f9 (D d13_23) (fun T111 X111 e111 => ?_)
 refine k_lcif_ne X111 hx 30 52 27 (D d13_26) (D d13_27) (fun hc112 => ?_) (fun hc112 => ?_)
 ·
  refine k_aloadN X111 hx 53 (D d13_52) rfl rfl ?_
  refine k_getF1 X111 hx hZ hown 56 (k_w hw 61 rfl) e111 f10 (D d13_53) (fun T113 X113 e113 => ?_)
  refine k_aloadN X113 hx 57 (D d13_56) rfl rfl ?_
  refine k_getF1 X113 hx hZ hown 60 (k_w hw 29 rfl) e113 f4 (D d13_57) (fun T114 X114 e114 => ?_)
  refine k_alen X114 hx hZ 61 e114 F0_4 (D d13_60) ?_
  refine k_icmp_ne X114 hx 64 68 (D d13_61) (fun _ => ?_) (fun hc => absurd hc (fun q => (k_d_ne_nxlt hp6 (by decide)) q.symm))
  refine k_aloadN X114 hx 69 (D d13_68) rfl rfl ?_
  refine k_aloadN X114 hx 70 (D d13_69) rfl rfl ?_
  refine k_getF1 X114 hx hZ hown 73 (k_w hw 61 rfl) e114 f10 (D d13_70) (fun T115 X115 e115 => ?_)
  refine k_callP X115 hx hZ hown 76 (a := a1) (k_w hw 101 rfl) (k_w hw 102 rfl) (k_w hw 103 rfl) (k_w hw 22 rfl) (k_w hw 23 rfl) (k_w hw 104 rfl) (by decide) f3 (rm17_44 l Z a0 hw [] a1 a5 a6 p4 p7 p8 p9 p11 k10 k13 p12 h0 n0 Z0 ⟨f3, f4, f5, f6, f7, f8, f9, f10, f11, f12⟩ F0_4 F0_6 lt0_1 lt0_2 hp0 hp1 hp2 hp3 hp4 hd18) (by decide) (by decide) e115 (by rw [hml]; rfl) (argsL := [(.int 1)]) (rest := []) (lenOf pd_7 rfl) rfl (W := 0) (Nat.le_refl _) rfl (D d13_73) (by decide) (by decide) (fun T116 L116 r116 X116 q116 => ?_)
  obtain ⟨N116, e116, q116⟩ := q116
  have N116' := Fr.app N104' N116
  rcases q116 with ⟨hc117, rfl⟩ | ⟨hc118, rfl⟩
  ·
   refine k_n1 ?_
   exact absurd (k_d_alt_nxlt hp6 (by decide)) hc117
  ·
   refine k_n1 ?_
   refine k_istoreN X116 hx 77 (D d13_76) (Ls' := #[rv a1, jv p2, s_, iv 1]) rfl ?_
   refine k_aloadN X116 hx 78 (D d13_77) rfl rfl ?_
   refine k_getF1 X116 hx hZ hown 81 (k_w hw 29 rfl) e116 f4 (D d13_78) (fun T119 X119 e119 => ?_)
   refine k_iloadN X119 hx 82 (D d13_81) rfl ?_
   refine k_aloadN X119 hx 83 (D d13_82) rfl rfl ?_
   refine k_getF1 X119 hx hZ hown 86 (k_w hw 55 rfl) e119 f9 (D d13_83) (fun T120 X120 e120 => ?_)
   refine k_lastore X120 hx hZ 87 e120 F0_4 ⟨by decide, (Classical.byContradiction (fun hq122 => by have B123 : (1 : Int) <= p4.toInt /\ p4.toInt <= 8 := ⟨kL_ge hp0 (by decide), kL_le hp1 (by decide)⟩; have B124 : (1 : Int) <= p7.toInt /\ p7.toInt <= 9223372036854775807 := ⟨kL_ge hp2 (by decide), Int.le_of_lt_add_one (rng64 p7).2⟩; have q126 : p12.toInt = p4.toInt := k_l2ix hd18 B123 (by decide) (by decide); have B125 : (2 : Int) <= p12.toInt /\ p12.toInt <= 1 := ⟨k_ge hp6 (by decide), k_le hq122 (by decide)⟩; have B127 : (1 : Int) <= p2.toInt /\ p2.toInt <= 9223372036854775807 := ⟨kL_ge hp5 (by decide), Int.le_of_lt_add_one (rng64 p2).2⟩; have B128 : (-9223372036854775808 : Int) <= p11.toInt /\ p11.toInt <= 9223372036854775807 := ⟨(rng64 p11).1, Int.le_of_lt_add_one (rng64 p11).2⟩; have B129 : (-9223372036854775808 : Int) <= p8.toInt /\ p8.toInt <= 9223372036854775807 := ⟨(rng64 p8).1, Int.le_of_lt_add_one (rng64 p8).2⟩; have q130 : ¬ p11.toInt = p8.toInt := fun q => hc112 (Int64.toInt_inj.mp q); omega))⟩ (i := 1) rfl (Nat.le_of_ble_eq_true rfl) (D d13_86) (fun T121 h121 X121 e121 W121 V121 => ?_)
   have Vw121 : Arv Z h121 a5 k10 .long p12 [(.long p11), (.long p8)] (.long 0) := V121
   have N121 := Fr.snoc X121 N116' g_a5
   have Z121 := k_zw Z0 W121
   refine k_aloadN X121 hx 88 (D d13_87) rfl rfl ?_
   have F131 := (f5.other W121 (Or.inl (Nat.ne_of_lt lt0_1)))
   refine k_getF1 X121 hx hZ hown 91 (k_w hw 31 rfl) e121 F131 (D d13_88) (fun T132 X132 e132 => ?_)
   refine k_iloadN X132 hx 92 (D d13_91) rfl ?_
   refine k_lloadN X132 hx 93 (D d13_92) rfl ?_
   have F133 := (F0_6.other W121 (Ne.symm (Nat.ne_of_lt lt0_2)))
   refine k_lastore X132 hx hZ 94 e132 F133 ⟨by decide, (Classical.byContradiction (fun hq135 => by have B136 : (1 : Int) <= p4.toInt /\ p4.toInt <= 8 := ⟨kL_ge hp0 (by decide), kL_le hp1 (by decide)⟩; have B137 : (1 : Int) <= p7.toInt /\ p7.toInt <= 9223372036854775807 := ⟨kL_ge hp2 (by decide), Int.le_of_lt_add_one (rng64 p7).2⟩; have q139 : p12.toInt = p4.toInt := k_l2ix hd18 B136 (by decide) (by decide); have B138 : (2 : Int) <= p12.toInt /\ p12.toInt <= 1 := ⟨k_ge hp6 (by decide), k_le hq135 (by decide)⟩; have B140 : (1 : Int) <= p2.toInt /\ p2.toInt <= 9223372036854775807 := ⟨kL_ge hp5 (by decide), Int.le_of_lt_add_one (rng64 p2).2⟩; have B141 : (-9223372036854775808 : Int) <= p11.toInt /\ p11.toInt <= 9223372036854775807 := ⟨(rng64 p11).1, Int.le_of_lt_add_one (rng64 p11).2⟩; have B142 : (-9223372036854775808 : Int) <= p8.toInt /\ p8.toInt <= 9223372036854775807 := ⟨(rng64 p8).1, Int.le_of_lt_add_one (rng64 p8).2⟩; have q143 : ¬ p11.toInt = p8.toInt := fun q => hc112 (Int64.toInt_inj.mp q); omega))⟩ (i := 1) rfl (Nat.le_of_ble_eq_true rfl) (D d13_93) (fun T134 h134 X134 e134 W134 V134 => ?_)
   have Vw134 : Arv Z h134 a6 k13 .long p12 [(.long p9), (.long p2)] (.long 0) := V134
   have N134 := Fr.snoc X134 N121 g_a6
   have Z134 := k_zw Z121 W134
   refine k_aloadN X134 hx 95 (D d13_94) rfl rfl ?_
   refine k_dup X134 hx 96 (D d13_95) rfl ?_
   have F144 := ((f10.other W121 (Or.inl (Nat.ne_of_lt lt0_1))).other W134 (Or.inl (Nat.ne_of_lt (Nat.lt_trans lt0_1 lt0_2))))
   refine k_getF1 X134 hx hZ hown 99 (k_w hw 61 rfl) e134 F144 (D d13_96) (fun T145 X145 e145 => ?_)
   refine k_iconst X145 hx 100 (D d13_99) (z := (1 : Int32)) rfl ?_
   refine k_iaddL X145 hx 101 (D d13_100) (z := (2 : Int32)) (by decide) ?_
   have F146 := ((f3.wr W121).wr W134)
   refine k_putF1 X145 hx hZ hown 104 (k_w hw 61 rfl) e145 F144 F146 (Or.inl (k_w hw 62 rfl)) (k_w hw 22 rfl) .int rfl rfl (D d13_101) (fun T147 h147 X147 e147 W147 => ?_)
   have Fw147 := F144.same W147
   have N147 := Fr.snoc X147 N134 g_a1
   have Z147 := k_zw Z134 W147
   refine k_aloadN X147 hx 105 (D d13_104) rfl rfl ?_
   refine k_dup X147 hx 106 (D d13_105) rfl ?_
   have F148 := (((f11.other W121 (Or.inl (Nat.ne_of_lt lt0_1))).other W134 (Or.inl (Nat.ne_of_lt (Nat.lt_trans lt0_1 lt0_2)))).other W147 (Or.inr (sn58 hw)))
   refine k_getF1 X147 hx hZ hown 109 (k_w hw 63 rfl) e147 F148 (D d13_106) (fun T149 X149 e149 => ?_)
   refine k_lloadN X149 hx 110 (D d13_109) rfl ?_
   refine k_ladd X149 hx 111 (D d13_110) (fun v150 hv150 => ?_)
   have F151 := (F146.wr W147)
   refine k_putF1 X149 hx hZ hown 114 (k_w hw 63 rfl) e149 F148 F151 (Or.inl (k_w hw 64 rfl)) (k_w hw 22 rfl) .long rfl rfl (D d13_111) (fun T152 h152 X152 e152 W152 => ?_)
   have Fw152 := F148.same W152
   have N152 := Fr.snoc X152 N147 g_a1
   have Z152 := k_zw Z147 W152
   have F180 := ((((f0.wr W121).wr W134).wr W147).wr W152)
   have F181 := ((((f1.other W121 (Or.inl (Nat.ne_of_lt (Nat.lt_trans lt0_0 lt0_1)))).other W134 (Or.inl (Nat.ne_of_lt (Nat.lt_trans (Nat.lt_trans lt0_0 lt0_1) lt0_2)))).other W147 (Or.inl (Nat.ne_of_lt lt0_0))).other W152 (Or.inl (Nat.ne_of_lt lt0_0)))
   have F182 := ((((f2.other W121 (Or.inl (Nat.ne_of_lt (Nat.lt_trans lt0_0 lt0_1)))).other W134 (Or.inl (Nat.ne_of_lt (Nat.lt_trans (Nat.lt_trans lt0_0 lt0_1) lt0_2)))).other W147 (Or.inl (Nat.ne_of_lt lt0_0))).other W152 (Or.inl (Nat.ne_of_lt lt0_0)))
   have F183 := (F151.wr W152)
   have F184 := ((((f4.other W121 (Or.inl (Nat.ne_of_lt lt0_1))).other W134 (Or.inl (Nat.ne_of_lt (Nat.lt_trans lt0_1 lt0_2)))).other W147 (Or.inr (sn59 hw))).other W152 (Or.inr (sn60 hw)))
   have F185 := (((F131.other W134 (Or.inl (Nat.ne_of_lt (Nat.lt_trans lt0_1 lt0_2)))).other W147 (Or.inr (sn61 hw))).other W152 (Or.inr (sn62 hw)))
   have F186 := ((((f6.other W121 (Or.inl (Nat.ne_of_lt lt0_1))).other W134 (Or.inl (Nat.ne_of_lt (Nat.lt_trans lt0_1 lt0_2)))).other W147 (Or.inr (sn63 hw))).other W152 (Or.inr (sn64 hw)))
   have F187 := ((((f7.other W121 (Or.inl (Nat.ne_of_lt lt0_1))).other W134 (Or.inl (Nat.ne_of_lt (Nat.lt_trans lt0_1 lt0_2)))).other W147 (Or.inr (sn65 hw))).other W152 (Or.inr (sn66 hw)))
   have F188 := ((((f8.other W121 (Or.inl (Nat.ne_of_lt lt0_1))).other W134 (Or.inl (Nat.ne_of_lt (Nat.lt_trans lt0_1 lt0_2)))).other W147 (Or.inr (sn67 hw))).other W152 (Or.inr (sn68 hw)))
   have F189 := ((((f9.other W121 (Or.inl (Nat.ne_of_lt lt0_1))).other W134 (Or.inl (Nat.ne_of_lt (Nat.lt_trans lt0_1 lt0_2)))).other W147 (Or.inr (sn69 hw))).other W152 (Or.inr (sn70 hw)))
   have F190 := (Fw147.other W152 (Or.inr (sn71 hw)))
   have F191 := ((((f12.other W121 (Or.inl (Nat.ne_of_lt lt0_1))).other W134 (Or.inl (Nat.ne_of_lt (Nat.lt_trans lt0_1 lt0_2)))).other W147 (Or.inr (sn72 hw))).other W152 (Or.inr (sn73 hw)))
   have F192 := (((Vw121.other W134 (Nat.ne_of_lt lt0_2)).other W147 (Ne.symm (Nat.ne_of_lt lt0_1))).other W152 (Ne.symm (Nat.ne_of_lt lt0_1)))
   have F193 := ((Vw134.other W147 (Ne.symm (Nat.ne_of_lt (Nat.lt_trans lt0_1 lt0_2)))).other W152 (Ne.symm (Nat.ne_of_lt (Nat.lt_trans lt0_1 lt0_2))))
   exact k_ret X152 hx hret (D d13_114) hlk (by decide) (by decide) (by rw [e152]; exact ⟨N152, (Or.inl ⟨v150, hv150, hc112, hc118, rfl, ⟨F180, F181, F182⟩, ⟨F183, F184, F185, F186, F187, F188, F189, F190, Fw152, F191⟩, F192, F193, Z152⟩)⟩)
 ·
  refine k_aloadN X111 hx 31 (D d13_30) rfl rfl ?_
  refine k_getF1 X111 hx hZ hown 34 (k_w hw 31 rfl) e111 f5 (D d13_31) (fun T153 X153 e153 => ?_)
  refine k_aloadN X153 hx 35 (D d13_34) rfl rfl ?_
  refine k_aloadN X153 hx 36 (D d13_35) rfl rfl ?_
  refine k_getF1 X153 hx hZ hown 39 (k_w hw 61 rfl) e153 f10 (D d13_36) (fun T154 X154 e154 => ?_)
  refine k_iconst X154 hx 40 (D d13_39) (z := (1 : Int32)) rfl ?_
  refine k_isubL X154 hx 41 (D d13_40) (z := (0 : Int32)) (by decide) ?_
  refine k_callP X154 hx hZ hown 44 (a := a1) (k_w hw 101 rfl) (k_w hw 102 rfl) (k_w hw 103 rfl) (k_w hw 22 rfl) (k_w hw 23 rfl) (k_w hw 104 rfl) (by decide) f3 (rm17_43 l Z a0 hw [] a1 a5 a6 p4 p7 p8 p9 p11 k10 k13 p12 h0 n0 Z0 ⟨f3, f4, f5, f6, f7, f8, f9, f10, f11, f12⟩ F0_4 F0_6 lt0_1 lt0_2 hp0 hp1 hp2 hp3 hp4 hd18) (by decide) (by decide) e154 (by rw [hml]; rfl) (argsL := [(.int 0)]) (rest := [(.ref a6)]) (lenOf pd_7 rfl) rfl (W := 1) (Nat.le_refl _) rfl (D d13_41) (by decide) (by decide) (fun T155 L155 r155 X155 q155 => ?_)
  obtain ⟨N155, e155, q155⟩ := q155
  have N155' := Fr.app N104' N155
  obtain rfl := q155
  refine k_n1 ?_
  refine k_dup2 X155 hx 45 (D d13_44) rfl rfl ?_
  refine k_laload X155 hx hZ 46 e155 F0_6 ⟨by decide, (Classical.byContradiction (fun hq156 => by have B157 : (1 : Int) <= p4.toInt /\ p4.toInt <= 8 := ⟨kL_ge hp0 (by decide), kL_le hp1 (by decide)⟩; have B158 : (1 : Int) <= p7.toInt /\ p7.toInt <= 9223372036854775807 := ⟨kL_ge hp2 (by decide), Int.le_of_lt_add_one (rng64 p7).2⟩; have q160 : p12.toInt = p4.toInt := k_l2ix hd18 B157 (by decide) (by decide); have B159 : (2 : Int) <= p12.toInt /\ p12.toInt <= 0 := ⟨k_ge hp6 (by decide), k_le hq156 (by decide)⟩; have B161 : (1 : Int) <= p2.toInt /\ p2.toInt <= 9223372036854775807 := ⟨kL_ge hp5 (by decide), Int.le_of_lt_add_one (rng64 p2).2⟩; have B162 : (-9223372036854775808 : Int) <= p11.toInt /\ p11.toInt <= 9223372036854775807 := ⟨(rng64 p11).1, Int.le_of_lt_add_one (rng64 p11).2⟩; have B163 : (-9223372036854775808 : Int) <= p8.toInt /\ p8.toInt <= 9223372036854775807 := ⟨(rng64 p8).1, Int.le_of_lt_add_one (rng64 p8).2⟩; have q164 := congrArg Int64.toInt hc112; omega))⟩ (v := (.long p9)) rfl (D d13_45) ?_
  refine k_lloadN X155 hx 47 (D d13_46) rfl ?_
  refine k_ladd X155 hx 48 (D d13_47) (fun v165 hv165 => ?_)
  refine k_lastore X155 hx hZ 49 e155 F0_6 ⟨by decide, (Classical.byContradiction (fun hq167 => by have B168 : (1 : Int) <= p4.toInt /\ p4.toInt <= 8 := ⟨kL_ge hp0 (by decide), kL_le hp1 (by decide)⟩; have B169 : (1 : Int) <= p7.toInt /\ p7.toInt <= 9223372036854775807 := ⟨kL_ge hp2 (by decide), Int.le_of_lt_add_one (rng64 p7).2⟩; have q171 : p12.toInt = p4.toInt := k_l2ix hd18 B168 (by decide) (by decide); have B170 : (2 : Int) <= p12.toInt /\ p12.toInt <= 0 := ⟨k_ge hp6 (by decide), k_le hq167 (by decide)⟩; have B172 : (1 : Int) <= p2.toInt /\ p2.toInt <= 9223372036854775807 := ⟨kL_ge hp5 (by decide), Int.le_of_lt_add_one (rng64 p2).2⟩; have B173 : (-9223372036854775808 : Int) <= p11.toInt /\ p11.toInt <= 9223372036854775807 := ⟨(rng64 p11).1, Int.le_of_lt_add_one (rng64 p11).2⟩; have B174 : (-9223372036854775808 : Int) <= p8.toInt /\ p8.toInt <= 9223372036854775807 := ⟨(rng64 p8).1, Int.le_of_lt_add_one (rng64 p8).2⟩; have q175 := congrArg Int64.toInt hc112; omega))⟩ (i := 0) rfl (Nat.le_of_ble_eq_true rfl) (D d13_48) (fun T166 h166 X166 e166 W166 V166 => ?_)
  have Vw166 : Arv Z h166 a6 k13 .long p12 [(.long v165), (.long 0)] (.long 0) := V166
  have N166 := Fr.snoc X166 N155' g_a6
  have Z166 := k_zw Z0 W166
  refine k_goto X166 hx 104 (D d13_49) ?_
  refine k_aloadN X166 hx 105 (D d13_104) rfl rfl ?_
  refine k_dup X166 hx 106 (D d13_105) rfl ?_
  have F176 := (f11.other W166 (Or.inl (Nat.ne_of_lt (Nat.lt_trans lt0_1 lt0_2))))
  refine k_getF1 X166 hx hZ hown 109 (k_w hw 63 rfl) e166 F176 (D d13_106) (fun T177 X177 e177 => ?_)
  refine k_lloadN X177 hx 110 (D d13_109) rfl ?_
  refine k_laddL X177 hx 111 (D d13_110) (z := v165) hv165.symm ?_
  have F178 := (f3.wr W166)
  refine k_putF1 X177 hx hZ hown 114 (k_w hw 63 rfl) e177 F176 F178 (Or.inl (k_w hw 64 rfl)) (k_w hw 22 rfl) .long rfl rfl (D d13_111) (fun T179 h179 X179 e179 W179 => ?_)
  have Fw179 := F176.same W179
  have N179 := Fr.snoc X179 N166 g_a1
  have Z179 := k_zw Z166 W179
  have F194 := ((f0.wr W166).wr W179)
  have F195 := ((f1.other W166 (Or.inl (Nat.ne_of_lt (Nat.lt_trans (Nat.lt_trans lt0_0 lt0_1) lt0_2)))).other W179 (Or.inl (Nat.ne_of_lt lt0_0)))
  have F196 := ((f2.other W166 (Or.inl (Nat.ne_of_lt (Nat.lt_trans (Nat.lt_trans lt0_0 lt0_1) lt0_2)))).other W179 (Or.inl (Nat.ne_of_lt lt0_0)))
  have F197 := (F178.wr W179)
  have F198 := ((f4.other W166 (Or.inl (Nat.ne_of_lt (Nat.lt_trans lt0_1 lt0_2)))).other W179 (Or.inr (sn60 hw)))
  have F199 := ((f5.other W166 (Or.inl (Nat.ne_of_lt (Nat.lt_trans lt0_1 lt0_2)))).other W179 (Or.inr (sn62 hw)))
  have F200 := ((f6.other W166 (Or.inl (Nat.ne_of_lt (Nat.lt_trans lt0_1 lt0_2)))).other W179 (Or.inr (sn64 hw)))
  have F201 := ((f7.other W166 (Or.inl (Nat.ne_of_lt (Nat.lt_trans lt0_1 lt0_2)))).other W179 (Or.inr (sn66 hw)))
  have F202 := ((f8.other W166 (Or.inl (Nat.ne_of_lt (Nat.lt_trans lt0_1 lt0_2)))).other W179 (Or.inr (sn68 hw)))
  have F203 := ((f9.other W166 (Or.inl (Nat.ne_of_lt (Nat.lt_trans lt0_1 lt0_2)))).other W179 (Or.inr (sn70 hw)))
  have F204 := ((f10.other W166 (Or.inl (Nat.ne_of_lt (Nat.lt_trans lt0_1 lt0_2)))).other W179 (Or.inr (sn71 hw)))
  have F205 := ((f12.other W166 (Or.inl (Nat.ne_of_lt (Nat.lt_trans lt0_1 lt0_2)))).other W179 (Or.inr (sn73 hw)))
  have F206 := ((F0_4.other W166 (Nat.ne_of_lt lt0_2)).other W179 (Ne.symm (Nat.ne_of_lt lt0_1)))
  have F207 := (Vw166.other W179 (Ne.symm (Nat.ne_of_lt (Nat.lt_trans lt0_1 lt0_2))))
  exact k_ret X179 hx hret (D d13_114) hlk (by decide) (by decide) (by rw [e179]; exact ⟨N179, (Or.inr ⟨v165, hv165, hc112, rfl, ⟨F194, F195, F196⟩, ⟨F197, F198, F199, F200, F201, F202, F203, F204, Fw179, F205⟩, F206, F207, Z179⟩)⟩)
abbrev R12_39 : Room := { frames := 2, cells := 0, slots := 0, locals := 30 }
def Q12_39 (Z : State) (a1 a4 a6 a7 : Addr) (p2 p3 p5 p8 p9 p11 : Int64) (k10 k13 : ClassId) (p12 : Int32) (h0 : Heap) (n0 : Nat) (v : Option Value) (h : Heap) (L : List Loc) : Prop := Fr n0 L /\ ((∃ (v142 : Int64), v142 = p9 + p2 /\ ¬ p12 < (2 : Int32) /\ ¬ p11 = p3 /\ (1 : Int32) < p12 /\ v = none /\ BL Z h a4 (.long p5) (.ref a1) /\ BS Z h a1 (.ref a6) (.ref a7) (.long p5) (.long p8) (.int 1) (.long p3) (.int 2) (.long v142) (.int 0) /\ Arv Z h a6 k10 .long p12 [(.long p11), (.long p3)] (.long 0) /\ Arv Z h a7 k13 .long p12 [(.long p9), (.long p2)] (.long 0) /\ n0 <= h.size) \/ (∃ (v162 : Int64), v162 = p9 + p2 /\ ¬ p12 < (2 : Int32) /\ p11 = p3 /\ v = none /\ BL Z h a4 (.long p5) (.ref a1) /\ BS Z h a1 (.ref a6) (.ref a7) (.long p5) (.long p8) (.int 1) (.long p3) (.int 1) (.long v162) (.int 0) /\ Arv Z h a6 k10 .long p12 [(.long p11), (.long 0)] (.long 0) /\ Arv Z h a7 k13 .long p12 [(.long v162), (.long 0)] (.long 0) /\ n0 <= h.size))
theorem rm12_39 (l : Launch) (Z : State) (a0 : Array Value) (hw : WW a0 Z) (ws : List Jvm.Cond) (a1 a4 a6 a7 : Addr) (p2 p3 p5 p8 p9 p11 : Int64) (k10 k13 : ClassId) (p12 : Int32) (h0 : Heap) (n0 : Nat) (Z0 : n0 <= h0.size) (B0 : BL Z h0 a4 (.long p5) (.ref a1)) (g_a4 : n0 <= a4) (B2 : BS Z h0 a1 (.ref a6) (.ref a7) (.long p5) (.long p8) (.int 1) (.long p3) (.int 1) (.long p9) (.int 0)) (g_a1 : n0 <= a1) (F0_4 : Arv Z h0 a6 k10 .long p12 [(.long p11), (.long 0)] (.long 0)) (g_a6 : n0 <= a6) (F0_6 : Arv Z h0 a7 k13 .long p12 [(.long p9), (.long 0)] (.long 0)) (g_a7 : n0 <= a7) (lt0_0 : a4 < a1) (lt0_1 : a1 < a6) (lt0_2 : a6 < a7) (hp0 : ¬ p5 < (1 : Int64)) (hp1 : ¬ (8 : Int64) < p5) (hp2 : ¬ p8 < (1 : Int64)) (hp3 : ¬ p12 < (1 : Int32)) (hp4 : ¬ (8 : Int32) < p12) (hp5 : ¬ p2 < (1 : Int64)) (hp6 : ¬ p9 < (1 : Int64)) (hd18 : p12 = p5.toInt32) (hx19 : ¬ (p5.toInt32) < (1 : Int32)) (hx20 : ¬ (8 : Int32) < (p5.toInt32)) (hx21 : (0 : Int64) < (p3 - p11)) (hx22 : (p3 - p11) < p8) (hx23 : ¬ (p5 - p9) < p2) :
    KMet l (⟨"com/example/halter/halter/SlidingSum", "add", "(JJ)V"⟩ : MethodName) prog_20_method_3_code 5 none ws R12_39 #[(.ref a1), (.long p2), (.long p3)] Z h0 R12_39.cells R12_39.slots (Q12_39 Z a1 a4 a6 a7 p2 p3 p5 p8 p9 p11 k10 k13 p12 h0 n0) := by
 refine k_body (plainFor_of_name pn_1) (fun m => ef5_4 m a1 p2 p3) ?_
 intro p e s m below meth c s₁ hx D hml hlk hret hown hnm hZ X0 e0
 have N0 := Fr.nil n0
 obtain ⟨f0, f1, f2⟩ := B0
 obtain ⟨f3, f4, f5, f6, f7, f8, f9, f10, f11, f12⟩ := B2
 refine k_aloadN X0 hx 1 (D d12_0) rfl rfl ?_
 refine k_lloadN X0 hx 2 (D d12_1) rfl ?_
 refine k_callP X0 hx hZ hown 5 (a := a1) (k_w hw 49 rfl) (k_w hw 50 rfl) (k_w hw 51 rfl) (k_w hw 22 rfl) (k_w hw 23 rfl) (k_w hw 52 rfl) (by decide) f3 (rm8_40 l Z a0 hw [] a1 a4 a6 a7 p3 p5 p8 p9 p11 k10 k13 p12 h0 n0 Z0 ⟨f0, f1, f2⟩ g_a4 ⟨f3, f4, f5, f6, f7, f8, f9, f10, f11, f12⟩ g_a1 F0_4 g_a6 F0_6 g_a7 lt0_0 lt0_1 lt0_2 hp0 hp1 hp2 hp3 hp4 hd18 (by have q := hp3; rw [hd18] at q; exact q) (by have q := hp4; rw [hd18] at q; exact q) hp6 hx21 hx22) (by decide) (by decide) e0 (by rw [hml]; rfl) (argsL := [(.long p3)]) (rest := []) (lenOf pd_3 rfl) rfl (W := 0) (Nat.le_refl _) rfl (D d12_2) (by decide) (by decide) (fun T101 L101 r101 X101 q101 => ?_)
 obtain ⟨N101, q101⟩ := q101
 have N101' := Fr.app N0 N101
 obtain ⟨rfl, ⟨F102, F103, F104⟩, ⟨F105, F106, F107, F108, F109, F110, F111, F112, F113, F114⟩, F115, F116, Z117⟩ := q101
 refine k_n0 ?_
 refine k_lloadN X101 hx 6 (D d12_5) rfl ?_
 refine k_lconst X101 hx 7 (D d12_6) (z := (1 : Int64)) rfl ?_
 refine k_lcif_lt X101 hx 11 25 8 (D d12_7) (D d12_8) (fun hc => absurd hc hp5) (fun _ => ?_)
 refine k_lloadN X101 hx 12 (D d12_11) rfl ?_
 refine k_aloadN X101 hx 13 (D d12_12) rfl rfl ?_
 refine k_getF1 X101 hx hZ hown 16 (k_w hw 33 rfl) rfl F108 (D d12_13) (fun T118 X118 e118 => ?_)
 refine k_aloadN X118 hx 17 (D d12_16) rfl rfl ?_
 refine k_getF1 X118 hx hZ hown 20 (k_w hw 63 rfl) e118 F113 (D d12_17) (fun T119 X119 e119 => ?_)
 refine k_lsub X119 hx 21 (D d12_20) (fun v120 hv120 => ?_)
 refine k_lcif_le X119 hx 25 47 22 (D d12_21) (D d12_22) (fun _ => ?_) (fun hc => absurd hc (by rw [hv120]; exact hx23))
 refine k_aloadN X119 hx 48 (D d12_47) rfl rfl ?_
 refine k_lloadN X119 hx 49 (D d12_48) rfl ?_
 have hp121 : ¬ p12 < (2 : Int32) := by
  intro hq122
  have B123 : (1 : Int) <= p5.toInt /\ p5.toInt <= 8 := ⟨kL_ge hp0 (by decide), kL_le hp1 (by decide)⟩
  have B124 : (1 : Int) <= p8.toInt /\ p8.toInt <= 9223372036854775807 := ⟨kL_ge hp2 (by decide), Int.le_of_lt_add_one (rng64 p8).2⟩
  have q126 : p12.toInt = p5.toInt := k_l2ix hd18 B123 (by decide) (by decide)
  have B125 : (1 : Int) <= p12.toInt /\ p12.toInt <= 8 := (by rw [q126]; exact B123)
  have B127 : (1 : Int) <= p12.toInt /\ p12.toInt <= 1 := ⟨B125.1, k_lt hq122 (by decide)⟩
  have B128 : (1 : Int) <= p2.toInt /\ p2.toInt <= 9223372036854775807 := ⟨kL_ge hp5 (by decide), Int.le_of_lt_add_one (rng64 p2).2⟩
  have B129 : (1 : Int) <= p9.toInt /\ p9.toInt <= 9223372036854775807 := ⟨kL_ge hp6 (by decide), Int.le_of_lt_add_one (rng64 p9).2⟩
  have B130 : (1 : Int) <= (p5.toInt32).toInt /\ (p5.toInt32).toInt <= 8 := ⟨k_ge hx19 (by decide), k_le hx20 (by decide)⟩
  have B133 : (-9223372036854775808 : Int) <= p3.toInt /\ p3.toInt <= 9223372036854775807 := ⟨(rng64 p3).1, Int.le_of_lt_add_one (rng64 p3).2⟩
  have B134 : (-9223372036854775808 : Int) <= p11.toInt /\ p11.toInt <= 9223372036854775807 := ⟨(rng64 p11).1, Int.le_of_lt_add_one (rng64 p11).2⟩
  have q135 : ((p3 - p11).toInt - (p3.toInt - p11.toInt)) % 18446744073709551616 = 0 := c_lsub _ _
  have B131 : (-9223372036854775808 : Int) <= (p3 - p11).toInt /\ (p3 - p11).toInt <= 9223372036854775807 := ⟨(rng64 (p3 - p11)).1, Int.le_of_lt_add_one (rng64 (p3 - p11)).2⟩
  have B136 : (1 : Int) <= (p3 - p11).toInt /\ (p3 - p11).toInt <= 9223372036854775807 := ⟨kL_gt hx21 (by decide), B131.2⟩
  have q137 := kL_p hx22
  have q139 : (p5 - p9).toInt = p5.toInt - p9.toInt := k_lsubx rfl B123 B129 (by decide) (by decide)
  have B138 : (-9223372036854775806 : Int) <= (p5 - p9).toInt /\ (p5 - p9).toInt <= 7 := k_subB' q139 B123 B129
  have q140 := kL_m hx23
  omega
 refine k_callP X119 hx hZ hown 52 (a := a1) (k_w hw 79 rfl) (k_w hw 80 rfl) (k_w hw 81 rfl) (k_w hw 22 rfl) (k_w hw 23 rfl) (k_w hw 82 rfl) (by decide) F105 (rm13_42 l Z a0 hw [] a1 a4 a6 a7 p2 p5 p8 p3 p9 p11 k10 k13 p12 T101.heap n0 Z117 ⟨F102, F103, F104⟩ g_a4 ⟨F105, F106, F107, F108, F109, F110, F111, F112, F113, F114⟩ g_a1 F115 g_a6 F116 g_a7 lt0_0 lt0_1 lt0_2 hp0 hp1 hp2 hp3 hp4 hp5 hp121 hd18) (by decide) (by decide) e119 (by rw [hml]; rfl) (argsL := [(.long p2)]) (rest := []) (lenOf pd_3 rfl) rfl (W := 0) (Nat.le_refl _) rfl (D d12_49) (by decide) (by decide) (fun T141 L141 r141 X141 q141 => ?_)
 obtain ⟨N141, q141⟩ := q141
 have N141' := Fr.app N101' N141
 rcases q141 with ⟨v142, h143, hc144, hc145, rfl, ⟨F146, F147, F148⟩, ⟨F149, F150, F151, F152, F153, F154, F155, F156, F157, F158⟩, F159, F160, Z161⟩ | ⟨v162, h163, hc164, rfl, ⟨F165, F166, F167⟩, ⟨F168, F169, F170, F171, F172, F173, F174, F175, F176, F177⟩, F178, F179, Z180⟩
 ·
  refine k_n0 ?_
  exact k_ret X141 hx hret (D d12_52) hlk (by decide) (by decide) ⟨N141', (Or.inl ⟨v142, h143, hp121, hc144, hc145, rfl, ⟨F146, F147, F148⟩, ⟨F149, F150, F151, F152, F153, F154, F155, F156, F157, F158⟩, F159, F160, Z161⟩)⟩
 ·
  refine k_n0 ?_
  exact k_ret X141 hx hret (D d12_52) hlk (by decide) (by decide) ⟨N141', (Or.inr ⟨v162, h163, hp121, hc164, rfl, ⟨F165, F166, F167⟩, ⟨F168, F169, F170, F171, F172, F173, F174, F175, F176, F177⟩, F178, F179, Z180⟩)⟩
abbrev R9_47 : Room := { frames := 0, cells := 0, slots := 0, locals := 0 }
def Q9_47 (Z : State) (a1 a2 a4 a5 : Addr) (p3 p6 p7 p9 p12 : Int64) (k8 k11 : ClassId) (p10 : Int32) (h0 : Heap) (n0 : Nat) (v : Option Value) (h : Heap) (L : List Loc) : Prop := Fr n0 L /\ ((v = none /\ BL Z h a2 (.long p3) (.ref a1) /\ BS Z h a1 (.ref a4) (.ref a5) (.long p3) (.long p6) (.int 1) (.long p7) (.int 0) (.long 0) (.int 0) /\ Arv Z h a4 k8 .long p10 [(.long p9), (.long 0)] (.long 0) /\ Arv Z h a5 k11 .long p10 [(.long p12), (.long 0)] (.long 0) /\ n0 <= h.size))
theorem rm9_47 (l : Launch) (Z : State) (a0 : Array Value) (hw : WW a0 Z) (ws : List Jvm.Cond) (a1 a2 a4 a5 : Addr) (p3 p6 p7 p9 p12 : Int64) (k8 k11 : ClassId) (p10 : Int32) (h0 : Heap) (n0 : Nat) (Z0 : n0 <= h0.size) (B0 : BL Z h0 a2 (.long p3) (.ref a1)) (g_a2 : n0 <= a2) (B2 : BS Z h0 a1 (.ref a4) (.ref a5) (.long p3) (.long p6) (.int 1) (.long p7) (.int 0) (.long 0) (.int 0)) (g_a1 : n0 <= a1) (F0_4 : Arv Z h0 a4 k8 .long p10 [(.long p9), (.long 0)] (.long 0)) (g_a4 : n0 <= a4) (F0_6 : Arv Z h0 a5 k11 .long p10 [(.long p12), (.long 0)] (.long 0)) (g_a5 : n0 <= a5) (lt0_0 : a2 < a1) (lt0_1 : a1 < a4) (lt0_2 : a4 < a5) (hp0 : ¬ p3 < (1 : Int64)) (hp1 : ¬ (8 : Int64) < p3) (hp2 : ¬ p6 < (1 : Int64)) (hp3 : ¬ p10 < (1 : Int32)) (hp4 : ¬ (8 : Int32) < p10) (hd16 : p10 = p3.toInt32) (hx17 : ¬ (p3.toInt32) < (1 : Int32)) (hx18 : ¬ (8 : Int32) < (p3.toInt32)) (hx19 : ¬ p12 < (1 : Int64)) (hx20 : (0 : Int64) < (p7 - p9)) (hx21 : ¬ (p7 - p9) < p6) (hx22 : ¬ (1 : Int32) < (p3.toInt32)) :
    KMet l (⟨"com/example/halter/halter/SlidingSum", "forgetWhatLeftTheWindow", "()V"⟩ : MethodName) prog_20_method_8_code 2 none ws R9_47 #[(.ref a1)] Z h0 R9_47.cells R9_47.slots (Q9_47 Z a1 a2 a4 a5 p3 p6 p7 p9 p12 k8 k11 p10 h0 n0) := by
 refine k_body (plainFor_of_name pn_1) (fun m => ef9_8 m a1) ?_
 intro p e s m below meth c s₁ hx D hml hlk hret hown hnm hZ X0 e0
 have N0 := Fr.nil n0
 obtain ⟨f0, f1, f2⟩ := B0
 obtain ⟨f3, f4, f5, f6, f7, f8, f9, f10, f11, f12⟩ := B2
 refine k_aloadN X0 hx 1 (D d9_0) rfl rfl ?_
 refine k_getF1 X0 hx hZ hown 4 (k_w hw 61 rfl) e0 f10 (D d9_1) (fun T101 X101 e101 => ?_)
 refine k_if_le X101 hx 7 69 (D d9_4) (fun _ => ?_) (fun hc => absurd hc (by decide))
 refine k_aloadN X101 hx 70 (D d9_69) rfl rfl ?_
 refine k_getF1 X101 hx hZ hown 73 (k_w hw 29 rfl) e101 f4 (D d9_70) (fun T102 X102 e102 => ?_)
 refine k_alen X102 hx hZ 74 e102 F0_4 (D d9_73) ?_
 refine k_istoreN X102 hx 75 (D d9_74) (Ls' := #[rv a1, iv p10]) rfl ?_
 refine k_iloadN X102 hx 76 (D d9_75) rfl ?_
 refine k_bipush X102 hx 78 (D d9_76) (z := (8 : Int32)) rfl ?_
 refine k_icmp_le X102 hx 81 98 (D d9_78) (fun _ => ?_) (fun hc => absurd hc hp4)
 refine k_iloadN X102 hx 99 (D d9_98) rfl ?_
 refine k_aloadN X102 hx 100 (D d9_99) rfl rfl ?_
 refine k_getF1 X102 hx hZ hown 103 (k_w hw 29 rfl) e102 f4 (D d9_100) (fun T103 X103 e103 => ?_)
 refine k_alen X103 hx hZ 104 e103 F0_4 (D d9_103) ?_
 refine k_icmp_eq X103 hx 107 112 (D d9_104) (fun _ => ?_) (fun hc => absurd rfl hc)
 exact k_ret X103 hx hret (D d9_112) hlk (by decide) (by decide) (by rw [e103]; exact ⟨N0, ⟨rfl, ⟨f0, f1, f2⟩, ⟨f3, f4, f5, f6, f7, f8, f9, f10, f11, f12⟩, F0_4, F0_6, Z0⟩⟩)
abbrev R8_46 : Room := { frames := 1, cells := 0, slots := 0, locals := 13 }
def Q8_46 (Z : State) (a1 a3 a5 a6 : Addr) (p2 p4 p7 p9 p12 : Int64) (k8 k11 : ClassId) (p10 : Int32) (h0 : Heap) (n0 : Nat) (v : Option Value) (h : Heap) (L : List Loc) : Prop := Fr n0 L /\ ((v = none /\ BL Z h a3 (.long p4) (.ref a1) /\ BS Z h a1 (.ref a5) (.ref a6) (.long p4) (.long p7) (.int 1) (.long p2) (.int 0) (.long 0) (.int 0) /\ Arv Z h a5 k8 .long p10 [(.long p9), (.long 0)] (.long 0) /\ Arv Z h a6 k11 .long p10 [(.long p12), (.long 0)] (.long 0) /\ n0 <= h.size))
theorem rm8_46 (l : Launch) (Z : State) (a0 : Array Value) (hw : WW a0 Z) (ws : List Jvm.Cond) (a1 a3 a5 a6 : Addr) (p2 p4 p7 p9 p12 : Int64) (k8 k11 : ClassId) (p10 : Int32) (h0 : Heap) (n0 : Nat) (Z0 : n0 <= h0.size) (B0 : BL Z h0 a3 (.long p4) (.ref a1)) (g_a3 : n0 <= a3) (B2 : BS Z h0 a1 (.ref a5) (.ref a6) (.long p4) (.long p7) (.int 1) (.long p2) (.int 0) (.long 0) (.int 0)) (g_a1 : n0 <= a1) (F0_4 : Arv Z h0 a5 k8 .long p10 [(.long p9), (.long 0)] (.long 0)) (g_a5 : n0 <= a5) (F0_6 : Arv Z h0 a6 k11 .long p10 [(.long p12), (.long 0)] (.long 0)) (g_a6 : n0 <= a6) (lt0_0 : a3 < a1) (lt0_1 : a1 < a5) (lt0_2 : a5 < a6) (hp0 : ¬ p4 < (1 : Int64)) (hp1 : ¬ (8 : Int64) < p4) (hp2 : ¬ p7 < (1 : Int64)) (hp3 : ¬ p10 < (1 : Int32)) (hp4 : ¬ (8 : Int32) < p10) (hd16 : p10 = p4.toInt32) (hx17 : ¬ (p4.toInt32) < (1 : Int32)) (hx18 : ¬ (8 : Int32) < (p4.toInt32)) (hx19 : ¬ p12 < (1 : Int64)) (hx20 : (0 : Int64) < (p2 - p9)) (hx21 : ¬ (p2 - p9) < p7) (hx22 : ¬ (1 : Int32) < (p4.toInt32)) :
    KMet l (⟨"com/example/halter/halter/SlidingSum", "catchUp", "(J)V"⟩ : MethodName) prog_20_method_7_code 3 none ws R8_46 #[(.ref a1), (.long p2)] Z h0 R8_46.cells R8_46.slots (Q8_46 Z a1 a3 a5 a6 p2 p4 p7 p9 p12 k8 k11 p10 h0 n0) := by
 refine k_body (plainFor_of_name pn_1) (fun m => ef8_7 m a1 p2) ?_
 intro p e s m below meth c s₁ hx D hml hlk hret hown hnm hZ X0 e0
 have N0 := Fr.nil n0
 obtain ⟨f0, f1, f2⟩ := B0
 obtain ⟨f3, f4, f5, f6, f7, f8, f9, f10, f11, f12⟩ := B2
 refine k_aloadN X0 hx 1 (D d8_0) rfl rfl ?_
 refine k_getF1 X0 hx hZ hown 4 (k_w hw 53 rfl) e0 f8 (D d8_1) (fun T101 X101 e101 => ?_)
 refine k_if_eq X101 hx 7 18 (D d8_4) (fun hc => absurd hc (by decide)) (fun _ => ?_)
 refine k_lloadN X101 hx 8 (D d8_7) rfl ?_
 refine k_aloadN X101 hx 9 (D d8_8) rfl rfl ?_
 refine k_getF1 X101 hx hZ hown 12 (k_w hw 55 rfl) e101 f9 (D d8_9) (fun T102 X102 e102 => ?_)
 refine k_lsubL X102 hx 13 (D d8_12) (z := (0 : Int64)) (Int64.sub_self _) ?_
 refine k_lconst X102 hx 14 (D d8_13) (z := (0 : Int64)) rfl ?_
 refine k_lcif_le X102 hx 18 28 15 (D d8_14) (D d8_15) (fun _ => ?_) (fun hc => absurd hc (by decide))
 refine k_aloadN X102 hx 29 (D d8_28) rfl rfl ?_
 refine k_callP X102 hx hZ hown 32 (a := a1) (k_w hw 57 rfl) (k_w hw 58 rfl) (k_w hw 59 rfl) (k_w hw 22 rfl) (k_w hw 23 rfl) (k_w hw 60 rfl) (by decide) f3 (rm9_47 l Z a0 hw [] a1 a3 a5 a6 p4 p7 p2 p9 p12 k8 k11 p10 h0 n0 Z0 ⟨f0, f1, f2⟩ g_a3 ⟨f3, f4, f5, f6, f7, f8, f9, f10, f11, f12⟩ g_a1 F0_4 g_a5 F0_6 g_a6 lt0_0 lt0_1 lt0_2 hp0 hp1 hp2 hp3 hp4 hd16 (by have q := hp3; rw [hd16] at q; exact q) (by have q := hp4; rw [hd16] at q; exact q) hx19 hx20 hx21 hx22) (by decide) (by decide) e102 (by rw [hml]; rfl) (argsL := []) (rest := []) (lenOf pd_1 rfl) rfl (W := 0) (Nat.le_refl _) rfl (D d8_29) (by decide) (by decide) (fun T103 L103 r103 X103 q103 => ?_)
 obtain ⟨N103, q103⟩ := q103
 have N103' := Fr.app N0 N103
 obtain ⟨rfl, ⟨F104, F105, F106⟩, ⟨F107, F108, F109, F110, F111, F112, F113, F114, F115, F116⟩, F117, F118, Z119⟩ := q103
 refine k_n0 ?_
 exact k_ret X103 hx hret (D d8_32) hlk (by decide) (by decide) ⟨N103', ⟨rfl, ⟨F104, F105, F106⟩, ⟨F107, F108, F109, F110, F111, F112, F113, F114, F115, F116⟩, F117, F118, Z119⟩⟩
abbrev R17_49 : Room := { frames := 0, cells := 0, slots := 0, locals := 0 }
def Q17_49 (Z : State) (a1 a2 a3 : Addr) (p4 p5 p6 p8 p11 : Int64) (k7 k10 : ClassId) (p9 : Int32) (h0 : Heap) (n0 : Nat) (v : Option Value) (h : Heap) (L : List Loc) : Prop := Fr n0 L /\ h = h0 /\ ((v = some (.int 0)))
theorem rm17_49 (l : Launch) (Z : State) (a0 : Array Value) (hw : WW a0 Z) (ws : List Jvm.Cond) (a1 a2 a3 : Addr) (p4 p5 p6 p8 p11 : Int64) (k7 k10 : ClassId) (p9 : Int32) (h0 : Heap) (n0 : Nat) (Z0 : n0 <= h0.size) (B0 : BS Z h0 a1 (.ref a2) (.ref a3) (.long p4) (.long p5) (.int 1) (.long p6) (.int 0) (.long 0) (.int 0)) (F0_1 : Arv Z h0 a2 k7 .long p9 [(.long p8), (.long 0)] (.long 0)) (F0_2 : Arv Z h0 a3 k10 .long p9 [(.long p11), (.long 0)] (.long 0)) (lt0_0 : a1 < a2) (lt0_1 : a2 < a3) (hp0 : ¬ p4 < (1 : Int64)) (hp1 : ¬ (8 : Int64) < p4) (hp2 : ¬ p5 < (1 : Int64)) (hp3 : ¬ p9 < (1 : Int32)) (hp4 : ¬ (8 : Int32) < p9) (hd10 : p9 = p4.toInt32) :
    KMet l (⟨"com/example/halter/halter/SlidingSum", "place", "(I)I"⟩ : MethodName) prog_20_method_12_code 3 (some .int) ws R17_49 #[(.ref a1), (.int 0)] Z h0 R17_49.cells R17_49.slots (Q17_49 Z a1 a2 a3 p4 p5 p6 p8 p11 k7 k10 p9 h0 n0) := by
 refine k_body (plainFor_of_name pn_1) (fun m => ef17_20 m a1) ?_
 intro p e s m below meth c s₁ hx D hml hlk hret hown hnm hZ X0 e0
 have N0 := Fr.nil n0
 obtain ⟨f0, f1, f2, f3, f4, f5, f6, f7, f8, f9⟩ := B0
 refine k_aloadN X0 hx 1 (D d17_0) rfl rfl ?_
 refine k_getF1 X0 hx hZ hown 4 (k_w hw 99 rfl) e0 f9 (D d17_1) (fun T101 X101 e101 => ?_)
 refine k_iloadN X101 hx 5 (D d17_4) rfl ?_
 refine k_iaddL X101 hx 6 (D d17_5) (z := (0 : Int32)) (by decide) ?_
 refine k_istoreN X101 hx 7 (D d17_6) (Ls' := #[rv a1, iv 0, iv 0]) rfl ?_
 refine k_iloadN X101 hx 8 (D d17_7) rfl ?_
 refine k_aloadN X101 hx 9 (D d17_8) rfl rfl ?_
 refine k_getF1 X101 hx hZ hown 12 (k_w hw 29 rfl) e101 f1 (D d17_9) (fun T102 X102 e102 => ?_)
 refine k_alen X102 hx hZ 13 e102 F0_1 (D d17_12) ?_
 refine k_icmp_ge X102 hx 16 20 (D d17_13) (fun hc => absurd (k_d_alt_nxlt hp3 (by decide)) hc) (fun _ => ?_)
 refine k_iloadN X102 hx 17 (D d17_16) rfl ?_
 refine k_goto X102 hx 27 (D d17_17) ?_
 exact k_retI X102 hx hret (D d17_27) hlk (by decide) (by decide) ⟨N0, e102, rfl⟩
abbrev R13_48 : Room := { frames := 1, cells := 0, slots := 0, locals := 14 }
def Q13_48 (Z : State) (a1 a3 a5 a6 : Addr) (p2 p4 p7 p8 p10 p13 : Int64) (k9 k12 : ClassId) (p11 : Int32) (h0 : Heap) (n0 : Nat) (v : Option Value) (h : Heap) (L : List Loc) : Prop := Fr n0 L /\ ((v = none /\ BL Z h a3 (.long p4) (.ref a1) /\ BS Z h a1 (.ref a5) (.ref a6) (.long p4) (.long p7) (.int 1) (.long p8) (.int 1) (.long p2) (.int 0) /\ Arv Z h a5 k9 .long p11 [(.long p8), (.long 0)] (.long 0) /\ Arv Z h a6 k12 .long p11 [(.long p2), (.long 0)] (.long 0) /\ n0 <= h.size))
theorem rm13_48 (l : Launch) (Z : State) (a0 : Array Value) (hw : WW a0 Z) (ws : List Jvm.Cond) (a1 a3 a5 a6 : Addr) (p2 p4 p7 p8 p10 p13 : Int64) (k9 k12 : ClassId) (p11 : Int32) (h0 : Heap) (n0 : Nat) (Z0 : n0 <= h0.size) (B0 : BL Z h0 a3 (.long p4) (.ref a1)) (g_a3 : n0 <= a3) (B2 : BS Z h0 a1 (.ref a5) (.ref a6) (.long p4) (.long p7) (.int 1) (.long p8) (.int 0) (.long 0) (.int 0)) (g_a1 : n0 <= a1) (F0_4 : Arv Z h0 a5 k9 .long p11 [(.long p10), (.long 0)] (.long 0)) (g_a5 : n0 <= a5) (F0_6 : Arv Z h0 a6 k12 .long p11 [(.long p13), (.long 0)] (.long 0)) (g_a6 : n0 <= a6) (lt0_0 : a3 < a1) (lt0_1 : a1 < a5) (lt0_2 : a5 < a6) (hp0 : ¬ p4 < (1 : Int64)) (hp1 : ¬ (8 : Int64) < p4) (hp2 : ¬ p7 < (1 : Int64)) (hp3 : ¬ p11 < (1 : Int32)) (hp4 : ¬ (8 : Int32) < p11) (hp5 : ¬ p2 < (1 : Int64)) (hd17 : p11 = p4.toInt32) :
    KMet l (⟨"com/example/halter/halter/SlidingSum", "remember", "(J)V"⟩ : MethodName) prog_20_method_9_code 4 none ws R13_48 #[(.ref a1), (.long p2)] Z h0 R13_48.cells R13_48.slots (Q13_48 Z a1 a3 a5 a6 p2 p4 p7 p8 p10 p13 k9 k12 p11 h0 n0) := by
 refine k_body (plainFor_of_name pn_1) (fun m => ef13_14 m a1 p2) ?_
 intro p e s m below meth c s₁ hx D hml hlk hret hown hnm hZ X0 e0
 have N0 := Fr.nil n0
 obtain ⟨f0, f1, f2⟩ := B0
 obtain ⟨f3, f4, f5, f6, f7, f8, f9, f10, f11, f12⟩ := B2
 refine k_aloadN X0 hx 1 (D d13_0) rfl rfl ?_
 refine k_getF1 X0 hx hZ hown 4 (k_w hw 61 rfl) e0 f10 (D d13_1) (fun T101 X101 e101 => ?_)
 refine k_if_le X101 hx 7 52 (D d13_4) (fun _ => ?_) (fun hc => absurd hc (by decide))
 refine k_aloadN X101 hx 53 (D d13_52) rfl rfl ?_
 refine k_getF1 X101 hx hZ hown 56 (k_w hw 61 rfl) e101 f10 (D d13_53) (fun T102 X102 e102 => ?_)
 refine k_aloadN X102 hx 57 (D d13_56) rfl rfl ?_
 refine k_getF1 X102 hx hZ hown 60 (k_w hw 29 rfl) e102 f4 (D d13_57) (fun T103 X103 e103 => ?_)
 refine k_alen X103 hx hZ 61 e103 F0_4 (D d13_60) ?_
 refine k_icmp_ne X103 hx 64 68 (D d13_61) (fun _ => ?_) (fun hc => absurd hc (fun q => (k_d_ne_nxlt hp3 (by decide)) q.symm))
 refine k_aloadN X103 hx 69 (D d13_68) rfl rfl ?_
 refine k_aloadN X103 hx 70 (D d13_69) rfl rfl ?_
 refine k_getF1 X103 hx hZ hown 73 (k_w hw 61 rfl) e103 f10 (D d13_70) (fun T104 X104 e104 => ?_)
 refine k_callP X104 hx hZ hown 76 (a := a1) (k_w hw 101 rfl) (k_w hw 102 rfl) (k_w hw 103 rfl) (k_w hw 22 rfl) (k_w hw 23 rfl) (k_w hw 104 rfl) (by decide) f3 (rm17_49 l Z a0 hw [] a1 a5 a6 p4 p7 p8 p10 p13 k9 k12 p11 h0 n0 Z0 ⟨f3, f4, f5, f6, f7, f8, f9, f10, f11, f12⟩ F0_4 F0_6 lt0_1 lt0_2 hp0 hp1 hp2 hp3 hp4 hd17) (by decide) (by decide) e104 (by rw [hml]; rfl) (argsL := [(.int 0)]) (rest := []) (lenOf pd_7 rfl) rfl (W := 0) (Nat.le_refl _) rfl (D d13_73) (by decide) (by decide) (fun T105 L105 r105 X105 q105 => ?_)
 obtain ⟨N105, e105, q105⟩ := q105
 have N105' := Fr.app N0 N105
 obtain rfl := q105
 refine k_n1 ?_
 refine k_istoreN X105 hx 77 (D d13_76) (Ls' := #[rv a1, jv p2, s_, iv 0]) rfl ?_
 refine k_aloadN X105 hx 78 (D d13_77) rfl rfl ?_
 refine k_getF1 X105 hx hZ hown 81 (k_w hw 29 rfl) e105 f4 (D d13_78) (fun T106 X106 e106 => ?_)
 refine k_iloadN X106 hx 82 (D d13_81) rfl ?_
 refine k_aloadN X106 hx 83 (D d13_82) rfl rfl ?_
 refine k_getF1 X106 hx hZ hown 86 (k_w hw 55 rfl) e106 f9 (D d13_83) (fun T107 X107 e107 => ?_)
 refine k_lastore X107 hx hZ 87 e107 F0_4 ⟨by decide, (Classical.byContradiction (fun hq109 => by have B110 : (1 : Int) <= p4.toInt /\ p4.toInt <= 8 := ⟨kL_ge hp0 (by decide), kL_le hp1 (by decide)⟩; have B111 : (1 : Int) <= p7.toInt /\ p7.toInt <= 9223372036854775807 := ⟨kL_ge hp2 (by decide), Int.le_of_lt_add_one (rng64 p7).2⟩; have q113 : p11.toInt = p4.toInt := k_l2ix hd17 B110 (by decide) (by decide); have B112 : (1 : Int) <= p11.toInt /\ p11.toInt <= 8 := (by rw [q113]; exact B110); have B114 : (1 : Int) <= p11.toInt /\ p11.toInt <= 0 := ⟨B112.1, k_le hq109 (by decide)⟩; have B115 : (1 : Int) <= p2.toInt /\ p2.toInt <= 9223372036854775807 := ⟨kL_ge hp5 (by decide), Int.le_of_lt_add_one (rng64 p2).2⟩; omega))⟩ (i := 0) rfl (Nat.le_of_ble_eq_true rfl) (D d13_86) (fun T108 h108 X108 e108 W108 V108 => ?_)
 have Vw108 : Arv Z h108 a5 k9 .long p11 [(.long p8), (.long 0)] (.long 0) := V108
 have N108 := Fr.snoc X108 N105' g_a5
 have Z108 := k_zw Z0 W108
 refine k_aloadN X108 hx 88 (D d13_87) rfl rfl ?_
 have F116 := (f5.other W108 (Or.inl (Nat.ne_of_lt lt0_1)))
 refine k_getF1 X108 hx hZ hown 91 (k_w hw 31 rfl) e108 F116 (D d13_88) (fun T117 X117 e117 => ?_)
 refine k_iloadN X117 hx 92 (D d13_91) rfl ?_
 refine k_lloadN X117 hx 93 (D d13_92) rfl ?_
 have F118 := (F0_6.other W108 (Ne.symm (Nat.ne_of_lt lt0_2)))
 refine k_lastore X117 hx hZ 94 e117 F118 ⟨by decide, (Classical.byContradiction (fun hq120 => by have B121 : (1 : Int) <= p4.toInt /\ p4.toInt <= 8 := ⟨kL_ge hp0 (by decide), kL_le hp1 (by decide)⟩; have B122 : (1 : Int) <= p7.toInt /\ p7.toInt <= 9223372036854775807 := ⟨kL_ge hp2 (by decide), Int.le_of_lt_add_one (rng64 p7).2⟩; have q124 : p11.toInt = p4.toInt := k_l2ix hd17 B121 (by decide) (by decide); have B123 : (1 : Int) <= p11.toInt /\ p11.toInt <= 8 := (by rw [q124]; exact B121); have B125 : (1 : Int) <= p11.toInt /\ p11.toInt <= 0 := ⟨B123.1, k_le hq120 (by decide)⟩; have B126 : (1 : Int) <= p2.toInt /\ p2.toInt <= 9223372036854775807 := ⟨kL_ge hp5 (by decide), Int.le_of_lt_add_one (rng64 p2).2⟩; omega))⟩ (i := 0) rfl (Nat.le_of_ble_eq_true rfl) (D d13_93) (fun T119 h119 X119 e119 W119 V119 => ?_)
 have Vw119 : Arv Z h119 a6 k12 .long p11 [(.long p2), (.long 0)] (.long 0) := V119
 have N119 := Fr.snoc X119 N108 g_a6
 have Z119 := k_zw Z108 W119
 refine k_aloadN X119 hx 95 (D d13_94) rfl rfl ?_
 refine k_dup X119 hx 96 (D d13_95) rfl ?_
 have F127 := ((f10.other W108 (Or.inl (Nat.ne_of_lt lt0_1))).other W119 (Or.inl (Nat.ne_of_lt (Nat.lt_trans lt0_1 lt0_2))))
 refine k_getF1 X119 hx hZ hown 99 (k_w hw 61 rfl) e119 F127 (D d13_96) (fun T128 X128 e128 => ?_)
 refine k_iconst X128 hx 100 (D d13_99) (z := (1 : Int32)) rfl ?_
 refine k_iaddL X128 hx 101 (D d13_100) (z := (1 : Int32)) (by decide) ?_
 have F129 := ((f3.wr W108).wr W119)
 refine k_putF1 X128 hx hZ hown 104 (k_w hw 61 rfl) e128 F127 F129 (Or.inl (k_w hw 62 rfl)) (k_w hw 22 rfl) .int rfl rfl (D d13_101) (fun T130 h130 X130 e130 W130 => ?_)
 have Fw130 := F127.same W130
 have N130 := Fr.snoc X130 N119 g_a1
 have Z130 := k_zw Z119 W130
 refine k_aloadN X130 hx 105 (D d13_104) rfl rfl ?_
 refine k_dup X130 hx 106 (D d13_105) rfl ?_
 have F131 := (((f11.other W108 (Or.inl (Nat.ne_of_lt lt0_1))).other W119 (Or.inl (Nat.ne_of_lt (Nat.lt_trans lt0_1 lt0_2)))).other W130 (Or.inr (sn58 hw)))
 refine k_getF1 X130 hx hZ hown 109 (k_w hw 63 rfl) e130 F131 (D d13_106) (fun T132 X132 e132 => ?_)
 refine k_lloadN X132 hx 110 (D d13_109) rfl ?_
 refine k_laddL X132 hx 111 (D d13_110) (z := p2) (Int64.zero_add _) ?_
 have F133 := (F129.wr W130)
 refine k_putF1 X132 hx hZ hown 114 (k_w hw 63 rfl) e132 F131 F133 (Or.inl (k_w hw 64 rfl)) (k_w hw 22 rfl) .long rfl rfl (D d13_111) (fun T134 h134 X134 e134 W134 => ?_)
 have Fw134 := F131.same W134
 have N134 := Fr.snoc X134 N130 g_a1
 have Z134 := k_zw Z130 W134
 have F135 := ((((f0.wr W108).wr W119).wr W130).wr W134)
 have F136 := ((((f1.other W108 (Or.inl (Nat.ne_of_lt (Nat.lt_trans lt0_0 lt0_1)))).other W119 (Or.inl (Nat.ne_of_lt (Nat.lt_trans (Nat.lt_trans lt0_0 lt0_1) lt0_2)))).other W130 (Or.inl (Nat.ne_of_lt lt0_0))).other W134 (Or.inl (Nat.ne_of_lt lt0_0)))
 have F137 := ((((f2.other W108 (Or.inl (Nat.ne_of_lt (Nat.lt_trans lt0_0 lt0_1)))).other W119 (Or.inl (Nat.ne_of_lt (Nat.lt_trans (Nat.lt_trans lt0_0 lt0_1) lt0_2)))).other W130 (Or.inl (Nat.ne_of_lt lt0_0))).other W134 (Or.inl (Nat.ne_of_lt lt0_0)))
 have F138 := (F133.wr W134)
 have F139 := ((((f4.other W108 (Or.inl (Nat.ne_of_lt lt0_1))).other W119 (Or.inl (Nat.ne_of_lt (Nat.lt_trans lt0_1 lt0_2)))).other W130 (Or.inr (sn59 hw))).other W134 (Or.inr (sn60 hw)))
 have F140 := (((F116.other W119 (Or.inl (Nat.ne_of_lt (Nat.lt_trans lt0_1 lt0_2)))).other W130 (Or.inr (sn61 hw))).other W134 (Or.inr (sn62 hw)))
 have F141 := ((((f6.other W108 (Or.inl (Nat.ne_of_lt lt0_1))).other W119 (Or.inl (Nat.ne_of_lt (Nat.lt_trans lt0_1 lt0_2)))).other W130 (Or.inr (sn63 hw))).other W134 (Or.inr (sn64 hw)))
 have F142 := ((((f7.other W108 (Or.inl (Nat.ne_of_lt lt0_1))).other W119 (Or.inl (Nat.ne_of_lt (Nat.lt_trans lt0_1 lt0_2)))).other W130 (Or.inr (sn65 hw))).other W134 (Or.inr (sn66 hw)))
 have F143 := ((((f8.other W108 (Or.inl (Nat.ne_of_lt lt0_1))).other W119 (Or.inl (Nat.ne_of_lt (Nat.lt_trans lt0_1 lt0_2)))).other W130 (Or.inr (sn67 hw))).other W134 (Or.inr (sn68 hw)))
 have F144 := ((((f9.other W108 (Or.inl (Nat.ne_of_lt lt0_1))).other W119 (Or.inl (Nat.ne_of_lt (Nat.lt_trans lt0_1 lt0_2)))).other W130 (Or.inr (sn69 hw))).other W134 (Or.inr (sn70 hw)))
 have F145 := (Fw130.other W134 (Or.inr (sn71 hw)))
 have F146 := ((((f12.other W108 (Or.inl (Nat.ne_of_lt lt0_1))).other W119 (Or.inl (Nat.ne_of_lt (Nat.lt_trans lt0_1 lt0_2)))).other W130 (Or.inr (sn72 hw))).other W134 (Or.inr (sn73 hw)))
 have F147 := (((Vw108.other W119 (Nat.ne_of_lt lt0_2)).other W130 (Ne.symm (Nat.ne_of_lt lt0_1))).other W134 (Ne.symm (Nat.ne_of_lt lt0_1)))
 have F148 := ((Vw119.other W130 (Ne.symm (Nat.ne_of_lt (Nat.lt_trans lt0_1 lt0_2)))).other W134 (Ne.symm (Nat.ne_of_lt (Nat.lt_trans lt0_1 lt0_2))))
 exact k_ret X134 hx hret (D d13_114) hlk (by decide) (by decide) (by rw [e134]; exact ⟨N134, ⟨rfl, ⟨F135, F136, F137⟩, ⟨F138, F139, F140, F141, F142, F143, F144, F145, Fw134, F146⟩, F147, F148, Z134⟩⟩)
abbrev R12_45 : Room := { frames := 2, cells := 0, slots := 0, locals := 29 }
def Q12_45 (Z : State) (a1 a4 a6 a7 : Addr) (p2 p3 p5 p8 p10 p13 : Int64) (k9 k12 : ClassId) (p11 : Int32) (h0 : Heap) (n0 : Nat) (v : Option Value) (h : Heap) (L : List Loc) : Prop := Fr n0 L /\ ((v = none /\ BL Z h a4 (.long p5) (.ref a1) /\ BS Z h a1 (.ref a6) (.ref a7) (.long p5) (.long p8) (.int 1) (.long p3) (.int 1) (.long p2) (.int 0) /\ Arv Z h a6 k9 .long p11 [(.long p3), (.long 0)] (.long 0) /\ Arv Z h a7 k12 .long p11 [(.long p2), (.long 0)] (.long 0) /\ n0 <= h.size))
theorem rm12_45 (l : Launch) (Z : State) (a0 : Array Value) (hw : WW a0 Z) (ws : List Jvm.Cond) (a1 a4 a6 a7 : Addr) (p2 p3 p5 p8 p10 p13 : Int64) (k9 k12 : ClassId) (p11 : Int32) (h0 : Heap) (n0 : Nat) (Z0 : n0 <= h0.size) (B0 : BL Z h0 a4 (.long p5) (.ref a1)) (g_a4 : n0 <= a4) (B2 : BS Z h0 a1 (.ref a6) (.ref a7) (.long p5) (.long p8) (.int 1) (.long p3) (.int 0) (.long 0) (.int 0)) (g_a1 : n0 <= a1) (F0_4 : Arv Z h0 a6 k9 .long p11 [(.long p10), (.long 0)] (.long 0)) (g_a6 : n0 <= a6) (F0_6 : Arv Z h0 a7 k12 .long p11 [(.long p13), (.long 0)] (.long 0)) (g_a7 : n0 <= a7) (lt0_0 : a4 < a1) (lt0_1 : a1 < a6) (lt0_2 : a6 < a7) (hp0 : ¬ p5 < (1 : Int64)) (hp1 : ¬ (8 : Int64) < p5) (hp2 : ¬ p8 < (1 : Int64)) (hp3 : ¬ p11 < (1 : Int32)) (hp4 : ¬ (8 : Int32) < p11) (hp5 : ¬ p2 < (1 : Int64)) (hd17 : p11 = p5.toInt32) (hx18 : ¬ (p5.toInt32) < (1 : Int32)) (hx19 : ¬ (8 : Int32) < (p5.toInt32)) (hx20 : ¬ p13 < (1 : Int64)) (hx21 : (0 : Int64) < (p3 - p10)) (hx22 : ¬ (p3 - p10) < p8) (hx23 : ¬ (1 : Int32) < (p5.toInt32)) (hx24 : ¬ p5 < p2) :
    KMet l (⟨"com/example/halter/halter/SlidingSum", "add", "(JJ)V"⟩ : MethodName) prog_20_method_3_code 5 none ws R12_45 #[(.ref a1), (.long p2), (.long p3)] Z h0 R12_45.cells R12_45.slots (Q12_45 Z a1 a4 a6 a7 p2 p3 p5 p8 p10 p13 k9 k12 p11 h0 n0) := by
 refine k_body (plainFor_of_name pn_1) (fun m => ef5_4 m a1 p2 p3) ?_
 intro p e s m below meth c s₁ hx D hml hlk hret hown hnm hZ X0 e0
 have N0 := Fr.nil n0
 obtain ⟨f0, f1, f2⟩ := B0
 obtain ⟨f3, f4, f5, f6, f7, f8, f9, f10, f11, f12⟩ := B2
 refine k_aloadN X0 hx 1 (D d12_0) rfl rfl ?_
 refine k_lloadN X0 hx 2 (D d12_1) rfl ?_
 refine k_callP X0 hx hZ hown 5 (a := a1) (k_w hw 49 rfl) (k_w hw 50 rfl) (k_w hw 51 rfl) (k_w hw 22 rfl) (k_w hw 23 rfl) (k_w hw 52 rfl) (by decide) f3 (rm8_46 l Z a0 hw [] a1 a4 a6 a7 p3 p5 p8 p10 p13 k9 k12 p11 h0 n0 Z0 ⟨f0, f1, f2⟩ g_a4 ⟨f3, f4, f5, f6, f7, f8, f9, f10, f11, f12⟩ g_a1 F0_4 g_a6 F0_6 g_a7 lt0_0 lt0_1 lt0_2 hp0 hp1 hp2 hp3 hp4 hd17 (by have q := hp3; rw [hd17] at q; exact q) (by have q := hp4; rw [hd17] at q; exact q) hx20 hx21 hx22 hx23) (by decide) (by decide) e0 (by rw [hml]; rfl) (argsL := [(.long p3)]) (rest := []) (lenOf pd_3 rfl) rfl (W := 0) (Nat.le_refl _) rfl (D d12_2) (by decide) (by decide) (fun T101 L101 r101 X101 q101 => ?_)
 obtain ⟨N101, q101⟩ := q101
 have N101' := Fr.app N0 N101
 obtain ⟨rfl, ⟨F102, F103, F104⟩, ⟨F105, F106, F107, F108, F109, F110, F111, F112, F113, F114⟩, F115, F116, Z117⟩ := q101
 refine k_n0 ?_
 refine k_lloadN X101 hx 6 (D d12_5) rfl ?_
 refine k_lconst X101 hx 7 (D d12_6) (z := (1 : Int64)) rfl ?_
 refine k_lcif_lt X101 hx 11 25 8 (D d12_7) (D d12_8) (fun hc => absurd hc hp5) (fun _ => ?_)
 refine k_lloadN X101 hx 12 (D d12_11) rfl ?_
 refine k_aloadN X101 hx 13 (D d12_12) rfl rfl ?_
 refine k_getF1 X101 hx hZ hown 16 (k_w hw 33 rfl) rfl F108 (D d12_13) (fun T118 X118 e118 => ?_)
 refine k_aloadN X118 hx 17 (D d12_16) rfl rfl ?_
 refine k_getF1 X118 hx hZ hown 20 (k_w hw 63 rfl) e118 F113 (D d12_17) (fun T119 X119 e119 => ?_)
 refine k_lsubL X119 hx 21 (D d12_20) (z := p5) (Int64.sub_zero _) ?_
 refine k_lcif_le X119 hx 25 47 22 (D d12_21) (D d12_22) (fun _ => ?_) (fun hc => absurd hc hx24)
 refine k_aloadN X119 hx 48 (D d12_47) rfl rfl ?_
 refine k_lloadN X119 hx 49 (D d12_48) rfl ?_
 refine k_callP X119 hx hZ hown 52 (a := a1) (k_w hw 79 rfl) (k_w hw 80 rfl) (k_w hw 81 rfl) (k_w hw 22 rfl) (k_w hw 23 rfl) (k_w hw 82 rfl) (by decide) F105 (rm13_48 l Z a0 hw [] a1 a4 a6 a7 p2 p5 p8 p3 p10 p13 k9 k12 p11 T101.heap n0 Z117 ⟨F102, F103, F104⟩ g_a4 ⟨F105, F106, F107, F108, F109, F110, F111, F112, F113, F114⟩ g_a1 F115 g_a6 F116 g_a7 lt0_0 lt0_1 lt0_2 hp0 hp1 hp2 hp3 hp4 hp5 hd17) (by decide) (by decide) e119 (by rw [hml]; rfl) (argsL := [(.long p2)]) (rest := []) (lenOf pd_3 rfl) rfl (W := 0) (Nat.le_refl _) rfl (D d12_49) (by decide) (by decide) (fun T120 L120 r120 X120 q120 => ?_)
 obtain ⟨N120, q120⟩ := q120
 have N120' := Fr.app N101' N120
 obtain ⟨rfl, ⟨F121, F122, F123⟩, ⟨F124, F125, F126, F127, F128, F129, F130, F131, F132, F133⟩, F134, F135, Z136⟩ := q120
 refine k_n0 ?_
 exact k_ret X120 hx hret (D d12_52) hlk (by decide) (by decide) ⟨N120', ⟨rfl, ⟨F121, F122, F123⟩, ⟨F124, F125, F126, F127, F128, F129, F130, F131, F132, F133⟩, F134, F135, Z136⟩⟩
abbrev R9_52 : Room := { frames := 0, cells := 0, slots := 0, locals := 0 }
def Q9_52 (Z : State) (a1 a2 a4 a5 : Addr) (p3 p6 p7 p9 p12 : Int64) (k8 k11 : ClassId) (p10 : Int32) (h0 : Heap) (n0 : Nat) (v : Option Value) (h : Heap) (L : List Loc) : Prop := Fr n0 L /\ ((v = none /\ BL Z h a2 (.long p3) (.ref a1) /\ BS Z h a1 (.ref a4) (.ref a5) (.long p3) (.long p6) (.int 1) (.long p7) (.int 0) (.long 0) (.int 1) /\ Arv Z h a4 k8 .long p10 [(.long p9), (.long 0)] (.long 0) /\ Arv Z h a5 k11 .long p10 [(.long p12), (.long 0)] (.long 0) /\ n0 <= h.size))
theorem rm9_52 (l : Launch) (Z : State) (a0 : Array Value) (hw : WW a0 Z) (ws : List Jvm.Cond) (a1 a2 a4 a5 : Addr) (p3 p6 p7 p9 p12 : Int64) (k8 k11 : ClassId) (p10 : Int32) (h0 : Heap) (n0 : Nat) (Z0 : n0 <= h0.size) (B0 : BL Z h0 a2 (.long p3) (.ref a1)) (g_a2 : n0 <= a2) (B2 : BS Z h0 a1 (.ref a4) (.ref a5) (.long p3) (.long p6) (.int 1) (.long p7) (.int 0) (.long 0) (.int 1)) (g_a1 : n0 <= a1) (F0_4 : Arv Z h0 a4 k8 .long p10 [(.long p9), (.long 0)] (.long 0)) (g_a4 : n0 <= a4) (F0_6 : Arv Z h0 a5 k11 .long p10 [(.long p12), (.long 0)] (.long 0)) (g_a5 : n0 <= a5) (lt0_0 : a2 < a1) (lt0_1 : a1 < a4) (lt0_2 : a4 < a5) (hp0 : ¬ p3 < (1 : Int64)) (hp1 : ¬ (8 : Int64) < p3) (hp2 : ¬ p6 < (1 : Int64)) (hp3 : ¬ p10 < (2 : Int32)) (hp4 : ¬ (8 : Int32) < p10) (hd16 : p10 = p3.toInt32) (hx17 : ¬ (p3.toInt32) < (2 : Int32)) (hx18 : ¬ (8 : Int32) < (p3.toInt32)) (hx19 : ¬ (p3.toInt32) < (1 : Int32)) (hx20 : ¬ p12 < (1 : Int64)) (hx21 : (0 : Int64) < (p7 - p9)) (hx22 : ¬ (p7 - p9) < p6) (hx23 : (1 : Int32) < (p3.toInt32)) :
    KMet l (⟨"com/example/halter/halter/SlidingSum", "forgetWhatLeftTheWindow", "()V"⟩ : MethodName) prog_20_method_8_code 2 none ws R9_52 #[(.ref a1)] Z h0 R9_52.cells R9_52.slots (Q9_52 Z a1 a2 a4 a5 p3 p6 p7 p9 p12 k8 k11 p10 h0 n0) := by
 refine k_body (plainFor_of_name pn_1) (fun m => ef9_8 m a1) ?_
 intro p e s m below meth c s₁ hx D hml hlk hret hown hnm hZ X0 e0
 have N0 := Fr.nil n0
 obtain ⟨f0, f1, f2⟩ := B0
 obtain ⟨f3, f4, f5, f6, f7, f8, f9, f10, f11, f12⟩ := B2
 refine k_aloadN X0 hx 1 (D d9_0) rfl rfl ?_
 refine k_getF1 X0 hx hZ hown 4 (k_w hw 61 rfl) e0 f10 (D d9_1) (fun T101 X101 e101 => ?_)
 refine k_if_le X101 hx 7 69 (D d9_4) (fun _ => ?_) (fun hc => absurd hc (by decide))
 refine k_aloadN X101 hx 70 (D d9_69) rfl rfl ?_
 refine k_getF1 X101 hx hZ hown 73 (k_w hw 29 rfl) e101 f4 (D d9_70) (fun T102 X102 e102 => ?_)
 refine k_alen X102 hx hZ 74 e102 F0_4 (D d9_73) ?_
 refine k_istoreN X102 hx 75 (D d9_74) (Ls' := #[rv a1, iv p10]) rfl ?_
 refine k_iloadN X102 hx 76 (D d9_75) rfl ?_
 refine k_bipush X102 hx 78 (D d9_76) (z := (8 : Int32)) rfl ?_
 refine k_icmp_le X102 hx 81 98 (D d9_78) (fun _ => ?_) (fun hc => absurd hc hp4)
 refine k_iloadN X102 hx 99 (D d9_98) rfl ?_
 refine k_aloadN X102 hx 100 (D d9_99) rfl rfl ?_
 refine k_getF1 X102 hx hZ hown 103 (k_w hw 29 rfl) e102 f4 (D d9_100) (fun T103 X103 e103 => ?_)
 refine k_alen X103 hx hZ 104 e103 F0_4 (D d9_103) ?_
 refine k_icmp_eq X103 hx 107 112 (D d9_104) (fun _ => ?_) (fun hc => absurd rfl hc)
 exact k_ret X103 hx hret (D d9_112) hlk (by decide) (by decide) (by rw [e103]; exact ⟨N0, ⟨rfl, ⟨f0, f1, f2⟩, ⟨f3, f4, f5, f6, f7, f8, f9, f10, f11, f12⟩, F0_4, F0_6, Z0⟩⟩)
abbrev R8_51 : Room := { frames := 1, cells := 0, slots := 0, locals := 13 }
def Q8_51 (Z : State) (a1 a3 a5 a6 : Addr) (p2 p4 p7 p9 p12 : Int64) (k8 k11 : ClassId) (p10 : Int32) (h0 : Heap) (n0 : Nat) (v : Option Value) (h : Heap) (L : List Loc) : Prop := Fr n0 L /\ ((v = none /\ BL Z h a3 (.long p4) (.ref a1) /\ BS Z h a1 (.ref a5) (.ref a6) (.long p4) (.long p7) (.int 1) (.long p2) (.int 0) (.long 0) (.int 1) /\ Arv Z h a5 k8 .long p10 [(.long p9), (.long 0)] (.long 0) /\ Arv Z h a6 k11 .long p10 [(.long p12), (.long 0)] (.long 0) /\ n0 <= h.size))
theorem rm8_51 (l : Launch) (Z : State) (a0 : Array Value) (hw : WW a0 Z) (ws : List Jvm.Cond) (a1 a3 a5 a6 : Addr) (p2 p4 p7 p9 p12 : Int64) (k8 k11 : ClassId) (p10 : Int32) (h0 : Heap) (n0 : Nat) (Z0 : n0 <= h0.size) (B0 : BL Z h0 a3 (.long p4) (.ref a1)) (g_a3 : n0 <= a3) (B2 : BS Z h0 a1 (.ref a5) (.ref a6) (.long p4) (.long p7) (.int 1) (.long p2) (.int 0) (.long 0) (.int 1)) (g_a1 : n0 <= a1) (F0_4 : Arv Z h0 a5 k8 .long p10 [(.long p9), (.long 0)] (.long 0)) (g_a5 : n0 <= a5) (F0_6 : Arv Z h0 a6 k11 .long p10 [(.long p12), (.long 0)] (.long 0)) (g_a6 : n0 <= a6) (lt0_0 : a3 < a1) (lt0_1 : a1 < a5) (lt0_2 : a5 < a6) (hp0 : ¬ p4 < (1 : Int64)) (hp1 : ¬ (8 : Int64) < p4) (hp2 : ¬ p7 < (1 : Int64)) (hp3 : ¬ p10 < (2 : Int32)) (hp4 : ¬ (8 : Int32) < p10) (hd16 : p10 = p4.toInt32) (hx17 : ¬ (p4.toInt32) < (2 : Int32)) (hx18 : ¬ (8 : Int32) < (p4.toInt32)) (hx19 : ¬ (p4.toInt32) < (1 : Int32)) (hx20 : ¬ p12 < (1 : Int64)) (hx21 : (0 : Int64) < (p2 - p9)) (hx22 : ¬ (p2 - p9) < p7) (hx23 : (1 : Int32) < (p4.toInt32)) :
    KMet l (⟨"com/example/halter/halter/SlidingSum", "catchUp", "(J)V"⟩ : MethodName) prog_20_method_7_code 3 none ws R8_51 #[(.ref a1), (.long p2)] Z h0 R8_51.cells R8_51.slots (Q8_51 Z a1 a3 a5 a6 p2 p4 p7 p9 p12 k8 k11 p10 h0 n0) := by
 refine k_body (plainFor_of_name pn_1) (fun m => ef8_7 m a1 p2) ?_
 intro p e s m below meth c s₁ hx D hml hlk hret hown hnm hZ X0 e0
 have N0 := Fr.nil n0
 obtain ⟨f0, f1, f2⟩ := B0
 obtain ⟨f3, f4, f5, f6, f7, f8, f9, f10, f11, f12⟩ := B2
 refine k_aloadN X0 hx 1 (D d8_0) rfl rfl ?_
 refine k_getF1 X0 hx hZ hown 4 (k_w hw 53 rfl) e0 f8 (D d8_1) (fun T101 X101 e101 => ?_)
 refine k_if_eq X101 hx 7 18 (D d8_4) (fun hc => absurd hc (by decide)) (fun _ => ?_)
 refine k_lloadN X101 hx 8 (D d8_7) rfl ?_
 refine k_aloadN X101 hx 9 (D d8_8) rfl rfl ?_
 refine k_getF1 X101 hx hZ hown 12 (k_w hw 55 rfl) e101 f9 (D d8_9) (fun T102 X102 e102 => ?_)
 refine k_lsubL X102 hx 13 (D d8_12) (z := (0 : Int64)) (Int64.sub_self _) ?_
 refine k_lconst X102 hx 14 (D d8_13) (z := (0 : Int64)) rfl ?_
 refine k_lcif_le X102 hx 18 28 15 (D d8_14) (D d8_15) (fun _ => ?_) (fun hc => absurd hc (by decide))
 refine k_aloadN X102 hx 29 (D d8_28) rfl rfl ?_
 refine k_callP X102 hx hZ hown 32 (a := a1) (k_w hw 57 rfl) (k_w hw 58 rfl) (k_w hw 59 rfl) (k_w hw 22 rfl) (k_w hw 23 rfl) (k_w hw 60 rfl) (by decide) f3 (rm9_52 l Z a0 hw [] a1 a3 a5 a6 p4 p7 p2 p9 p12 k8 k11 p10 h0 n0 Z0 ⟨f0, f1, f2⟩ g_a3 ⟨f3, f4, f5, f6, f7, f8, f9, f10, f11, f12⟩ g_a1 F0_4 g_a5 F0_6 g_a6 lt0_0 lt0_1 lt0_2 hp0 hp1 hp2 hp3 hp4 hd16 (by have q := hp3; rw [hd16] at q; exact q) (by have q := hp4; rw [hd16] at q; exact q) hx19 hx20 hx21 hx22 hx23) (by decide) (by decide) e102 (by rw [hml]; rfl) (argsL := []) (rest := []) (lenOf pd_1 rfl) rfl (W := 0) (Nat.le_refl _) rfl (D d8_29) (by decide) (by decide) (fun T103 L103 r103 X103 q103 => ?_)
 obtain ⟨N103, q103⟩ := q103
 have N103' := Fr.app N0 N103
 obtain ⟨rfl, ⟨F104, F105, F106⟩, ⟨F107, F108, F109, F110, F111, F112, F113, F114, F115, F116⟩, F117, F118, Z119⟩ := q103
 refine k_n0 ?_
 exact k_ret X103 hx hret (D d8_32) hlk (by decide) (by decide) ⟨N103', ⟨rfl, ⟨F104, F105, F106⟩, ⟨F107, F108, F109, F110, F111, F112, F113, F114, F115, F116⟩, F117, F118, Z119⟩⟩
abbrev R17_54 : Room := { frames := 0, cells := 0, slots := 0, locals := 0 }
def Q17_54 (Z : State) (a1 a2 a3 : Addr) (p4 p5 p6 p8 p11 : Int64) (k7 k10 : ClassId) (p9 : Int32) (h0 : Heap) (n0 : Nat) (v : Option Value) (h : Heap) (L : List Loc) : Prop := Fr n0 L /\ h = h0 /\ ((v = some (.int 1)))
theorem rm17_54 (l : Launch) (Z : State) (a0 : Array Value) (hw : WW a0 Z) (ws : List Jvm.Cond) (a1 a2 a3 : Addr) (p4 p5 p6 p8 p11 : Int64) (k7 k10 : ClassId) (p9 : Int32) (h0 : Heap) (n0 : Nat) (Z0 : n0 <= h0.size) (B0 : BS Z h0 a1 (.ref a2) (.ref a3) (.long p4) (.long p5) (.int 1) (.long p6) (.int 0) (.long 0) (.int 1)) (F0_1 : Arv Z h0 a2 k7 .long p9 [(.long p8), (.long 0)] (.long 0)) (F0_2 : Arv Z h0 a3 k10 .long p9 [(.long p11), (.long 0)] (.long 0)) (lt0_0 : a1 < a2) (lt0_1 : a2 < a3) (hp0 : ¬ p4 < (1 : Int64)) (hp1 : ¬ (8 : Int64) < p4) (hp2 : ¬ p5 < (1 : Int64)) (hp3 : ¬ p9 < (2 : Int32)) (hp4 : ¬ (8 : Int32) < p9) (hd10 : p9 = p4.toInt32) :
    KMet l (⟨"com/example/halter/halter/SlidingSum", "place", "(I)I"⟩ : MethodName) prog_20_method_12_code 3 (some .int) ws R17_54 #[(.ref a1), (.int 0)] Z h0 R17_54.cells R17_54.slots (Q17_54 Z a1 a2 a3 p4 p5 p6 p8 p11 k7 k10 p9 h0 n0) := by
 refine k_body (plainFor_of_name pn_1) (fun m => ef17_20 m a1) ?_
 intro p e s m below meth c s₁ hx D hml hlk hret hown hnm hZ X0 e0
 have N0 := Fr.nil n0
 obtain ⟨f0, f1, f2, f3, f4, f5, f6, f7, f8, f9⟩ := B0
 refine k_aloadN X0 hx 1 (D d17_0) rfl rfl ?_
 refine k_getF1 X0 hx hZ hown 4 (k_w hw 99 rfl) e0 f9 (D d17_1) (fun T101 X101 e101 => ?_)
 refine k_iloadN X101 hx 5 (D d17_4) rfl ?_
 refine k_iaddL X101 hx 6 (D d17_5) (z := (1 : Int32)) (by decide) ?_
 refine k_istoreN X101 hx 7 (D d17_6) (Ls' := #[rv a1, iv 0, iv 1]) rfl ?_
 refine k_iloadN X101 hx 8 (D d17_7) rfl ?_
 refine k_aloadN X101 hx 9 (D d17_8) rfl rfl ?_
 refine k_getF1 X101 hx hZ hown 12 (k_w hw 29 rfl) e101 f1 (D d17_9) (fun T102 X102 e102 => ?_)
 refine k_alen X102 hx hZ 13 e102 F0_1 (D d17_12) ?_
 refine k_icmp_ge X102 hx 16 20 (D d17_13) (fun hc => absurd (k_d_alt_nxlt hp3 (by decide)) hc) (fun _ => ?_)
 refine k_iloadN X102 hx 17 (D d17_16) rfl ?_
 refine k_goto X102 hx 27 (D d17_17) ?_
 exact k_retI X102 hx hret (D d17_27) hlk (by decide) (by decide) ⟨N0, e102, rfl⟩
abbrev R13_53 : Room := { frames := 1, cells := 0, slots := 0, locals := 14 }
def Q13_53 (Z : State) (a1 a3 a5 a6 : Addr) (p2 p4 p7 p8 p10 p13 : Int64) (k9 k12 : ClassId) (p11 : Int32) (h0 : Heap) (n0 : Nat) (v : Option Value) (h : Heap) (L : List Loc) : Prop := Fr n0 L /\ ((v = none /\ BL Z h a3 (.long p4) (.ref a1) /\ BS Z h a1 (.ref a5) (.ref a6) (.long p4) (.long p7) (.int 1) (.long p8) (.int 1) (.long p2) (.int 1) /\ Arv Z h a5 k9 .long p11 [(.long p10), (.long p8)] (.long 0) /\ Arv Z h a6 k12 .long p11 [(.long p13), (.long p2)] (.long 0) /\ n0 <= h.size))
theorem rm13_53 (l : Launch) (Z : State) (a0 : Array Value) (hw : WW a0 Z) (ws : List Jvm.Cond) (a1 a3 a5 a6 : Addr) (p2 p4 p7 p8 p10 p13 : Int64) (k9 k12 : ClassId) (p11 : Int32) (h0 : Heap) (n0 : Nat) (Z0 : n0 <= h0.size) (B0 : BL Z h0 a3 (.long p4) (.ref a1)) (g_a3 : n0 <= a3) (B2 : BS Z h0 a1 (.ref a5) (.ref a6) (.long p4) (.long p7) (.int 1) (.long p8) (.int 0) (.long 0) (.int 1)) (g_a1 : n0 <= a1) (F0_4 : Arv Z h0 a5 k9 .long p11 [(.long p10), (.long 0)] (.long 0)) (g_a5 : n0 <= a5) (F0_6 : Arv Z h0 a6 k12 .long p11 [(.long p13), (.long 0)] (.long 0)) (g_a6 : n0 <= a6) (lt0_0 : a3 < a1) (lt0_1 : a1 < a5) (lt0_2 : a5 < a6) (hp0 : ¬ p4 < (1 : Int64)) (hp1 : ¬ (8 : Int64) < p4) (hp2 : ¬ p7 < (1 : Int64)) (hp3 : ¬ p11 < (2 : Int32)) (hp4 : ¬ (8 : Int32) < p11) (hp5 : ¬ p2 < (1 : Int64)) (hd17 : p11 = p4.toInt32) :
    KMet l (⟨"com/example/halter/halter/SlidingSum", "remember", "(J)V"⟩ : MethodName) prog_20_method_9_code 4 none ws R13_53 #[(.ref a1), (.long p2)] Z h0 R13_53.cells R13_53.slots (Q13_53 Z a1 a3 a5 a6 p2 p4 p7 p8 p10 p13 k9 k12 p11 h0 n0) := by
 refine k_body (plainFor_of_name pn_1) (fun m => ef13_14 m a1 p2) ?_
 intro p e s m below meth c s₁ hx D hml hlk hret hown hnm hZ X0 e0
 have N0 := Fr.nil n0
 obtain ⟨f0, f1, f2⟩ := B0
 obtain ⟨f3, f4, f5, f6, f7, f8, f9, f10, f11, f12⟩ := B2
 refine k_aloadN X0 hx 1 (D d13_0) rfl rfl ?_
 refine k_getF1 X0 hx hZ hown 4 (k_w hw 61 rfl) e0 f10 (D d13_1) (fun T101 X101 e101 => ?_)
 refine k_if_le X101 hx 7 52 (D d13_4) (fun _ => ?_) (fun hc => absurd hc (by decide))
 refine k_aloadN X101 hx 53 (D d13_52) rfl rfl ?_
 refine k_getF1 X101 hx hZ hown 56 (k_w hw 61 rfl) e101 f10 (D d13_53) (fun T102 X102 e102 => ?_)
 refine k_aloadN X102 hx 57 (D d13_56) rfl rfl ?_
 refine k_getF1 X102 hx hZ hown 60 (k_w hw 29 rfl) e102 f4 (D d13_57) (fun T103 X103 e103 => ?_)
 refine k_alen X103 hx hZ 61 e103 F0_4 (D d13_60) ?_
 refine k_icmp_ne X103 hx 64 68 (D d13_61) (fun _ => ?_) (fun hc => absurd hc (fun q => (k_d_ne_nxlt hp3 (by decide)) q.symm))
 refine k_aloadN X103 hx 69 (D d13_68) rfl rfl ?_
 refine k_aloadN X103 hx 70 (D d13_69) rfl rfl ?_
 refine k_getF1 X103 hx hZ hown 73 (k_w hw 61 rfl) e103 f10 (D d13_70) (fun T104 X104 e104 => ?_)
 refine k_callP X104 hx hZ hown 76 (a := a1) (k_w hw 101 rfl) (k_w hw 102 rfl) (k_w hw 103 rfl) (k_w hw 22 rfl) (k_w hw 23 rfl) (k_w hw 104 rfl) (by decide) f3 (rm17_54 l Z a0 hw [] a1 a5 a6 p4 p7 p8 p10 p13 k9 k12 p11 h0 n0 Z0 ⟨f3, f4, f5, f6, f7, f8, f9, f10, f11, f12⟩ F0_4 F0_6 lt0_1 lt0_2 hp0 hp1 hp2 hp3 hp4 hd17) (by decide) (by decide) e104 (by rw [hml]; rfl) (argsL := [(.int 0)]) (rest := []) (lenOf pd_7 rfl) rfl (W := 0) (Nat.le_refl _) rfl (D d13_73) (by decide) (by decide) (fun T105 L105 r105 X105 q105 => ?_)
 obtain ⟨N105, e105, q105⟩ := q105
 have N105' := Fr.app N0 N105
 obtain rfl := q105
 refine k_n1 ?_
 refine k_istoreN X105 hx 77 (D d13_76) (Ls' := #[rv a1, jv p2, s_, iv 1]) rfl ?_
 refine k_aloadN X105 hx 78 (D d13_77) rfl rfl ?_
 refine k_getF1 X105 hx hZ hown 81 (k_w hw 29 rfl) e105 f4 (D d13_78) (fun T106 X106 e106 => ?_)
 refine k_iloadN X106 hx 82 (D d13_81) rfl ?_
 refine k_aloadN X106 hx 83 (D d13_82) rfl rfl ?_
 refine k_getF1 X106 hx hZ hown 86 (k_w hw 55 rfl) e106 f9 (D d13_83) (fun T107 X107 e107 => ?_)
 refine k_lastore X107 hx hZ 87 e107 F0_4 ⟨by decide, (Classical.byContradiction (fun hq109 => by have B110 : (1 : Int) <= p4.toInt /\ p4.toInt <= 8 := ⟨kL_ge hp0 (by decide), kL_le hp1 (by decide)⟩; have B111 : (1 : Int) <= p7.toInt /\ p7.toInt <= 9223372036854775807 := ⟨kL_ge hp2 (by decide), Int.le_of_lt_add_one (rng64 p7).2⟩; have q113 : p11.toInt = p4.toInt := k_l2ix hd17 B110 (by decide) (by decide); have B112 : (2 : Int) <= p11.toInt /\ p11.toInt <= 1 := ⟨k_ge hp3 (by decide), k_le hq109 (by decide)⟩; have B114 : (1 : Int) <= p2.toInt /\ p2.toInt <= 9223372036854775807 := ⟨kL_ge hp5 (by decide), Int.le_of_lt_add_one (rng64 p2).2⟩; omega))⟩ (i := 1) rfl (Nat.le_of_ble_eq_true rfl) (D d13_86) (fun T108 h108 X108 e108 W108 V108 => ?_)
 have Vw108 : Arv Z h108 a5 k9 .long p11 [(.long p10), (.long p8)] (.long 0) := V108
 have N108 := Fr.snoc X108 N105' g_a5
 have Z108 := k_zw Z0 W108
 refine k_aloadN X108 hx 88 (D d13_87) rfl rfl ?_
 have F115 := (f5.other W108 (Or.inl (Nat.ne_of_lt lt0_1)))
 refine k_getF1 X108 hx hZ hown 91 (k_w hw 31 rfl) e108 F115 (D d13_88) (fun T116 X116 e116 => ?_)
 refine k_iloadN X116 hx 92 (D d13_91) rfl ?_
 refine k_lloadN X116 hx 93 (D d13_92) rfl ?_
 have F117 := (F0_6.other W108 (Ne.symm (Nat.ne_of_lt lt0_2)))
 refine k_lastore X116 hx hZ 94 e116 F117 ⟨by decide, (Classical.byContradiction (fun hq119 => by have B120 : (1 : Int) <= p4.toInt /\ p4.toInt <= 8 := ⟨kL_ge hp0 (by decide), kL_le hp1 (by decide)⟩; have B121 : (1 : Int) <= p7.toInt /\ p7.toInt <= 9223372036854775807 := ⟨kL_ge hp2 (by decide), Int.le_of_lt_add_one (rng64 p7).2⟩; have q123 : p11.toInt = p4.toInt := k_l2ix hd17 B120 (by decide) (by decide); have B122 : (2 : Int) <= p11.toInt /\ p11.toInt <= 1 := ⟨k_ge hp3 (by decide), k_le hq119 (by decide)⟩; have B124 : (1 : Int) <= p2.toInt /\ p2.toInt <= 9223372036854775807 := ⟨kL_ge hp5 (by decide), Int.le_of_lt_add_one (rng64 p2).2⟩; omega))⟩ (i := 1) rfl (Nat.le_of_ble_eq_true rfl) (D d13_93) (fun T118 h118 X118 e118 W118 V118 => ?_)
 have Vw118 : Arv Z h118 a6 k12 .long p11 [(.long p13), (.long p2)] (.long 0) := V118
 have N118 := Fr.snoc X118 N108 g_a6
 have Z118 := k_zw Z108 W118
 refine k_aloadN X118 hx 95 (D d13_94) rfl rfl ?_
 refine k_dup X118 hx 96 (D d13_95) rfl ?_
 have F125 := ((f10.other W108 (Or.inl (Nat.ne_of_lt lt0_1))).other W118 (Or.inl (Nat.ne_of_lt (Nat.lt_trans lt0_1 lt0_2))))
 refine k_getF1 X118 hx hZ hown 99 (k_w hw 61 rfl) e118 F125 (D d13_96) (fun T126 X126 e126 => ?_)
 refine k_iconst X126 hx 100 (D d13_99) (z := (1 : Int32)) rfl ?_
 refine k_iaddL X126 hx 101 (D d13_100) (z := (1 : Int32)) (by decide) ?_
 have F127 := ((f3.wr W108).wr W118)
 refine k_putF1 X126 hx hZ hown 104 (k_w hw 61 rfl) e126 F125 F127 (Or.inl (k_w hw 62 rfl)) (k_w hw 22 rfl) .int rfl rfl (D d13_101) (fun T128 h128 X128 e128 W128 => ?_)
 have Fw128 := F125.same W128
 have N128 := Fr.snoc X128 N118 g_a1
 have Z128 := k_zw Z118 W128
 refine k_aloadN X128 hx 105 (D d13_104) rfl rfl ?_
 refine k_dup X128 hx 106 (D d13_105) rfl ?_
 have F129 := (((f11.other W108 (Or.inl (Nat.ne_of_lt lt0_1))).other W118 (Or.inl (Nat.ne_of_lt (Nat.lt_trans lt0_1 lt0_2)))).other W128 (Or.inr (sn58 hw)))
 refine k_getF1 X128 hx hZ hown 109 (k_w hw 63 rfl) e128 F129 (D d13_106) (fun T130 X130 e130 => ?_)
 refine k_lloadN X130 hx 110 (D d13_109) rfl ?_
 refine k_laddL X130 hx 111 (D d13_110) (z := p2) (Int64.zero_add _) ?_
 have F131 := (F127.wr W128)
 refine k_putF1 X130 hx hZ hown 114 (k_w hw 63 rfl) e130 F129 F131 (Or.inl (k_w hw 64 rfl)) (k_w hw 22 rfl) .long rfl rfl (D d13_111) (fun T132 h132 X132 e132 W132 => ?_)
 have Fw132 := F129.same W132
 have N132 := Fr.snoc X132 N128 g_a1
 have Z132 := k_zw Z128 W132
 have F133 := ((((f0.wr W108).wr W118).wr W128).wr W132)
 have F134 := ((((f1.other W108 (Or.inl (Nat.ne_of_lt (Nat.lt_trans lt0_0 lt0_1)))).other W118 (Or.inl (Nat.ne_of_lt (Nat.lt_trans (Nat.lt_trans lt0_0 lt0_1) lt0_2)))).other W128 (Or.inl (Nat.ne_of_lt lt0_0))).other W132 (Or.inl (Nat.ne_of_lt lt0_0)))
 have F135 := ((((f2.other W108 (Or.inl (Nat.ne_of_lt (Nat.lt_trans lt0_0 lt0_1)))).other W118 (Or.inl (Nat.ne_of_lt (Nat.lt_trans (Nat.lt_trans lt0_0 lt0_1) lt0_2)))).other W128 (Or.inl (Nat.ne_of_lt lt0_0))).other W132 (Or.inl (Nat.ne_of_lt lt0_0)))
 have F136 := (F131.wr W132)
 have F137 := ((((f4.other W108 (Or.inl (Nat.ne_of_lt lt0_1))).other W118 (Or.inl (Nat.ne_of_lt (Nat.lt_trans lt0_1 lt0_2)))).other W128 (Or.inr (sn59 hw))).other W132 (Or.inr (sn60 hw)))
 have F138 := (((F115.other W118 (Or.inl (Nat.ne_of_lt (Nat.lt_trans lt0_1 lt0_2)))).other W128 (Or.inr (sn61 hw))).other W132 (Or.inr (sn62 hw)))
 have F139 := ((((f6.other W108 (Or.inl (Nat.ne_of_lt lt0_1))).other W118 (Or.inl (Nat.ne_of_lt (Nat.lt_trans lt0_1 lt0_2)))).other W128 (Or.inr (sn63 hw))).other W132 (Or.inr (sn64 hw)))
 have F140 := ((((f7.other W108 (Or.inl (Nat.ne_of_lt lt0_1))).other W118 (Or.inl (Nat.ne_of_lt (Nat.lt_trans lt0_1 lt0_2)))).other W128 (Or.inr (sn65 hw))).other W132 (Or.inr (sn66 hw)))
 have F141 := ((((f8.other W108 (Or.inl (Nat.ne_of_lt lt0_1))).other W118 (Or.inl (Nat.ne_of_lt (Nat.lt_trans lt0_1 lt0_2)))).other W128 (Or.inr (sn67 hw))).other W132 (Or.inr (sn68 hw)))
 have F142 := ((((f9.other W108 (Or.inl (Nat.ne_of_lt lt0_1))).other W118 (Or.inl (Nat.ne_of_lt (Nat.lt_trans lt0_1 lt0_2)))).other W128 (Or.inr (sn69 hw))).other W132 (Or.inr (sn70 hw)))
 have F143 := (Fw128.other W132 (Or.inr (sn71 hw)))
 have F144 := ((((f12.other W108 (Or.inl (Nat.ne_of_lt lt0_1))).other W118 (Or.inl (Nat.ne_of_lt (Nat.lt_trans lt0_1 lt0_2)))).other W128 (Or.inr (sn72 hw))).other W132 (Or.inr (sn73 hw)))
 have F145 := (((Vw108.other W118 (Nat.ne_of_lt lt0_2)).other W128 (Ne.symm (Nat.ne_of_lt lt0_1))).other W132 (Ne.symm (Nat.ne_of_lt lt0_1)))
 have F146 := ((Vw118.other W128 (Ne.symm (Nat.ne_of_lt (Nat.lt_trans lt0_1 lt0_2)))).other W132 (Ne.symm (Nat.ne_of_lt (Nat.lt_trans lt0_1 lt0_2))))
 exact k_ret X132 hx hret (D d13_114) hlk (by decide) (by decide) (by rw [e132]; exact ⟨N132, ⟨rfl, ⟨F133, F134, F135⟩, ⟨F136, F137, F138, F139, F140, F141, F142, F143, Fw132, F144⟩, F145, F146, Z132⟩⟩)
abbrev R12_50 : Room := { frames := 2, cells := 0, slots := 0, locals := 29 }
def Q12_50 (Z : State) (a1 a4 a6 a7 : Addr) (p2 p3 p5 p8 p10 p13 : Int64) (k9 k12 : ClassId) (p11 : Int32) (h0 : Heap) (n0 : Nat) (v : Option Value) (h : Heap) (L : List Loc) : Prop := Fr n0 L /\ ((v = none /\ BL Z h a4 (.long p5) (.ref a1) /\ BS Z h a1 (.ref a6) (.ref a7) (.long p5) (.long p8) (.int 1) (.long p3) (.int 1) (.long p2) (.int 1) /\ Arv Z h a6 k9 .long p11 [(.long p10), (.long p3)] (.long 0) /\ Arv Z h a7 k12 .long p11 [(.long p13), (.long p2)] (.long 0) /\ n0 <= h.size))
theorem rm12_50 (l : Launch) (Z : State) (a0 : Array Value) (hw : WW a0 Z) (ws : List Jvm.Cond) (a1 a4 a6 a7 : Addr) (p2 p3 p5 p8 p10 p13 : Int64) (k9 k12 : ClassId) (p11 : Int32) (h0 : Heap) (n0 : Nat) (Z0 : n0 <= h0.size) (B0 : BL Z h0 a4 (.long p5) (.ref a1)) (g_a4 : n0 <= a4) (B2 : BS Z h0 a1 (.ref a6) (.ref a7) (.long p5) (.long p8) (.int 1) (.long p3) (.int 0) (.long 0) (.int 1)) (g_a1 : n0 <= a1) (F0_4 : Arv Z h0 a6 k9 .long p11 [(.long p10), (.long 0)] (.long 0)) (g_a6 : n0 <= a6) (F0_6 : Arv Z h0 a7 k12 .long p11 [(.long p13), (.long 0)] (.long 0)) (g_a7 : n0 <= a7) (lt0_0 : a4 < a1) (lt0_1 : a1 < a6) (lt0_2 : a6 < a7) (hp0 : ¬ p5 < (1 : Int64)) (hp1 : ¬ (8 : Int64) < p5) (hp2 : ¬ p8 < (1 : Int64)) (hp3 : ¬ p11 < (2 : Int32)) (hp4 : ¬ (8 : Int32) < p11) (hp5 : ¬ p2 < (1 : Int64)) (hd17 : p11 = p5.toInt32) (hx18 : ¬ (p5.toInt32) < (1 : Int32)) (hx19 : ¬ (8 : Int32) < (p5.toInt32)) (hx20 : ¬ p13 < (1 : Int64)) (hx21 : (0 : Int64) < (p3 - p10)) (hx22 : ¬ (p3 - p10) < p8) (hx23 : (1 : Int32) < (p5.toInt32)) (hx24 : ¬ p5 < p2) (hx25 : ¬ (p5.toInt32) < (2 : Int32)) :
    KMet l (⟨"com/example/halter/halter/SlidingSum", "add", "(JJ)V"⟩ : MethodName) prog_20_method_3_code 5 none ws R12_50 #[(.ref a1), (.long p2), (.long p3)] Z h0 R12_50.cells R12_50.slots (Q12_50 Z a1 a4 a6 a7 p2 p3 p5 p8 p10 p13 k9 k12 p11 h0 n0) := by
 refine k_body (plainFor_of_name pn_1) (fun m => ef5_4 m a1 p2 p3) ?_
 intro p e s m below meth c s₁ hx D hml hlk hret hown hnm hZ X0 e0
 have N0 := Fr.nil n0
 obtain ⟨f0, f1, f2⟩ := B0
 obtain ⟨f3, f4, f5, f6, f7, f8, f9, f10, f11, f12⟩ := B2
 refine k_aloadN X0 hx 1 (D d12_0) rfl rfl ?_
 refine k_lloadN X0 hx 2 (D d12_1) rfl ?_
 refine k_callP X0 hx hZ hown 5 (a := a1) (k_w hw 49 rfl) (k_w hw 50 rfl) (k_w hw 51 rfl) (k_w hw 22 rfl) (k_w hw 23 rfl) (k_w hw 52 rfl) (by decide) f3 (rm8_51 l Z a0 hw [] a1 a4 a6 a7 p3 p5 p8 p10 p13 k9 k12 p11 h0 n0 Z0 ⟨f0, f1, f2⟩ g_a4 ⟨f3, f4, f5, f6, f7, f8, f9, f10, f11, f12⟩ g_a1 F0_4 g_a6 F0_6 g_a7 lt0_0 lt0_1 lt0_2 hp0 hp1 hp2 hp3 hp4 hd17 (by have q := hp3; rw [hd17] at q; exact q) (by have q := hp4; rw [hd17] at q; exact q) hx18 hx20 hx21 hx22 hx23) (by decide) (by decide) e0 (by rw [hml]; rfl) (argsL := [(.long p3)]) (rest := []) (lenOf pd_3 rfl) rfl (W := 0) (Nat.le_refl _) rfl (D d12_2) (by decide) (by decide) (fun T101 L101 r101 X101 q101 => ?_)
 obtain ⟨N101, q101⟩ := q101
 have N101' := Fr.app N0 N101
 obtain ⟨rfl, ⟨F102, F103, F104⟩, ⟨F105, F106, F107, F108, F109, F110, F111, F112, F113, F114⟩, F115, F116, Z117⟩ := q101
 refine k_n0 ?_
 refine k_lloadN X101 hx 6 (D d12_5) rfl ?_
 refine k_lconst X101 hx 7 (D d12_6) (z := (1 : Int64)) rfl ?_
 refine k_lcif_lt X101 hx 11 25 8 (D d12_7) (D d12_8) (fun hc => absurd hc hp5) (fun _ => ?_)
 refine k_lloadN X101 hx 12 (D d12_11) rfl ?_
 refine k_aloadN X101 hx 13 (D d12_12) rfl rfl ?_
 refine k_getF1 X101 hx hZ hown 16 (k_w hw 33 rfl) rfl F108 (D d12_13) (fun T118 X118 e118 => ?_)
 refine k_aloadN X118 hx 17 (D d12_16) rfl rfl ?_
 refine k_getF1 X118 hx hZ hown 20 (k_w hw 63 rfl) e118 F113 (D d12_17) (fun T119 X119 e119 => ?_)
 refine k_lsubL X119 hx 21 (D d12_20) (z := p5) (Int64.sub_zero _) ?_
 refine k_lcif_le X119 hx 25 47 22 (D d12_21) (D d12_22) (fun _ => ?_) (fun hc => absurd hc hx24)
 refine k_aloadN X119 hx 48 (D d12_47) rfl rfl ?_
 refine k_lloadN X119 hx 49 (D d12_48) rfl ?_
 refine k_callP X119 hx hZ hown 52 (a := a1) (k_w hw 79 rfl) (k_w hw 80 rfl) (k_w hw 81 rfl) (k_w hw 22 rfl) (k_w hw 23 rfl) (k_w hw 82 rfl) (by decide) F105 (rm13_53 l Z a0 hw [] a1 a4 a6 a7 p2 p5 p8 p3 p10 p13 k9 k12 p11 T101.heap n0 Z117 ⟨F102, F103, F104⟩ g_a4 ⟨F105, F106, F107, F108, F109, F110, F111, F112, F113, F114⟩ g_a1 F115 g_a6 F116 g_a7 lt0_0 lt0_1 lt0_2 hp0 hp1 hp2 hp3 hp4 hp5 hd17) (by decide) (by decide) e119 (by rw [hml]; rfl) (argsL := [(.long p2)]) (rest := []) (lenOf pd_3 rfl) rfl (W := 0) (Nat.le_refl _) rfl (D d12_49) (by decide) (by decide) (fun T120 L120 r120 X120 q120 => ?_)
 obtain ⟨N120, q120⟩ := q120
 have N120' := Fr.app N101' N120
 obtain ⟨rfl, ⟨F121, F122, F123⟩, ⟨F124, F125, F126, F127, F128, F129, F130, F131, F132, F133⟩, F134, F135, Z136⟩ := q120
 refine k_n0 ?_
 exact k_ret X120 hx hret (D d12_52) hlk (by decide) (by decide) ⟨N120', ⟨rfl, ⟨F121, F122, F123⟩, ⟨F124, F125, F126, F127, F128, F129, F130, F131, F132, F133⟩, F134, F135, Z136⟩⟩
abbrev R10_33 : Room := { frames := 4, cells := 0, slots := 0, locals := 60 }
def Q10_33 (Z : State) (a1 a5 a6 a7 : Addr) (p2 p3 p4 p8 p9 p10 : Int64) (k11 k13 : ClassId) (p12 : Int32) (h0 : Heap) (n0 : Nat) (v : Option Value) (h : Heap) (L : List Loc) : Prop := Fr n0 L /\ ((∃ (v105 : Int64) (v186 : Int64), v105 = p3 - p9 /\ v186 = p4 - p10 /\ ¬ (0 : Int64) < v105 /\ v186 < p2 /\ v = some (.int 0) /\ BL Z h a1 (.long p4) (.ref a5) /\ BS Z h a5 (.ref a6) (.ref a7) (.long p4) (.long p8) (.int 1) (.long p9) (.int 1) (.long p10) (.int 0) /\ Arv Z h a6 k11 .long p12 [(.long p9), (.long 0)] (.long 0) /\ Arv Z h a7 k13 .long p12 [(.long p10), (.long 0)] (.long 0) /\ n0 <= h.size) \/ (∃ (v105 : Int64) (v186 : Int64) (v190 : Int64), v105 = p3 - p9 /\ v186 = p4 - p10 /\ v190 = p10 + p2 /\ ¬ (0 : Int64) < v105 /\ ¬ v186 < p2 /\ ¬ p12 < (2 : Int32) /\ v = some (.int 1) /\ BL Z h a1 (.long p4) (.ref a5) /\ BS Z h a5 (.ref a6) (.ref a7) (.long p4) (.long p8) (.int 1) (.long p9) (.int 1) (.long v190) (.int 0) /\ Arv Z h a6 k11 .long p12 [(.long p9), (.long 0)] (.long 0) /\ Arv Z h a7 k13 .long p12 [(.long v190), (.long 0)] (.long 0) /\ n0 <= h.size) \/ (∃ (v124 : Int64) (v209 : Int64), v124 = p3 - p9 /\ v209 = p4 - p10 /\ (0 : Int64) < v124 /\ v124 < p8 /\ v209 < p2 /\ v = some (.int 0) /\ BL Z h a1 (.long p4) (.ref a5) /\ BS Z h a5 (.ref a6) (.ref a7) (.long p4) (.long p8) (.int 1) (.long p3) (.int 1) (.long p10) (.int 0) /\ Arv Z h a6 k11 .long p12 [(.long p9), (.long 0)] (.long 0) /\ Arv Z h a7 k13 .long p12 [(.long p10), (.long 0)] (.long 0) /\ n0 <= h.size) \/ (∃ (v124 : Int64) (v209 : Int64) (v213 : Int64), v124 = p3 - p9 /\ v209 = p4 - p10 /\ v213 = p10 + p2 /\ (0 : Int64) < v124 /\ v124 < p8 /\ ¬ v209 < p2 /\ ¬ p12 < (2 : Int32) /\ ¬ p9 = p3 /\ (1 : Int32) < p12 /\ v = some (.int 1) /\ BL Z h a1 (.long p4) (.ref a5) /\ BS Z h a5 (.ref a6) (.ref a7) (.long p4) (.long p8) (.int 1) (.long p3) (.int 2) (.long v213) (.int 0) /\ Arv Z h a6 k11 .long p12 [(.long p9), (.long p3)] (.long 0) /\ Arv Z h a7 k13 .long p12 [(.long p10), (.long p2)] (.long 0) /\ n0 <= h.size) \/ (∃ (v124 : Int64) (v209 : Int64) (v234 : Int64), v124 = p3 - p9 /\ v209 = p4 - p10 /\ v234 = p10 + p2 /\ (0 : Int64) < v124 /\ v124 < p8 /\ ¬ v209 < p2 /\ ¬ p12 < (2 : Int32) /\ p9 = p3 /\ v = some (.int 1) /\ BL Z h a1 (.long p4) (.ref a5) /\ BS Z h a5 (.ref a6) (.ref a7) (.long p4) (.long p8) (.int 1) (.long p3) (.int 1) (.long v234) (.int 0) /\ Arv Z h a6 k11 .long p12 [(.long p9), (.long 0)] (.long 0) /\ Arv Z h a7 k13 .long p12 [(.long v234), (.long 0)] (.long 0) /\ n0 <= h.size) \/ (∃ (v144 : Int64), v144 = p3 - p9 /\ (0 : Int64) < v144 /\ ¬ v144 < p8 /\ ¬ (1 : Int32) < p12 /\ p4 < p2 /\ v = some (.int 0) /\ BL Z h a1 (.long p4) (.ref a5) /\ BS Z h a5 (.ref a6) (.ref a7) (.long p4) (.long p8) (.int 1) (.long p3) (.int 0) (.long 0) (.int 0) /\ Arv Z h a6 k11 .long p12 [(.long p9), (.long 0)] (.long 0) /\ Arv Z h a7 k13 .long p12 [(.long p10), (.long 0)] (.long 0) /\ n0 <= h.size) \/ (∃ (v144 : Int64), v144 = p3 - p9 /\ (0 : Int64) < v144 /\ ¬ v144 < p8 /\ ¬ (1 : Int32) < p12 /\ ¬ p4 < p2 /\ v = some (.int 1) /\ BL Z h a1 (.long p4) (.ref a5) /\ BS Z h a5 (.ref a6) (.ref a7) (.long p4) (.long p8) (.int 1) (.long p3) (.int 1) (.long p2) (.int 0) /\ Arv Z h a6 k11 .long p12 [(.long p3), (.long 0)] (.long 0) /\ Arv Z h a7 k13 .long p12 [(.long p2), (.long 0)] (.long 0) /\ n0 <= h.size) \/ (∃ (v165 : Int64), v165 = p3 - p9 /\ (0 : Int64) < v165 /\ ¬ v165 < p8 /\ (1 : Int32) < p12 /\ p4 < p2 /\ v = some (.int 0) /\ BL Z h a1 (.long p4) (.ref a5) /\ BS Z h a5 (.ref a6) (.ref a7) (.long p4) (.long p8) (.int 1) (.long p3) (.int 0) (.long 0) (.int 1) /\ Arv Z h a6 k11 .long p12 [(.long p9), (.long 0)] (.long 0) /\ Arv Z h a7 k13 .long p12 [(.long p10), (.long 0)] (.long 0) /\ n0 <= h.size) \/ (∃ (v165 : Int64), v165 = p3 - p9 /\ (0 : Int64) < v165 /\ ¬ v165 < p8 /\ (1 : Int32) < p12 /\ ¬ p4 < p2 /\ ¬ p12 < (2 : Int32) /\ v = some (.int 1) /\ BL Z h a1 (.long p4) (.ref a5) /\ BS Z h a5 (.ref a6) (.ref a7) (.long p4) (.long p8) (.int 1) (.long p3) (.int 1) (.long p2) (.int 1) /\ Arv Z h a6 k11 .long p12 [(.long p9), (.long p3)] (.long 0) /\ Arv Z h a7 k13 .long p12 [(.long p10), (.long p2)] (.long 0) /\ n0 <= h.size))
theorem rm10_33 (l : Launch) (Z : State) (a0 : Array Value) (hw : WW a0 Z) (ws : List Jvm.Cond) (a1 a5 a6 a7 : Addr) (p2 p3 p4 p8 p9 p10 : Int64) (k11 k13 : ClassId) (p12 : Int32) (h0 : Heap) (n0 : Nat) (Z0 : n0 <= h0.size) (B0 : BL Z h0 a1 (.long p4) (.ref a5)) (g_a1 : n0 <= a1) (B2 : BS Z h0 a5 (.ref a6) (.ref a7) (.long p4) (.long p8) (.int 1) (.long p9) (.int 1) (.long p10) (.int 0)) (g_a5 : n0 <= a5) (F0_4 : Arv Z h0 a6 k11 .long p12 [(.long p9), (.long 0)] (.long 0)) (g_a6 : n0 <= a6) (F0_6 : Arv Z h0 a7 k13 .long p12 [(.long p10), (.long 0)] (.long 0)) (g_a7 : n0 <= a7) (lt0_0 : a1 < a5) (lt0_1 : a5 < a6) (lt0_2 : a6 < a7) (hp0 : ¬ p4 < (1 : Int64)) (hp1 : ¬ (8 : Int64) < p4) (hp2 : ¬ p8 < (1 : Int64)) (hp3 : ¬ p12 < (1 : Int32)) (hp4 : ¬ (8 : Int32) < p12) (hp5 : ¬ p2 < (1 : Int64)) (hp6 : ¬ p10 < (1 : Int64)) (hd18 : p12 = p4.toInt32) :
    KMet l (⟨"com/example/halter/halter/SlidingLogLimiter$Log", "tryAcquire", "(JJ)Z"⟩ : MethodName) prog_18_method_2_code 6 (some .boolean) ws R10_33 #[(.ref a1), (.long p2), (.long p3)] Z h0 R10_33.cells R10_33.slots (Q10_33 Z a1 a5 a6 a7 p2 p3 p4 p8 p9 p10 k11 k13 p12 h0 n0) := by
 refine k_body (plainFor_of_name pn_2) (fun m => ef10_10 m a1 p2 p3) ?_
 intro p e s m below meth c s₁ hx D hml hlk hret hown hnm hZ X0 e0
 have N0 := Fr.nil n0
 obtain ⟨f0, f1, f2⟩ := B0
 obtain ⟨f3, f4, f5, f6, f7, f8, f9, f10, f11, f12⟩ := B2
 refine k_lloadN X0 hx 1 (D d10_0) rfl ?_
 refine k_callS X0 hx hZ hown 4 (k_w hw 70 rfl) (k_w hw 71 rfl) (k_w hw 72 rfl) (k_w hw 73 rfl) (by decide) (rm11_11 l Z a0 hw [] p2 h0 n0 Z0 hp5) (by decide) (by decide) e0 (by rw [hml]; rfl) (argsL := [(.long p2)]) (rest := []) (lenOf pd_3 rfl) rfl (W := 0) (Nat.le_refl _) rfl (D d10_1) (by decide) (by decide) (fun T101 L101 r101 X101 q101 => ?_)
 obtain ⟨N101, e101, q101⟩ := q101
 have N101' := Fr.app N0 N101
 obtain rfl := q101
 refine k_n0 ?_
 refine k_lloadN X101 hx 5 (D d10_4) rfl ?_
 refine k_aloadN X101 hx 6 (D d10_5) rfl rfl ?_
 refine k_getF1 X101 hx hZ hown 9 (k_w hw 19 rfl) e101 f1 (D d10_6) (fun T102 X102 e102 => ?_)
 refine k_aloadN X102 hx 10 (D d10_9) rfl rfl ?_
 refine k_getF1 X102 hx hZ hown 13 (k_w hw 37 rfl) e102 f2 (D d10_10) (fun T103 X103 e103 => ?_)
 refine k_lloadN X103 hx 14 (D d10_13) rfl ?_
 refine k_callV X103 hx hZ hown 17 (a := a5) (k_w hw 44 rfl) (k_w hw 45 rfl) (k_w hw 47 rfl) (k_w hw 46 rfl) (k_w hw 23 rfl) (k_w hw 48 rfl) (by decide) f3 (rm7_25 l Z a0 hw [] a5 a1 a6 a7 p3 p4 p8 p9 p10 k11 k13 p12 h0 n0 Z0 ⟨f0, f1, f2⟩ g_a1 ⟨f3, f4, f5, f6, f7, f8, f9, f10, f11, f12⟩ g_a5 F0_4 g_a6 F0_6 g_a7 lt0_0 lt0_1 lt0_2 hp0 hp1 hp2 hp3 hp4 hd18) (by decide) (by decide) e103 (by rw [hml]; rfl) (argsL := [(.long p3)]) (rest := [(.long p4), (.long p2)]) (lenOf pd_4 rfl) rfl (W := 4) (Nat.le_refl _) rfl (D d10_14) (by decide) (by decide) (fun T104 L104 r104 X104 q104 => ?_)
 obtain ⟨N104, q104⟩ := q104
 have N104' := Fr.app N101' N104
 rcases q104 with ⟨v105, h106, hc107, rfl, ⟨F108, F109, F110⟩, ⟨F111, F112, F113, F114, F115, F116, F117, F118, F119, F120⟩, F121, F122, Z123⟩ | ⟨v124, h125, hc126, hc127, rfl, ⟨F128, F129, F130⟩, ⟨F131, F132, F133, F134, F135, F136, F137, F138, F139, F140⟩, F141, F142, Z143⟩ | ⟨v144, h145, hc146, hc147, hc148, rfl, ⟨F149, F150, F151⟩, ⟨F152, F153, F154, F155, F156, F157, F158, F159, F160, F161⟩, F162, F163, Z164⟩ | ⟨v165, h166, hc167, hc168, hc169, rfl, ⟨F170, F171, F172⟩, ⟨F173, F174, F175, F176, F177, F178, F179, F180, F181, F182⟩, F183, F184, Z185⟩
 ·
  refine k_n1 ?_
  refine k_lsub X104 hx 18 (D d10_17) (fun v186 hv186 => ?_)
  refine k_lcif_gt X104 hx 22 26 19 (D d10_18) (D d10_19) (fun hc187 => ?_) (fun hc187 => ?_)
  ·
   refine k_iconst X104 hx 27 (D d10_26) (z := (0 : Int32)) rfl ?_
   refine k_istore X104 hx 29 (D d10_27) (Ls' := #[rv a1, jv p2, s_, jv p3, s_, iv 0]) rfl ?_
   refine k_iload X104 hx 31 (D d10_29) rfl ?_
   refine k_if_eq X104 hx 34 43 (D d10_31) (fun _ => ?_) (fun hc => absurd (by decide) hc)
   refine k_iload X104 hx 45 (D d10_43) rfl ?_
   exact k_retN X104 hx (t := .boolean) hret (by simp) (D d10_45) hlk (by decide) (by decide) (z' := (0 : Int32)) rfl ⟨N104', (Or.inl ⟨v105, v186, h106, hv186, hc107, hc187, rfl, ⟨F108, F109, F110⟩, ⟨F111, F112, F113, F114, F115, F116, F117, F118, F119, F120⟩, F121, F122, Z123⟩)⟩
  ·
   refine k_iconst X104 hx 23 (D d10_22) (z := (1 : Int32)) rfl ?_
   refine k_goto X104 hx 27 (D d10_23) ?_
   refine k_istore X104 hx 29 (D d10_27) (Ls' := #[rv a1, jv p2, s_, jv p3, s_, iv 1]) rfl ?_
   refine k_iload X104 hx 31 (D d10_29) rfl ?_
   refine k_if_eq X104 hx 34 43 (D d10_31) (fun hc => absurd hc (by decide)) (fun _ => ?_)
   refine k_aloadN X104 hx 35 (D d10_34) rfl rfl ?_
   refine k_getF1 X104 hx hZ hown 38 (k_w hw 37 rfl) rfl F110 (D d10_35) (fun T188 X188 e188 => ?_)
   refine k_lloadN X188 hx 39 (D d10_38) rfl ?_
   refine k_lloadN X188 hx 40 (D d10_39) rfl ?_
   refine k_callV X188 hx hZ hown 43 (a := a5) (k_w hw 74 rfl) (k_w hw 75 rfl) (k_w hw 77 rfl) (k_w hw 76 rfl) (k_w hw 23 rfl) (k_w hw 78 rfl) (by decide) F111 (rm12_34 l Z a0 hw [] a5 a1 a6 a7 p2 p3 p4 p8 p9 p10 k11 k13 p12 T104.heap n0 Z123 ⟨F108, F109, F110⟩ g_a1 ⟨F111, F112, F113, F114, F115, F116, F117, F118, F119, F120⟩ g_a5 F121 g_a6 F122 g_a7 lt0_0 lt0_1 lt0_2 hp0 hp1 hp2 hp3 hp4 hp5 hp6 hd18 (by have q := hp3; rw [hd18] at q; exact q) (by have q := hp4; rw [hd18] at q; exact q) (by have q := hc107; rw [h106] at q; exact q) (by have q := hc187; rw [hv186] at q; exact q)) (by decide) (by decide) e188 (by rw [hml]; rfl) (argsL := [(.long p2), (.long p3)]) (rest := []) (lenOf pd_2 rfl) rfl (W := 0) (Nat.le_refl _) rfl (D d10_40) (by decide) (by decide) (fun T189 L189 r189 X189 q189 => ?_)
   obtain ⟨N189, q189⟩ := q189
   have N189' := Fr.app N104' N189
   obtain ⟨v190, h191, hc192, rfl, ⟨F193, F194, F195⟩, ⟨F196, F197, F198, F199, F200, F201, F202, F203, F204, F205⟩, F206, F207, Z208⟩ := q189
   refine k_n0 ?_
   refine k_iload X189 hx 45 (D d10_43) rfl ?_
   exact k_retN X189 hx (t := .boolean) hret (by simp) (D d10_45) hlk (by decide) (by decide) (z' := (1 : Int32)) rfl ⟨N189', (Or.inr (Or.inl ⟨v105, v186, v190, h106, hv186, h191, hc107, hc187, hc192, rfl, ⟨F193, F194, F195⟩, ⟨F196, F197, F198, F199, F200, F201, F202, F203, F204, F205⟩, F206, F207, Z208⟩))⟩
 ·
  refine k_n1 ?_
  refine k_lsub X104 hx 18 (D d10_17) (fun v209 hv209 => ?_)
  refine k_lcif_gt X104 hx 22 26 19 (D d10_18) (D d10_19) (fun hc210 => ?_) (fun hc210 => ?_)
  ·
   refine k_iconst X104 hx 27 (D d10_26) (z := (0 : Int32)) rfl ?_
   refine k_istore X104 hx 29 (D d10_27) (Ls' := #[rv a1, jv p2, s_, jv p3, s_, iv 0]) rfl ?_
   refine k_iload X104 hx 31 (D d10_29) rfl ?_
   refine k_if_eq X104 hx 34 43 (D d10_31) (fun _ => ?_) (fun hc => absurd (by decide) hc)
   refine k_iload X104 hx 45 (D d10_43) rfl ?_
   exact k_retN X104 hx (t := .boolean) hret (by simp) (D d10_45) hlk (by decide) (by decide) (z' := (0 : Int32)) rfl ⟨N104', (Or.inr (Or.inr (Or.inl ⟨v124, v209, h125, hv209, hc126, hc127, hc210, rfl, ⟨F128, F129, F130⟩, ⟨F131, F132, F133, F134, F135, F136, F137, F138, F139, F140⟩, F141, F142, Z143⟩)))⟩
  ·
   refine k_iconst X104 hx 23 (D d10_22) (z := (1 : Int32)) rfl ?_
   refine k_goto X104 hx 27 (D d10_23) ?_
   refine k_istore X104 hx 29 (D d10_27) (Ls' := #[rv a1, jv p2, s_, jv p3, s_, iv 1]) rfl ?_
   refine k_iload X104 hx 31 (D d10_29) rfl ?_
   refine k_if_eq X104 hx 34 43 (D d10_31) (fun hc => absurd hc (by decide)) (fun _ => ?_)
   refine k_aloadN X104 hx 35 (D d10_34) rfl rfl ?_
   refine k_getF1 X104 hx hZ hown 38 (k_w hw 37 rfl) rfl F130 (D d10_35) (fun T211 X211 e211 => ?_)
   refine k_lloadN X211 hx 39 (D d10_38) rfl ?_
   refine k_lloadN X211 hx 40 (D d10_39) rfl ?_
   refine k_callV X211 hx hZ hown 43 (a := a5) (k_w hw 74 rfl) (k_w hw 75 rfl) (k_w hw 77 rfl) (k_w hw 76 rfl) (k_w hw 23 rfl) (k_w hw 78 rfl) (by decide) F131 (rm12_39 l Z a0 hw [] a5 a1 a6 a7 p2 p3 p4 p8 p10 p9 k11 k13 p12 T104.heap n0 Z143 ⟨F128, F129, F130⟩ g_a1 ⟨F131, F132, F133, F134, F135, F136, F137, F138, F139, F140⟩ g_a5 F141 g_a6 F142 g_a7 lt0_0 lt0_1 lt0_2 hp0 hp1 hp2 hp3 hp4 hp5 hp6 hd18 (by have q := hp3; rw [hd18] at q; exact q) (by have q := hp4; rw [hd18] at q; exact q) (by have q := hc126; rw [h125] at q; exact q) (by have q := hc127; rw [h125] at q; exact q) (by have q := hc210; rw [hv209] at q; exact q)) (by decide) (by decide) e211 (by rw [hml]; rfl) (argsL := [(.long p2), (.long p3)]) (rest := []) (lenOf pd_2 rfl) rfl (W := 0) (Nat.le_refl _) rfl (D d10_40) (by decide) (by decide) (fun T212 L212 r212 X212 q212 => ?_)
   obtain ⟨N212, q212⟩ := q212
   have N212' := Fr.app N104' N212
   rcases q212 with ⟨v213, h214, hc215, hc216, hc217, rfl, ⟨F218, F219, F220⟩, ⟨F221, F222, F223, F224, F225, F226, F227, F228, F229, F230⟩, F231, F232, Z233⟩ | ⟨v234, h235, hc236, hc237, rfl, ⟨F238, F239, F240⟩, ⟨F241, F242, F243, F244, F245, F246, F247, F248, F249, F250⟩, F251, F252, Z253⟩
   ·
    refine k_n0 ?_
    refine k_iload X212 hx 45 (D d10_43) rfl ?_
    exact k_retN X212 hx (t := .boolean) hret (by simp) (D d10_45) hlk (by decide) (by decide) (z' := (1 : Int32)) rfl ⟨N212', (Or.inr (Or.inr (Or.inr (Or.inl ⟨v124, v209, v213, h125, hv209, h214, hc126, hc127, hc210, hc215, hc216, hc217, rfl, ⟨F218, F219, F220⟩, ⟨F221, F222, F223, F224, F225, F226, F227, F228, F229, F230⟩, F231, F232, Z233⟩))))⟩
   ·
    refine k_n0 ?_
    refine k_iload X212 hx 45 (D d10_43) rfl ?_
    exact k_retN X212 hx (t := .boolean) hret (by simp) (D d10_45) hlk (by decide) (by decide) (z' := (1 : Int32)) rfl ⟨N212', (Or.inr (Or.inr (Or.inr (Or.inr (Or.inl ⟨v124, v209, v234, h125, hv209, h235, hc126, hc127, hc210, hc236, hc237, rfl, ⟨F238, F239, F240⟩, ⟨F241, F242, F243, F244, F245, F246, F247, F248, F249, F250⟩, F251, F252, Z253⟩)))))⟩
 ·
  refine k_n1 ?_
  refine k_lsubL X104 hx 18 (D d10_17) (z := p4) (Int64.sub_zero _) ?_
  refine k_lcif_gt X104 hx 22 26 19 (D d10_18) (D d10_19) (fun hc254 => ?_) (fun hc254 => ?_)
  ·
   refine k_iconst X104 hx 27 (D d10_26) (z := (0 : Int32)) rfl ?_
   refine k_istore X104 hx 29 (D d10_27) (Ls' := #[rv a1, jv p2, s_, jv p3, s_, iv 0]) rfl ?_
   refine k_iload X104 hx 31 (D d10_29) rfl ?_
   refine k_if_eq X104 hx 34 43 (D d10_31) (fun _ => ?_) (fun hc => absurd (by decide) hc)
   refine k_iload X104 hx 45 (D d10_43) rfl ?_
   exact k_retN X104 hx (t := .boolean) hret (by simp) (D d10_45) hlk (by decide) (by decide) (z' := (0 : Int32)) rfl ⟨N104', (Or.inr (Or.inr (Or.inr (Or.inr (Or.inr (Or.inl ⟨v144, h145, hc146, hc147, hc148, hc254, rfl, ⟨F149, F150, F151⟩, ⟨F152, F153, F154, F155, F156, F157, F158, F159, F160, F161⟩, F162, F163, Z164⟩))))))⟩
  ·
   refine k_iconst X104 hx 23 (D d10_22) (z := (1 : Int32)) rfl ?_
   refine k_goto X104 hx 27 (D d10_23) ?_
   refine k_istore X104 hx 29 (D d10_27) (Ls' := #[rv a1, jv p2, s_, jv p3, s_, iv 1]) rfl ?_
   refine k_iload X104 hx 31 (D d10_29) rfl ?_
   refine k_if_eq X104 hx 34 43 (D d10_31) (fun hc => absurd hc (by decide)) (fun _ => ?_)
   refine k_aloadN X104 hx 35 (D d10_34) rfl rfl ?_
   refine k_getF1 X104 hx hZ hown 38 (k_w hw 37 rfl) rfl F151 (D d10_35) (fun T255 X255 e255 => ?_)
   refine k_lloadN X255 hx 39 (D d10_38) rfl ?_
   refine k_lloadN X255 hx 40 (D d10_39) rfl ?_
   refine k_callV X255 hx hZ hown 43 (a := a5) (k_w hw 74 rfl) (k_w hw 75 rfl) (k_w hw 77 rfl) (k_w hw 76 rfl) (k_w hw 23 rfl) (k_w hw 78 rfl) (by decide) F152 (rm12_45 l Z a0 hw [] a5 a1 a6 a7 p2 p3 p4 p8 p9 p10 k11 k13 p12 T104.heap n0 Z164 ⟨F149, F150, F151⟩ g_a1 ⟨F152, F153, F154, F155, F156, F157, F158, F159, F160, F161⟩ g_a5 F162 g_a6 F163 g_a7 lt0_0 lt0_1 lt0_2 hp0 hp1 hp2 hp3 hp4 hp5 hd18 (by have q := hp3; rw [hd18] at q; exact q) (by have q := hp4; rw [hd18] at q; exact q) hp6 (by have q := hc146; rw [h145] at q; exact q) (by have q := hc147; rw [h145] at q; exact q) (by have q := hc148; rw [hd18] at q; exact q) hc254) (by decide) (by decide) e255 (by rw [hml]; rfl) (argsL := [(.long p2), (.long p3)]) (rest := []) (lenOf pd_2 rfl) rfl (W := 0) (Nat.le_refl _) rfl (D d10_40) (by decide) (by decide) (fun T256 L256 r256 X256 q256 => ?_)
   obtain ⟨N256, q256⟩ := q256
   have N256' := Fr.app N104' N256
   obtain ⟨rfl, ⟨F257, F258, F259⟩, ⟨F260, F261, F262, F263, F264, F265, F266, F267, F268, F269⟩, F270, F271, Z272⟩ := q256
   refine k_n0 ?_
   refine k_iload X256 hx 45 (D d10_43) rfl ?_
   exact k_retN X256 hx (t := .boolean) hret (by simp) (D d10_45) hlk (by decide) (by decide) (z' := (1 : Int32)) rfl ⟨N256', (Or.inr (Or.inr (Or.inr (Or.inr (Or.inr (Or.inr (Or.inl ⟨v144, h145, hc146, hc147, hc148, hc254, rfl, ⟨F257, F258, F259⟩, ⟨F260, F261, F262, F263, F264, F265, F266, F267, F268, F269⟩, F270, F271, Z272⟩)))))))⟩
 ·
  refine k_n1 ?_
  refine k_lsubL X104 hx 18 (D d10_17) (z := p4) (Int64.sub_zero _) ?_
  refine k_lcif_gt X104 hx 22 26 19 (D d10_18) (D d10_19) (fun hc273 => ?_) (fun hc273 => ?_)
  ·
   refine k_iconst X104 hx 27 (D d10_26) (z := (0 : Int32)) rfl ?_
   refine k_istore X104 hx 29 (D d10_27) (Ls' := #[rv a1, jv p2, s_, jv p3, s_, iv 0]) rfl ?_
   refine k_iload X104 hx 31 (D d10_29) rfl ?_
   refine k_if_eq X104 hx 34 43 (D d10_31) (fun _ => ?_) (fun hc => absurd (by decide) hc)
   refine k_iload X104 hx 45 (D d10_43) rfl ?_
   exact k_retN X104 hx (t := .boolean) hret (by simp) (D d10_45) hlk (by decide) (by decide) (z' := (0 : Int32)) rfl ⟨N104', (Or.inr (Or.inr (Or.inr (Or.inr (Or.inr (Or.inr (Or.inr (Or.inl ⟨v165, h166, hc167, hc168, hc169, hc273, rfl, ⟨F170, F171, F172⟩, ⟨F173, F174, F175, F176, F177, F178, F179, F180, F181, F182⟩, F183, F184, Z185⟩))))))))⟩
  ·
   refine k_iconst X104 hx 23 (D d10_22) (z := (1 : Int32)) rfl ?_
   refine k_goto X104 hx 27 (D d10_23) ?_
   refine k_istore X104 hx 29 (D d10_27) (Ls' := #[rv a1, jv p2, s_, jv p3, s_, iv 1]) rfl ?_
   refine k_iload X104 hx 31 (D d10_29) rfl ?_
   refine k_if_eq X104 hx 34 43 (D d10_31) (fun hc => absurd hc (by decide)) (fun _ => ?_)
   refine k_aloadN X104 hx 35 (D d10_34) rfl rfl ?_
   refine k_getF1 X104 hx hZ hown 38 (k_w hw 37 rfl) rfl F172 (D d10_35) (fun T274 X274 e274 => ?_)
   refine k_lloadN X274 hx 39 (D d10_38) rfl ?_
   refine k_lloadN X274 hx 40 (D d10_39) rfl ?_
   have hp275 : ¬ p12 < (2 : Int32) := by
    intro hq276
    have B277 : (1 : Int) <= p4.toInt /\ p4.toInt <= 8 := ⟨kL_ge hp0 (by decide), kL_le hp1 (by decide)⟩
    have B278 : (1 : Int) <= p8.toInt /\ p8.toInt <= 9223372036854775807 := ⟨kL_ge hp2 (by decide), Int.le_of_lt_add_one (rng64 p8).2⟩
    have q280 : p12.toInt = p4.toInt := k_l2ix hd18 B277 (by decide) (by decide)
    have B279 : (2 : Int) <= p12.toInt /\ p12.toInt <= 1 := ⟨k_gt hc169 (by decide), k_lt hq276 (by decide)⟩
    have B281 : (1 : Int) <= p2.toInt /\ p2.toInt <= 9223372036854775807 := ⟨kL_ge hp5 (by decide), Int.le_of_lt_add_one (rng64 p2).2⟩
    have B282 : (1 : Int) <= p10.toInt /\ p10.toInt <= 9223372036854775807 := ⟨kL_ge hp6 (by decide), Int.le_of_lt_add_one (rng64 p10).2⟩
    have B285 : (-9223372036854775808 : Int) <= p3.toInt /\ p3.toInt <= 9223372036854775807 := ⟨(rng64 p3).1, Int.le_of_lt_add_one (rng64 p3).2⟩
    have B286 : (-9223372036854775808 : Int) <= p9.toInt /\ p9.toInt <= 9223372036854775807 := ⟨(rng64 p9).1, Int.le_of_lt_add_one (rng64 p9).2⟩
    have q287 : (v165.toInt - (p3.toInt - p9.toInt)) % 18446744073709551616 = 0 := (by rw [h166]; exact c_lsub _ _)
    have B283 : (1 : Int) <= v165.toInt /\ v165.toInt <= 9223372036854775807 := ⟨kL_gt hc167 (by decide), Int.le_of_lt_add_one (rng64 v165).2⟩
    have q288 := kL_m hc168
    have q289 := kL_m hc273
    omega
   refine k_callV X274 hx hZ hown 43 (a := a5) (k_w hw 74 rfl) (k_w hw 75 rfl) (k_w hw 77 rfl) (k_w hw 76 rfl) (k_w hw 23 rfl) (k_w hw 78 rfl) (by decide) F173 (rm12_50 l Z a0 hw [] a5 a1 a6 a7 p2 p3 p4 p8 p9 p10 k11 k13 p12 T104.heap n0 Z185 ⟨F170, F171, F172⟩ g_a1 ⟨F173, F174, F175, F176, F177, F178, F179, F180, F181, F182⟩ g_a5 F183 g_a6 F184 g_a7 lt0_0 lt0_1 lt0_2 hp0 hp1 hp2 hp275 hp4 hp5 hd18 (by have q := hp3; rw [hd18] at q; exact q) (by have q := hp4; rw [hd18] at q; exact q) hp6 (by have q := hc167; rw [h166] at q; exact q) (by have q := hc168; rw [h166] at q; exact q) (by have q := hc169; rw [hd18] at q; exact q) hc273 (by have q := hp275; rw [hd18] at q; exact q)) (by decide) (by decide) e274 (by rw [hml]; rfl) (argsL := [(.long p2), (.long p3)]) (rest := []) (lenOf pd_2 rfl) rfl (W := 0) (Nat.le_refl _) rfl (D d10_40) (by decide) (by decide) (fun T290 L290 r290 X290 q290 => ?_)
   obtain ⟨N290, q290⟩ := q290
   have N290' := Fr.app N104' N290
   obtain ⟨rfl, ⟨F291, F292, F293⟩, ⟨F294, F295, F296, F297, F298, F299, F300, F301, F302, F303⟩, F304, F305, Z306⟩ := q290
   refine k_n0 ?_
   refine k_iload X290 hx 45 (D d10_43) rfl ?_
   exact k_retN X290 hx (t := .boolean) hret (by simp) (D d10_45) hlk (by decide) (by decide) (z' := (1 : Int32)) rfl ⟨N290', (Or.inr (Or.inr (Or.inr (Or.inr (Or.inr (Or.inr (Or.inr (Or.inr ⟨v165, h166, hc167, hc168, hc169, hc273, hp275, rfl, ⟨F291, F292, F293⟩, ⟨F294, F295, F296, F297, F298, F299, F300, F301, F302, F303⟩, F304, F305, Z306⟩))))))))⟩
abbrev R9_58 : Room := { frames := 1, cells := 0, slots := 0, locals := 15 }
def Q9_58 (Z : State) (a1 a2 a4 a5 : Addr) (p3 p6 p7 p8 p10 : Int64) (k9 k12 : ClassId) (p11 : Int32) (h0 : Heap) (n0 : Nat) (v : Option Value) (h : Heap) (L : List Loc) : Prop := Fr n0 L /\ ((∃ (v112 : Int64), v112 = p7 - p10 /\ v112 < p6 /\ v = none /\ BL Z h a2 (.long p3) (.ref a1) /\ BS Z h a1 (.ref a4) (.ref a5) (.long p3) (.long p6) (.int 1) (.long p7) (.int 1) (.long p8) (.int 0) /\ Arv Z h a4 k9 .long p11 [(.long p10), (.long 0)] (.long 0) /\ Arv Z h a5 k12 .long p11 [(.long p8), (.long 0)] (.long 0) /\ n0 <= h.size) \/ (∃ (v112 : Int64), v112 = p7 - p10 /\ ¬ v112 < p6 /\ ¬ (1 : Int32) < p11 /\ v = none /\ BL Z h a2 (.long p3) (.ref a1) /\ BS Z h a1 (.ref a4) (.ref a5) (.long p3) (.long p6) (.int 1) (.long p7) (.int 0) (.long 0) (.int 0) /\ Arv Z h a4 k9 .long p11 [(.long p10), (.long 0)] (.long 0) /\ Arv Z h a5 k12 .long p11 [(.long p8), (.long 0)] (.long 0) /\ n0 <= h.size) \/ (∃ (v112 : Int64), v112 = p7 - p10 /\ ¬ v112 < p6 /\ (1 : Int32) < p11 /\ v = none /\ BL Z h a2 (.long p3) (.ref a1) /\ BS Z h a1 (.ref a4) (.ref a5) (.long p3) (.long p6) (.int 1) (.long p7) (.int 0) (.long 0) (.int 1) /\ Arv Z h a4 k9 .long p11 [(.long p10), (.long 0)] (.long 0) /\ Arv Z h a5 k12 .long p11 [(.long p8), (.long 0)] (.long 0) /\ n0 <= h.size))
theorem rm9_58 (l : Launch) (Z : State) (a0 : Array Value) (hw : WW a0 Z) (ws : List Jvm.Cond) (a1 a2 a4 a5 : Addr) (p3 p6 p7 p8 p10 : Int64) (k9 k12 : ClassId) (p11 : Int32) (h0 : Heap) (n0 : Nat) (Z0 : n0 <= h0.size) (B0 : BL Z h0 a2 (.long p3) (.ref a1)) (g_a2 : n0 <= a2) (B2 : BS Z h0 a1 (.ref a4) (.ref a5) (.long p3) (.long p6) (.int 1) (.long p7) (.int 1) (.long p8) (.int 0)) (g_a1 : n0 <= a1) (F0_4 : Arv Z h0 a4 k9 .long p11 [(.long p10), (.long 0)] (.long 0)) (g_a4 : n0 <= a4) (F0_6 : Arv Z h0 a5 k12 .long p11 [(.long p8), (.long 0)] (.long 0)) (g_a5 : n0 <= a5) (lt0_0 : a2 < a1) (lt0_1 : a1 < a4) (lt0_2 : a4 < a5) (hp0 : ¬ p3 < (1 : Int64)) (hp1 : ¬ (8 : Int64) < p3) (hp2 : ¬ p6 < (1 : Int64)) (hp3 : ¬ p11 < (1 : Int32)) (hp4 : ¬ (8 : Int32) < p11) (hd16 : p11 = p3.toInt32) (hx17 : ¬ (p3.toInt32) < (1 : Int32)) (hx18 : ¬ (8 : Int32) < (p3.toInt32)) :
    KMet l (⟨"com/example/halter/halter/SlidingSum", "forgetWhatLeftTheWindow", "()V"⟩ : MethodName) prog_20_method_8_code 2 none ws R9_58 #[(.ref a1)] Z h0 R9_58.cells R9_58.slots (Q9_58 Z a1 a2 a4 a5 p3 p6 p7 p8 p10 k9 k12 p11 h0 n0) := by
 refine k_body (plainFor_of_name pn_1) (fun m => ef9_8 m a1) ?_
 intro p e s m below meth c s₁ hx D hml hlk hret hown hnm hZ X0 e0
 have N0 := Fr.nil n0
 obtain ⟨f0, f1, f2⟩ := B0
 obtain ⟨f3, f4, f5, f6, f7, f8, f9, f10, f11, f12⟩ := B2
 refine k_aloadN X0 hx 1 (D d9_0) rfl rfl ?_
 refine k_getF1 X0 hx hZ hown 4 (k_w hw 61 rfl) e0 f10 (D d9_1) (fun T101 X101 e101 => ?_)
 refine k_if_le X101 hx 7 69 (D d9_4) (fun hc => absurd (by decide) hc) (fun _ => ?_)
 refine k_aloadN X101 hx 8 (D d9_7) rfl rfl ?_
 refine k_getF1 X101 hx hZ hown 11 (k_w hw 55 rfl) e101 f9 (D d9_8) (fun T102 X102 e102 => ?_)
 refine k_aloadN X102 hx 12 (D d9_11) rfl rfl ?_
 refine k_getF1 X102 hx hZ hown 15 (k_w hw 29 rfl) e102 f4 (D d9_12) (fun T103 X103 e103 => ?_)
 refine k_aloadN X103 hx 16 (D d9_15) rfl rfl ?_
 refine k_getF1 X103 hx hZ hown 19 (k_w hw 99 rfl) e103 f12 (D d9_16) (fun T104 X104 e104 => ?_)
 refine k_laload X104 hx hZ 20 e104 F0_4 ⟨by decide, (Classical.byContradiction (fun hq105 => by have B106 : (1 : Int) <= p3.toInt /\ p3.toInt <= 8 := ⟨kL_ge hp0 (by decide), kL_le hp1 (by decide)⟩; have B107 : (1 : Int) <= p6.toInt /\ p6.toInt <= 9223372036854775807 := ⟨kL_ge hp2 (by decide), Int.le_of_lt_add_one (rng64 p6).2⟩; have q109 : p11.toInt = p3.toInt := k_l2ix hd16 B106 (by decide) (by decide); have B108 : (1 : Int) <= p11.toInt /\ p11.toInt <= 8 := (by rw [q109]; exact B106); have B110 : (1 : Int) <= p11.toInt /\ p11.toInt <= 0 := ⟨B108.1, k_le hq105 (by decide)⟩; have B111 : (1 : Int) <= (p3.toInt32).toInt /\ (p3.toInt32).toInt <= 8 := ⟨k_ge hx17 (by decide), k_le hx18 (by decide)⟩; omega))⟩ (v := (.long p10)) rfl (D d9_19) ?_
 refine k_lsub X104 hx 21 (D d9_20) (fun v112 hv112 => ?_)
 refine k_aloadN X104 hx 22 (D d9_21) rfl rfl ?_
 refine k_getF1 X104 hx hZ hown 25 (k_w hw 35 rfl) e104 f7 (D d9_22) (fun T113 X113 e113 => ?_)
 refine k_lcif_lt X113 hx 29 69 26 (D d9_25) (D d9_26) (fun hc114 => ?_) (fun hc114 => ?_)
 ·
  refine k_aloadN X113 hx 70 (D d9_69) rfl rfl ?_
  refine k_getF1 X113 hx hZ hown 73 (k_w hw 29 rfl) e113 f4 (D d9_70) (fun T115 X115 e115 => ?_)
  refine k_alen X115 hx hZ 74 e115 F0_4 (D d9_73) ?_
  refine k_istoreN X115 hx 75 (D d9_74) (Ls' := #[rv a1, iv p11]) rfl ?_
  refine k_iloadN X115 hx 76 (D d9_75) rfl ?_
  refine k_bipush X115 hx 78 (D d9_76) (z := (8 : Int32)) rfl ?_
  refine k_icmp_le X115 hx 81 98 (D d9_78) (fun _ => ?_) (fun hc => absurd hc hp4)
  refine k_iloadN X115 hx 99 (D d9_98) rfl ?_
  refine k_aloadN X115 hx 100 (D d9_99) rfl rfl ?_
  refine k_getF1 X115 hx hZ hown 103 (k_w hw 29 rfl) e115 f4 (D d9_100) (fun T116 X116 e116 => ?_)
  refine k_alen X116 hx hZ 104 e116 F0_4 (D d9_103) ?_
  refine k_icmp_eq X116 hx 107 112 (D d9_104) (fun _ => ?_) (fun hc => absurd rfl hc)
  exact k_ret X116 hx hret (D d9_112) hlk (by decide) (by decide) (by rw [e116]; exact ⟨N0, (Or.inl ⟨v112, hv112, hc114, rfl, ⟨f0, f1, f2⟩, ⟨f3, f4, f5, f6, f7, f8, f9, f10, f11, f12⟩, F0_4, F0_6, Z0⟩)⟩)
 ·
  refine k_aloadN X113 hx 30 (D d9_29) rfl rfl ?_
  refine k_dup X113 hx 31 (D d9_30) rfl ?_
  refine k_getF1 X113 hx hZ hown 34 (k_w hw 63 rfl) e113 f11 (D d9_31) (fun T117 X117 e117 => ?_)
  refine k_aloadN X117 hx 35 (D d9_34) rfl rfl ?_
  refine k_getF1 X117 hx hZ hown 38 (k_w hw 31 rfl) e117 f5 (D d9_35) (fun T118 X118 e118 => ?_)
  refine k_aloadN X118 hx 39 (D d9_38) rfl rfl ?_
  refine k_getF1 X118 hx hZ hown 42 (k_w hw 99 rfl) e118 f12 (D d9_39) (fun T119 X119 e119 => ?_)
  refine k_laload X119 hx hZ 43 e119 F0_6 ⟨by decide, (Classical.byContradiction (fun hq120 => by have B121 : (1 : Int) <= p3.toInt /\ p3.toInt <= 8 := ⟨kL_ge hp0 (by decide), kL_le hp1 (by decide)⟩; have B122 : (1 : Int) <= p6.toInt /\ p6.toInt <= 9223372036854775807 := ⟨kL_ge hp2 (by decide), Int.le_of_lt_add_one (rng64 p6).2⟩; have q124 : p11.toInt = p3.toInt := k_l2ix hd16 B121 (by decide) (by decide); have B123 : (1 : Int) <= p11.toInt /\ p11.toInt <= 8 := (by rw [q124]; exact B121); have B125 : (1 : Int) <= p11.toInt /\ p11.toInt <= 0 := ⟨B123.1, k_le hq120 (by decide)⟩; have B126 : (1 : Int) <= (p3.toInt32).toInt /\ (p3.toInt32).toInt <= 8 := ⟨k_ge hx17 (by decide), k_le hx18 (by decide)⟩; have B129 : (-9223372036854775808 : Int) <= p7.toInt /\ p7.toInt <= 9223372036854775807 := ⟨(rng64 p7).1, Int.le_of_lt_add_one (rng64 p7).2⟩; have B130 : (-9223372036854775808 : Int) <= p10.toInt /\ p10.toInt <= 9223372036854775807 := ⟨(rng64 p10).1, Int.le_of_lt_add_one (rng64 p10).2⟩; have q131 : (v112.toInt - (p7.toInt - p10.toInt)) % 18446744073709551616 = 0 := (by rw [hv112]; exact c_lsub _ _); have B127 : (-9223372036854775808 : Int) <= v112.toInt /\ v112.toInt <= 9223372036854775807 := ⟨(rng64 v112).1, Int.le_of_lt_add_one (rng64 v112).2⟩; have q132 := kL_m hc114; omega))⟩ (v := (.long p8)) rfl (D d9_42) ?_
  refine k_lsubL X119 hx 44 (D d9_43) (z := (0 : Int64)) (Int64.sub_self _) ?_
  refine k_putF1 X119 hx hZ hown 47 (k_w hw 63 rfl) e119 f11 f3 (Or.inl (k_w hw 64 rfl)) (k_w hw 22 rfl) .long rfl rfl (D d9_44) (fun T133 h133 X133 e133 W133 => ?_)
  have Fw133 := f11.same W133
  have N133 := Fr.snoc X133 N0 g_a1
  have Z133 := k_zw Z0 W133
  refine k_aloadN X133 hx 48 (D d9_47) rfl rfl ?_
  refine k_aloadN X133 hx 49 (D d9_48) rfl rfl ?_
  refine k_iconst X133 hx 50 (D d9_49) (z := (1 : Int32)) rfl ?_
  have F134 := (f3.wr W133)
  have F135 := (f4.other W133 (Or.inr (sn60 hw)))
  have F136 := (f5.other W133 (Or.inr (sn62 hw)))
  have F137 := (f6.other W133 (Or.inr (sn64 hw)))
  have F138 := (f7.other W133 (Or.inr (sn66 hw)))
  have F139 := (f8.other W133 (Or.inr (sn68 hw)))
  have F140 := (f9.other W133 (Or.inr (sn70 hw)))
  have F141 := (f10.other W133 (Or.inr (sn71 hw)))
  have F142 := (f12.other W133 (Or.inr (sn73 hw)))
  have F143 := (F0_4.other W133 (Ne.symm (Nat.ne_of_lt lt0_1)))
  have F144 := (F0_6.other W133 (Ne.symm (Nat.ne_of_lt (Nat.lt_trans lt0_1 lt0_2))))
  refine k_callP X133 hx hZ hown 53 (a := a1) (k_w hw 101 rfl) (k_w hw 102 rfl) (k_w hw 103 rfl) (k_w hw 22 rfl) (k_w hw 23 rfl) (k_w hw 104 rfl) (by decide) F134 (rm17_29 l Z a0 hw [] a1 a4 a5 p3 p6 p7 p10 p8 k9 k12 p11 h133 n0 Z133 ⟨F134, F135, F136, F137, F138, F139, F140, F141, Fw133, F142⟩ F143 F144 lt0_1 lt0_2 hp0 hp1 hp2 hp3 hp4 hd16) (by decide) (by decide) e133 (by rw [hml]; rfl) (argsL := [(.int 1)]) (rest := [(.ref a1)]) (lenOf pd_7 rfl) rfl (W := 1) (Nat.le_refl _) rfl (D d9_50) (by decide) (by decide) (fun T145 L145 r145 X145 q145 => ?_)
  obtain ⟨N145, e145, q145⟩ := q145
  have N145' := Fr.app N133 N145
  rcases q145 with ⟨hc146, rfl⟩ | ⟨hc147, rfl⟩
  ·
   refine k_n1 ?_
   refine k_putF1 X145 hx hZ hown 56 (k_w hw 99 rfl) e145 F142 F134 (Or.inl (k_w hw 100 rfl)) (k_w hw 22 rfl) .int rfl rfl (D d9_53) (fun T148 h148 X148 e148 W148 => ?_)
   have Fw148 := F142.same W148
   have N148 := Fr.snoc X148 N145' g_a1
   have Z148 := k_zw Z133 W148
   refine k_aloadN X148 hx 57 (D d9_56) rfl rfl ?_
   refine k_dup X148 hx 58 (D d9_57) rfl ?_
   have F149 := (F141.other W148 (Or.inr (sn56 hw)))
   refine k_getF1 X148 hx hZ hown 61 (k_w hw 61 rfl) e148 F149 (D d9_58) (fun T150 X150 e150 => ?_)
   refine k_iconst X150 hx 62 (D d9_61) (z := (1 : Int32)) rfl ?_
   refine k_isubL X150 hx 63 (D d9_62) (z := (0 : Int32)) (by decide) ?_
   have F151 := (F134.wr W148)
   refine k_putF1 X150 hx hZ hown 66 (k_w hw 61 rfl) e150 F149 F151 (Or.inl (k_w hw 62 rfl)) (k_w hw 22 rfl) .int rfl rfl (D d9_63) (fun T152 h152 X152 e152 W152 => ?_)
   have Fw152 := F149.same W152
   have N152 := Fr.snoc X152 N148 g_a1
   have Z152 := k_zw Z148 W152
   refine k_goto X152 hx 0 (D d9_66) ?_
   refine k_aloadN X152 hx 1 (D d9_0) rfl rfl ?_
   refine k_getF1 X152 hx hZ hown 4 (k_w hw 61 rfl) e152 Fw152 (D d9_1) (fun T153 X153 e153 => ?_)
   refine k_if_le X153 hx 7 69 (D d9_4) (fun _ => ?_) (fun hc => absurd hc (by decide))
   refine k_aloadN X153 hx 70 (D d9_69) rfl rfl ?_
   have F154 := ((F135.other W148 (Or.inr (sn50 hw))).other W152 (Or.inr (sn59 hw)))
   refine k_getF1 X153 hx hZ hown 73 (k_w hw 29 rfl) e153 F154 (D d9_70) (fun T155 X155 e155 => ?_)
   have F156 := ((F143.other W148 (Ne.symm (Nat.ne_of_lt lt0_1))).other W152 (Ne.symm (Nat.ne_of_lt lt0_1)))
   refine k_alen X155 hx hZ 74 e155 F156 (D d9_73) ?_
   refine k_istoreN X155 hx 75 (D d9_74) (Ls' := #[rv a1, iv p11]) rfl ?_
   refine k_iloadN X155 hx 76 (D d9_75) rfl ?_
   refine k_bipush X155 hx 78 (D d9_76) (z := (8 : Int32)) rfl ?_
   refine k_icmp_le X155 hx 81 98 (D d9_78) (fun _ => ?_) (fun hc => absurd hc hp4)
   refine k_iloadN X155 hx 99 (D d9_98) rfl ?_
   refine k_aloadN X155 hx 100 (D d9_99) rfl rfl ?_
   refine k_getF1 X155 hx hZ hown 103 (k_w hw 29 rfl) e155 F154 (D d9_100) (fun T157 X157 e157 => ?_)
   refine k_alen X157 hx hZ 104 e157 F156 (D d9_103) ?_
   refine k_icmp_eq X157 hx 107 112 (D d9_104) (fun _ => ?_) (fun hc => absurd rfl hc)
   have F168 := (((f0.wr W133).wr W148).wr W152)
   have F169 := (((f1.other W133 (Or.inl (Nat.ne_of_lt lt0_0))).other W148 (Or.inl (Nat.ne_of_lt lt0_0))).other W152 (Or.inl (Nat.ne_of_lt lt0_0)))
   have F170 := (((f2.other W133 (Or.inl (Nat.ne_of_lt lt0_0))).other W148 (Or.inl (Nat.ne_of_lt lt0_0))).other W152 (Or.inl (Nat.ne_of_lt lt0_0)))
   have F171 := (F151.wr W152)
   have F172 := ((F136.other W148 (Or.inr (sn51 hw))).other W152 (Or.inr (sn61 hw)))
   have F173 := ((F137.other W148 (Or.inr (sn52 hw))).other W152 (Or.inr (sn63 hw)))
   have F174 := ((F138.other W148 (Or.inr (sn53 hw))).other W152 (Or.inr (sn65 hw)))
   have F175 := ((F139.other W148 (Or.inr (sn54 hw))).other W152 (Or.inr (sn67 hw)))
   have F176 := ((F140.other W148 (Or.inr (sn55 hw))).other W152 (Or.inr (sn69 hw)))
   have F177 := ((Fw133.other W148 (Or.inr (sn57 hw))).other W152 (Or.inr (sn58 hw)))
   have F178 := (Fw148.other W152 (Or.inr (sn72 hw)))
   have F179 := ((F144.other W148 (Ne.symm (Nat.ne_of_lt (Nat.lt_trans lt0_1 lt0_2)))).other W152 (Ne.symm (Nat.ne_of_lt (Nat.lt_trans lt0_1 lt0_2))))
   exact k_ret X157 hx hret (D d9_112) hlk (by decide) (by decide) (by rw [e157]; exact ⟨N152, (Or.inr (Or.inl ⟨v112, hv112, hc114, hc146, rfl, ⟨F168, F169, F170⟩, ⟨F171, F154, F172, F173, F174, F175, F176, Fw152, F177, F178⟩, F156, F179, Z152⟩))⟩)
  ·
   refine k_n1 ?_
   refine k_putF1 X145 hx hZ hown 56 (k_w hw 99 rfl) e145 F142 F134 (Or.inl (k_w hw 100 rfl)) (k_w hw 22 rfl) .int rfl rfl (D d9_53) (fun T158 h158 X158 e158 W158 => ?_)
   have Fw158 := F142.same W158
   have N158 := Fr.snoc X158 N145' g_a1
   have Z158 := k_zw Z133 W158
   refine k_aloadN X158 hx 57 (D d9_56) rfl rfl ?_
   refine k_dup X158 hx 58 (D d9_57) rfl ?_
   have F159 := (F141.other W158 (Or.inr (sn56 hw)))
   refine k_getF1 X158 hx hZ hown 61 (k_w hw 61 rfl) e158 F159 (D d9_58) (fun T160 X160 e160 => ?_)
   refine k_iconst X160 hx 62 (D d9_61) (z := (1 : Int32)) rfl ?_
   refine k_isubL X160 hx 63 (D d9_62) (z := (0 : Int32)) (by decide) ?_
   have F161 := (F134.wr W158)
   refine k_putF1 X160 hx hZ hown 66 (k_w hw 61 rfl) e160 F159 F161 (Or.inl (k_w hw 62 rfl)) (k_w hw 22 rfl) .int rfl rfl (D d9_63) (fun T162 h162 X162 e162 W162 => ?_)
   have Fw162 := F159.same W162
   have N162 := Fr.snoc X162 N158 g_a1
   have Z162 := k_zw Z158 W162
   refine k_goto X162 hx 0 (D d9_66) ?_
   refine k_aloadN X162 hx 1 (D d9_0) rfl rfl ?_
   refine k_getF1 X162 hx hZ hown 4 (k_w hw 61 rfl) e162 Fw162 (D d9_1) (fun T163 X163 e163 => ?_)
   refine k_if_le X163 hx 7 69 (D d9_4) (fun _ => ?_) (fun hc => absurd hc (by decide))
   refine k_aloadN X163 hx 70 (D d9_69) rfl rfl ?_
   have F164 := ((F135.other W158 (Or.inr (sn50 hw))).other W162 (Or.inr (sn59 hw)))
   refine k_getF1 X163 hx hZ hown 73 (k_w hw 29 rfl) e163 F164 (D d9_70) (fun T165 X165 e165 => ?_)
   have F166 := ((F143.other W158 (Ne.symm (Nat.ne_of_lt lt0_1))).other W162 (Ne.symm (Nat.ne_of_lt lt0_1)))
   refine k_alen X165 hx hZ 74 e165 F166 (D d9_73) ?_
   refine k_istoreN X165 hx 75 (D d9_74) (Ls' := #[rv a1, iv p11]) rfl ?_
   refine k_iloadN X165 hx 76 (D d9_75) rfl ?_
   refine k_bipush X165 hx 78 (D d9_76) (z := (8 : Int32)) rfl ?_
   refine k_icmp_le X165 hx 81 98 (D d9_78) (fun _ => ?_) (fun hc => absurd hc hp4)
   refine k_iloadN X165 hx 99 (D d9_98) rfl ?_
   refine k_aloadN X165 hx 100 (D d9_99) rfl rfl ?_
   refine k_getF1 X165 hx hZ hown 103 (k_w hw 29 rfl) e165 F164 (D d9_100) (fun T167 X167 e167 => ?_)
   refine k_alen X167 hx hZ 104 e167 F166 (D d9_103) ?_
   refine k_icmp_eq X167 hx 107 112 (D d9_104) (fun _ => ?_) (fun hc => absurd rfl hc)
   have F180 := (((f0.wr W133).wr W158).wr W162)
   have F181 := (((f1.other W133 (Or.inl (Nat.ne_of_lt lt0_0))).other W158 (Or.inl (Nat.ne_of_lt lt0_0))).other W162 (Or.inl (Nat.ne_of_lt lt0_0)))
   have F182 := (((f2.other W133 (Or.inl (Nat.ne_of_lt lt0_0))).other W158 (Or.inl (Nat.ne_of_lt lt0_0))).other W162 (Or.inl (Nat.ne_of_lt lt0_0)))
   have F183 := (F161.wr W162)
   have F184 := ((F136.other W158 (Or.inr (sn51 hw))).other W162 (Or.inr (sn61 hw)))
   have F185 := ((F137.other W158 (Or.inr (sn52 hw))).other W162 (Or.inr (sn63 hw)))
   have F186 := ((F138.other W158 (Or.inr (sn53 hw))).other W162 (Or.inr (sn65 hw)))
   have F187 := ((F139.other W158 (Or.inr (sn54 hw))).other W162 (Or.inr (sn67 hw)))
   have F188 := ((F140.other W158 (Or.inr (sn55 hw))).other W162 (Or.inr (sn69 hw)))
   have F189 := ((Fw133.other W158 (Or.inr (sn57 hw))).other W162 (Or.inr (sn58 hw)))
   have F190 := (Fw158.other W162 (Or.inr (sn72 hw)))
   have F191 := ((F144.other W158 (Ne.symm (Nat.ne_of_lt (Nat.lt_trans lt0_1 lt0_2)))).other W162 (Ne.symm (Nat.ne_of_lt (Nat.lt_trans lt0_1 lt0_2))))
   exact k_ret X167 hx hret (D d9_112) hlk (by decide) (by decide) (by rw [e167]; exact ⟨N162, (Or.inr (Or.inr ⟨v112, hv112, hc114, hc147, rfl, ⟨F180, F181, F182⟩, ⟨F183, F164, F184, F185, F186, F187, F188, Fw162, F189, F190⟩, F166, F191, Z162⟩))⟩)
abbrev R8_57 : Room := { frames := 2, cells := 0, slots := 0, locals := 28 }
def Q8_57 (Z : State) (a1 a3 a5 a6 : Addr) (p2 p4 p7 p8 p9 p11 : Int64) (k10 k13 : ClassId) (p12 : Int32) (h0 : Heap) (n0 : Nat) (v : Option Value) (h : Heap) (L : List Loc) : Prop := Fr n0 L /\ ((∃ (v103 : Int64) (v106 : Int64), v103 = p2 - p8 /\ v106 = p8 - p11 /\ ¬ (0 : Int64) < v103 /\ v106 < p7 /\ v = none /\ BL Z h a3 (.long p4) (.ref a1) /\ BS Z h a1 (.ref a5) (.ref a6) (.long p4) (.long p7) (.int 1) (.long p8) (.int 1) (.long p9) (.int 0) /\ Arv Z h a5 k10 .long p12 [(.long p11), (.long 0)] (.long 0) /\ Arv Z h a6 k13 .long p12 [(.long p9), (.long 0)] (.long 0) /\ n0 <= h.size) \/ (∃ (v103 : Int64) (v125 : Int64), v103 = p2 - p8 /\ v125 = p8 - p11 /\ ¬ (0 : Int64) < v103 /\ ¬ v125 < p7 /\ ¬ (1 : Int32) < p12 /\ v = none /\ BL Z h a3 (.long p4) (.ref a1) /\ BS Z h a1 (.ref a5) (.ref a6) (.long p4) (.long p7) (.int 1) (.long p8) (.int 0) (.long 0) (.int 0) /\ Arv Z h a5 k10 .long p12 [(.long p11), (.long 0)] (.long 0) /\ Arv Z h a6 k13 .long p12 [(.long p9), (.long 0)] (.long 0) /\ n0 <= h.size) \/ (∃ (v103 : Int64) (v145 : Int64), v103 = p2 - p8 /\ v145 = p8 - p11 /\ ¬ (0 : Int64) < v103 /\ ¬ v145 < p7 /\ (1 : Int32) < p12 /\ v = none /\ BL Z h a3 (.long p4) (.ref a1) /\ BS Z h a1 (.ref a5) (.ref a6) (.long p4) (.long p7) (.int 1) (.long p8) (.int 0) (.long 0) (.int 1) /\ Arv Z h a5 k10 .long p12 [(.long p11), (.long 0)] (.long 0) /\ Arv Z h a6 k13 .long p12 [(.long p9), (.long 0)] (.long 0) /\ n0 <= h.size) \/ (∃ (v103 : Int64) (v184 : Int64), v103 = p2 - p8 /\ v184 = p2 - p11 /\ (0 : Int64) < v103 /\ v184 < p7 /\ v = none /\ BL Z h a3 (.long p4) (.ref a1) /\ BS Z h a1 (.ref a5) (.ref a6) (.long p4) (.long p7) (.int 1) (.long p2) (.int 1) (.long p9) (.int 0) /\ Arv Z h a5 k10 .long p12 [(.long p11), (.long 0)] (.long 0) /\ Arv Z h a6 k13 .long p12 [(.long p9), (.long 0)] (.long 0) /\ n0 <= h.size) \/ (∃ (v103 : Int64) (v203 : Int64), v103 = p2 - p8 /\ v203 = p2 - p11 /\ (0 : Int64) < v103 /\ ¬ v203 < p7 /\ ¬ (1 : Int32) < p12 /\ v = none /\ BL Z h a3 (.long p4) (.ref a1) /\ BS Z h a1 (.ref a5) (.ref a6) (.long p4) (.long p7) (.int 1) (.long p2) (.int 0) (.long 0) (.int 0) /\ Arv Z h a5 k10 .long p12 [(.long p11), (.long 0)] (.long 0) /\ Arv Z h a6 k13 .long p12 [(.long p9), (.long 0)] (.long 0) /\ n0 <= h.size) \/ (∃ (v103 : Int64) (v223 : Int64), v103 = p2 - p8 /\ v223 = p2 - p11 /\ (0 : Int64) < v103 /\ ¬ v223 < p7 /\ (1 : Int32) < p12 /\ v = none /\ BL Z h a3 (.long p4) (.ref a1) /\ BS Z h a1 (.ref a5) (.ref a6) (.long p4) (.long p7) (.int 1) (.long p2) (.int 0) (.long 0) (.int 1) /\ Arv Z h a5 k10 .long p12 [(.long p11), (.long 0)] (.long 0) /\ Arv Z h a6 k13 .long p12 [(.long p9), (.long 0)] (.long 0) /\ n0 <= h.size))
theorem rm8_57 (l : Launch) (Z : State) (a0 : Array Value) (hw : WW a0 Z) (ws : List Jvm.Cond) (a1 a3 a5 a6 : Addr) (p2 p4 p7 p8 p9 p11 : Int64) (k10 k13 : ClassId) (p12 : Int32) (h0 : Heap) (n0 : Nat) (Z0 : n0 <= h0.size) (B0 : BL Z h0 a3 (.long p4) (.ref a1)) (g_a3 : n0 <= a3) (B2 : BS Z h0 a1 (.ref a5) (.ref a6) (.long p4) (.long p7) (.int 1) (.long p8) (.int 1) (.long p9) (.int 0)) (g_a1 : n0 <= a1) (F0_4 : Arv Z h0 a5 k10 .long p12 [(.long p11), (.long 0)] (.long 0)) (g_a5 : n0 <= a5) (F0_6 : Arv Z h0 a6 k13 .long p12 [(.long p9), (.long 0)] (.long 0)) (g_a6 : n0 <= a6) (lt0_0 : a3 < a1) (lt0_1 : a1 < a5) (lt0_2 : a5 < a6) (hp0 : ¬ p4 < (1 : Int64)) (hp1 : ¬ (8 : Int64) < p4) (hp2 : ¬ p7 < (1 : Int64)) (hp3 : ¬ p12 < (1 : Int32)) (hp4 : ¬ (8 : Int32) < p12) (hd16 : p12 = p4.toInt32) (hx17 : ¬ (p4.toInt32) < (1 : Int32)) (hx18 : ¬ (8 : Int32) < (p4.toInt32)) :
    KMet l (⟨"com/example/halter/halter/SlidingSum", "catchUp", "(J)V"⟩ : MethodName) prog_20_method_7_code 3 none ws R8_57 #[(.ref a1), (.long p2)] Z h0 R8_57.cells R8_57.slots (Q8_57 Z a1 a3 a5 a6 p2 p4 p7 p8 p9 p11 k10 k13 p12 h0 n0) := by
 refine k_body (plainFor_of_name pn_1) (fun m => ef8_7 m a1 p2) ?_
 intro p e s m below meth c s₁ hx D hml hlk hret hown hnm hZ X0 e0
 have N0 := Fr.nil n0
 obtain ⟨f0, f1, f2⟩ := B0
 obtain ⟨f3, f4, f5, f6, f7, f8, f9, f10, f11, f12⟩ := B2
 refine k_aloadN X0 hx 1 (D d8_0) rfl rfl ?_
 refine k_getF1 X0 hx hZ hown 4 (k_w hw 53 rfl) e0 f8 (D d8_1) (fun T101 X101 e101 => ?_)
 refine k_if_eq X101 hx 7 18 (D d8_4) (fun hc => absurd hc (by decide)) (fun _ => ?_)
 refine k_lloadN X101 hx 8 (D d8_7) rfl ?_
 refine k_aloadN X101 hx 9 (D d8_8) rfl rfl ?_
 refine k_getF1 X101 hx hZ hown 12 (k_w hw 55 rfl) e101 f9 (D d8_9) (fun T102 X102 e102 => ?_)
 refine k_lsub X102 hx 13 (D d8_12) (fun v103 hv103 => ?_)
 refine k_lconst X102 hx 14 (D d8_13) (z := (0 : Int64)) rfl ?_
 refine k_lcif_le X102 hx 18 28 15 (D d8_14) (D d8_15) (fun hc104 => ?_) (fun hc104 => ?_)
 ·
  refine k_aloadN X102 hx 29 (D d8_28) rfl rfl ?_
  refine k_callP X102 hx hZ hown 32 (a := a1) (k_w hw 57 rfl) (k_w hw 58 rfl) (k_w hw 59 rfl) (k_w hw 22 rfl) (k_w hw 23 rfl) (k_w hw 60 rfl) (by decide) f3 (rm9_58 l Z a0 hw [] a1 a3 a5 a6 p4 p7 p8 p9 p11 k10 k13 p12 h0 n0 Z0 ⟨f0, f1, f2⟩ g_a3 ⟨f3, f4, f5, f6, f7, f8, f9, f10, f11, f12⟩ g_a1 F0_4 g_a5 F0_6 g_a6 lt0_0 lt0_1 lt0_2 hp0 hp1 hp2 hp3 hp4 hd16 (by have q := hp3; rw [hd16] at q; exact q) (by have q := hp4; rw [hd16] at q; exact q)) (by decide) (by decide) e102 (by rw [hml]; rfl) (argsL := []) (rest := []) (lenOf pd_1 rfl) rfl (W := 0) (Nat.le_refl _) rfl (D d8_29) (by decide) (by decide) (fun T105 L105 r105 X105 q105 => ?_)
  obtain ⟨N105, q105⟩ := q105
  have N105' := Fr.app N0 N105
  rcases q105 with ⟨v106, h107, hc108, rfl, ⟨F109, F110, F111⟩, ⟨F112, F113, F114, F115, F116, F117, F118, F119, F120, F121⟩, F122, F123, Z124⟩ | ⟨v125, h126, hc127, hc128, rfl, ⟨F129, F130, F131⟩, ⟨F132, F133, F134, F135, F136, F137, F138, F139, F140, F141⟩, F142, F143, Z144⟩ | ⟨v145, h146, hc147, hc148, rfl, ⟨F149, F150, F151⟩, ⟨F152, F153, F154, F155, F156, F157, F158, F159, F160, F161⟩, F162, F163, Z164⟩
  ·
   refine k_n0 ?_
   exact k_ret X105 hx hret (D d8_32) hlk (by decide) (by decide) ⟨N105', (Or.inl ⟨v103, v106, hv103, h107, hc104, hc108, rfl, ⟨F109, F110, F111⟩, ⟨F112, F113, F114, F115, F116, F117, F118, F119, F120, F121⟩, F122, F123, Z124⟩)⟩
  ·
   refine k_n0 ?_
   exact k_ret X105 hx hret (D d8_32) hlk (by decide) (by decide) ⟨N105', (Or.inr (Or.inl ⟨v103, v125, hv103, h126, hc104, hc127, hc128, rfl, ⟨F129, F130, F131⟩, ⟨F132, F133, F134, F135, F136, F137, F138, F139, F140, F141⟩, F142, F143, Z144⟩))⟩
  ·
   refine k_n0 ?_
   exact k_ret X105 hx hret (D d8_32) hlk (by decide) (by decide) ⟨N105', (Or.inr (Or.inr (Or.inl ⟨v103, v145, hv103, h146, hc104, hc147, hc148, rfl, ⟨F149, F150, F151⟩, ⟨F152, F153, F154, F155, F156, F157, F158, F159, F160, F161⟩, F162, F163, Z164⟩)))⟩
 ·
  refine k_aloadN X102 hx 19 (D d8_18) rfl rfl ?_
  refine k_lloadN X102 hx 20 (D d8_19) rfl ?_
  refine k_putF1 X102 hx hZ hown 23 (k_w hw 55 rfl) e102 f9 f3 (Or.inl (k_w hw 56 rfl)) (k_w hw 22 rfl) .long rfl rfl (D d8_20) (fun T165 h165 X165 e165 W165 => ?_)
  have Fw165 := f9.same W165
  have N165 := Fr.snoc X165 N0 g_a1
  have Z165 := k_zw Z0 W165
  refine k_aloadN X165 hx 24 (D d8_23) rfl rfl ?_
  refine k_iconst X165 hx 25 (D d8_24) (z := (1 : Int32)) rfl ?_
  have F166 := (f8.other W165 (Or.inr (sn34 hw)))
  have F167 := (f3.wr W165)
  refine k_putF1 X165 hx hZ hown 28 (k_w hw 53 rfl) e165 F166 F167 (Or.inl (k_w hw 54 rfl)) (k_w hw 22 rfl) .boolean rfl rfl (D d8_25) (fun T168 h168 X168 e168 W168 => ?_)
  have Fw168 := F166.same W168
  have N168 := Fr.snoc X168 N165 g_a1
  have Z168 := k_zw Z165 W168
  refine k_aloadN X168 hx 29 (D d8_28) rfl rfl ?_
  have F169 := ((f0.wr W165).wr W168)
  have F170 := ((f1.other W165 (Or.inl (Nat.ne_of_lt lt0_0))).other W168 (Or.inl (Nat.ne_of_lt lt0_0)))
  have F171 := ((f2.other W165 (Or.inl (Nat.ne_of_lt lt0_0))).other W168 (Or.inl (Nat.ne_of_lt lt0_0)))
  have F172 := (F167.wr W168)
  have F173 := ((f4.other W165 (Or.inr (sn35 hw))).other W168 (Or.inr (sn36 hw)))
  have F174 := ((f5.other W165 (Or.inr (sn37 hw))).other W168 (Or.inr (sn38 hw)))
  have F175 := ((f6.other W165 (Or.inr (sn39 hw))).other W168 (Or.inr (sn40 hw)))
  have F176 := ((f7.other W165 (Or.inr (sn41 hw))).other W168 (Or.inr (sn42 hw)))
  have F177 := (Fw165.other W168 (Or.inr (sn43 hw)))
  have F178 := ((f10.other W165 (Or.inr (sn44 hw))).other W168 (Or.inr (sn45 hw)))
  have F179 := ((f11.other W165 (Or.inr (sn46 hw))).other W168 (Or.inr (sn47 hw)))
  have F180 := ((f12.other W165 (Or.inr (sn48 hw))).other W168 (Or.inr (sn49 hw)))
  have F181 := ((F0_4.other W165 (Ne.symm (Nat.ne_of_lt lt0_1))).other W168 (Ne.symm (Nat.ne_of_lt lt0_1)))
  have F182 := ((F0_6.other W165 (Ne.symm (Nat.ne_of_lt (Nat.lt_trans lt0_1 lt0_2)))).other W168 (Ne.symm (Nat.ne_of_lt (Nat.lt_trans lt0_1 lt0_2))))
  refine k_callP X168 hx hZ hown 32 (a := a1) (k_w hw 57 rfl) (k_w hw 58 rfl) (k_w hw 59 rfl) (k_w hw 22 rfl) (k_w hw 23 rfl) (k_w hw 60 rfl) (by decide) F172 (rm9_58 l Z a0 hw [] a1 a3 a5 a6 p4 p7 p2 p9 p11 k10 k13 p12 h168 n0 Z168 ⟨F169, F170, F171⟩ g_a3 ⟨F172, F173, F174, F175, F176, Fw168, F177, F178, F179, F180⟩ g_a1 F181 g_a5 F182 g_a6 lt0_0 lt0_1 lt0_2 hp0 hp1 hp2 hp3 hp4 hd16 (by have q := hp3; rw [hd16] at q; exact q) (by have q := hp4; rw [hd16] at q; exact q)) (by decide) (by decide) e168 (by rw [hml]; rfl) (argsL := []) (rest := []) (lenOf pd_1 rfl) rfl (W := 0) (Nat.le_refl _) rfl (D d8_29) (by decide) (by decide) (fun T183 L183 r183 X183 q183 => ?_)
  obtain ⟨N183, q183⟩ := q183
  have N183' := Fr.app N168 N183
  rcases q183 with ⟨v184, h185, hc186, rfl, ⟨F187, F188, F189⟩, ⟨F190, F191, F192, F193, F194, F195, F196, F197, F198, F199⟩, F200, F201, Z202⟩ | ⟨v203, h204, hc205, hc206, rfl, ⟨F207, F208, F209⟩, ⟨F210, F211, F212, F213, F214, F215, F216, F217, F218, F219⟩, F220, F221, Z222⟩ | ⟨v223, h224, hc225, hc226, rfl, ⟨F227, F228, F229⟩, ⟨F230, F231, F232, F233, F234, F235, F236, F237, F238, F239⟩, F240, F241, Z242⟩
  ·
   refine k_n0 ?_
   exact k_ret X183 hx hret (D d8_32) hlk (by decide) (by decide) ⟨N183', (Or.inr (Or.inr (Or.inr (Or.inl ⟨v103, v184, hv103, h185, hc104, hc186, rfl, ⟨F187, F188, F189⟩, ⟨F190, F191, F192, F193, F194, F195, F196, F197, F198, F199⟩, F200, F201, Z202⟩))))⟩
  ·
   refine k_n0 ?_
   exact k_ret X183 hx hret (D d8_32) hlk (by decide) (by decide) ⟨N183', (Or.inr (Or.inr (Or.inr (Or.inr (Or.inl ⟨v103, v203, hv103, h204, hc104, hc205, hc206, rfl, ⟨F207, F208, F209⟩, ⟨F210, F211, F212, F213, F214, F215, F216, F217, F218, F219⟩, F220, F221, Z222⟩)))))⟩
  ·
   refine k_n0 ?_
   exact k_ret X183 hx hret (D d8_32) hlk (by decide) (by decide) ⟨N183', (Or.inr (Or.inr (Or.inr (Or.inr (Or.inr ⟨v103, v223, hv103, h224, hc104, hc225, hc226, rfl, ⟨F227, F228, F229⟩, ⟨F230, F231, F232, F233, F234, F235, F236, F237, F238, F239⟩, F240, F241, Z242⟩)))))⟩
abbrev R7_56 : Room := { frames := 3, cells := 0, slots := 0, locals := 42 }
def Q7_56 (Z : State) (a1 a3 a5 a6 : Addr) (p2 p4 p7 p8 p9 p11 : Int64) (k10 k13 : ClassId) (p12 : Int32) (h0 : Heap) (n0 : Nat) (v : Option Value) (h : Heap) (L : List Loc) : Prop := Fr n0 L /\ ((∃ (v102 : Int64) (v103 : Int64), v102 = p2 - p8 /\ v103 = p8 - p11 /\ ¬ (0 : Int64) < v102 /\ v103 < p7 /\ v = some (.long p9) /\ BL Z h a3 (.long p4) (.ref a1) /\ BS Z h a1 (.ref a5) (.ref a6) (.long p4) (.long p7) (.int 1) (.long p8) (.int 1) (.long p9) (.int 0) /\ Arv Z h a5 k10 .long p12 [(.long p11), (.long 0)] (.long 0) /\ Arv Z h a6 k13 .long p12 [(.long p9), (.long 0)] (.long 0) /\ n0 <= h.size) \/ (∃ (v124 : Int64) (v125 : Int64), v124 = p2 - p8 /\ v125 = p8 - p11 /\ ¬ (0 : Int64) < v124 /\ ¬ v125 < p7 /\ ¬ (1 : Int32) < p12 /\ v = some (.long 0) /\ BL Z h a3 (.long p4) (.ref a1) /\ BS Z h a1 (.ref a5) (.ref a6) (.long p4) (.long p7) (.int 1) (.long p8) (.int 0) (.long 0) (.int 0) /\ Arv Z h a5 k10 .long p12 [(.long p11), (.long 0)] (.long 0) /\ Arv Z h a6 k13 .long p12 [(.long p9), (.long 0)] (.long 0) /\ n0 <= h.size) \/ (∃ (v147 : Int64) (v148 : Int64), v147 = p2 - p8 /\ v148 = p8 - p11 /\ ¬ (0 : Int64) < v147 /\ ¬ v148 < p7 /\ (1 : Int32) < p12 /\ v = some (.long 0) /\ BL Z h a3 (.long p4) (.ref a1) /\ BS Z h a1 (.ref a5) (.ref a6) (.long p4) (.long p7) (.int 1) (.long p8) (.int 0) (.long 0) (.int 1) /\ Arv Z h a5 k10 .long p12 [(.long p11), (.long 0)] (.long 0) /\ Arv Z h a6 k13 .long p12 [(.long p9), (.long 0)] (.long 0) /\ n0 <= h.size) \/ (∃ (v170 : Int64) (v171 : Int64), v170 = p2 - p8 /\ v171 = p2 - p11 /\ (0 : Int64) < v170 /\ v171 < p7 /\ v = some (.long p9) /\ BL Z h a3 (.long p4) (.ref a1) /\ BS Z h a1 (.ref a5) (.ref a6) (.long p4) (.long p7) (.int 1) (.long p2) (.int 1) (.long p9) (.int 0) /\ Arv Z h a5 k10 .long p12 [(.long p11), (.long 0)] (.long 0) /\ Arv Z h a6 k13 .long p12 [(.long p9), (.long 0)] (.long 0) /\ n0 <= h.size) \/ (∃ (v192 : Int64) (v193 : Int64), v192 = p2 - p8 /\ v193 = p2 - p11 /\ (0 : Int64) < v192 /\ ¬ v193 < p7 /\ ¬ (1 : Int32) < p12 /\ v = some (.long 0) /\ BL Z h a3 (.long p4) (.ref a1) /\ BS Z h a1 (.ref a5) (.ref a6) (.long p4) (.long p7) (.int 1) (.long p2) (.int 0) (.long 0) (.int 0) /\ Arv Z h a5 k10 .long p12 [(.long p11), (.long 0)] (.long 0) /\ Arv Z h a6 k13 .long p12 [(.long p9), (.long 0)] (.long 0) /\ n0 <= h.size) \/ (∃ (v215 : Int64) (v216 : Int64), v215 = p2 - p8 /\ v216 = p2 - p11 /\ (0 : Int64) < v215 /\ ¬ v216 < p7 /\ (1 : Int32) < p12 /\ v = some (.long 0) /\ BL Z h a3 (.long p4) (.ref a1) /\ BS Z h a1 (.ref a5) (.ref a6) (.long p4) (.long p7) (.int 1) (.long p2) (.int 0) (.long 0) (.int 1) /\ Arv Z h a5 k10 .long p12 [(.long p11), (.long 0)] (.long 0) /\ Arv Z h a6 k13 .long p12 [(.long p9), (.long 0)] (.long 0) /\ n0 <= h.size))
theorem rm7_56 (l : Launch) (Z : State) (a0 : Array Value) (hw : WW a0 Z) (ws : List Jvm.Cond) (a1 a3 a5 a6 : Addr) (p2 p4 p7 p8 p9 p11 : Int64) (k10 k13 : ClassId) (p12 : Int32) (h0 : Heap) (n0 : Nat) (Z0 : n0 <= h0.size) (B0 : BL Z h0 a3 (.long p4) (.ref a1)) (g_a3 : n0 <= a3) (B2 : BS Z h0 a1 (.ref a5) (.ref a6) (.long p4) (.long p7) (.int 1) (.long p8) (.int 1) (.long p9) (.int 0)) (g_a1 : n0 <= a1) (F0_4 : Arv Z h0 a5 k10 .long p12 [(.long p11), (.long 0)] (.long 0)) (g_a5 : n0 <= a5) (F0_6 : Arv Z h0 a6 k13 .long p12 [(.long p9), (.long 0)] (.long 0)) (g_a6 : n0 <= a6) (lt0_0 : a3 < a1) (lt0_1 : a1 < a5) (lt0_2 : a5 < a6) (hp0 : ¬ p4 < (1 : Int64)) (hp1 : ¬ (8 : Int64) < p4) (hp2 : ¬ p7 < (1 : Int64)) (hp3 : ¬ p12 < (1 : Int32)) (hp4 : ¬ (8 : Int32) < p12) (hd16 : p12 = p4.toInt32) :
    KMet l (⟨"com/example/halter/halter/SlidingSum", "at", "(J)J"⟩ : MethodName) prog_20_method_2_code 3 (some .long) ws R7_56 #[(.ref a1), (.long p2)] Z h0 R7_56.cells R7_56.slots (Q7_56 Z a1 a3 a5 a6 p2 p4 p7 p8 p9 p11 k10 k13 p12 h0 n0) := by
 refine k_body (plainFor_of_name pn_1) (fun m => ef8_7 m a1 p2) ?_
 intro p e s m below meth c s₁ hx D hml hlk hret hown hnm hZ X0 e0
 have N0 := Fr.nil n0
 obtain ⟨f0, f1, f2⟩ := B0
 obtain ⟨f3, f4, f5, f6, f7, f8, f9, f10, f11, f12⟩ := B2
 refine k_aloadN X0 hx 1 (D d7_0) rfl rfl ?_
 refine k_lloadN X0 hx 2 (D d7_1) rfl ?_
 refine k_callP X0 hx hZ hown 5 (a := a1) (k_w hw 49 rfl) (k_w hw 50 rfl) (k_w hw 51 rfl) (k_w hw 22 rfl) (k_w hw 23 rfl) (k_w hw 52 rfl) (by decide) f3 (rm8_57 l Z a0 hw [] a1 a3 a5 a6 p2 p4 p7 p8 p9 p11 k10 k13 p12 h0 n0 Z0 ⟨f0, f1, f2⟩ g_a3 ⟨f3, f4, f5, f6, f7, f8, f9, f10, f11, f12⟩ g_a1 F0_4 g_a5 F0_6 g_a6 lt0_0 lt0_1 lt0_2 hp0 hp1 hp2 hp3 hp4 hd16 (by have q := hp3; rw [hd16] at q; exact q) (by have q := hp4; rw [hd16] at q; exact q)) (by decide) (by decide) e0 (by rw [hml]; rfl) (argsL := [(.long p2)]) (rest := []) (lenOf pd_3 rfl) rfl (W := 0) (Nat.le_refl _) rfl (D d7_2) (by decide) (by decide) (fun T101 L101 r101 X101 q101 => ?_)
 obtain ⟨N101, q101⟩ := q101
 have N101' := Fr.app N0 N101
 rcases q101 with ⟨v102, v103, h104, h105, hc106, hc107, rfl, ⟨F108, F109, F110⟩, ⟨F111, F112, F113, F114, F115, F116, F117, F118, F119, F120⟩, F121, F122, Z123⟩ | ⟨v124, v125, h126, h127, hc128, hc129, hc130, rfl, ⟨F131, F132, F133⟩, ⟨F134, F135, F136, F137, F138, F139, F140, F141, F142, F143⟩, F144, F145, Z146⟩ | ⟨v147, v148, h149, h150, hc151, hc152, hc153, rfl, ⟨F154, F155, F156⟩, ⟨F157, F158, F159, F160, F161, F162, F163, F164, F165, F166⟩, F167, F168, Z169⟩ | ⟨v170, v171, h172, h173, hc174, hc175, rfl, ⟨F176, F177, F178⟩, ⟨F179, F180, F181, F182, F183, F184, F185, F186, F187, F188⟩, F189, F190, Z191⟩ | ⟨v192, v193, h194, h195, hc196, hc197, hc198, rfl, ⟨F199, F200, F201⟩, ⟨F202, F203, F204, F205, F206, F207, F208, F209, F210, F211⟩, F212, F213, Z214⟩ | ⟨v215, v216, h217, h218, hc219, hc220, hc221, rfl, ⟨F222, F223, F224⟩, ⟨F225, F226, F227, F228, F229, F230, F231, F232, F233, F234⟩, F235, F236, Z237⟩
 ·
  refine k_n0 ?_
  refine k_aloadN X101 hx 6 (D d7_5) rfl rfl ?_
  refine k_getF1 X101 hx hZ hown 9 (k_w hw 63 rfl) rfl F119 (D d7_6) (fun T238 X238 e238 => ?_)
  exact k_retL X238 hx hret (D d7_9) hlk (by decide) (by decide) (by rw [e238]; exact ⟨N101', (Or.inl ⟨v102, v103, h104, h105, hc106, hc107, rfl, ⟨F108, F109, F110⟩, ⟨F111, F112, F113, F114, F115, F116, F117, F118, F119, F120⟩, F121, F122, Z123⟩)⟩)
 ·
  refine k_n0 ?_
  refine k_aloadN X101 hx 6 (D d7_5) rfl rfl ?_
  refine k_getF1 X101 hx hZ hown 9 (k_w hw 63 rfl) rfl F142 (D d7_6) (fun T239 X239 e239 => ?_)
  exact k_retL X239 hx hret (D d7_9) hlk (by decide) (by decide) (by rw [e239]; exact ⟨N101', (Or.inr (Or.inl ⟨v124, v125, h126, h127, hc128, hc129, hc130, rfl, ⟨F131, F132, F133⟩, ⟨F134, F135, F136, F137, F138, F139, F140, F141, F142, F143⟩, F144, F145, Z146⟩))⟩)
 ·
  refine k_n0 ?_
  refine k_aloadN X101 hx 6 (D d7_5) rfl rfl ?_
  refine k_getF1 X101 hx hZ hown 9 (k_w hw 63 rfl) rfl F165 (D d7_6) (fun T240 X240 e240 => ?_)
  exact k_retL X240 hx hret (D d7_9) hlk (by decide) (by decide) (by rw [e240]; exact ⟨N101', (Or.inr (Or.inr (Or.inl ⟨v147, v148, h149, h150, hc151, hc152, hc153, rfl, ⟨F154, F155, F156⟩, ⟨F157, F158, F159, F160, F161, F162, F163, F164, F165, F166⟩, F167, F168, Z169⟩)))⟩)
 ·
  refine k_n0 ?_
  refine k_aloadN X101 hx 6 (D d7_5) rfl rfl ?_
  refine k_getF1 X101 hx hZ hown 9 (k_w hw 63 rfl) rfl F187 (D d7_6) (fun T241 X241 e241 => ?_)
  exact k_retL X241 hx hret (D d7_9) hlk (by decide) (by decide) (by rw [e241]; exact ⟨N101', (Or.inr (Or.inr (Or.inr (Or.inl ⟨v170, v171, h172, h173, hc174, hc175, rfl, ⟨F176, F177, F178⟩, ⟨F179, F180, F181, F182, F183, F184, F185, F186, F187, F188⟩, F189, F190, Z191⟩))))⟩)
 ·
  refine k_n0 ?_
  refine k_aloadN X101 hx 6 (D d7_5) rfl rfl ?_
  refine k_getF1 X101 hx hZ hown 9 (k_w hw 63 rfl) rfl F210 (D d7_6) (fun T242 X242 e242 => ?_)
  exact k_retL X242 hx hret (D d7_9) hlk (by decide) (by decide) (by rw [e242]; exact ⟨N101', (Or.inr (Or.inr (Or.inr (Or.inr (Or.inl ⟨v192, v193, h194, h195, hc196, hc197, hc198, rfl, ⟨F199, F200, F201⟩, ⟨F202, F203, F204, F205, F206, F207, F208, F209, F210, F211⟩, F212, F213, Z214⟩)))))⟩)
 ·
  refine k_n0 ?_
  refine k_aloadN X101 hx 6 (D d7_5) rfl rfl ?_
  refine k_getF1 X101 hx hZ hown 9 (k_w hw 63 rfl) rfl F233 (D d7_6) (fun T243 X243 e243 => ?_)
  exact k_retL X243 hx hret (D d7_9) hlk (by decide) (by decide) (by rw [e243]; exact ⟨N101', (Or.inr (Or.inr (Or.inr (Or.inr (Or.inr ⟨v215, v216, h217, h218, hc219, hc220, hc221, rfl, ⟨F222, F223, F224⟩, ⟨F225, F226, F227, F228, F229, F230, F231, F232, F233, F234⟩, F235, F236, Z237⟩)))))⟩)
abbrev R6_55 : Room := { frames := 4, cells := 0, slots := 0, locals := 56 }
def Q6_55 (Z : State) (a1 a4 a5 a6 : Addr) (p2 p3 p7 p8 p9 p11 : Int64) (k10 k13 : ClassId) (p12 : Int32) (h0 : Heap) (n0 : Nat) (v : Option Value) (h : Heap) (L : List Loc) : Prop := Fr n0 L /\ ((∃ (v103 : Int64) (v104 : Int64), v103 = p2 - p8 /\ v104 = p8 - p11 /\ ¬ (0 : Int64) < v103 /\ v104 < p7 /\ ¬ p9 = (0 : Int64) /\ v = some (.int 0) /\ BL Z h a1 (.long p3) (.ref a4) /\ BS Z h a4 (.ref a5) (.ref a6) (.long p3) (.long p7) (.int 1) (.long p8) (.int 1) (.long p9) (.int 0) /\ Arv Z h a5 k10 .long p12 [(.long p11), (.long 0)] (.long 0) /\ Arv Z h a6 k13 .long p12 [(.long p9), (.long 0)] (.long 0) /\ n0 <= h.size) \/ (∃ (v103 : Int64) (v104 : Int64), v103 = p2 - p8 /\ v104 = p8 - p11 /\ ¬ (0 : Int64) < v103 /\ v104 < p7 /\ p9 = (0 : Int64) /\ v = some (.int 1) /\ BL Z h a1 (.long p3) (.ref a4) /\ BS Z h a4 (.ref a5) (.ref a6) (.long p3) (.long p7) (.int 1) (.long p8) (.int 1) (.long p9) (.int 0) /\ Arv Z h a5 k10 .long p12 [(.long p11), (.long 0)] (.long 0) /\ Arv Z h a6 k13 .long p12 [(.long p9), (.long 0)] (.long 0) /\ n0 <= h.size) \/ (∃ (v125 : Int64) (v126 : Int64), v125 = p2 - p8 /\ v126 = p8 - p11 /\ ¬ (0 : Int64) < v125 /\ ¬ v126 < p7 /\ ¬ (1 : Int32) < p12 /\ v = some (.int 1) /\ BL Z h a1 (.long p3) (.ref a4) /\ BS Z h a4 (.ref a5) (.ref a6) (.long p3) (.long p7) (.int 1) (.long p8) (.int 0) (.long 0) (.int 0) /\ Arv Z h a5 k10 .long p12 [(.long p11), (.long 0)] (.long 0) /\ Arv Z h a6 k13 .long p12 [(.long p9), (.long 0)] (.long 0) /\ n0 <= h.size) \/ (∃ (v148 : Int64) (v149 : Int64), v148 = p2 - p8 /\ v149 = p8 - p11 /\ ¬ (0 : Int64) < v148 /\ ¬ v149 < p7 /\ (1 : Int32) < p12 /\ v = some (.int 1) /\ BL Z h a1 (.long p3) (.ref a4) /\ BS Z h a4 (.ref a5) (.ref a6) (.long p3) (.long p7) (.int 1) (.long p8) (.int 0) (.long 0) (.int 1) /\ Arv Z h a5 k10 .long p12 [(.long p11), (.long 0)] (.long 0) /\ Arv Z h a6 k13 .long p12 [(.long p9), (.long 0)] (.long 0) /\ n0 <= h.size) \/ (∃ (v171 : Int64) (v172 : Int64), v171 = p2 - p8 /\ v172 = p2 - p11 /\ (0 : Int64) < v171 /\ v172 < p7 /\ ¬ p9 = (0 : Int64) /\ v = some (.int 0) /\ BL Z h a1 (.long p3) (.ref a4) /\ BS Z h a4 (.ref a5) (.ref a6) (.long p3) (.long p7) (.int 1) (.long p2) (.int 1) (.long p9) (.int 0) /\ Arv Z h a5 k10 .long p12 [(.long p11), (.long 0)] (.long 0) /\ Arv Z h a6 k13 .long p12 [(.long p9), (.long 0)] (.long 0) /\ n0 <= h.size) \/ (∃ (v171 : Int64) (v172 : Int64), v171 = p2 - p8 /\ v172 = p2 - p11 /\ (0 : Int64) < v171 /\ v172 < p7 /\ p9 = (0 : Int64) /\ v = some (.int 1) /\ BL Z h a1 (.long p3) (.ref a4) /\ BS Z h a4 (.ref a5) (.ref a6) (.long p3) (.long p7) (.int 1) (.long p2) (.int 1) (.long p9) (.int 0) /\ Arv Z h a5 k10 .long p12 [(.long p11), (.long 0)] (.long 0) /\ Arv Z h a6 k13 .long p12 [(.long p9), (.long 0)] (.long 0) /\ n0 <= h.size) \/ (∃ (v193 : Int64) (v194 : Int64), v193 = p2 - p8 /\ v194 = p2 - p11 /\ (0 : Int64) < v193 /\ ¬ v194 < p7 /\ ¬ (1 : Int32) < p12 /\ v = some (.int 1) /\ BL Z h a1 (.long p3) (.ref a4) /\ BS Z h a4 (.ref a5) (.ref a6) (.long p3) (.long p7) (.int 1) (.long p2) (.int 0) (.long 0) (.int 0) /\ Arv Z h a5 k10 .long p12 [(.long p11), (.long 0)] (.long 0) /\ Arv Z h a6 k13 .long p12 [(.long p9), (.long 0)] (.long 0) /\ n0 <= h.size) \/ (∃ (v216 : Int64) (v217 : Int64), v216 = p2 - p8 /\ v217 = p2 - p11 /\ (0 : Int64) < v216 /\ ¬ v217 < p7 /\ (1 : Int32) < p12 /\ v = some (.int 1) /\ BL Z h a1 (.long p3) (.ref a4) /\ BS Z h a4 (.ref a5) (.ref a6) (.long p3) (.long p7) (.int 1) (.long p2) (.int 0) (.long 0) (.int 1) /\ Arv Z h a5 k10 .long p12 [(.long p11), (.long 0)] (.long 0) /\ Arv Z h a6 k13 .long p12 [(.long p9), (.long 0)] (.long 0) /\ n0 <= h.size))
theorem rm6_55 (l : Launch) (Z : State) (a0 : Array Value) (hw : WW a0 Z) (ws : List Jvm.Cond) (a1 a4 a5 a6 : Addr) (p2 p3 p7 p8 p9 p11 : Int64) (k10 k13 : ClassId) (p12 : Int32) (h0 : Heap) (n0 : Nat) (Z0 : n0 <= h0.size) (B0 : BL Z h0 a1 (.long p3) (.ref a4)) (g_a1 : n0 <= a1) (B2 : BS Z h0 a4 (.ref a5) (.ref a6) (.long p3) (.long p7) (.int 1) (.long p8) (.int 1) (.long p9) (.int 0)) (g_a4 : n0 <= a4) (F0_4 : Arv Z h0 a5 k10 .long p12 [(.long p11), (.long 0)] (.long 0)) (g_a5 : n0 <= a5) (F0_6 : Arv Z h0 a6 k13 .long p12 [(.long p9), (.long 0)] (.long 0)) (g_a6 : n0 <= a6) (lt0_0 : a1 < a4) (lt0_1 : a4 < a5) (lt0_2 : a5 < a6) (hp0 : ¬ p3 < (1 : Int64)) (hp1 : ¬ (8 : Int64) < p3) (hp2 : ¬ p7 < (1 : Int64)) (hp3 : ¬ p12 < (1 : Int32)) (hp4 : ¬ (8 : Int32) < p12) (hd16 : p12 = p3.toInt32) :
    KMet l (⟨"com/example/halter/halter/SlidingLogLimiter$Log", "idleAt", "(J)Z"⟩ : MethodName) prog_18_method_3_code 3 (some .boolean) ws R6_55 #[(.ref a1), (.long p2)] Z h0 R6_55.cells R6_55.slots (Q6_55 Z a1 a4 a5 a6 p2 p3 p7 p8 p9 p11 k10 k13 p12 h0 n0) := by
 refine k_body (plainFor_of_name pn_2) (fun m => ef8_7 m a1 p2) ?_
 intro p e s m below meth c s₁ hx D hml hlk hret hown hnm hZ X0 e0
 have N0 := Fr.nil n0
 obtain ⟨f0, f1, f2⟩ := B0
 obtain ⟨f3, f4, f5, f6, f7, f8, f9, f10, f11, f12⟩ := B2
 refine k_aloadN X0 hx 1 (D d6_0) rfl rfl ?_
 refine k_getF1 X0 hx hZ hown 4 (k_w hw 37 rfl) e0 f2 (D d6_1) (fun T101 X101 e101 => ?_)
 refine k_lloadN X101 hx 5 (D d6_4) rfl ?_
 refine k_callV X101 hx hZ hown 8 (a := a4) (k_w hw 44 rfl) (k_w hw 45 rfl) (k_w hw 47 rfl) (k_w hw 46 rfl) (k_w hw 23 rfl) (k_w hw 48 rfl) (by decide) f3 (rm7_56 l Z a0 hw [] a4 a1 a5 a6 p2 p3 p7 p8 p9 p11 k10 k13 p12 h0 n0 Z0 ⟨f0, f1, f2⟩ g_a1 ⟨f3, f4, f5, f6, f7, f8, f9, f10, f11, f12⟩ g_a4 F0_4 g_a5 F0_6 g_a6 lt0_0 lt0_1 lt0_2 hp0 hp1 hp2 hp3 hp4 hd16) (by decide) (by decide) e101 (by rw [hml]; rfl) (argsL := [(.long p2)]) (rest := []) (lenOf pd_4 rfl) rfl (W := 0) (Nat.le_refl _) rfl (D d6_5) (by decide) (by decide) (fun T102 L102 r102 X102 q102 => ?_)
 obtain ⟨N102, q102⟩ := q102
 have N102' := Fr.app N0 N102
 rcases q102 with ⟨v103, v104, h105, h106, hc107, hc108, rfl, ⟨F109, F110, F111⟩, ⟨F112, F113, F114, F115, F116, F117, F118, F119, F120, F121⟩, F122, F123, Z124⟩ | ⟨v125, v126, h127, h128, hc129, hc130, hc131, rfl, ⟨F132, F133, F134⟩, ⟨F135, F136, F137, F138, F139, F140, F141, F142, F143, F144⟩, F145, F146, Z147⟩ | ⟨v148, v149, h150, h151, hc152, hc153, hc154, rfl, ⟨F155, F156, F157⟩, ⟨F158, F159, F160, F161, F162, F163, F164, F165, F166, F167⟩, F168, F169, Z170⟩ | ⟨v171, v172, h173, h174, hc175, hc176, rfl, ⟨F177, F178, F179⟩, ⟨F180, F181, F182, F183, F184, F185, F186, F187, F188, F189⟩, F190, F191, Z192⟩ | ⟨v193, v194, h195, h196, hc197, hc198, hc199, rfl, ⟨F200, F201, F202⟩, ⟨F203, F204, F205, F206, F207, F208, F209, F210, F211, F212⟩, F213, F214, Z215⟩ | ⟨v216, v217, h218, h219, hc220, hc221, hc222, rfl, ⟨F223, F224, F225⟩, ⟨F226, F227, F228, F229, F230, F231, F232, F233, F234, F235⟩, F236, F237, Z238⟩
 ·
  refine k_n1 ?_
  refine k_lconst X102 hx 9 (D d6_8) (z := (0 : Int64)) rfl ?_
  refine k_lcif_ne X102 hx 13 17 10 (D d6_9) (D d6_10) (fun hc239 => ?_) (fun hc239 => ?_)
  ·
   refine k_iconst X102 hx 18 (D d6_17) (z := (0 : Int32)) rfl ?_
   exact k_retN X102 hx (t := .boolean) hret (by simp) (D d6_18) hlk (by decide) (by decide) (z' := (0 : Int32)) rfl ⟨N102', (Or.inl ⟨v103, v104, h105, h106, hc107, hc108, hc239, rfl, ⟨F109, F110, F111⟩, ⟨F112, F113, F114, F115, F116, F117, F118, F119, F120, F121⟩, F122, F123, Z124⟩)⟩
  ·
   refine k_iconst X102 hx 14 (D d6_13) (z := (1 : Int32)) rfl ?_
   refine k_goto X102 hx 18 (D d6_14) ?_
   exact k_retN X102 hx (t := .boolean) hret (by simp) (D d6_18) hlk (by decide) (by decide) (z' := (1 : Int32)) rfl ⟨N102', (Or.inr (Or.inl ⟨v103, v104, h105, h106, hc107, hc108, hc239, rfl, ⟨F109, F110, F111⟩, ⟨F112, F113, F114, F115, F116, F117, F118, F119, F120, F121⟩, F122, F123, Z124⟩))⟩
 ·
  refine k_n1 ?_
  refine k_lconst X102 hx 9 (D d6_8) (z := (0 : Int64)) rfl ?_
  refine k_lcif_ne X102 hx 13 17 10 (D d6_9) (D d6_10) (fun hc => absurd (by decide) hc) (fun _ => ?_)
  refine k_iconst X102 hx 14 (D d6_13) (z := (1 : Int32)) rfl ?_
  refine k_goto X102 hx 18 (D d6_14) ?_
  exact k_retN X102 hx (t := .boolean) hret (by simp) (D d6_18) hlk (by decide) (by decide) (z' := (1 : Int32)) rfl ⟨N102', (Or.inr (Or.inr (Or.inl ⟨v125, v126, h127, h128, hc129, hc130, hc131, rfl, ⟨F132, F133, F134⟩, ⟨F135, F136, F137, F138, F139, F140, F141, F142, F143, F144⟩, F145, F146, Z147⟩)))⟩
 ·
  refine k_n1 ?_
  refine k_lconst X102 hx 9 (D d6_8) (z := (0 : Int64)) rfl ?_
  refine k_lcif_ne X102 hx 13 17 10 (D d6_9) (D d6_10) (fun hc => absurd (by decide) hc) (fun _ => ?_)
  refine k_iconst X102 hx 14 (D d6_13) (z := (1 : Int32)) rfl ?_
  refine k_goto X102 hx 18 (D d6_14) ?_
  exact k_retN X102 hx (t := .boolean) hret (by simp) (D d6_18) hlk (by decide) (by decide) (z' := (1 : Int32)) rfl ⟨N102', (Or.inr (Or.inr (Or.inr (Or.inl ⟨v148, v149, h150, h151, hc152, hc153, hc154, rfl, ⟨F155, F156, F157⟩, ⟨F158, F159, F160, F161, F162, F163, F164, F165, F166, F167⟩, F168, F169, Z170⟩))))⟩
 ·
  refine k_n1 ?_
  refine k_lconst X102 hx 9 (D d6_8) (z := (0 : Int64)) rfl ?_
  refine k_lcif_ne X102 hx 13 17 10 (D d6_9) (D d6_10) (fun hc240 => ?_) (fun hc240 => ?_)
  ·
   refine k_iconst X102 hx 18 (D d6_17) (z := (0 : Int32)) rfl ?_
   exact k_retN X102 hx (t := .boolean) hret (by simp) (D d6_18) hlk (by decide) (by decide) (z' := (0 : Int32)) rfl ⟨N102', (Or.inr (Or.inr (Or.inr (Or.inr (Or.inl ⟨v171, v172, h173, h174, hc175, hc176, hc240, rfl, ⟨F177, F178, F179⟩, ⟨F180, F181, F182, F183, F184, F185, F186, F187, F188, F189⟩, F190, F191, Z192⟩)))))⟩
  ·
   refine k_iconst X102 hx 14 (D d6_13) (z := (1 : Int32)) rfl ?_
   refine k_goto X102 hx 18 (D d6_14) ?_
   exact k_retN X102 hx (t := .boolean) hret (by simp) (D d6_18) hlk (by decide) (by decide) (z' := (1 : Int32)) rfl ⟨N102', (Or.inr (Or.inr (Or.inr (Or.inr (Or.inr (Or.inl ⟨v171, v172, h173, h174, hc175, hc176, hc240, rfl, ⟨F177, F178, F179⟩, ⟨F180, F181, F182, F183, F184, F185, F186, F187, F188, F189⟩, F190, F191, Z192⟩))))))⟩
 ·
  refine k_n1 ?_
  refine k_lconst X102 hx 9 (D d6_8) (z := (0 : Int64)) rfl ?_
  refine k_lcif_ne X102 hx 13 17 10 (D d6_9) (D d6_10) (fun hc => absurd (by decide) hc) (fun _ => ?_)
  refine k_iconst X102 hx 14 (D d6_13) (z := (1 : Int32)) rfl ?_
  refine k_goto X102 hx 18 (D d6_14) ?_
  exact k_retN X102 hx (t := .boolean) hret (by simp) (D d6_18) hlk (by decide) (by decide) (z' := (1 : Int32)) rfl ⟨N102', (Or.inr (Or.inr (Or.inr (Or.inr (Or.inr (Or.inr (Or.inl ⟨v193, v194, h195, h196, hc197, hc198, hc199, rfl, ⟨F200, F201, F202⟩, ⟨F203, F204, F205, F206, F207, F208, F209, F210, F211, F212⟩, F213, F214, Z215⟩)))))))⟩
 ·
  refine k_n1 ?_
  refine k_lconst X102 hx 9 (D d6_8) (z := (0 : Int64)) rfl ?_
  refine k_lcif_ne X102 hx 13 17 10 (D d6_9) (D d6_10) (fun hc => absurd (by decide) hc) (fun _ => ?_)
  refine k_iconst X102 hx 14 (D d6_13) (z := (1 : Int32)) rfl ?_
  refine k_goto X102 hx 18 (D d6_14) ?_
  exact k_retN X102 hx (t := .boolean) hret (by simp) (D d6_18) hlk (by decide) (by decide) (z' := (1 : Int32)) rfl ⟨N102', (Or.inr (Or.inr (Or.inr (Or.inr (Or.inr (Or.inr (Or.inr ⟨v216, v217, h218, h219, hc220, hc221, hc222, rfl, ⟨F223, F224, F225⟩, ⟨F226, F227, F228, F229, F230, F231, F232, F233, F234, F235⟩, F236, F237, Z238⟩)))))))⟩
abbrev R17_63 : Room := { frames := 0, cells := 0, slots := 0, locals := 0 }
def Q17_63 (Z : State) (a1 a2 a3 : Addr) (p4 p5 p6 p7 p9 p12 p13 : Int64) (k8 k11 : ClassId) (p10 : Int32) (h0 : Heap) (n0 : Nat) (v : Option Value) (h : Heap) (L : List Loc) : Prop := Fr n0 L /\ h = h0 /\ ((v = some (.int 1)))
theorem rm17_63 (l : Launch) (Z : State) (a0 : Array Value) (hw : WW a0 Z) (ws : List Jvm.Cond) (a1 a2 a3 : Addr) (p4 p5 p6 p7 p9 p12 p13 : Int64) (k8 k11 : ClassId) (p10 : Int32) (h0 : Heap) (n0 : Nat) (Z0 : n0 <= h0.size) (B0 : BS Z h0 a1 (.ref a2) (.ref a3) (.long p4) (.long p5) (.int 1) (.long p6) (.int 2) (.long p7) (.int 0)) (F0_1 : Arv Z h0 a2 k8 .long p10 [(.long p9), (.long p6)] (.long 0)) (F0_2 : Arv Z h0 a3 k11 .long p10 [(.long p12), (.long p13)] (.long 0)) (lt0_0 : a1 < a2) (lt0_1 : a2 < a3) (hp0 : ¬ p4 < (1 : Int64)) (hp1 : ¬ (8 : Int64) < p4) (hp2 : ¬ p5 < (1 : Int64)) (hp3 : ¬ p10 < (2 : Int32)) (hp4 : ¬ (8 : Int32) < p10) (hd10 : p10 = p4.toInt32) :
    KMet l (⟨"com/example/halter/halter/SlidingSum", "place", "(I)I"⟩ : MethodName) prog_20_method_12_code 3 (some .int) ws R17_63 #[(.ref a1), (.int 1)] Z h0 R17_63.cells R17_63.slots (Q17_63 Z a1 a2 a3 p4 p5 p6 p7 p9 p12 p13 k8 k11 p10 h0 n0) := by
 refine k_body (plainFor_of_name pn_1) (fun m => ef17_29 m a1) ?_
 intro p e s m below meth c s₁ hx D hml hlk hret hown hnm hZ X0 e0
 have N0 := Fr.nil n0
 obtain ⟨f0, f1, f2, f3, f4, f5, f6, f7, f8, f9⟩ := B0
 refine k_aloadN X0 hx 1 (D d17_0) rfl rfl ?_
 refine k_getF1 X0 hx hZ hown 4 (k_w hw 99 rfl) e0 f9 (D d17_1) (fun T101 X101 e101 => ?_)
 refine k_iloadN X101 hx 5 (D d17_4) rfl ?_
 refine k_iaddL X101 hx 6 (D d17_5) (z := (1 : Int32)) (by decide) ?_
 refine k_istoreN X101 hx 7 (D d17_6) (Ls' := #[rv a1, iv 1, iv 1]) rfl ?_
 refine k_iloadN X101 hx 8 (D d17_7) rfl ?_
 refine k_aloadN X101 hx 9 (D d17_8) rfl rfl ?_
 refine k_getF1 X101 hx hZ hown 12 (k_w hw 29 rfl) e101 f1 (D d17_9) (fun T102 X102 e102 => ?_)
 refine k_alen X102 hx hZ 13 e102 F0_1 (D d17_12) ?_
 refine k_icmp_ge X102 hx 16 20 (D d17_13) (fun hc => absurd (k_d_alt_nxlt hp3 (by decide)) hc) (fun _ => ?_)
 refine k_iloadN X102 hx 17 (D d17_16) rfl ?_
 refine k_goto X102 hx 27 (D d17_17) ?_
 exact k_retI X102 hx hret (D d17_27) hlk (by decide) (by decide) ⟨N0, e102, rfl⟩
abbrev R9_62 : Room := { frames := 1, cells := 0, slots := 0, locals := 15 }
def Q9_62 (Z : State) (a1 a2 a4 a5 : Addr) (p3 p6 p7 p8 p10 p13 p14 : Int64) (k9 k12 : ClassId) (p11 : Int32) (h0 : Heap) (n0 : Nat) (v : Option Value) (h : Heap) (L : List Loc) : Prop := Fr n0 L /\ ((∃ (v111 : Int64), v111 = p7 - p10 /\ v111 < p6 /\ v = none /\ BL Z h a2 (.long p3) (.ref a1) /\ BS Z h a1 (.ref a4) (.ref a5) (.long p3) (.long p6) (.int 1) (.long p7) (.int 2) (.long p8) (.int 0) /\ Arv Z h a4 k9 .long p11 [(.long p10), (.long p7)] (.long 0) /\ Arv Z h a5 k12 .long p11 [(.long p13), (.long p14)] (.long 0) /\ n0 <= h.size) \/ (∃ (v111 : Int64) (v131 : Int64), v111 = p7 - p10 /\ v131 = p8 - p13 /\ ¬ v111 < p6 /\ v = none /\ BL Z h a2 (.long p3) (.ref a1) /\ BS Z h a1 (.ref a4) (.ref a5) (.long p3) (.long p6) (.int 1) (.long p7) (.int 1) (.long v131) (.int 1) /\ Arv Z h a4 k9 .long p11 [(.long p10), (.long p7)] (.long 0) /\ Arv Z h a5 k12 .long p11 [(.long p13), (.long p14)] (.long 0) /\ n0 <= h.size))
theorem rm9_62 (l : Launch) (Z : State) (a0 : Array Value) (hw : WW a0 Z) (ws : List Jvm.Cond) (a1 a2 a4 a5 : Addr) (p3 p6 p7 p8 p10 p13 p14 : Int64) (k9 k12 : ClassId) (p11 : Int32) (h0 : Heap) (n0 : Nat) (Z0 : n0 <= h0.size) (B0 : BL Z h0 a2 (.long p3) (.ref a1)) (g_a2 : n0 <= a2) (B2 : BS Z h0 a1 (.ref a4) (.ref a5) (.long p3) (.long p6) (.int 1) (.long p7) (.int 2) (.long p8) (.int 0)) (g_a1 : n0 <= a1) (F0_4 : Arv Z h0 a4 k9 .long p11 [(.long p10), (.long p7)] (.long 0)) (g_a4 : n0 <= a4) (F0_6 : Arv Z h0 a5 k12 .long p11 [(.long p13), (.long p14)] (.long 0)) (g_a5 : n0 <= a5) (lt0_0 : a2 < a1) (lt0_1 : a1 < a4) (lt0_2 : a4 < a5) (hp0 : ¬ p3 < (1 : Int64)) (hp1 : ¬ (8 : Int64) < p3) (hp2 : ¬ p6 < (1 : Int64)) (hp3 : ¬ p11 < (2 : Int32)) (hp4 : ¬ (8 : Int32) < p11) (hd16 : p11 = p3.toInt32) (hx17 : ¬ (p3.toInt32) < (2 : Int32)) (hx18 : ¬ (8 : Int32) < (p3.toInt32)) :
    KMet l (⟨"com/example/halter/halter/SlidingSum", "forgetWhatLeftTheWindow", "()V"⟩ : MethodName) prog_20_method_8_code 2 none ws R9_62 #[(.ref a1)] Z h0 R9_62.cells R9_62.slots (Q9_62 Z a1 a2 a4 a5 p3 p6 p7 p8 p10 p13 p14 k9 k12 p11 h0 n0) := by
 refine k_body (plainFor_of_name pn_1) (fun m => ef9_8 m a1) ?_
 intro p e s m below meth c s₁ hx D hml hlk hret hown hnm hZ X0 e0
 have N0 := Fr.nil n0
 obtain ⟨f0, f1, f2⟩ := B0
 obtain ⟨f3, f4, f5, f6, f7, f8, f9, f10, f11, f12⟩ := B2
 refine k_aloadN X0 hx 1 (D d9_0) rfl rfl ?_
 refine k_getF1 X0 hx hZ hown 4 (k_w hw 61 rfl) e0 f10 (D d9_1) (fun T101 X101 e101 => ?_)
 refine k_if_le X101 hx 7 69 (D d9_4) (fun hc => absurd (by decide) hc) (fun _ => ?_)
 refine k_aloadN X101 hx 8 (D d9_7) rfl rfl ?_
 refine k_getF1 X101 hx hZ hown 11 (k_w hw 55 rfl) e101 f9 (D d9_8) (fun T102 X102 e102 => ?_)
 refine k_aloadN X102 hx 12 (D d9_11) rfl rfl ?_
 refine k_getF1 X102 hx hZ hown 15 (k_w hw 29 rfl) e102 f4 (D d9_12) (fun T103 X103 e103 => ?_)
 refine k_aloadN X103 hx 16 (D d9_15) rfl rfl ?_
 refine k_getF1 X103 hx hZ hown 19 (k_w hw 99 rfl) e103 f12 (D d9_16) (fun T104 X104 e104 => ?_)
 refine k_laload X104 hx hZ 20 e104 F0_4 ⟨by decide, (Classical.byContradiction (fun hq105 => by have B106 : (1 : Int) <= p3.toInt /\ p3.toInt <= 8 := ⟨kL_ge hp0 (by decide), kL_le hp1 (by decide)⟩; have B107 : (1 : Int) <= p6.toInt /\ p6.toInt <= 9223372036854775807 := ⟨kL_ge hp2 (by decide), Int.le_of_lt_add_one (rng64 p6).2⟩; have q109 : p11.toInt = p3.toInt := k_l2ix hd16 B106 (by decide) (by decide); have B108 : (2 : Int) <= p11.toInt /\ p11.toInt <= 0 := ⟨k_ge hp3 (by decide), k_le hq105 (by decide)⟩; have B110 : (2 : Int) <= (p3.toInt32).toInt /\ (p3.toInt32).toInt <= 8 := ⟨k_ge hx17 (by decide), k_le hx18 (by decide)⟩; omega))⟩ (v := (.long p10)) rfl (D d9_19) ?_
 refine k_lsub X104 hx 21 (D d9_20) (fun v111 hv111 => ?_)
 refine k_aloadN X104 hx 22 (D d9_21) rfl rfl ?_
 refine k_getF1 X104 hx hZ hown 25 (k_w hw 35 rfl) e104 f7 (D d9_22) (fun T112 X112 e112 => ?_)
 refine k_lcif_lt X112 hx 29 69 26 (D d9_25) (D d9_26) (fun hc113 => ?_) (fun hc113 => ?_)
 ·
  refine k_aloadN X112 hx 70 (D d9_69) rfl rfl ?_
  refine k_getF1 X112 hx hZ hown 73 (k_w hw 29 rfl) e112 f4 (D d9_70) (fun T114 X114 e114 => ?_)
  refine k_alen X114 hx hZ 74 e114 F0_4 (D d9_73) ?_
  refine k_istoreN X114 hx 75 (D d9_74) (Ls' := #[rv a1, iv p11]) rfl ?_
  refine k_iloadN X114 hx 76 (D d9_75) rfl ?_
  refine k_bipush X114 hx 78 (D d9_76) (z := (8 : Int32)) rfl ?_
  refine k_icmp_le X114 hx 81 98 (D d9_78) (fun _ => ?_) (fun hc => absurd hc hp4)
  refine k_iloadN X114 hx 99 (D d9_98) rfl ?_
  refine k_aloadN X114 hx 100 (D d9_99) rfl rfl ?_
  refine k_getF1 X114 hx hZ hown 103 (k_w hw 29 rfl) e114 f4 (D d9_100) (fun T115 X115 e115 => ?_)
  refine k_alen X115 hx hZ 104 e115 F0_4 (D d9_103) ?_
  refine k_icmp_eq X115 hx 107 112 (D d9_104) (fun _ => ?_) (fun hc => absurd rfl hc)
  exact k_ret X115 hx hret (D d9_112) hlk (by decide) (by decide) (by rw [e115]; exact ⟨N0, (Or.inl ⟨v111, hv111, hc113, rfl, ⟨f0, f1, f2⟩, ⟨f3, f4, f5, f6, f7, f8, f9, f10, f11, f12⟩, F0_4, F0_6, Z0⟩)⟩)
 ·
  refine k_aloadN X112 hx 30 (D d9_29) rfl rfl ?_
  refine k_dup X112 hx 31 (D d9_30) rfl ?_
  refine k_getF1 X112 hx hZ hown 34 (k_w hw 63 rfl) e112 f11 (D d9_31) (fun T116 X116 e116 => ?_)
  refine k_aloadN X116 hx 35 (D d9_34) rfl rfl ?_
  refine k_getF1 X116 hx hZ hown 38 (k_w hw 31 rfl) e116 f5 (D d9_35) (fun T117 X117 e117 => ?_)
  refine k_aloadN X117 hx 39 (D d9_38) rfl rfl ?_
  refine k_getF1 X117 hx hZ hown 42 (k_w hw 99 rfl) e117 f12 (D d9_39) (fun T118 X118 e118 => ?_)
  refine k_laload X118 hx hZ 43 e118 F0_6 ⟨by decide, (Classical.byContradiction (fun hq119 => by have B120 : (1 : Int) <= p3.toInt /\ p3.toInt <= 8 := ⟨kL_ge hp0 (by decide), kL_le hp1 (by decide)⟩; have B121 : (1 : Int) <= p6.toInt /\ p6.toInt <= 9223372036854775807 := ⟨kL_ge hp2 (by decide), Int.le_of_lt_add_one (rng64 p6).2⟩; have q123 : p11.toInt = p3.toInt := k_l2ix hd16 B120 (by decide) (by decide); have B122 : (2 : Int) <= p11.toInt /\ p11.toInt <= 0 := ⟨k_ge hp3 (by decide), k_le hq119 (by decide)⟩; have B124 : (2 : Int) <= (p3.toInt32).toInt /\ (p3.toInt32).toInt <= 8 := ⟨k_ge hx17 (by decide), k_le hx18 (by decide)⟩; have B127 : (-9223372036854775808 : Int) <= p7.toInt /\ p7.toInt <= 9223372036854775807 := ⟨(rng64 p7).1, Int.le_of_lt_add_one (rng64 p7).2⟩; have B128 : (-9223372036854775808 : Int) <= p10.toInt /\ p10.toInt <= 9223372036854775807 := ⟨(rng64 p10).1, Int.le_of_lt_add_one (rng64 p10).2⟩; have q129 : (v111.toInt - (p7.toInt - p10.toInt)) % 18446744073709551616 = 0 := (by rw [hv111]; exact c_lsub _ _); have B125 : (-9223372036854775808 : Int) <= v111.toInt /\ v111.toInt <= 9223372036854775807 := ⟨(rng64 v111).1, Int.le_of_lt_add_one (rng64 v111).2⟩; have q130 := kL_m hc113; omega))⟩ (v := (.long p13)) rfl (D d9_42) ?_
  refine k_lsub X118 hx 44 (D d9_43) (fun v131 hv131 => ?_)
  refine k_putF1 X118 hx hZ hown 47 (k_w hw 63 rfl) e118 f11 f3 (Or.inl (k_w hw 64 rfl)) (k_w hw 22 rfl) .long rfl rfl (D d9_44) (fun T132 h132 X132 e132 W132 => ?_)
  have Fw132 := f11.same W132
  have N132 := Fr.snoc X132 N0 g_a1
  have Z132 := k_zw Z0 W132
  refine k_aloadN X132 hx 48 (D d9_47) rfl rfl ?_
  refine k_aloadN X132 hx 49 (D d9_48) rfl rfl ?_
  refine k_iconst X132 hx 50 (D d9_49) (z := (1 : Int32)) rfl ?_
  have F133 := (f3.wr W132)
  have F134 := (f4.other W132 (Or.inr (sn60 hw)))
  have F135 := (f5.other W132 (Or.inr (sn62 hw)))
  have F136 := (f6.other W132 (Or.inr (sn64 hw)))
  have F137 := (f7.other W132 (Or.inr (sn66 hw)))
  have F138 := (f8.other W132 (Or.inr (sn68 hw)))
  have F139 := (f9.other W132 (Or.inr (sn70 hw)))
  have F140 := (f10.other W132 (Or.inr (sn71 hw)))
  have F141 := (f12.other W132 (Or.inr (sn73 hw)))
  have F142 := (F0_4.other W132 (Ne.symm (Nat.ne_of_lt lt0_1)))
  have F143 := (F0_6.other W132 (Ne.symm (Nat.ne_of_lt (Nat.lt_trans lt0_1 lt0_2))))
  refine k_callP X132 hx hZ hown 53 (a := a1) (k_w hw 101 rfl) (k_w hw 102 rfl) (k_w hw 103 rfl) (k_w hw 22 rfl) (k_w hw 23 rfl) (k_w hw 104 rfl) (by decide) F133 (rm17_63 l Z a0 hw [] a1 a4 a5 p3 p6 p7 v131 p10 p13 p14 k9 k12 p11 h132 n0 Z132 ⟨F133, F134, F135, F136, F137, F138, F139, F140, Fw132, F141⟩ F142 F143 lt0_1 lt0_2 hp0 hp1 hp2 hp3 hp4 hd16) (by decide) (by decide) e132 (by rw [hml]; rfl) (argsL := [(.int 1)]) (rest := [(.ref a1)]) (lenOf pd_7 rfl) rfl (W := 1) (Nat.le_refl _) rfl (D d9_50) (by decide) (by decide) (fun T144 L144 r144 X144 q144 => ?_)
  obtain ⟨N144, e144, q144⟩ := q144
  have N144' := Fr.app N132 N144
  obtain rfl := q144
  refine k_n1 ?_
  refine k_putF1 X144 hx hZ hown 56 (k_w hw 99 rfl) e144 F141 F133 (Or.inl (k_w hw 100 rfl)) (k_w hw 22 rfl) .int rfl rfl (D d9_53) (fun T145 h145 X145 e145 W145 => ?_)
  have Fw145 := F141.same W145
  have N145 := Fr.snoc X145 N144' g_a1
  have Z145 := k_zw Z132 W145
  refine k_aloadN X145 hx 57 (D d9_56) rfl rfl ?_
  refine k_dup X145 hx 58 (D d9_57) rfl ?_
  have F146 := (F140.other W145 (Or.inr (sn56 hw)))
  refine k_getF1 X145 hx hZ hown 61 (k_w hw 61 rfl) e145 F146 (D d9_58) (fun T147 X147 e147 => ?_)
  refine k_iconst X147 hx 62 (D d9_61) (z := (1 : Int32)) rfl ?_
  refine k_isubL X147 hx 63 (D d9_62) (z := (1 : Int32)) (by decide) ?_
  have F148 := (F133.wr W145)
  refine k_putF1 X147 hx hZ hown 66 (k_w hw 61 rfl) e147 F146 F148 (Or.inl (k_w hw 62 rfl)) (k_w hw 22 rfl) .int rfl rfl (D d9_63) (fun T149 h149 X149 e149 W149 => ?_)
  have Fw149 := F146.same W149
  have N149 := Fr.snoc X149 N145 g_a1
  have Z149 := k_zw Z145 W149
  refine k_goto X149 hx 0 (D d9_66) ?_
  refine k_aloadN X149 hx 1 (D d9_0) rfl rfl ?_
  refine k_getF1 X149 hx hZ hown 4 (k_w hw 61 rfl) e149 Fw149 (D d9_1) (fun T150 X150 e150 => ?_)
  refine k_if_le X150 hx 7 69 (D d9_4) (fun hc => absurd (by decide) hc) (fun _ => ?_)
  refine k_aloadN X150 hx 8 (D d9_7) rfl rfl ?_
  have F151 := ((F139.other W145 (Or.inr (sn55 hw))).other W149 (Or.inr (sn69 hw)))
  refine k_getF1 X150 hx hZ hown 11 (k_w hw 55 rfl) e150 F151 (D d9_8) (fun T152 X152 e152 => ?_)
  refine k_aloadN X152 hx 12 (D d9_11) rfl rfl ?_
  have F153 := ((F134.other W145 (Or.inr (sn50 hw))).other W149 (Or.inr (sn59 hw)))
  refine k_getF1 X152 hx hZ hown 15 (k_w hw 29 rfl) e152 F153 (D d9_12) (fun T154 X154 e154 => ?_)
  refine k_aloadN X154 hx 16 (D d9_15) rfl rfl ?_
  have F155 := (Fw145.other W149 (Or.inr (sn72 hw)))
  refine k_getF1 X154 hx hZ hown 19 (k_w hw 99 rfl) e154 F155 (D d9_16) (fun T156 X156 e156 => ?_)
  have F157 := ((F142.other W145 (Ne.symm (Nat.ne_of_lt lt0_1))).other W149 (Ne.symm (Nat.ne_of_lt lt0_1)))
  refine k_laload X156 hx hZ 20 e156 F157 ⟨by decide, (Classical.byContradiction (fun hq158 => by have B159 : (1 : Int) <= p3.toInt /\ p3.toInt <= 8 := ⟨kL_ge hp0 (by decide), kL_le hp1 (by decide)⟩; have B160 : (1 : Int) <= p6.toInt /\ p6.toInt <= 9223372036854775807 := ⟨kL_ge hp2 (by decide), Int.le_of_lt_add_one (rng64 p6).2⟩; have q162 : p11.toInt = p3.toInt := k_l2ix hd16 B159 (by decide) (by decide); have B161 : (2 : Int) <= p11.toInt /\ p11.toInt <= 1 := ⟨k_ge hp3 (by decide), k_le hq158 (by decide)⟩; have B163 : (2 : Int) <= (p3.toInt32).toInt /\ (p3.toInt32).toInt <= 8 := ⟨k_ge hx17 (by decide), k_le hx18 (by decide)⟩; have B166 : (-9223372036854775808 : Int) <= p7.toInt /\ p7.toInt <= 9223372036854775807 := ⟨(rng64 p7).1, Int.le_of_lt_add_one (rng64 p7).2⟩; have B167 : (-9223372036854775808 : Int) <= p10.toInt /\ p10.toInt <= 9223372036854775807 := ⟨(rng64 p10).1, Int.le_of_lt_add_one (rng64 p10).2⟩; have q168 : (v111.toInt - (p7.toInt - p10.toInt)) % 18446744073709551616 = 0 := (by rw [hv111]; exact c_lsub _ _); have B164 : (-9223372036854775808 : Int) <= v111.toInt /\ v111.toInt <= 9223372036854775807 := ⟨(rng64 v111).1, Int.le_of_lt_add_one (rng64 v111).2⟩; have q169 := kL_m hc113; omega))⟩ (v := (.long p7)) rfl (D d9_19) ?_
  refine k_lsubL X156 hx 21 (D d9_20) (z := (0 : Int64)) (Int64.sub_self _) ?_
  refine k_aloadN X156 hx 22 (D d9_21) rfl rfl ?_
  have F170 := ((F137.other W145 (Or.inr (sn53 hw))).other W149 (Or.inr (sn65 hw)))
  refine k_getF1 X156 hx hZ hown 25 (k_w hw 35 rfl) e156 F170 (D d9_22) (fun T171 X171 e171 => ?_)
  refine k_lcif_lt X171 hx 29 69 26 (D d9_25) (D d9_26) (fun _ => ?_) (fun hc => absurd (k_dL_alt_nxlt hp2 (by decide)) hc)
  refine k_aloadN X171 hx 70 (D d9_69) rfl rfl ?_
  refine k_getF1 X171 hx hZ hown 73 (k_w hw 29 rfl) e171 F153 (D d9_70) (fun T172 X172 e172 => ?_)
  refine k_alen X172 hx hZ 74 e172 F157 (D d9_73) ?_
  refine k_istoreN X172 hx 75 (D d9_74) (Ls' := #[rv a1, iv p11]) rfl ?_
  refine k_iloadN X172 hx 76 (D d9_75) rfl ?_
  refine k_bipush X172 hx 78 (D d9_76) (z := (8 : Int32)) rfl ?_
  refine k_icmp_le X172 hx 81 98 (D d9_78) (fun _ => ?_) (fun hc => absurd hc hp4)
  refine k_iloadN X172 hx 99 (D d9_98) rfl ?_
  refine k_aloadN X172 hx 100 (D d9_99) rfl rfl ?_
  refine k_getF1 X172 hx hZ hown 103 (k_w hw 29 rfl) e172 F153 (D d9_100) (fun T173 X173 e173 => ?_)
  refine k_alen X173 hx hZ 104 e173 F157 (D d9_103) ?_
  refine k_icmp_eq X173 hx 107 112 (D d9_104) (fun _ => ?_) (fun hc => absurd rfl hc)
  have F174 := (((f0.wr W132).wr W145).wr W149)
  have F175 := (((f1.other W132 (Or.inl (Nat.ne_of_lt lt0_0))).other W145 (Or.inl (Nat.ne_of_lt lt0_0))).other W149 (Or.inl (Nat.ne_of_lt lt0_0)))
  have F176 := (((f2.other W132 (Or.inl (Nat.ne_of_lt lt0_0))).other W145 (Or.inl (Nat.ne_of_lt lt0_0))).other W149 (Or.inl (Nat.ne_of_lt lt0_0)))
  have F177 := (F148.wr W149)
  have F178 := ((F135.other W145 (Or.inr (sn51 hw))).other W149 (Or.inr (sn61 hw)))
  have F179 := ((F136.other W145 (Or.inr (sn52 hw))).other W149 (Or.inr (sn63 hw)))
  have F180 := ((F138.other W145 (Or.inr (sn54 hw))).other W149 (Or.inr (sn67 hw)))
  have F181 := ((Fw132.other W145 (Or.inr (sn57 hw))).other W149 (Or.inr (sn58 hw)))
  have F182 := ((F143.other W145 (Ne.symm (Nat.ne_of_lt (Nat.lt_trans lt0_1 lt0_2)))).other W149 (Ne.symm (Nat.ne_of_lt (Nat.lt_trans lt0_1 lt0_2))))
  exact k_ret X173 hx hret (D d9_112) hlk (by decide) (by decide) (by rw [e173]; exact ⟨N149, (Or.inr ⟨v111, v131, hv111, hv131, hc113, rfl, ⟨F174, F175, F176⟩, ⟨F177, F153, F178, F179, F170, F180, F151, Fw149, F181, F155⟩, F157, F182, Z149⟩)⟩)
abbrev R17_65 : Room := { frames := 0, cells := 0, slots := 0, locals := 0 }
def Q17_65 (Z : State) (a1 a2 a3 : Addr) (p4 p5 p6 p7 p9 p10 p13 p14 : Int64) (k8 k12 : ClassId) (p11 : Int32) (h0 : Heap) (n0 : Nat) (v : Option Value) (h : Heap) (L : List Loc) : Prop := Fr n0 L /\ h = h0 /\ ((v = some (.int 1)))
theorem rm17_65 (l : Launch) (Z : State) (a0 : Array Value) (hw : WW a0 Z) (ws : List Jvm.Cond) (a1 a2 a3 : Addr) (p4 p5 p6 p7 p9 p10 p13 p14 : Int64) (k8 k12 : ClassId) (p11 : Int32) (h0 : Heap) (n0 : Nat) (Z0 : n0 <= h0.size) (B0 : BS Z h0 a1 (.ref a2) (.ref a3) (.long p4) (.long p5) (.int 1) (.long p6) (.int 2) (.long p7) (.int 0)) (F0_1 : Arv Z h0 a2 k8 .long p11 [(.long p9), (.long p10)] (.long 0)) (F0_2 : Arv Z h0 a3 k12 .long p11 [(.long p13), (.long p14)] (.long 0)) (lt0_0 : a1 < a2) (lt0_1 : a2 < a3) (hp0 : ¬ p4 < (1 : Int64)) (hp1 : ¬ (8 : Int64) < p4) (hp2 : ¬ p5 < (1 : Int64)) (hp3 : ¬ p11 < (2 : Int32)) (hp4 : ¬ (8 : Int32) < p11) (hd10 : p11 = p4.toInt32) :
    KMet l (⟨"com/example/halter/halter/SlidingSum", "place", "(I)I"⟩ : MethodName) prog_20_method_12_code 3 (some .int) ws R17_65 #[(.ref a1), (.int 1)] Z h0 R17_65.cells R17_65.slots (Q17_65 Z a1 a2 a3 p4 p5 p6 p7 p9 p10 p13 p14 k8 k12 p11 h0 n0) := by
 refine k_body (plainFor_of_name pn_1) (fun m => ef17_29 m a1) ?_
 intro p e s m below meth c s₁ hx D hml hlk hret hown hnm hZ X0 e0
 have N0 := Fr.nil n0
 obtain ⟨f0, f1, f2, f3, f4, f5, f6, f7, f8, f9⟩ := B0
 refine k_aloadN X0 hx 1 (D d17_0) rfl rfl ?_
 refine k_getF1 X0 hx hZ hown 4 (k_w hw 99 rfl) e0 f9 (D d17_1) (fun T101 X101 e101 => ?_)
 refine k_iloadN X101 hx 5 (D d17_4) rfl ?_
 refine k_iaddL X101 hx 6 (D d17_5) (z := (1 : Int32)) (by decide) ?_
 refine k_istoreN X101 hx 7 (D d17_6) (Ls' := #[rv a1, iv 1, iv 1]) rfl ?_
 refine k_iloadN X101 hx 8 (D d17_7) rfl ?_
 refine k_aloadN X101 hx 9 (D d17_8) rfl rfl ?_
 refine k_getF1 X101 hx hZ hown 12 (k_w hw 29 rfl) e101 f1 (D d17_9) (fun T102 X102 e102 => ?_)
 refine k_alen X102 hx hZ 13 e102 F0_1 (D d17_12) ?_
 refine k_icmp_ge X102 hx 16 20 (D d17_13) (fun hc => absurd (k_d_alt_nxlt hp3 (by decide)) hc) (fun _ => ?_)
 refine k_iloadN X102 hx 17 (D d17_16) rfl ?_
 refine k_goto X102 hx 27 (D d17_17) ?_
 exact k_retI X102 hx hret (D d17_27) hlk (by decide) (by decide) ⟨N0, e102, rfl⟩
abbrev R17_66 : Room := { frames := 0, cells := 0, slots := 0, locals := 0 }
def Q17_66 (Z : State) (a1 a2 a3 : Addr) (p4 p5 p6 p7 p9 p10 p13 p14 : Int64) (k8 k12 : ClassId) (p11 : Int32) (h0 : Heap) (n0 : Nat) (v : Option Value) (h : Heap) (L : List Loc) : Prop := Fr n0 L /\ h = h0 /\ ((¬ (2 : Int32) < p11 /\ v = some (.int 0)) \/ ((2 : Int32) < p11 /\ v = some (.int 2)))
theorem rm17_66 (l : Launch) (Z : State) (a0 : Array Value) (hw : WW a0 Z) (ws : List Jvm.Cond) (a1 a2 a3 : Addr) (p4 p5 p6 p7 p9 p10 p13 p14 : Int64) (k8 k12 : ClassId) (p11 : Int32) (h0 : Heap) (n0 : Nat) (Z0 : n0 <= h0.size) (B0 : BS Z h0 a1 (.ref a2) (.ref a3) (.long p4) (.long p5) (.int 1) (.long p6) (.int 1) (.long p7) (.int 1)) (F0_1 : Arv Z h0 a2 k8 .long p11 [(.long p9), (.long p10)] (.long 0)) (F0_2 : Arv Z h0 a3 k12 .long p11 [(.long p13), (.long p14)] (.long 0)) (lt0_0 : a1 < a2) (lt0_1 : a2 < a3) (hp0 : ¬ p4 < (1 : Int64)) (hp1 : ¬ (8 : Int64) < p4) (hp2 : ¬ p5 < (1 : Int64)) (hp3 : ¬ p11 < (2 : Int32)) (hp4 : ¬ (8 : Int32) < p11) (hd10 : p11 = p4.toInt32) :
    KMet l (⟨"com/example/halter/halter/SlidingSum", "place", "(I)I"⟩ : MethodName) prog_20_method_12_code 3 (some .int) ws R17_66 #[(.ref a1), (.int 1)] Z h0 R17_66.cells R17_66.slots (Q17_66 Z a1 a2 a3 p4 p5 p6 p7 p9 p10 p13 p14 k8 k12 p11 h0 n0) := by
 refine k_body (plainFor_of_name pn_1) (fun m => ef17_29 m a1) ?_
 intro p e s m below meth c s₁ hx D hml hlk hret hown hnm hZ X0 e0
 have N0 := Fr.nil n0
 obtain ⟨f0, f1, f2, f3, f4, f5, f6, f7, f8, f9⟩ := B0
 refine k_aloadN X0 hx 1 (D d17_0) rfl rfl ?_
 refine k_getF1 X0 hx hZ hown 4 (k_w hw 99 rfl) e0 f9 (D d17_1) (fun T101 X101 e101 => ?_)
 refine k_iloadN X101 hx 5 (D d17_4) rfl ?_
 refine k_iaddL X101 hx 6 (D d17_5) (z := (2 : Int32)) (by decide) ?_
 refine k_istoreN X101 hx 7 (D d17_6) (Ls' := #[rv a1, iv 1, iv 2]) rfl ?_
 refine k_iloadN X101 hx 8 (D d17_7) rfl ?_
 refine k_aloadN X101 hx 9 (D d17_8) rfl rfl ?_
 refine k_getF1 X101 hx hZ hown 12 (k_w hw 29 rfl) e101 f1 (D d17_9) (fun T102 X102 e102 => ?_)
 refine k_alen X102 hx hZ 13 e102 F0_1 (D d17_12) ?_
 refine k_icmp_ge X102 hx 16 20 (D d17_13) (fun hc103 => ?_) (fun hc103 => ?_)
 ·
  refine k_iloadN X102 hx 21 (D d17_20) rfl ?_
  refine k_aloadN X102 hx 22 (D d17_21) rfl rfl ?_
  refine k_getF1 X102 hx hZ hown 25 (k_w hw 29 rfl) e102 f1 (D d17_22) (fun T104 X104 e104 => ?_)
  refine k_alen X104 hx hZ 26 e104 F0_1 (D d17_25) ?_
  refine k_isubL X104 hx 27 (D d17_26) (z := (0 : Int32)) (by rw [show p11 = (2 : Int32) from (Classical.byContradiction (fun hq105 => by have B108 : (1 : Int) <= p4.toInt /\ p4.toInt <= 8 := ⟨kL_ge hp0 (by decide), kL_le hp1 (by decide)⟩; have q107 : p11.toInt = p4.toInt := k_l2ix hd10 B108 (by decide) (by decide); have B106 : (2 : Int) <= p11.toInt /\ p11.toInt <= 2 := ⟨k_ge hp3 (by decide), k_le hc103 (by decide)⟩; have B109 : (2 : Int) <= (2 : Int32).toInt /\ (2 : Int32).toInt <= 2 := (by decide); have q110 : ¬ p11.toInt = (2 : Int32).toInt := fun q => hq105 (Int32.toInt_inj.mp q); omega))]; decide) ?_
  exact k_retI X104 hx hret (D d17_27) hlk (by decide) (by decide) ⟨N0, e104, (Or.inl ⟨hc103, rfl⟩)⟩
 ·
  refine k_iloadN X102 hx 17 (D d17_16) rfl ?_
  refine k_goto X102 hx 27 (D d17_17) ?_
  exact k_retI X102 hx hret (D d17_27) hlk (by decide) (by decide) ⟨N0, e102, (Or.inr ⟨hc103, rfl⟩)⟩
abbrev R9_64 : Room := { frames := 1, cells := 0, slots := 0, locals := 15 }
def Q9_64 (Z : State) (a1 a2 a4 a5 : Addr) (p3 p6 p7 p8 p10 p11 p14 p15 : Int64) (k9 k13 : ClassId) (p12 : Int32) (h0 : Heap) (n0 : Nat) (v : Option Value) (h : Heap) (L : List Loc) : Prop := Fr n0 L /\ ((∃ (v117 : Int64), v117 = p7 - p10 /\ v117 < p6 /\ v = none /\ BL Z h a2 (.long p3) (.ref a1) /\ BS Z h a1 (.ref a4) (.ref a5) (.long p3) (.long p6) (.int 1) (.long p7) (.int 2) (.long p8) (.int 0) /\ Arv Z h a4 k9 .long p12 [(.long p10), (.long p11)] (.long 0) /\ Arv Z h a5 k13 .long p12 [(.long p14), (.long p15)] (.long 0) /\ n0 <= h.size) \/ (∃ (v117 : Int64) (v142 : Int64) (v186 : Int64), v117 = p7 - p10 /\ v142 = p8 - p14 /\ v186 = p7 - p11 /\ ¬ v117 < p6 /\ v186 < p6 /\ v = none /\ BL Z h a2 (.long p3) (.ref a1) /\ BS Z h a1 (.ref a4) (.ref a5) (.long p3) (.long p6) (.int 1) (.long p7) (.int 1) (.long v142) (.int 1) /\ Arv Z h a4 k9 .long p12 [(.long p10), (.long p11)] (.long 0) /\ Arv Z h a5 k13 .long p12 [(.long p14), (.long p15)] (.long 0) /\ n0 <= h.size) \/ (∃ (v117 : Int64) (v142 : Int64) (v186 : Int64) (v219 : Int64), v117 = p7 - p10 /\ v142 = p8 - p14 /\ v186 = p7 - p11 /\ v219 = v142 - p15 /\ ¬ v117 < p6 /\ ¬ v186 < p6 /\ ¬ (2 : Int32) < p12 /\ v = none /\ BL Z h a2 (.long p3) (.ref a1) /\ BS Z h a1 (.ref a4) (.ref a5) (.long p3) (.long p6) (.int 1) (.long p7) (.int 0) (.long v219) (.int 0) /\ Arv Z h a4 k9 .long p12 [(.long p10), (.long p11)] (.long 0) /\ Arv Z h a5 k13 .long p12 [(.long p14), (.long p15)] (.long 0) /\ n0 <= h.size) \/ (∃ (v117 : Int64) (v142 : Int64) (v186 : Int64) (v219 : Int64), v117 = p7 - p10 /\ v142 = p8 - p14 /\ v186 = p7 - p11 /\ v219 = v142 - p15 /\ ¬ v117 < p6 /\ ¬ v186 < p6 /\ (2 : Int32) < p12 /\ v = none /\ BL Z h a2 (.long p3) (.ref a1) /\ BS Z h a1 (.ref a4) (.ref a5) (.long p3) (.long p6) (.int 1) (.long p7) (.int 0) (.long v219) (.int 2) /\ Arv Z h a4 k9 .long p12 [(.long p10), (.long p11)] (.long 0) /\ Arv Z h a5 k13 .long p12 [(.long p14), (.long p15)] (.long 0) /\ n0 <= h.size))
theorem rm9_64 (l : Launch) (Z : State) (a0 : Array Value) (hw : WW a0 Z) (ws : List Jvm.Cond) (a1 a2 a4 a5 : Addr) (p3 p6 p7 p8 p10 p11 p14 p15 : Int64) (k9 k13 : ClassId) (p12 : Int32) (h0 : Heap) (n0 : Nat) (Z0 : n0 <= h0.size) (B0 : BL Z h0 a2 (.long p3) (.ref a1)) (g_a2 : n0 <= a2) (B2 : BS Z h0 a1 (.ref a4) (.ref a5) (.long p3) (.long p6) (.int 1) (.long p7) (.int 2) (.long p8) (.int 0)) (g_a1 : n0 <= a1) (F0_4 : Arv Z h0 a4 k9 .long p12 [(.long p10), (.long p11)] (.long 0)) (g_a4 : n0 <= a4) (F0_6 : Arv Z h0 a5 k13 .long p12 [(.long p14), (.long p15)] (.long 0)) (g_a5 : n0 <= a5) (lt0_0 : a2 < a1) (lt0_1 : a1 < a4) (lt0_2 : a4 < a5) (hp0 : ¬ p3 < (1 : Int64)) (hp1 : ¬ (8 : Int64) < p3) (hp2 : ¬ p6 < (1 : Int64)) (hp3 : ¬ p12 < (2 : Int32)) (hp4 : ¬ (8 : Int32) < p12) (hd16 : p12 = p3.toInt32) (hx17 : ¬ (p3.toInt32) < (2 : Int32)) (hx18 : ¬ (8 : Int32) < (p3.toInt32)) (hx19 : (0 : Int64) < (p7 - p11)) :
    KMet l (⟨"com/example/halter/halter/SlidingSum", "forgetWhatLeftTheWindow", "()V"⟩ : MethodName) prog_20_method_8_code 2 none ws R9_64 #[(.ref a1)] Z h0 R9_64.cells R9_64.slots (Q9_64 Z a1 a2 a4 a5 p3 p6 p7 p8 p10 p11 p14 p15 k9 k13 p12 h0 n0) := by
 refine k_body (plainFor_of_name pn_1) (fun m => ef9_8 m a1) ?_
 intro p e s m below meth c s₁ hx D hml hlk hret hown hnm hZ X0 e0
 have N0 := Fr.nil n0
 obtain ⟨f0, f1, f2⟩ := B0
 obtain ⟨f3, f4, f5, f6, f7, f8, f9, f10, f11, f12⟩ := B2
 refine k_aloadN X0 hx 1 (D d9_0) rfl rfl ?_
 refine k_getF1 X0 hx hZ hown 4 (k_w hw 61 rfl) e0 f10 (D d9_1) (fun T101 X101 e101 => ?_)
 refine k_if_le X101 hx 7 69 (D d9_4) (fun hc => absurd (by decide) hc) (fun _ => ?_)
 refine k_aloadN X101 hx 8 (D d9_7) rfl rfl ?_
 refine k_getF1 X101 hx hZ hown 11 (k_w hw 55 rfl) e101 f9 (D d9_8) (fun T102 X102 e102 => ?_)
 refine k_aloadN X102 hx 12 (D d9_11) rfl rfl ?_
 refine k_getF1 X102 hx hZ hown 15 (k_w hw 29 rfl) e102 f4 (D d9_12) (fun T103 X103 e103 => ?_)
 refine k_aloadN X103 hx 16 (D d9_15) rfl rfl ?_
 refine k_getF1 X103 hx hZ hown 19 (k_w hw 99 rfl) e103 f12 (D d9_16) (fun T104 X104 e104 => ?_)
 refine k_laload X104 hx hZ 20 e104 F0_4 ⟨by decide, (Classical.byContradiction (fun hq105 => by have B106 : (1 : Int) <= p3.toInt /\ p3.toInt <= 8 := ⟨kL_ge hp0 (by decide), kL_le hp1 (by decide)⟩; have B107 : (1 : Int) <= p6.toInt /\ p6.toInt <= 9223372036854775807 := ⟨kL_ge hp2 (by decide), Int.le_of_lt_add_one (rng64 p6).2⟩; have q109 : p12.toInt = p3.toInt := k_l2ix hd16 B106 (by decide) (by decide); have B108 : (2 : Int) <= p12.toInt /\ p12.toInt <= 0 := ⟨k_ge hp3 (by decide), k_le hq105 (by decide)⟩; have B110 : (2 : Int) <= (p3.toInt32).toInt /\ (p3.toInt32).toInt <= 8 := ⟨k_ge hx17 (by decide), k_le hx18 (by decide)⟩; have B113 : (-9223372036854775808 : Int) <= p7.toInt /\ p7.toInt <= 9223372036854775807 := ⟨(rng64 p7).1, Int.le_of_lt_add_one (rng64 p7).2⟩; have B114 : (-9223372036854775808 : Int) <= p11.toInt /\ p11.toInt <= 9223372036854775807 := ⟨(rng64 p11).1, Int.le_of_lt_add_one (rng64 p11).2⟩; have q115 : ((p7 - p11).toInt - (p7.toInt - p11.toInt)) % 18446744073709551616 = 0 := c_lsub _ _; have B111 : (-9223372036854775808 : Int) <= (p7 - p11).toInt /\ (p7 - p11).toInt <= 9223372036854775807 := ⟨(rng64 (p7 - p11)).1, Int.le_of_lt_add_one (rng64 (p7 - p11)).2⟩; have B116 : (1 : Int) <= (p7 - p11).toInt /\ (p7 - p11).toInt <= 9223372036854775807 := ⟨kL_gt hx19 (by decide), B111.2⟩; omega))⟩ (v := (.long p10)) rfl (D d9_19) ?_
 refine k_lsub X104 hx 21 (D d9_20) (fun v117 hv117 => ?_)
 refine k_aloadN X104 hx 22 (D d9_21) rfl rfl ?_
 refine k_getF1 X104 hx hZ hown 25 (k_w hw 35 rfl) e104 f7 (D d9_22) (fun T118 X118 e118 => ?_)
 refine k_lcif_lt X118 hx 29 69 26 (D d9_25) (D d9_26) (fun hc119 => ?_) (fun hc119 => ?_)
 ·
  refine k_aloadN X118 hx 70 (D d9_69) rfl rfl ?_
  refine k_getF1 X118 hx hZ hown 73 (k_w hw 29 rfl) e118 f4 (D d9_70) (fun T120 X120 e120 => ?_)
  refine k_alen X120 hx hZ 74 e120 F0_4 (D d9_73) ?_
  refine k_istoreN X120 hx 75 (D d9_74) (Ls' := #[rv a1, iv p12]) rfl ?_
  refine k_iloadN X120 hx 76 (D d9_75) rfl ?_
  refine k_bipush X120 hx 78 (D d9_76) (z := (8 : Int32)) rfl ?_
  refine k_icmp_le X120 hx 81 98 (D d9_78) (fun _ => ?_) (fun hc => absurd hc hp4)
  refine k_iloadN X120 hx 99 (D d9_98) rfl ?_
  refine k_aloadN X120 hx 100 (D d9_99) rfl rfl ?_
  refine k_getF1 X120 hx hZ hown 103 (k_w hw 29 rfl) e120 f4 (D d9_100) (fun T121 X121 e121 => ?_)
  refine k_alen X121 hx hZ 104 e121 F0_4 (D d9_103) ?_
  refine k_icmp_eq X121 hx 107 112 (D d9_104) (fun _ => ?_) (fun hc => absurd rfl hc)
  exact k_ret X121 hx hret (D d9_112) hlk (by decide) (by decide) (by rw [e121]; exact ⟨N0, (Or.inl ⟨v117, hv117, hc119, rfl, ⟨f0, f1, f2⟩, ⟨f3, f4, f5, f6, f7, f8, f9, f10, f11, f12⟩, F0_4, F0_6, Z0⟩)⟩)
 ·
  refine k_aloadN X118 hx 30 (D d9_29) rfl rfl ?_
  refine k_dup X118 hx 31 (D d9_30) rfl ?_
  refine k_getF1 X118 hx hZ hown 34 (k_w hw 63 rfl) e118 f11 (D d9_31) (fun T122 X122 e122 => ?_)
  refine k_aloadN X122 hx 35 (D d9_34) rfl rfl ?_
  refine k_getF1 X122 hx hZ hown 38 (k_w hw 31 rfl) e122 f5 (D d9_35) (fun T123 X123 e123 => ?_)
  refine k_aloadN X123 hx 39 (D d9_38) rfl rfl ?_
  refine k_getF1 X123 hx hZ hown 42 (k_w hw 99 rfl) e123 f12 (D d9_39) (fun T124 X124 e124 => ?_)
  refine k_laload X124 hx hZ 43 e124 F0_6 ⟨by decide, (Classical.byContradiction (fun hq125 => by have B126 : (1 : Int) <= p3.toInt /\ p3.toInt <= 8 := ⟨kL_ge hp0 (by decide), kL_le hp1 (by decide)⟩; have B127 : (1 : Int) <= p6.toInt /\ p6.toInt <= 9223372036854775807 := ⟨kL_ge hp2 (by decide), Int.le_of_lt_add_one (rng64 p6).2⟩; have q129 : p12.toInt = p3.toInt := k_l2ix hd16 B126 (by decide) (by decide); have B128 : (2 : Int) <= p12.toInt /\ p12.toInt <= 0 := ⟨k_ge hp3 (by decide), k_le hq125 (by decide)⟩; have B130 : (2 : Int) <= (p3.toInt32).toInt /\ (p3.toInt32).toInt <= 8 := ⟨k_ge hx17 (by decide), k_le hx18 (by decide)⟩; have B133 : (-9223372036854775808 : Int) <= p7.toInt /\ p7.toInt <= 9223372036854775807 := ⟨(rng64 p7).1, Int.le_of_lt_add_one (rng64 p7).2⟩; have B134 : (-9223372036854775808 : Int) <= p11.toInt /\ p11.toInt <= 9223372036854775807 := ⟨(rng64 p11).1, Int.le_of_lt_add_one (rng64 p11).2⟩; have q135 : ((p7 - p11).toInt - (p7.toInt - p11.toInt)) % 18446744073709551616 = 0 := c_lsub _ _; have B131 : (-9223372036854775808 : Int) <= (p7 - p11).toInt /\ (p7 - p11).toInt <= 9223372036854775807 := ⟨(rng64 (p7 - p11)).1, Int.le_of_lt_add_one (rng64 (p7 - p11)).2⟩; have B136 : (1 : Int) <= (p7 - p11).toInt /\ (p7 - p11).toInt <= 9223372036854775807 := ⟨kL_gt hx19 (by decide), B131.2⟩; have B139 : (-9223372036854775808 : Int) <= p10.toInt /\ p10.toInt <= 9223372036854775807 := ⟨(rng64 p10).1, Int.le_of_lt_add_one (rng64 p10).2⟩; have q140 : (v117.toInt - (p7.toInt - p10.toInt)) % 18446744073709551616 = 0 := (by rw [hv117]; exact c_lsub _ _); have B137 : (-9223372036854775808 : Int) <= v117.toInt /\ v117.toInt <= 9223372036854775807 := ⟨(rng64 v117).1, Int.le_of_lt_add_one (rng64 v117).2⟩; have q141 := kL_m hc119; omega))⟩ (v := (.long p14)) rfl (D d9_42) ?_
  refine k_lsub X124 hx 44 (D d9_43) (fun v142 hv142 => ?_)
  refine k_putF1 X124 hx hZ hown 47 (k_w hw 63 rfl) e124 f11 f3 (Or.inl (k_w hw 64 rfl)) (k_w hw 22 rfl) .long rfl rfl (D d9_44) (fun T143 h143 X143 e143 W143 => ?_)
  have Fw143 := f11.same W143
  have N143 := Fr.snoc X143 N0 g_a1
  have Z143 := k_zw Z0 W143
  refine k_aloadN X143 hx 48 (D d9_47) rfl rfl ?_
  refine k_aloadN X143 hx 49 (D d9_48) rfl rfl ?_
  refine k_iconst X143 hx 50 (D d9_49) (z := (1 : Int32)) rfl ?_
  have F144 := (f3.wr W143)
  have F145 := (f4.other W143 (Or.inr (sn60 hw)))
  have F146 := (f5.other W143 (Or.inr (sn62 hw)))
  have F147 := (f6.other W143 (Or.inr (sn64 hw)))
  have F148 := (f7.other W143 (Or.inr (sn66 hw)))
  have F149 := (f8.other W143 (Or.inr (sn68 hw)))
  have F150 := (f9.other W143 (Or.inr (sn70 hw)))
  have F151 := (f10.other W143 (Or.inr (sn71 hw)))
  have F152 := (f12.other W143 (Or.inr (sn73 hw)))
  have F153 := (F0_4.other W143 (Ne.symm (Nat.ne_of_lt lt0_1)))
  have F154 := (F0_6.other W143 (Ne.symm (Nat.ne_of_lt (Nat.lt_trans lt0_1 lt0_2))))
  refine k_callP X143 hx hZ hown 53 (a := a1) (k_w hw 101 rfl) (k_w hw 102 rfl) (k_w hw 103 rfl) (k_w hw 22 rfl) (k_w hw 23 rfl) (k_w hw 104 rfl) (by decide) F144 (rm17_65 l Z a0 hw [] a1 a4 a5 p3 p6 p7 v142 p10 p11 p14 p15 k9 k13 p12 h143 n0 Z143 ⟨F144, F145, F146, F147, F148, F149, F150, F151, Fw143, F152⟩ F153 F154 lt0_1 lt0_2 hp0 hp1 hp2 hp3 hp4 hd16) (by decide) (by decide) e143 (by rw [hml]; rfl) (argsL := [(.int 1)]) (rest := [(.ref a1)]) (lenOf pd_7 rfl) rfl (W := 1) (Nat.le_refl _) rfl (D d9_50) (by decide) (by decide) (fun T155 L155 r155 X155 q155 => ?_)
  obtain ⟨N155, e155, q155⟩ := q155
  have N155' := Fr.app N143 N155
  obtain rfl := q155
  refine k_n1 ?_
  refine k_putF1 X155 hx hZ hown 56 (k_w hw 99 rfl) e155 F152 F144 (Or.inl (k_w hw 100 rfl)) (k_w hw 22 rfl) .int rfl rfl (D d9_53) (fun T156 h156 X156 e156 W156 => ?_)
  have Fw156 := F152.same W156
  have N156 := Fr.snoc X156 N155' g_a1
  have Z156 := k_zw Z143 W156
  refine k_aloadN X156 hx 57 (D d9_56) rfl rfl ?_
  refine k_dup X156 hx 58 (D d9_57) rfl ?_
  have F157 := (F151.other W156 (Or.inr (sn56 hw)))
  refine k_getF1 X156 hx hZ hown 61 (k_w hw 61 rfl) e156 F157 (D d9_58) (fun T158 X158 e158 => ?_)
  refine k_iconst X158 hx 62 (D d9_61) (z := (1 : Int32)) rfl ?_
  refine k_isubL X158 hx 63 (D d9_62) (z := (1 : Int32)) (by decide) ?_
  have F159 := (F144.wr W156)
  refine k_putF1 X158 hx hZ hown 66 (k_w hw 61 rfl) e158 F157 F159 (Or.inl (k_w hw 62 rfl)) (k_w hw 22 rfl) .int rfl rfl (D d9_63) (fun T160 h160 X160 e160 W160 => ?_)
  have Fw160 := F157.same W160
  have N160 := Fr.snoc X160 N156 g_a1
  have Z160 := k_zw Z156 W160
  refine k_goto X160 hx 0 (D d9_66) ?_
  refine k_aloadN X160 hx 1 (D d9_0) rfl rfl ?_
  refine k_getF1 X160 hx hZ hown 4 (k_w hw 61 rfl) e160 Fw160 (D d9_1) (fun T161 X161 e161 => ?_)
  refine k_if_le X161 hx 7 69 (D d9_4) (fun hc => absurd (by decide) hc) (fun _ => ?_)
  refine k_aloadN X161 hx 8 (D d9_7) rfl rfl ?_
  have F162 := ((F150.other W156 (Or.inr (sn55 hw))).other W160 (Or.inr (sn69 hw)))
  refine k_getF1 X161 hx hZ hown 11 (k_w hw 55 rfl) e161 F162 (D d9_8) (fun T163 X163 e163 => ?_)
  refine k_aloadN X163 hx 12 (D d9_11) rfl rfl ?_
  have F164 := ((F145.other W156 (Or.inr (sn50 hw))).other W160 (Or.inr (sn59 hw)))
  refine k_getF1 X163 hx hZ hown 15 (k_w hw 29 rfl) e163 F164 (D d9_12) (fun T165 X165 e165 => ?_)
  refine k_aloadN X165 hx 16 (D d9_15) rfl rfl ?_
  have F166 := (Fw156.other W160 (Or.inr (sn72 hw)))
  refine k_getF1 X165 hx hZ hown 19 (k_w hw 99 rfl) e165 F166 (D d9_16) (fun T167 X167 e167 => ?_)
  have F168 := ((F153.other W156 (Ne.symm (Nat.ne_of_lt lt0_1))).other W160 (Ne.symm (Nat.ne_of_lt lt0_1)))
  refine k_laload X167 hx hZ 20 e167 F168 ⟨by decide, (Classical.byContradiction (fun hq169 => by have B170 : (1 : Int) <= p3.toInt /\ p3.toInt <= 8 := ⟨kL_ge hp0 (by decide), kL_le hp1 (by decide)⟩; have B171 : (1 : Int) <= p6.toInt /\ p6.toInt <= 9223372036854775807 := ⟨kL_ge hp2 (by decide), Int.le_of_lt_add_one (rng64 p6).2⟩; have q173 : p12.toInt = p3.toInt := k_l2ix hd16 B170 (by decide) (by decide); have B172 : (2 : Int) <= p12.toInt /\ p12.toInt <= 1 := ⟨k_ge hp3 (by decide), k_le hq169 (by decide)⟩; have B174 : (2 : Int) <= (p3.toInt32).toInt /\ (p3.toInt32).toInt <= 8 := ⟨k_ge hx17 (by decide), k_le hx18 (by decide)⟩; have B177 : (-9223372036854775808 : Int) <= p7.toInt /\ p7.toInt <= 9223372036854775807 := ⟨(rng64 p7).1, Int.le_of_lt_add_one (rng64 p7).2⟩; have B178 : (-9223372036854775808 : Int) <= p11.toInt /\ p11.toInt <= 9223372036854775807 := ⟨(rng64 p11).1, Int.le_of_lt_add_one (rng64 p11).2⟩; have q179 : ((p7 - p11).toInt - (p7.toInt - p11.toInt)) % 18446744073709551616 = 0 := c_lsub _ _; have B175 : (-9223372036854775808 : Int) <= (p7 - p11).toInt /\ (p7 - p11).toInt <= 9223372036854775807 := ⟨(rng64 (p7 - p11)).1, Int.le_of_lt_add_one (rng64 (p7 - p11)).2⟩; have B180 : (1 : Int) <= (p7 - p11).toInt /\ (p7 - p11).toInt <= 9223372036854775807 := ⟨kL_gt hx19 (by decide), B175.2⟩; have B183 : (-9223372036854775808 : Int) <= p10.toInt /\ p10.toInt <= 9223372036854775807 := ⟨(rng64 p10).1, Int.le_of_lt_add_one (rng64 p10).2⟩; have q184 : (v117.toInt - (p7.toInt - p10.toInt)) % 18446744073709551616 = 0 := (by rw [hv117]; exact c_lsub _ _); have B181 : (-9223372036854775808 : Int) <= v117.toInt /\ v117.toInt <= 9223372036854775807 := ⟨(rng64 v117).1, Int.le_of_lt_add_one (rng64 v117).2⟩; have q185 := kL_m hc119; omega))⟩ (v := (.long p11)) rfl (D d9_19) ?_
  refine k_lsub X167 hx 21 (D d9_20) (fun v186 hv186 => ?_)
  refine k_aloadN X167 hx 22 (D d9_21) rfl rfl ?_
  have F187 := ((F148.other W156 (Or.inr (sn53 hw))).other W160 (Or.inr (sn65 hw)))
  refine k_getF1 X167 hx hZ hown 25 (k_w hw 35 rfl) e167 F187 (D d9_22) (fun T188 X188 e188 => ?_)
  refine k_lcif_lt X188 hx 29 69 26 (D d9_25) (D d9_26) (fun hc189 => ?_) (fun hc189 => ?_)
  ·
   refine k_aloadN X188 hx 70 (D d9_69) rfl rfl ?_
   refine k_getF1 X188 hx hZ hown 73 (k_w hw 29 rfl) e188 F164 (D d9_70) (fun T190 X190 e190 => ?_)
   refine k_alen X190 hx hZ 74 e190 F168 (D d9_73) ?_
   refine k_istoreN X190 hx 75 (D d9_74) (Ls' := #[rv a1, iv p12]) rfl ?_
   refine k_iloadN X190 hx 76 (D d9_75) rfl ?_
   refine k_bipush X190 hx 78 (D d9_76) (z := (8 : Int32)) rfl ?_
   refine k_icmp_le X190 hx 81 98 (D d9_78) (fun _ => ?_) (fun hc => absurd hc hp4)
   refine k_iloadN X190 hx 99 (D d9_98) rfl ?_
   refine k_aloadN X190 hx 100 (D d9_99) rfl rfl ?_
   refine k_getF1 X190 hx hZ hown 103 (k_w hw 29 rfl) e190 F164 (D d9_100) (fun T191 X191 e191 => ?_)
   refine k_alen X191 hx hZ 104 e191 F168 (D d9_103) ?_
   refine k_icmp_eq X191 hx 107 112 (D d9_104) (fun _ => ?_) (fun hc => absurd rfl hc)
   have F256 := (((f0.wr W143).wr W156).wr W160)
   have F257 := (((f1.other W143 (Or.inl (Nat.ne_of_lt lt0_0))).other W156 (Or.inl (Nat.ne_of_lt lt0_0))).other W160 (Or.inl (Nat.ne_of_lt lt0_0)))
   have F258 := (((f2.other W143 (Or.inl (Nat.ne_of_lt lt0_0))).other W156 (Or.inl (Nat.ne_of_lt lt0_0))).other W160 (Or.inl (Nat.ne_of_lt lt0_0)))
   have F259 := (F159.wr W160)
   have F260 := ((F146.other W156 (Or.inr (sn51 hw))).other W160 (Or.inr (sn61 hw)))
   have F261 := ((F147.other W156 (Or.inr (sn52 hw))).other W160 (Or.inr (sn63 hw)))
   have F262 := ((F149.other W156 (Or.inr (sn54 hw))).other W160 (Or.inr (sn67 hw)))
   have F263 := ((Fw143.other W156 (Or.inr (sn57 hw))).other W160 (Or.inr (sn58 hw)))
   have F264 := ((F154.other W156 (Ne.symm (Nat.ne_of_lt (Nat.lt_trans lt0_1 lt0_2)))).other W160 (Ne.symm (Nat.ne_of_lt (Nat.lt_trans lt0_1 lt0_2))))
   exact k_ret X191 hx hret (D d9_112) hlk (by decide) (by decide) (by rw [e191]; exact ⟨N160, (Or.inr (Or.inl ⟨v117, v142, v186, hv117, hv142, hv186, hc119, hc189, rfl, ⟨F256, F257, F258⟩, ⟨F259, F164, F260, F261, F187, F262, F162, Fw160, F263, F166⟩, F168, F264, Z160⟩))⟩)
  ·
   refine k_aloadN X188 hx 30 (D d9_29) rfl rfl ?_
   refine k_dup X188 hx 31 (D d9_30) rfl ?_
   have F192 := ((Fw143.other W156 (Or.inr (sn57 hw))).other W160 (Or.inr (sn58 hw)))
   refine k_getF1 X188 hx hZ hown 34 (k_w hw 63 rfl) e188 F192 (D d9_31) (fun T193 X193 e193 => ?_)
   refine k_aloadN X193 hx 35 (D d9_34) rfl rfl ?_
   have F194 := ((F146.other W156 (Or.inr (sn51 hw))).other W160 (Or.inr (sn61 hw)))
   refine k_getF1 X193 hx hZ hown 38 (k_w hw 31 rfl) e193 F194 (D d9_35) (fun T195 X195 e195 => ?_)
   refine k_aloadN X195 hx 39 (D d9_38) rfl rfl ?_
   refine k_getF1 X195 hx hZ hown 42 (k_w hw 99 rfl) e195 F166 (D d9_39) (fun T196 X196 e196 => ?_)
   have F197 := ((F154.other W156 (Ne.symm (Nat.ne_of_lt (Nat.lt_trans lt0_1 lt0_2)))).other W160 (Ne.symm (Nat.ne_of_lt (Nat.lt_trans lt0_1 lt0_2))))
   refine k_laload X196 hx hZ 43 e196 F197 ⟨by decide, (Classical.byContradiction (fun hq198 => by have B199 : (1 : Int) <= p3.toInt /\ p3.toInt <= 8 := ⟨kL_ge hp0 (by decide), kL_le hp1 (by decide)⟩; have B200 : (1 : Int) <= p6.toInt /\ p6.toInt <= 9223372036854775807 := ⟨kL_ge hp2 (by decide), Int.le_of_lt_add_one (rng64 p6).2⟩; have q202 : p12.toInt = p3.toInt := k_l2ix hd16 B199 (by decide) (by decide); have B201 : (2 : Int) <= p12.toInt /\ p12.toInt <= 1 := ⟨k_ge hp3 (by decide), k_le hq198 (by decide)⟩; have B203 : (2 : Int) <= (p3.toInt32).toInt /\ (p3.toInt32).toInt <= 8 := ⟨k_ge hx17 (by decide), k_le hx18 (by decide)⟩; have B206 : (-9223372036854775808 : Int) <= p7.toInt /\ p7.toInt <= 9223372036854775807 := ⟨(rng64 p7).1, Int.le_of_lt_add_one (rng64 p7).2⟩; have B207 : (-9223372036854775808 : Int) <= p11.toInt /\ p11.toInt <= 9223372036854775807 := ⟨(rng64 p11).1, Int.le_of_lt_add_one (rng64 p11).2⟩; have q208 : ((p7 - p11).toInt - (p7.toInt - p11.toInt)) % 18446744073709551616 = 0 := c_lsub _ _; have B204 : (-9223372036854775808 : Int) <= (p7 - p11).toInt /\ (p7 - p11).toInt <= 9223372036854775807 := ⟨(rng64 (p7 - p11)).1, Int.le_of_lt_add_one (rng64 (p7 - p11)).2⟩; have B209 : (1 : Int) <= (p7 - p11).toInt /\ (p7 - p11).toInt <= 9223372036854775807 := ⟨kL_gt hx19 (by decide), B204.2⟩; have B212 : (-9223372036854775808 : Int) <= p10.toInt /\ p10.toInt <= 9223372036854775807 := ⟨(rng64 p10).1, Int.le_of_lt_add_one (rng64 p10).2⟩; have q213 : (v117.toInt - (p7.toInt - p10.toInt)) % 18446744073709551616 = 0 := (by rw [hv117]; exact c_lsub _ _); have B210 : (-9223372036854775808 : Int) <= v117.toInt /\ v117.toInt <= 9223372036854775807 := ⟨(rng64 v117).1, Int.le_of_lt_add_one (rng64 v117).2⟩; have q214 := kL_m hc119; have q217 : (v186.toInt - (p7.toInt - p11.toInt)) % 18446744073709551616 = 0 := (by rw [hv186]; exact c_lsub _ _); have B215 : (-9223372036854775808 : Int) <= v186.toInt /\ v186.toInt <= 9223372036854775807 := ⟨(rng64 v186).1, Int.le_of_lt_add_one (rng64 v186).2⟩; have q218 := kL_m hc189; omega))⟩ (v := (.long p15)) rfl (D d9_42) ?_
   refine k_lsub X196 hx 44 (D d9_43) (fun v219 hv219 => ?_)
   have F220 := (F159.wr W160)
   refine k_putF1 X196 hx hZ hown 47 (k_w hw 63 rfl) e196 F192 F220 (Or.inl (k_w hw 64 rfl)) (k_w hw 22 rfl) .long rfl rfl (D d9_44) (fun T221 h221 X221 e221 W221 => ?_)
   have Fw221 := F192.same W221
   have N221 := Fr.snoc X221 N160 g_a1
   have Z221 := k_zw Z160 W221
   refine k_aloadN X221 hx 48 (D d9_47) rfl rfl ?_
   refine k_aloadN X221 hx 49 (D d9_48) rfl rfl ?_
   refine k_iconst X221 hx 50 (D d9_49) (z := (1 : Int32)) rfl ?_
   have F222 := (F220.wr W221)
   have F223 := (F164.other W221 (Or.inr (sn60 hw)))
   have F224 := (F194.other W221 (Or.inr (sn62 hw)))
   have F225 := (((F147.other W156 (Or.inr (sn52 hw))).other W160 (Or.inr (sn63 hw))).other W221 (Or.inr (sn64 hw)))
   have F226 := (F187.other W221 (Or.inr (sn66 hw)))
   have F227 := (((F149.other W156 (Or.inr (sn54 hw))).other W160 (Or.inr (sn67 hw))).other W221 (Or.inr (sn68 hw)))
   have F228 := (F162.other W221 (Or.inr (sn70 hw)))
   have F229 := (Fw160.other W221 (Or.inr (sn71 hw)))
   have F230 := (F166.other W221 (Or.inr (sn73 hw)))
   have F231 := (F168.other W221 (Ne.symm (Nat.ne_of_lt lt0_1)))
   have F232 := (F197.other W221 (Ne.symm (Nat.ne_of_lt (Nat.lt_trans lt0_1 lt0_2))))
   refine k_callP X221 hx hZ hown 53 (a := a1) (k_w hw 101 rfl) (k_w hw 102 rfl) (k_w hw 103 rfl) (k_w hw 22 rfl) (k_w hw 23 rfl) (k_w hw 104 rfl) (by decide) F222 (rm17_66 l Z a0 hw [] a1 a4 a5 p3 p6 p7 v219 p10 p11 p14 p15 k9 k13 p12 h221 n0 Z221 ⟨F222, F223, F224, F225, F226, F227, F228, F229, Fw221, F230⟩ F231 F232 lt0_1 lt0_2 hp0 hp1 hp2 hp3 hp4 hd16) (by decide) (by decide) e221 (by rw [hml]; rfl) (argsL := [(.int 1)]) (rest := [(.ref a1)]) (lenOf pd_7 rfl) rfl (W := 1) (Nat.le_refl _) rfl (D d9_50) (by decide) (by decide) (fun T233 L233 r233 X233 q233 => ?_)
   obtain ⟨N233, e233, q233⟩ := q233
   have N233' := Fr.app N221 N233
   rcases q233 with ⟨hc234, rfl⟩ | ⟨hc235, rfl⟩
   ·
    refine k_n1 ?_
    refine k_putF1 X233 hx hZ hown 56 (k_w hw 99 rfl) e233 F230 F222 (Or.inl (k_w hw 100 rfl)) (k_w hw 22 rfl) .int rfl rfl (D d9_53) (fun T236 h236 X236 e236 W236 => ?_)
    have Fw236 := F230.same W236
    have N236 := Fr.snoc X236 N233' g_a1
    have Z236 := k_zw Z221 W236
    refine k_aloadN X236 hx 57 (D d9_56) rfl rfl ?_
    refine k_dup X236 hx 58 (D d9_57) rfl ?_
    have F237 := (F229.other W236 (Or.inr (sn56 hw)))
    refine k_getF1 X236 hx hZ hown 61 (k_w hw 61 rfl) e236 F237 (D d9_58) (fun T238 X238 e238 => ?_)
    refine k_iconst X238 hx 62 (D d9_61) (z := (1 : Int32)) rfl ?_
    refine k_isubL X238 hx 63 (D d9_62) (z := (0 : Int32)) (by decide) ?_
    have F239 := (F222.wr W236)
    refine k_putF1 X238 hx hZ hown 66 (k_w hw 61 rfl) e238 F237 F239 (Or.inl (k_w hw 62 rfl)) (k_w hw 22 rfl) .int rfl rfl (D d9_63) (fun T240 h240 X240 e240 W240 => ?_)
    have Fw240 := F237.same W240
    have N240 := Fr.snoc X240 N236 g_a1
    have Z240 := k_zw Z236 W240
    refine k_goto X240 hx 0 (D d9_66) ?_
    refine k_aloadN X240 hx 1 (D d9_0) rfl rfl ?_
    refine k_getF1 X240 hx hZ hown 4 (k_w hw 61 rfl) e240 Fw240 (D d9_1) (fun T241 X241 e241 => ?_)
    refine k_if_le X241 hx 7 69 (D d9_4) (fun _ => ?_) (fun hc => absurd hc (by decide))
    refine k_aloadN X241 hx 70 (D d9_69) rfl rfl ?_
    have F242 := ((F223.other W236 (Or.inr (sn50 hw))).other W240 (Or.inr (sn59 hw)))
    refine k_getF1 X241 hx hZ hown 73 (k_w hw 29 rfl) e241 F242 (D d9_70) (fun T243 X243 e243 => ?_)
    have F244 := ((F231.other W236 (Ne.symm (Nat.ne_of_lt lt0_1))).other W240 (Ne.symm (Nat.ne_of_lt lt0_1)))
    refine k_alen X243 hx hZ 74 e243 F244 (D d9_73) ?_
    refine k_istoreN X243 hx 75 (D d9_74) (Ls' := #[rv a1, iv p12]) rfl ?_
    refine k_iloadN X243 hx 76 (D d9_75) rfl ?_
    refine k_bipush X243 hx 78 (D d9_76) (z := (8 : Int32)) rfl ?_
    refine k_icmp_le X243 hx 81 98 (D d9_78) (fun _ => ?_) (fun hc => absurd hc hp4)
    refine k_iloadN X243 hx 99 (D d9_98) rfl ?_
    refine k_aloadN X243 hx 100 (D d9_99) rfl rfl ?_
    refine k_getF1 X243 hx hZ hown 103 (k_w hw 29 rfl) e243 F242 (D d9_100) (fun T245 X245 e245 => ?_)
    refine k_alen X245 hx hZ 104 e245 F244 (D d9_103) ?_
    refine k_icmp_eq X245 hx 107 112 (D d9_104) (fun _ => ?_) (fun hc => absurd rfl hc)
    have F265 := ((((((f0.wr W143).wr W156).wr W160).wr W221).wr W236).wr W240)
    have F266 := ((((((f1.other W143 (Or.inl (Nat.ne_of_lt lt0_0))).other W156 (Or.inl (Nat.ne_of_lt lt0_0))).other W160 (Or.inl (Nat.ne_of_lt lt0_0))).other W221 (Or.inl (Nat.ne_of_lt lt0_0))).other W236 (Or.inl (Nat.ne_of_lt lt0_0))).other W240 (Or.inl (Nat.ne_of_lt lt0_0)))
    have F267 := ((((((f2.other W143 (Or.inl (Nat.ne_of_lt lt0_0))).other W156 (Or.inl (Nat.ne_of_lt lt0_0))).other W160 (Or.inl (Nat.ne_of_lt lt0_0))).other W221 (Or.inl (Nat.ne_of_lt lt0_0))).other W236 (Or.inl (Nat.ne_of_lt lt0_0))).other W240 (Or.inl (Nat.ne_of_lt lt0_0)))
    have F268 := (F239.wr W240)
    have F269 := ((F224.other W236 (Or.inr (sn51 hw))).other W240 (Or.inr (sn61 hw)))
    have F270 := ((F225.other W236 (Or.inr (sn52 hw))).other W240 (Or.inr (sn63 hw)))
    have F271 := ((F226.other W236 (Or.inr (sn53 hw))).other W240 (Or.inr (sn65 hw)))
    have F272 := ((F227.other W236 (Or.inr (sn54 hw))).other W240 (Or.inr (sn67 hw)))
    have F273 := ((F228.other W236 (Or.inr (sn55 hw))).other W240 (Or.inr (sn69 hw)))
    have F274 := ((Fw221.other W236 (Or.inr (sn57 hw))).other W240 (Or.inr (sn58 hw)))
    have F275 := (Fw236.other W240 (Or.inr (sn72 hw)))
    have F276 := ((F232.other W236 (Ne.symm (Nat.ne_of_lt (Nat.lt_trans lt0_1 lt0_2)))).other W240 (Ne.symm (Nat.ne_of_lt (Nat.lt_trans lt0_1 lt0_2))))
    exact k_ret X245 hx hret (D d9_112) hlk (by decide) (by decide) (by rw [e245]; exact ⟨N240, (Or.inr (Or.inr (Or.inl ⟨v117, v142, v186, v219, hv117, hv142, hv186, hv219, hc119, hc189, hc234, rfl, ⟨F265, F266, F267⟩, ⟨F268, F242, F269, F270, F271, F272, F273, Fw240, F274, F275⟩, F244, F276, Z240⟩)))⟩)
   ·
    refine k_n1 ?_
    refine k_putF1 X233 hx hZ hown 56 (k_w hw 99 rfl) e233 F230 F222 (Or.inl (k_w hw 100 rfl)) (k_w hw 22 rfl) .int rfl rfl (D d9_53) (fun T246 h246 X246 e246 W246 => ?_)
    have Fw246 := F230.same W246
    have N246 := Fr.snoc X246 N233' g_a1
    have Z246 := k_zw Z221 W246
    refine k_aloadN X246 hx 57 (D d9_56) rfl rfl ?_
    refine k_dup X246 hx 58 (D d9_57) rfl ?_
    have F247 := (F229.other W246 (Or.inr (sn56 hw)))
    refine k_getF1 X246 hx hZ hown 61 (k_w hw 61 rfl) e246 F247 (D d9_58) (fun T248 X248 e248 => ?_)
    refine k_iconst X248 hx 62 (D d9_61) (z := (1 : Int32)) rfl ?_
    refine k_isubL X248 hx 63 (D d9_62) (z := (0 : Int32)) (by decide) ?_
    have F249 := (F222.wr W246)
    refine k_putF1 X248 hx hZ hown 66 (k_w hw 61 rfl) e248 F247 F249 (Or.inl (k_w hw 62 rfl)) (k_w hw 22 rfl) .int rfl rfl (D d9_63) (fun T250 h250 X250 e250 W250 => ?_)
    have Fw250 := F247.same W250
    have N250 := Fr.snoc X250 N246 g_a1
    have Z250 := k_zw Z246 W250
    refine k_goto X250 hx 0 (D d9_66) ?_
    refine k_aloadN X250 hx 1 (D d9_0) rfl rfl ?_
    refine k_getF1 X250 hx hZ hown 4 (k_w hw 61 rfl) e250 Fw250 (D d9_1) (fun T251 X251 e251 => ?_)
    refine k_if_le X251 hx 7 69 (D d9_4) (fun _ => ?_) (fun hc => absurd hc (by decide))
    refine k_aloadN X251 hx 70 (D d9_69) rfl rfl ?_
    have F252 := ((F223.other W246 (Or.inr (sn50 hw))).other W250 (Or.inr (sn59 hw)))
    refine k_getF1 X251 hx hZ hown 73 (k_w hw 29 rfl) e251 F252 (D d9_70) (fun T253 X253 e253 => ?_)
    have F254 := ((F231.other W246 (Ne.symm (Nat.ne_of_lt lt0_1))).other W250 (Ne.symm (Nat.ne_of_lt lt0_1)))
    refine k_alen X253 hx hZ 74 e253 F254 (D d9_73) ?_
    refine k_istoreN X253 hx 75 (D d9_74) (Ls' := #[rv a1, iv p12]) rfl ?_
    refine k_iloadN X253 hx 76 (D d9_75) rfl ?_
    refine k_bipush X253 hx 78 (D d9_76) (z := (8 : Int32)) rfl ?_
    refine k_icmp_le X253 hx 81 98 (D d9_78) (fun _ => ?_) (fun hc => absurd hc hp4)
    refine k_iloadN X253 hx 99 (D d9_98) rfl ?_
    refine k_aloadN X253 hx 100 (D d9_99) rfl rfl ?_
    refine k_getF1 X253 hx hZ hown 103 (k_w hw 29 rfl) e253 F252 (D d9_100) (fun T255 X255 e255 => ?_)
    refine k_alen X255 hx hZ 104 e255 F254 (D d9_103) ?_
    refine k_icmp_eq X255 hx 107 112 (D d9_104) (fun _ => ?_) (fun hc => absurd rfl hc)
    have F277 := ((((((f0.wr W143).wr W156).wr W160).wr W221).wr W246).wr W250)
    have F278 := ((((((f1.other W143 (Or.inl (Nat.ne_of_lt lt0_0))).other W156 (Or.inl (Nat.ne_of_lt lt0_0))).other W160 (Or.inl (Nat.ne_of_lt lt0_0))).other W221 (Or.inl (Nat.ne_of_lt lt0_0))).other W246 (Or.inl (Nat.ne_of_lt lt0_0))).other W250 (Or.inl (Nat.ne_of_lt lt0_0)))
    have F279 := ((((((f2.other W143 (Or.inl (Nat.ne_of_lt lt0_0))).other W156 (Or.inl (Nat.ne_of_lt lt0_0))).other W160 (Or.inl (Nat.ne_of_lt lt0_0))).other W221 (Or.inl (Nat.ne_of_lt lt0_0))).other W246 (Or.inl (Nat.ne_of_lt lt0_0))).other W250 (Or.inl (Nat.ne_of_lt lt0_0)))
    have F280 := (F249.wr W250)
    have F281 := ((F224.other W246 (Or.inr (sn51 hw))).other W250 (Or.inr (sn61 hw)))
    have F282 := ((F225.other W246 (Or.inr (sn52 hw))).other W250 (Or.inr (sn63 hw)))
    have F283 := ((F226.other W246 (Or.inr (sn53 hw))).other W250 (Or.inr (sn65 hw)))
    have F284 := ((F227.other W246 (Or.inr (sn54 hw))).other W250 (Or.inr (sn67 hw)))
    have F285 := ((F228.other W246 (Or.inr (sn55 hw))).other W250 (Or.inr (sn69 hw)))
    have F286 := ((Fw221.other W246 (Or.inr (sn57 hw))).other W250 (Or.inr (sn58 hw)))
    have F287 := (Fw246.other W250 (Or.inr (sn72 hw)))
    have F288 := ((F232.other W246 (Ne.symm (Nat.ne_of_lt (Nat.lt_trans lt0_1 lt0_2)))).other W250 (Ne.symm (Nat.ne_of_lt (Nat.lt_trans lt0_1 lt0_2))))
    exact k_ret X255 hx hret (D d9_112) hlk (by decide) (by decide) (by rw [e255]; exact ⟨N250, (Or.inr (Or.inr (Or.inr ⟨v117, v142, v186, v219, hv117, hv142, hv186, hv219, hc119, hc189, hc235, rfl, ⟨F277, F278, F279⟩, ⟨F280, F252, F281, F282, F283, F284, F285, Fw250, F286, F287⟩, F254, F288, Z250⟩)))⟩)
abbrev R8_61 : Room := { frames := 2, cells := 0, slots := 0, locals := 28 }
def Q8_61 (Z : State) (a1 a3 a5 a6 : Addr) (p2 p4 p7 p8 p9 p11 p14 p15 : Int64) (k10 k13 : ClassId) (p12 : Int32) (h0 : Heap) (n0 : Nat) (v : Option Value) (h : Heap) (L : List Loc) : Prop := Fr n0 L /\ ((∃ (v103 : Int64) (v106 : Int64), v103 = p2 - p8 /\ v106 = p8 - p11 /\ ¬ (0 : Int64) < v103 /\ v106 < p7 /\ v = none /\ BL Z h a3 (.long p4) (.ref a1) /\ BS Z h a1 (.ref a5) (.ref a6) (.long p4) (.long p7) (.int 1) (.long p8) (.int 2) (.long p9) (.int 0) /\ Arv Z h a5 k10 .long p12 [(.long p11), (.long p8)] (.long 0) /\ Arv Z h a6 k13 .long p12 [(.long p14), (.long p15)] (.long 0) /\ n0 <= h.size) \/ (∃ (v103 : Int64) (v125 : Int64) (v126 : Int64), v103 = p2 - p8 /\ v125 = p8 - p11 /\ v126 = p9 - p14 /\ ¬ (0 : Int64) < v103 /\ ¬ v125 < p7 /\ v = none /\ BL Z h a3 (.long p4) (.ref a1) /\ BS Z h a1 (.ref a5) (.ref a6) (.long p4) (.long p7) (.int 1) (.long p8) (.int 1) (.long v126) (.int 1) /\ Arv Z h a5 k10 .long p12 [(.long p11), (.long p8)] (.long 0) /\ Arv Z h a6 k13 .long p12 [(.long p14), (.long p15)] (.long 0) /\ n0 <= h.size) \/ (∃ (v103 : Int64) (v165 : Int64), v103 = p2 - p8 /\ v165 = p2 - p11 /\ (0 : Int64) < v103 /\ v165 < p7 /\ v = none /\ BL Z h a3 (.long p4) (.ref a1) /\ BS Z h a1 (.ref a5) (.ref a6) (.long p4) (.long p7) (.int 1) (.long p2) (.int 2) (.long p9) (.int 0) /\ Arv Z h a5 k10 .long p12 [(.long p11), (.long p8)] (.long 0) /\ Arv Z h a6 k13 .long p12 [(.long p14), (.long p15)] (.long 0) /\ n0 <= h.size) \/ (∃ (v103 : Int64) (v184 : Int64) (v185 : Int64), v103 = p2 - p8 /\ v184 = p2 - p11 /\ v185 = p9 - p14 /\ (0 : Int64) < v103 /\ ¬ v184 < p7 /\ v103 < p7 /\ v = none /\ BL Z h a3 (.long p4) (.ref a1) /\ BS Z h a1 (.ref a5) (.ref a6) (.long p4) (.long p7) (.int 1) (.long p2) (.int 1) (.long v185) (.int 1) /\ Arv Z h a5 k10 .long p12 [(.long p11), (.long p8)] (.long 0) /\ Arv Z h a6 k13 .long p12 [(.long p14), (.long p15)] (.long 0) /\ n0 <= h.size) \/ (∃ (v103 : Int64) (v208 : Int64) (v209 : Int64) (v211 : Int64), v103 = p2 - p8 /\ v208 = p2 - p11 /\ v209 = p9 - p14 /\ v211 = v209 - p15 /\ (0 : Int64) < v103 /\ ¬ v208 < p7 /\ ¬ v103 < p7 /\ ¬ (2 : Int32) < p12 /\ v = none /\ BL Z h a3 (.long p4) (.ref a1) /\ BS Z h a1 (.ref a5) (.ref a6) (.long p4) (.long p7) (.int 1) (.long p2) (.int 0) (.long v211) (.int 0) /\ Arv Z h a5 k10 .long p12 [(.long p11), (.long p8)] (.long 0) /\ Arv Z h a6 k13 .long p12 [(.long p14), (.long p15)] (.long 0) /\ n0 <= h.size) \/ (∃ (v103 : Int64) (v235 : Int64) (v236 : Int64) (v238 : Int64), v103 = p2 - p8 /\ v235 = p2 - p11 /\ v236 = p9 - p14 /\ v238 = v236 - p15 /\ (0 : Int64) < v103 /\ ¬ v235 < p7 /\ ¬ v103 < p7 /\ (2 : Int32) < p12 /\ v = none /\ BL Z h a3 (.long p4) (.ref a1) /\ BS Z h a1 (.ref a5) (.ref a6) (.long p4) (.long p7) (.int 1) (.long p2) (.int 0) (.long v238) (.int 2) /\ Arv Z h a5 k10 .long p12 [(.long p11), (.long p8)] (.long 0) /\ Arv Z h a6 k13 .long p12 [(.long p14), (.long p15)] (.long 0) /\ n0 <= h.size))
theorem rm8_61 (l : Launch) (Z : State) (a0 : Array Value) (hw : WW a0 Z) (ws : List Jvm.Cond) (a1 a3 a5 a6 : Addr) (p2 p4 p7 p8 p9 p11 p14 p15 : Int64) (k10 k13 : ClassId) (p12 : Int32) (h0 : Heap) (n0 : Nat) (Z0 : n0 <= h0.size) (B0 : BL Z h0 a3 (.long p4) (.ref a1)) (g_a3 : n0 <= a3) (B2 : BS Z h0 a1 (.ref a5) (.ref a6) (.long p4) (.long p7) (.int 1) (.long p8) (.int 2) (.long p9) (.int 0)) (g_a1 : n0 <= a1) (F0_4 : Arv Z h0 a5 k10 .long p12 [(.long p11), (.long p8)] (.long 0)) (g_a5 : n0 <= a5) (F0_6 : Arv Z h0 a6 k13 .long p12 [(.long p14), (.long p15)] (.long 0)) (g_a6 : n0 <= a6) (lt0_0 : a3 < a1) (lt0_1 : a1 < a5) (lt0_2 : a5 < a6) (hp0 : ¬ p4 < (1 : Int64)) (hp1 : ¬ (8 : Int64) < p4) (hp2 : ¬ p7 < (1 : Int64)) (hp3 : ¬ p12 < (2 : Int32)) (hp4 : ¬ (8 : Int32) < p12) (hd16 : p12 = p4.toInt32) (hx17 : ¬ (p4.toInt32) < (2 : Int32)) (hx18 : ¬ (8 : Int32) < (p4.toInt32)) :
    KMet l (⟨"com/example/halter/halter/SlidingSum", "catchUp", "(J)V"⟩ : MethodName) prog_20_method_7_code 3 none ws R8_61 #[(.ref a1), (.long p2)] Z h0 R8_61.cells R8_61.slots (Q8_61 Z a1 a3 a5 a6 p2 p4 p7 p8 p9 p11 p14 p15 k10 k13 p12 h0 n0) := by
 refine k_body (plainFor_of_name pn_1) (fun m => ef8_7 m a1 p2) ?_
 intro p e s m below meth c s₁ hx D hml hlk hret hown hnm hZ X0 e0
 have N0 := Fr.nil n0
 obtain ⟨f0, f1, f2⟩ := B0
 obtain ⟨f3, f4, f5, f6, f7, f8, f9, f10, f11, f12⟩ := B2
 refine k_aloadN X0 hx 1 (D d8_0) rfl rfl ?_
 refine k_getF1 X0 hx hZ hown 4 (k_w hw 53 rfl) e0 f8 (D d8_1) (fun T101 X101 e101 => ?_)
 refine k_if_eq X101 hx 7 18 (D d8_4) (fun hc => absurd hc (by decide)) (fun _ => ?_)
 refine k_lloadN X101 hx 8 (D d8_7) rfl ?_
 refine k_aloadN X101 hx 9 (D d8_8) rfl rfl ?_
 refine k_getF1 X101 hx hZ hown 12 (k_w hw 55 rfl) e101 f9 (D d8_9) (fun T102 X102 e102 => ?_)
 refine k_lsub X102 hx 13 (D d8_12) (fun v103 hv103 => ?_)
 refine k_lconst X102 hx 14 (D d8_13) (z := (0 : Int64)) rfl ?_
 refine k_lcif_le X102 hx 18 28 15 (D d8_14) (D d8_15) (fun hc104 => ?_) (fun hc104 => ?_)
 ·
  refine k_aloadN X102 hx 29 (D d8_28) rfl rfl ?_
  refine k_callP X102 hx hZ hown 32 (a := a1) (k_w hw 57 rfl) (k_w hw 58 rfl) (k_w hw 59 rfl) (k_w hw 22 rfl) (k_w hw 23 rfl) (k_w hw 60 rfl) (by decide) f3 (rm9_62 l Z a0 hw [] a1 a3 a5 a6 p4 p7 p8 p9 p11 p14 p15 k10 k13 p12 h0 n0 Z0 ⟨f0, f1, f2⟩ g_a3 ⟨f3, f4, f5, f6, f7, f8, f9, f10, f11, f12⟩ g_a1 F0_4 g_a5 F0_6 g_a6 lt0_0 lt0_1 lt0_2 hp0 hp1 hp2 hp3 hp4 hd16 (by have q := hp3; rw [hd16] at q; exact q) (by have q := hp4; rw [hd16] at q; exact q)) (by decide) (by decide) e102 (by rw [hml]; rfl) (argsL := []) (rest := []) (lenOf pd_1 rfl) rfl (W := 0) (Nat.le_refl _) rfl (D d8_29) (by decide) (by decide) (fun T105 L105 r105 X105 q105 => ?_)
  obtain ⟨N105, q105⟩ := q105
  have N105' := Fr.app N0 N105
  rcases q105 with ⟨v106, h107, hc108, rfl, ⟨F109, F110, F111⟩, ⟨F112, F113, F114, F115, F116, F117, F118, F119, F120, F121⟩, F122, F123, Z124⟩ | ⟨v125, v126, h127, h128, hc129, rfl, ⟨F130, F131, F132⟩, ⟨F133, F134, F135, F136, F137, F138, F139, F140, F141, F142⟩, F143, F144, Z145⟩
  ·
   refine k_n0 ?_
   exact k_ret X105 hx hret (D d8_32) hlk (by decide) (by decide) ⟨N105', (Or.inl ⟨v103, v106, hv103, h107, hc104, hc108, rfl, ⟨F109, F110, F111⟩, ⟨F112, F113, F114, F115, F116, F117, F118, F119, F120, F121⟩, F122, F123, Z124⟩)⟩
  ·
   refine k_n0 ?_
   exact k_ret X105 hx hret (D d8_32) hlk (by decide) (by decide) ⟨N105', (Or.inr (Or.inl ⟨v103, v125, v126, hv103, h127, h128, hc104, hc129, rfl, ⟨F130, F131, F132⟩, ⟨F133, F134, F135, F136, F137, F138, F139, F140, F141, F142⟩, F143, F144, Z145⟩))⟩
 ·
  refine k_aloadN X102 hx 19 (D d8_18) rfl rfl ?_
  refine k_lloadN X102 hx 20 (D d8_19) rfl ?_
  refine k_putF1 X102 hx hZ hown 23 (k_w hw 55 rfl) e102 f9 f3 (Or.inl (k_w hw 56 rfl)) (k_w hw 22 rfl) .long rfl rfl (D d8_20) (fun T146 h146 X146 e146 W146 => ?_)
  have Fw146 := f9.same W146
  have N146 := Fr.snoc X146 N0 g_a1
  have Z146 := k_zw Z0 W146
  refine k_aloadN X146 hx 24 (D d8_23) rfl rfl ?_
  refine k_iconst X146 hx 25 (D d8_24) (z := (1 : Int32)) rfl ?_
  have F147 := (f8.other W146 (Or.inr (sn34 hw)))
  have F148 := (f3.wr W146)
  refine k_putF1 X146 hx hZ hown 28 (k_w hw 53 rfl) e146 F147 F148 (Or.inl (k_w hw 54 rfl)) (k_w hw 22 rfl) .boolean rfl rfl (D d8_25) (fun T149 h149 X149 e149 W149 => ?_)
  have Fw149 := F147.same W149
  have N149 := Fr.snoc X149 N146 g_a1
  have Z149 := k_zw Z146 W149
  refine k_aloadN X149 hx 29 (D d8_28) rfl rfl ?_
  have F150 := ((f0.wr W146).wr W149)
  have F151 := ((f1.other W146 (Or.inl (Nat.ne_of_lt lt0_0))).other W149 (Or.inl (Nat.ne_of_lt lt0_0)))
  have F152 := ((f2.other W146 (Or.inl (Nat.ne_of_lt lt0_0))).other W149 (Or.inl (Nat.ne_of_lt lt0_0)))
  have F153 := (F148.wr W149)
  have F154 := ((f4.other W146 (Or.inr (sn35 hw))).other W149 (Or.inr (sn36 hw)))
  have F155 := ((f5.other W146 (Or.inr (sn37 hw))).other W149 (Or.inr (sn38 hw)))
  have F156 := ((f6.other W146 (Or.inr (sn39 hw))).other W149 (Or.inr (sn40 hw)))
  have F157 := ((f7.other W146 (Or.inr (sn41 hw))).other W149 (Or.inr (sn42 hw)))
  have F158 := (Fw146.other W149 (Or.inr (sn43 hw)))
  have F159 := ((f10.other W146 (Or.inr (sn44 hw))).other W149 (Or.inr (sn45 hw)))
  have F160 := ((f11.other W146 (Or.inr (sn46 hw))).other W149 (Or.inr (sn47 hw)))
  have F161 := ((f12.other W146 (Or.inr (sn48 hw))).other W149 (Or.inr (sn49 hw)))
  have F162 := ((F0_4.other W146 (Ne.symm (Nat.ne_of_lt lt0_1))).other W149 (Ne.symm (Nat.ne_of_lt lt0_1)))
  have F163 := ((F0_6.other W146 (Ne.symm (Nat.ne_of_lt (Nat.lt_trans lt0_1 lt0_2)))).other W149 (Ne.symm (Nat.ne_of_lt (Nat.lt_trans lt0_1 lt0_2))))
  refine k_callP X149 hx hZ hown 32 (a := a1) (k_w hw 57 rfl) (k_w hw 58 rfl) (k_w hw 59 rfl) (k_w hw 22 rfl) (k_w hw 23 rfl) (k_w hw 60 rfl) (by decide) F153 (rm9_64 l Z a0 hw [] a1 a3 a5 a6 p4 p7 p2 p9 p11 p8 p14 p15 k10 k13 p12 h149 n0 Z149 ⟨F150, F151, F152⟩ g_a3 ⟨F153, F154, F155, F156, F157, Fw149, F158, F159, F160, F161⟩ g_a1 F162 g_a5 F163 g_a6 lt0_0 lt0_1 lt0_2 hp0 hp1 hp2 hp3 hp4 hd16 (by have q := hp3; rw [hd16] at q; exact q) (by have q := hp4; rw [hd16] at q; exact q) (by have q := hc104; rw [hv103] at q; exact q)) (by decide) (by decide) e149 (by rw [hml]; rfl) (argsL := []) (rest := []) (lenOf pd_1 rfl) rfl (W := 0) (Nat.le_refl _) rfl (D d8_29) (by decide) (by decide) (fun T164 L164 r164 X164 q164 => ?_)
  obtain ⟨N164, q164⟩ := q164
  have N164' := Fr.app N149 N164
  rcases q164 with ⟨v165, h166, hc167, rfl, ⟨F168, F169, F170⟩, ⟨F171, F172, F173, F174, F175, F176, F177, F178, F179, F180⟩, F181, F182, Z183⟩ | ⟨v184, v185, v186, h187, h188, h189, hc190, hc191, rfl, ⟨F192, F193, F194⟩, ⟨F195, F196, F197, F198, F199, F200, F201, F202, F203, F204⟩, F205, F206, Z207⟩ | ⟨v208, v209, v210, v211, h212, h213, h214, h215, hc216, hc217, hc218, rfl, ⟨F219, F220, F221⟩, ⟨F222, F223, F224, F225, F226, F227, F228, F229, F230, F231⟩, F232, F233, Z234⟩ | ⟨v235, v236, v237, v238, h239, h240, h241, h242, hc243, hc244, hc245, rfl, ⟨F246, F247, F248⟩, ⟨F249, F250, F251, F252, F253, F254, F255, F256, F257, F258⟩, F259, F260, Z261⟩
  ·
   refine k_n0 ?_
   exact k_ret X164 hx hret (D d8_32) hlk (by decide) (by decide) ⟨N164', (Or.inr (Or.inr (Or.inl ⟨v103, v165, hv103, h166, hc104, hc167, rfl, ⟨F168, F169, F170⟩, ⟨F171, F172, F173, F174, F175, F176, F177, F178, F179, F180⟩, F181, F182, Z183⟩)))⟩
  ·
   have hh262 : v103 = v186 := hv103.trans h189.symm
   subst hh262
   refine k_n0 ?_
   exact k_ret X164 hx hret (D d8_32) hlk (by decide) (by decide) ⟨N164', (Or.inr (Or.inr (Or.inr (Or.inl ⟨v103, v184, v185, hv103, h187, h188, hc104, hc190, hc191, rfl, ⟨F192, F193, F194⟩, ⟨F195, F196, F197, F198, F199, F200, F201, F202, F203, F204⟩, F205, F206, Z207⟩))))⟩
  ·
   have hh263 : v103 = v210 := hv103.trans h214.symm
   subst hh263
   refine k_n0 ?_
   exact k_ret X164 hx hret (D d8_32) hlk (by decide) (by decide) ⟨N164', (Or.inr (Or.inr (Or.inr (Or.inr (Or.inl ⟨v103, v208, v209, v211, hv103, h212, h213, h215, hc104, hc216, hc217, hc218, rfl, ⟨F219, F220, F221⟩, ⟨F222, F223, F224, F225, F226, F227, F228, F229, F230, F231⟩, F232, F233, Z234⟩)))))⟩
  ·
   have hh264 : v103 = v237 := hv103.trans h241.symm
   subst hh264
   refine k_n0 ?_
   exact k_ret X164 hx hret (D d8_32) hlk (by decide) (by decide) ⟨N164', (Or.inr (Or.inr (Or.inr (Or.inr (Or.inr ⟨v103, v235, v236, v238, hv103, h239, h240, h242, hc104, hc243, hc244, hc245, rfl, ⟨F246, F247, F248⟩, ⟨F249, F250, F251, F252, F253, F254, F255, F256, F257, F258⟩, F259, F260, Z261⟩)))))⟩
abbrev R7_60 : Room := { frames := 3, cells := 0, slots := 0, locals := 42 }
def Q7_60 (Z : State) (a1 a3 a5 a6 : Addr) (p2 p4 p7 p8 p9 p11 p14 p15 : Int64) (k10 k13 : ClassId) (p12 : Int32) (h0 : Heap) (n0 : Nat) (v : Option Value) (h : Heap) (L : List Loc) : Prop := Fr n0 L /\ ((∃ (v102 : Int64) (v103 : Int64), v102 = p2 - p8 /\ v103 = p8 - p11 /\ ¬ (0 : Int64) < v102 /\ v103 < p7 /\ v = some (.long p9) /\ BL Z h a3 (.long p4) (.ref a1) /\ BS Z h a1 (.ref a5) (.ref a6) (.long p4) (.long p7) (.int 1) (.long p8) (.int 2) (.long p9) (.int 0) /\ Arv Z h a5 k10 .long p12 [(.long p11), (.long p8)] (.long 0) /\ Arv Z h a6 k13 .long p12 [(.long p14), (.long p15)] (.long 0) /\ n0 <= h.size) \/ (∃ (v124 : Int64) (v125 : Int64) (v126 : Int64), v124 = p2 - p8 /\ v125 = p8 - p11 /\ v126 = p9 - p14 /\ ¬ (0 : Int64) < v124 /\ ¬ v125 < p7 /\ v = some (.long v126) /\ BL Z h a3 (.long p4) (.ref a1) /\ BS Z h a1 (.ref a5) (.ref a6) (.long p4) (.long p7) (.int 1) (.long p8) (.int 1) (.long v126) (.int 1) /\ Arv Z h a5 k10 .long p12 [(.long p11), (.long p8)] (.long 0) /\ Arv Z h a6 k13 .long p12 [(.long p14), (.long p15)] (.long 0) /\ n0 <= h.size) \/ (∃ (v148 : Int64) (v149 : Int64), v148 = p2 - p8 /\ v149 = p2 - p11 /\ (0 : Int64) < v148 /\ v149 < p7 /\ v = some (.long p9) /\ BL Z h a3 (.long p4) (.ref a1) /\ BS Z h a1 (.ref a5) (.ref a6) (.long p4) (.long p7) (.int 1) (.long p2) (.int 2) (.long p9) (.int 0) /\ Arv Z h a5 k10 .long p12 [(.long p11), (.long p8)] (.long 0) /\ Arv Z h a6 k13 .long p12 [(.long p14), (.long p15)] (.long 0) /\ n0 <= h.size) \/ (∃ (v170 : Int64) (v171 : Int64) (v172 : Int64), v170 = p2 - p8 /\ v171 = p2 - p11 /\ v172 = p9 - p14 /\ (0 : Int64) < v170 /\ ¬ v171 < p7 /\ v170 < p7 /\ v = some (.long v172) /\ BL Z h a3 (.long p4) (.ref a1) /\ BS Z h a1 (.ref a5) (.ref a6) (.long p4) (.long p7) (.int 1) (.long p2) (.int 1) (.long v172) (.int 1) /\ Arv Z h a5 k10 .long p12 [(.long p11), (.long p8)] (.long 0) /\ Arv Z h a6 k13 .long p12 [(.long p14), (.long p15)] (.long 0) /\ n0 <= h.size) \/ (∃ (v195 : Int64) (v196 : Int64) (v197 : Int64) (v198 : Int64), v195 = p2 - p8 /\ v196 = p2 - p11 /\ v197 = p9 - p14 /\ v198 = v197 - p15 /\ (0 : Int64) < v195 /\ ¬ v196 < p7 /\ ¬ v195 < p7 /\ ¬ (2 : Int32) < p12 /\ v = some (.long v198) /\ BL Z h a3 (.long p4) (.ref a1) /\ BS Z h a1 (.ref a5) (.ref a6) (.long p4) (.long p7) (.int 1) (.long p2) (.int 0) (.long v198) (.int 0) /\ Arv Z h a5 k10 .long p12 [(.long p11), (.long p8)] (.long 0) /\ Arv Z h a6 k13 .long p12 [(.long p14), (.long p15)] (.long 0) /\ n0 <= h.size) \/ (∃ (v223 : Int64) (v224 : Int64) (v225 : Int64) (v226 : Int64), v223 = p2 - p8 /\ v224 = p2 - p11 /\ v225 = p9 - p14 /\ v226 = v225 - p15 /\ (0 : Int64) < v223 /\ ¬ v224 < p7 /\ ¬ v223 < p7 /\ (2 : Int32) < p12 /\ v = some (.long v226) /\ BL Z h a3 (.long p4) (.ref a1) /\ BS Z h a1 (.ref a5) (.ref a6) (.long p4) (.long p7) (.int 1) (.long p2) (.int 0) (.long v226) (.int 2) /\ Arv Z h a5 k10 .long p12 [(.long p11), (.long p8)] (.long 0) /\ Arv Z h a6 k13 .long p12 [(.long p14), (.long p15)] (.long 0) /\ n0 <= h.size))
theorem rm7_60 (l : Launch) (Z : State) (a0 : Array Value) (hw : WW a0 Z) (ws : List Jvm.Cond) (a1 a3 a5 a6 : Addr) (p2 p4 p7 p8 p9 p11 p14 p15 : Int64) (k10 k13 : ClassId) (p12 : Int32) (h0 : Heap) (n0 : Nat) (Z0 : n0 <= h0.size) (B0 : BL Z h0 a3 (.long p4) (.ref a1)) (g_a3 : n0 <= a3) (B2 : BS Z h0 a1 (.ref a5) (.ref a6) (.long p4) (.long p7) (.int 1) (.long p8) (.int 2) (.long p9) (.int 0)) (g_a1 : n0 <= a1) (F0_4 : Arv Z h0 a5 k10 .long p12 [(.long p11), (.long p8)] (.long 0)) (g_a5 : n0 <= a5) (F0_6 : Arv Z h0 a6 k13 .long p12 [(.long p14), (.long p15)] (.long 0)) (g_a6 : n0 <= a6) (lt0_0 : a3 < a1) (lt0_1 : a1 < a5) (lt0_2 : a5 < a6) (hp0 : ¬ p4 < (1 : Int64)) (hp1 : ¬ (8 : Int64) < p4) (hp2 : ¬ p7 < (1 : Int64)) (hp3 : ¬ p12 < (2 : Int32)) (hp4 : ¬ (8 : Int32) < p12) (hd16 : p12 = p4.toInt32) :
    KMet l (⟨"com/example/halter/halter/SlidingSum", "at", "(J)J"⟩ : MethodName) prog_20_method_2_code 3 (some .long) ws R7_60 #[(.ref a1), (.long p2)] Z h0 R7_60.cells R7_60.slots (Q7_60 Z a1 a3 a5 a6 p2 p4 p7 p8 p9 p11 p14 p15 k10 k13 p12 h0 n0) := by
 refine k_body (plainFor_of_name pn_1) (fun m => ef8_7 m a1 p2) ?_
 intro p e s m below meth c s₁ hx D hml hlk hret hown hnm hZ X0 e0
 have N0 := Fr.nil n0
 obtain ⟨f0, f1, f2⟩ := B0
 obtain ⟨f3, f4, f5, f6, f7, f8, f9, f10, f11, f12⟩ := B2
 refine k_aloadN X0 hx 1 (D d7_0) rfl rfl ?_
 refine k_lloadN X0 hx 2 (D d7_1) rfl ?_
 refine k_callP X0 hx hZ hown 5 (a := a1) (k_w hw 49 rfl) (k_w hw 50 rfl) (k_w hw 51 rfl) (k_w hw 22 rfl) (k_w hw 23 rfl) (k_w hw 52 rfl) (by decide) f3 (rm8_61 l Z a0 hw [] a1 a3 a5 a6 p2 p4 p7 p8 p9 p11 p14 p15 k10 k13 p12 h0 n0 Z0 ⟨f0, f1, f2⟩ g_a3 ⟨f3, f4, f5, f6, f7, f8, f9, f10, f11, f12⟩ g_a1 F0_4 g_a5 F0_6 g_a6 lt0_0 lt0_1 lt0_2 hp0 hp1 hp2 hp3 hp4 hd16 (by have q := hp3; rw [hd16] at q; exact q) (by have q := hp4; rw [hd16] at q; exact q)) (by decide) (by decide) e0 (by rw [hml]; rfl) (argsL := [(.long p2)]) (rest := []) (lenOf pd_3 rfl) rfl (W := 0) (Nat.le_refl _) rfl (D d7_2) (by decide) (by decide) (fun T101 L101 r101 X101 q101 => ?_)
 obtain ⟨N101, q101⟩ := q101
 have N101' := Fr.app N0 N101
 rcases q101 with ⟨v102, v103, h104, h105, hc106, hc107, rfl, ⟨F108, F109, F110⟩, ⟨F111, F112, F113, F114, F115, F116, F117, F118, F119, F120⟩, F121, F122, Z123⟩ | ⟨v124, v125, v126, h127, h128, h129, hc130, hc131, rfl, ⟨F132, F133, F134⟩, ⟨F135, F136, F137, F138, F139, F140, F141, F142, F143, F144⟩, F145, F146, Z147⟩ | ⟨v148, v149, h150, h151, hc152, hc153, rfl, ⟨F154, F155, F156⟩, ⟨F157, F158, F159, F160, F161, F162, F163, F164, F165, F166⟩, F167, F168, Z169⟩ | ⟨v170, v171, v172, h173, h174, h175, hc176, hc177, hc178, rfl, ⟨F179, F180, F181⟩, ⟨F182, F183, F184, F185, F186, F187, F188, F189, F190, F191⟩, F192, F193, Z194⟩ | ⟨v195, v196, v197, v198, h199, h200, h201, h202, hc203, hc204, hc205, hc206, rfl, ⟨F207, F208, F209⟩, ⟨F210, F211, F212, F213, F214, F215, F216, F217, F218, F219⟩, F220, F221, Z222⟩ | ⟨v223, v224, v225, v226, h227, h228, h229, h230, hc231, hc232, hc233, hc234, rfl, ⟨F235, F236, F237⟩, ⟨F238, F239, F240, F241, F242, F243, F244, F245, F246, F247⟩, F248, F249, Z250⟩
 ·
  refine k_n0 ?_
  refine k_aloadN X101 hx 6 (D d7_5) rfl rfl ?_
  refine k_getF1 X101 hx hZ hown 9 (k_w hw 63 rfl) rfl F119 (D d7_6) (fun T251 X251 e251 => ?_)
  exact k_retL X251 hx hret (D d7_9) hlk (by decide) (by decide) (by rw [e251]; exact ⟨N101', (Or.inl ⟨v102, v103, h104, h105, hc106, hc107, rfl, ⟨F108, F109, F110⟩, ⟨F111, F112, F113, F114, F115, F116, F117, F118, F119, F120⟩, F121, F122, Z123⟩)⟩)
 ·
  refine k_n0 ?_
  refine k_aloadN X101 hx 6 (D d7_5) rfl rfl ?_
  refine k_getF1 X101 hx hZ hown 9 (k_w hw 63 rfl) rfl F143 (D d7_6) (fun T252 X252 e252 => ?_)
  exact k_retL X252 hx hret (D d7_9) hlk (by decide) (by decide) (by rw [e252]; exact ⟨N101', (Or.inr (Or.inl ⟨v124, v125, v126, h127, h128, h129, hc130, hc131, rfl, ⟨F132, F133, F134⟩, ⟨F135, F136, F137, F138, F139, F140, F141, F142, F143, F144⟩, F145, F146, Z147⟩))⟩)
 ·
  refine k_n0 ?_
  refine k_aloadN X101 hx 6 (D d7_5) rfl rfl ?_
  refine k_getF1 X101 hx hZ hown 9 (k_w hw 63 rfl) rfl F165 (D d7_6) (fun T253 X253 e253 => ?_)
  exact k_retL X253 hx hret (D d7_9) hlk (by decide) (by decide) (by rw [e253]; exact ⟨N101', (Or.inr (Or.inr (Or.inl ⟨v148, v149, h150, h151, hc152, hc153, rfl, ⟨F154, F155, F156⟩, ⟨F157, F158, F159, F160, F161, F162, F163, F164, F165, F166⟩, F167, F168, Z169⟩)))⟩)
 ·
  refine k_n0 ?_
  refine k_aloadN X101 hx 6 (D d7_5) rfl rfl ?_
  refine k_getF1 X101 hx hZ hown 9 (k_w hw 63 rfl) rfl F190 (D d7_6) (fun T254 X254 e254 => ?_)
  exact k_retL X254 hx hret (D d7_9) hlk (by decide) (by decide) (by rw [e254]; exact ⟨N101', (Or.inr (Or.inr (Or.inr (Or.inl ⟨v170, v171, v172, h173, h174, h175, hc176, hc177, hc178, rfl, ⟨F179, F180, F181⟩, ⟨F182, F183, F184, F185, F186, F187, F188, F189, F190, F191⟩, F192, F193, Z194⟩))))⟩)
 ·
  refine k_n0 ?_
  refine k_aloadN X101 hx 6 (D d7_5) rfl rfl ?_
  refine k_getF1 X101 hx hZ hown 9 (k_w hw 63 rfl) rfl F218 (D d7_6) (fun T255 X255 e255 => ?_)
  exact k_retL X255 hx hret (D d7_9) hlk (by decide) (by decide) (by rw [e255]; exact ⟨N101', (Or.inr (Or.inr (Or.inr (Or.inr (Or.inl ⟨v195, v196, v197, v198, h199, h200, h201, h202, hc203, hc204, hc205, hc206, rfl, ⟨F207, F208, F209⟩, ⟨F210, F211, F212, F213, F214, F215, F216, F217, F218, F219⟩, F220, F221, Z222⟩)))))⟩)
 ·
  refine k_n0 ?_
  refine k_aloadN X101 hx 6 (D d7_5) rfl rfl ?_
  refine k_getF1 X101 hx hZ hown 9 (k_w hw 63 rfl) rfl F246 (D d7_6) (fun T256 X256 e256 => ?_)
  exact k_retL X256 hx hret (D d7_9) hlk (by decide) (by decide) (by rw [e256]; exact ⟨N101', (Or.inr (Or.inr (Or.inr (Or.inr (Or.inr ⟨v223, v224, v225, v226, h227, h228, h229, h230, hc231, hc232, hc233, hc234, rfl, ⟨F235, F236, F237⟩, ⟨F238, F239, F240, F241, F242, F243, F244, F245, F246, F247⟩, F248, F249, Z250⟩)))))⟩)
abbrev R6_59 : Room := { frames := 4, cells := 0, slots := 0, locals := 56 }
def Q6_59 (Z : State) (a1 a4 a5 a6 : Addr) (p2 p3 p7 p8 p9 p11 p14 p15 : Int64) (k10 k13 : ClassId) (p12 : Int32) (h0 : Heap) (n0 : Nat) (v : Option Value) (h : Heap) (L : List Loc) : Prop := Fr n0 L /\ ((∃ (v103 : Int64) (v104 : Int64), v103 = p2 - p8 /\ v104 = p8 - p11 /\ ¬ (0 : Int64) < v103 /\ v104 < p7 /\ ¬ p9 = (0 : Int64) /\ v = some (.int 0) /\ BL Z h a1 (.long p3) (.ref a4) /\ BS Z h a4 (.ref a5) (.ref a6) (.long p3) (.long p7) (.int 1) (.long p8) (.int 2) (.long p9) (.int 0) /\ Arv Z h a5 k10 .long p12 [(.long p11), (.long p8)] (.long 0) /\ Arv Z h a6 k13 .long p12 [(.long p14), (.long p15)] (.long 0) /\ n0 <= h.size) \/ (∃ (v103 : Int64) (v104 : Int64), v103 = p2 - p8 /\ v104 = p8 - p11 /\ ¬ (0 : Int64) < v103 /\ v104 < p7 /\ p9 = (0 : Int64) /\ v = some (.int 1) /\ BL Z h a1 (.long p3) (.ref a4) /\ BS Z h a4 (.ref a5) (.ref a6) (.long p3) (.long p7) (.int 1) (.long p8) (.int 2) (.long p9) (.int 0) /\ Arv Z h a5 k10 .long p12 [(.long p11), (.long p8)] (.long 0) /\ Arv Z h a6 k13 .long p12 [(.long p14), (.long p15)] (.long 0) /\ n0 <= h.size) \/ (∃ (v125 : Int64) (v126 : Int64) (v127 : Int64), v125 = p2 - p8 /\ v126 = p8 - p11 /\ v127 = p9 - p14 /\ ¬ (0 : Int64) < v125 /\ ¬ v126 < p7 /\ ¬ v127 = (0 : Int64) /\ v = some (.int 0) /\ BL Z h a1 (.long p3) (.ref a4) /\ BS Z h a4 (.ref a5) (.ref a6) (.long p3) (.long p7) (.int 1) (.long p8) (.int 1) (.long v127) (.int 1) /\ Arv Z h a5 k10 .long p12 [(.long p11), (.long p8)] (.long 0) /\ Arv Z h a6 k13 .long p12 [(.long p14), (.long p15)] (.long 0) /\ n0 <= h.size) \/ (∃ (v125 : Int64) (v126 : Int64) (v127 : Int64), v125 = p2 - p8 /\ v126 = p8 - p11 /\ v127 = p9 - p14 /\ ¬ (0 : Int64) < v125 /\ ¬ v126 < p7 /\ v127 = (0 : Int64) /\ v = some (.int 1) /\ BL Z h a1 (.long p3) (.ref a4) /\ BS Z h a4 (.ref a5) (.ref a6) (.long p3) (.long p7) (.int 1) (.long p8) (.int 1) (.long v127) (.int 1) /\ Arv Z h a5 k10 .long p12 [(.long p11), (.long p8)] (.long 0) /\ Arv Z h a6 k13 .long p12 [(.long p14), (.long p15)] (.long 0) /\ n0 <= h.size) \/ (∃ (v149 : Int64) (v150 : Int64), v149 = p2 - p8 /\ v150 = p2 - p11 /\ (0 : Int64) < v149 /\ v150 < p7 /\ ¬ p9 = (0 : Int64) /\ v = some (.int 0) /\ BL Z h a1 (.long p3) (.ref a4) /\ BS Z h a4 (.ref a5) (.ref a6) (.long p3) (.long p7) (.int 1) (.long p2) (.int 2) (.long p9) (.int 0) /\ Arv Z h a5 k10 .long p12 [(.long p11), (.long p8)] (.long 0) /\ Arv Z h a6 k13 .long p12 [(.long p14), (.long p15)] (.long 0) /\ n0 <= h.size) \/ (∃ (v149 : Int64) (v150 : Int64), v149 = p2 - p8 /\ v150 = p2 - p11 /\ (0 : Int64) < v149 /\ v150 < p7 /\ p9 = (0 : Int64) /\ v = some (.int 1) /\ BL Z h a1 (.long p3) (.ref a4) /\ BS Z h a4 (.ref a5) (.ref a6) (.long p3) (.long p7) (.int 1) (.long p2) (.int 2) (.long p9) (.int 0) /\ Arv Z h a5 k10 .long p12 [(.long p11), (.long p8)] (.long 0) /\ Arv Z h a6 k13 .long p12 [(.long p14), (.long p15)] (.long 0) /\ n0 <= h.size) \/ (∃ (v171 : Int64) (v172 : Int64) (v173 : Int64), v171 = p2 - p8 /\ v172 = p2 - p11 /\ v173 = p9 - p14 /\ (0 : Int64) < v171 /\ ¬ v172 < p7 /\ v171 < p7 /\ ¬ v173 = (0 : Int64) /\ v = some (.int 0) /\ BL Z h a1 (.long p3) (.ref a4) /\ BS Z h a4 (.ref a5) (.ref a6) (.long p3) (.long p7) (.int 1) (.long p2) (.int 1) (.long v173) (.int 1) /\ Arv Z h a5 k10 .long p12 [(.long p11), (.long p8)] (.long 0) /\ Arv Z h a6 k13 .long p12 [(.long p14), (.long p15)] (.long 0) /\ n0 <= h.size) \/ (∃ (v171 : Int64) (v172 : Int64) (v173 : Int64), v171 = p2 - p8 /\ v172 = p2 - p11 /\ v173 = p9 - p14 /\ (0 : Int64) < v171 /\ ¬ v172 < p7 /\ v171 < p7 /\ v173 = (0 : Int64) /\ v = some (.int 1) /\ BL Z h a1 (.long p3) (.ref a4) /\ BS Z h a4 (.ref a5) (.ref a6) (.long p3) (.long p7) (.int 1) (.long p2) (.int 1) (.long v173) (.int 1) /\ Arv Z h a5 k10 .long p12 [(.long p11), (.long p8)] (.long 0) /\ Arv Z h a6 k13 .long p12 [(.long p14), (.long p15)] (.long 0) /\ n0 <= h.size) \/ (∃ (v196 : Int64) (v197 : Int64) (v198 : Int64) (v199 : Int64), v196 = p2 - p8 /\ v197 = p2 - p11 /\ v198 = p9 - p14 /\ v199 = v198 - p15 /\ (0 : Int64) < v196 /\ ¬ v197 < p7 /\ ¬ v196 < p7 /\ ¬ (2 : Int32) < p12 /\ ¬ v199 = (0 : Int64) /\ v = some (.int 0) /\ BL Z h a1 (.long p3) (.ref a4) /\ BS Z h a4 (.ref a5) (.ref a6) (.long p3) (.long p7) (.int 1) (.long p2) (.int 0) (.long v199) (.int 0) /\ Arv Z h a5 k10 .long p12 [(.long p11), (.long p8)] (.long 0) /\ Arv Z h a6 k13 .long p12 [(.long p14), (.long p15)] (.long 0) /\ n0 <= h.size) \/ (∃ (v196 : Int64) (v197 : Int64) (v198 : Int64) (v199 : Int64), v196 = p2 - p8 /\ v197 = p2 - p11 /\ v198 = p9 - p14 /\ v199 = v198 - p15 /\ (0 : Int64) < v196 /\ ¬ v197 < p7 /\ ¬ v196 < p7 /\ ¬ (2 : Int32) < p12 /\ v199 = (0 : Int64) /\ v = some (.int 1) /\ BL Z h a1 (.long p3) (.ref a4) /\ BS Z h a4 (.ref a5) (.ref a6) (.long p3) (.long p7) (.int 1) (.long p2) (.int 0) (.long v199) (.int 0) /\ Arv Z h a5 k10 .long p12 [(.long p11), (.long p8)] (.long 0) /\ Arv Z h a6 k13 .long p12 [(.long p14), (.long p15)] (.long 0) /\ n0 <= h.size) \/ (∃ (v224 : Int64) (v225 : Int64) (v226 : Int64) (v227 : Int64), v224 = p2 - p8 /\ v225 = p2 - p11 /\ v226 = p9 - p14 /\ v227 = v226 - p15 /\ (0 : Int64) < v224 /\ ¬ v225 < p7 /\ ¬ v224 < p7 /\ (2 : Int32) < p12 /\ ¬ v227 = (0 : Int64) /\ v = some (.int 0) /\ BL Z h a1 (.long p3) (.ref a4) /\ BS Z h a4 (.ref a5) (.ref a6) (.long p3) (.long p7) (.int 1) (.long p2) (.int 0) (.long v227) (.int 2) /\ Arv Z h a5 k10 .long p12 [(.long p11), (.long p8)] (.long 0) /\ Arv Z h a6 k13 .long p12 [(.long p14), (.long p15)] (.long 0) /\ n0 <= h.size) \/ (∃ (v224 : Int64) (v225 : Int64) (v226 : Int64) (v227 : Int64), v224 = p2 - p8 /\ v225 = p2 - p11 /\ v226 = p9 - p14 /\ v227 = v226 - p15 /\ (0 : Int64) < v224 /\ ¬ v225 < p7 /\ ¬ v224 < p7 /\ (2 : Int32) < p12 /\ v227 = (0 : Int64) /\ v = some (.int 1) /\ BL Z h a1 (.long p3) (.ref a4) /\ BS Z h a4 (.ref a5) (.ref a6) (.long p3) (.long p7) (.int 1) (.long p2) (.int 0) (.long v227) (.int 2) /\ Arv Z h a5 k10 .long p12 [(.long p11), (.long p8)] (.long 0) /\ Arv Z h a6 k13 .long p12 [(.long p14), (.long p15)] (.long 0) /\ n0 <= h.size))
theorem rm6_59 (l : Launch) (Z : State) (a0 : Array Value) (hw : WW a0 Z) (ws : List Jvm.Cond) (a1 a4 a5 a6 : Addr) (p2 p3 p7 p8 p9 p11 p14 p15 : Int64) (k10 k13 : ClassId) (p12 : Int32) (h0 : Heap) (n0 : Nat) (Z0 : n0 <= h0.size) (B0 : BL Z h0 a1 (.long p3) (.ref a4)) (g_a1 : n0 <= a1) (B2 : BS Z h0 a4 (.ref a5) (.ref a6) (.long p3) (.long p7) (.int 1) (.long p8) (.int 2) (.long p9) (.int 0)) (g_a4 : n0 <= a4) (F0_4 : Arv Z h0 a5 k10 .long p12 [(.long p11), (.long p8)] (.long 0)) (g_a5 : n0 <= a5) (F0_6 : Arv Z h0 a6 k13 .long p12 [(.long p14), (.long p15)] (.long 0)) (g_a6 : n0 <= a6) (lt0_0 : a1 < a4) (lt0_1 : a4 < a5) (lt0_2 : a5 < a6) (hp0 : ¬ p3 < (1 : Int64)) (hp1 : ¬ (8 : Int64) < p3) (hp2 : ¬ p7 < (1 : Int64)) (hp3 : ¬ p12 < (2 : Int32)) (hp4 : ¬ (8 : Int32) < p12) (hd16 : p12 = p3.toInt32) :
    KMet l (⟨"com/example/halter/halter/SlidingLogLimiter$Log", "idleAt", "(J)Z"⟩ : MethodName) prog_18_method_3_code 3 (some .boolean) ws R6_59 #[(.ref a1), (.long p2)] Z h0 R6_59.cells R6_59.slots (Q6_59 Z a1 a4 a5 a6 p2 p3 p7 p8 p9 p11 p14 p15 k10 k13 p12 h0 n0) := by
 refine k_body (plainFor_of_name pn_2) (fun m => ef8_7 m a1 p2) ?_
 intro p e s m below meth c s₁ hx D hml hlk hret hown hnm hZ X0 e0
 have N0 := Fr.nil n0
 obtain ⟨f0, f1, f2⟩ := B0
 obtain ⟨f3, f4, f5, f6, f7, f8, f9, f10, f11, f12⟩ := B2
 refine k_aloadN X0 hx 1 (D d6_0) rfl rfl ?_
 refine k_getF1 X0 hx hZ hown 4 (k_w hw 37 rfl) e0 f2 (D d6_1) (fun T101 X101 e101 => ?_)
 refine k_lloadN X101 hx 5 (D d6_4) rfl ?_
 refine k_callV X101 hx hZ hown 8 (a := a4) (k_w hw 44 rfl) (k_w hw 45 rfl) (k_w hw 47 rfl) (k_w hw 46 rfl) (k_w hw 23 rfl) (k_w hw 48 rfl) (by decide) f3 (rm7_60 l Z a0 hw [] a4 a1 a5 a6 p2 p3 p7 p8 p9 p11 p14 p15 k10 k13 p12 h0 n0 Z0 ⟨f0, f1, f2⟩ g_a1 ⟨f3, f4, f5, f6, f7, f8, f9, f10, f11, f12⟩ g_a4 F0_4 g_a5 F0_6 g_a6 lt0_0 lt0_1 lt0_2 hp0 hp1 hp2 hp3 hp4 hd16) (by decide) (by decide) e101 (by rw [hml]; rfl) (argsL := [(.long p2)]) (rest := []) (lenOf pd_4 rfl) rfl (W := 0) (Nat.le_refl _) rfl (D d6_5) (by decide) (by decide) (fun T102 L102 r102 X102 q102 => ?_)
 obtain ⟨N102, q102⟩ := q102
 have N102' := Fr.app N0 N102
 rcases q102 with ⟨v103, v104, h105, h106, hc107, hc108, rfl, ⟨F109, F110, F111⟩, ⟨F112, F113, F114, F115, F116, F117, F118, F119, F120, F121⟩, F122, F123, Z124⟩ | ⟨v125, v126, v127, h128, h129, h130, hc131, hc132, rfl, ⟨F133, F134, F135⟩, ⟨F136, F137, F138, F139, F140, F141, F142, F143, F144, F145⟩, F146, F147, Z148⟩ | ⟨v149, v150, h151, h152, hc153, hc154, rfl, ⟨F155, F156, F157⟩, ⟨F158, F159, F160, F161, F162, F163, F164, F165, F166, F167⟩, F168, F169, Z170⟩ | ⟨v171, v172, v173, h174, h175, h176, hc177, hc178, hc179, rfl, ⟨F180, F181, F182⟩, ⟨F183, F184, F185, F186, F187, F188, F189, F190, F191, F192⟩, F193, F194, Z195⟩ | ⟨v196, v197, v198, v199, h200, h201, h202, h203, hc204, hc205, hc206, hc207, rfl, ⟨F208, F209, F210⟩, ⟨F211, F212, F213, F214, F215, F216, F217, F218, F219, F220⟩, F221, F222, Z223⟩ | ⟨v224, v225, v226, v227, h228, h229, h230, h231, hc232, hc233, hc234, hc235, rfl, ⟨F236, F237, F238⟩, ⟨F239, F240, F241, F242, F243, F244, F245, F246, F247, F248⟩, F249, F250, Z251⟩
 ·
  refine k_n1 ?_
  refine k_lconst X102 hx 9 (D d6_8) (z := (0 : Int64)) rfl ?_
  refine k_lcif_ne X102 hx 13 17 10 (D d6_9) (D d6_10) (fun hc252 => ?_) (fun hc252 => ?_)
  ·
   refine k_iconst X102 hx 18 (D d6_17) (z := (0 : Int32)) rfl ?_
   exact k_retN X102 hx (t := .boolean) hret (by simp) (D d6_18) hlk (by decide) (by decide) (z' := (0 : Int32)) rfl ⟨N102', (Or.inl ⟨v103, v104, h105, h106, hc107, hc108, hc252, rfl, ⟨F109, F110, F111⟩, ⟨F112, F113, F114, F115, F116, F117, F118, F119, F120, F121⟩, F122, F123, Z124⟩)⟩
  ·
   refine k_iconst X102 hx 14 (D d6_13) (z := (1 : Int32)) rfl ?_
   refine k_goto X102 hx 18 (D d6_14) ?_
   exact k_retN X102 hx (t := .boolean) hret (by simp) (D d6_18) hlk (by decide) (by decide) (z' := (1 : Int32)) rfl ⟨N102', (Or.inr (Or.inl ⟨v103, v104, h105, h106, hc107, hc108, hc252, rfl, ⟨F109, F110, F111⟩, ⟨F112, F113, F114, F115, F116, F117, F118, F119, F120, F121⟩, F122, F123, Z124⟩))⟩
 ·
  refine k_n1 ?_
  refine k_lconst X102 hx 9 (D d6_8) (z := (0 : Int64)) rfl ?_
  refine k_lcif_ne X102 hx 13 17 10 (D d6_9) (D d6_10) (fun hc253 => ?_) (fun hc253 => ?_)
  ·
   refine k_iconst X102 hx 18 (D d6_17) (z := (0 : Int32)) rfl ?_
   exact k_retN X102 hx (t := .boolean) hret (by simp) (D d6_18) hlk (by decide) (by decide) (z' := (0 : Int32)) rfl ⟨N102', (Or.inr (Or.inr (Or.inl ⟨v125, v126, v127, h128, h129, h130, hc131, hc132, hc253, rfl, ⟨F133, F134, F135⟩, ⟨F136, F137, F138, F139, F140, F141, F142, F143, F144, F145⟩, F146, F147, Z148⟩)))⟩
  ·
   refine k_iconst X102 hx 14 (D d6_13) (z := (1 : Int32)) rfl ?_
   refine k_goto X102 hx 18 (D d6_14) ?_
   exact k_retN X102 hx (t := .boolean) hret (by simp) (D d6_18) hlk (by decide) (by decide) (z' := (1 : Int32)) rfl ⟨N102', (Or.inr (Or.inr (Or.inr (Or.inl ⟨v125, v126, v127, h128, h129, h130, hc131, hc132, hc253, rfl, ⟨F133, F134, F135⟩, ⟨F136, F137, F138, F139, F140, F141, F142, F143, F144, F145⟩, F146, F147, Z148⟩))))⟩
 ·
  refine k_n1 ?_
  refine k_lconst X102 hx 9 (D d6_8) (z := (0 : Int64)) rfl ?_
  refine k_lcif_ne X102 hx 13 17 10 (D d6_9) (D d6_10) (fun hc254 => ?_) (fun hc254 => ?_)
  ·
   refine k_iconst X102 hx 18 (D d6_17) (z := (0 : Int32)) rfl ?_
   exact k_retN X102 hx (t := .boolean) hret (by simp) (D d6_18) hlk (by decide) (by decide) (z' := (0 : Int32)) rfl ⟨N102', (Or.inr (Or.inr (Or.inr (Or.inr (Or.inl ⟨v149, v150, h151, h152, hc153, hc154, hc254, rfl, ⟨F155, F156, F157⟩, ⟨F158, F159, F160, F161, F162, F163, F164, F165, F166, F167⟩, F168, F169, Z170⟩)))))⟩
  ·
   refine k_iconst X102 hx 14 (D d6_13) (z := (1 : Int32)) rfl ?_
   refine k_goto X102 hx 18 (D d6_14) ?_
   exact k_retN X102 hx (t := .boolean) hret (by simp) (D d6_18) hlk (by decide) (by decide) (z' := (1 : Int32)) rfl ⟨N102', (Or.inr (Or.inr (Or.inr (Or.inr (Or.inr (Or.inl ⟨v149, v150, h151, h152, hc153, hc154, hc254, rfl, ⟨F155, F156, F157⟩, ⟨F158, F159, F160, F161, F162, F163, F164, F165, F166, F167⟩, F168, F169, Z170⟩))))))⟩
 ·
  refine k_n1 ?_
  refine k_lconst X102 hx 9 (D d6_8) (z := (0 : Int64)) rfl ?_
  refine k_lcif_ne X102 hx 13 17 10 (D d6_9) (D d6_10) (fun hc255 => ?_) (fun hc255 => ?_)
  ·
   refine k_iconst X102 hx 18 (D d6_17) (z := (0 : Int32)) rfl ?_
   exact k_retN X102 hx (t := .boolean) hret (by simp) (D d6_18) hlk (by decide) (by decide) (z' := (0 : Int32)) rfl ⟨N102', (Or.inr (Or.inr (Or.inr (Or.inr (Or.inr (Or.inr (Or.inl ⟨v171, v172, v173, h174, h175, h176, hc177, hc178, hc179, hc255, rfl, ⟨F180, F181, F182⟩, ⟨F183, F184, F185, F186, F187, F188, F189, F190, F191, F192⟩, F193, F194, Z195⟩)))))))⟩
  ·
   refine k_iconst X102 hx 14 (D d6_13) (z := (1 : Int32)) rfl ?_
   refine k_goto X102 hx 18 (D d6_14) ?_
   exact k_retN X102 hx (t := .boolean) hret (by simp) (D d6_18) hlk (by decide) (by decide) (z' := (1 : Int32)) rfl ⟨N102', (Or.inr (Or.inr (Or.inr (Or.inr (Or.inr (Or.inr (Or.inr (Or.inl ⟨v171, v172, v173, h174, h175, h176, hc177, hc178, hc179, hc255, rfl, ⟨F180, F181, F182⟩, ⟨F183, F184, F185, F186, F187, F188, F189, F190, F191, F192⟩, F193, F194, Z195⟩))))))))⟩
 ·
  refine k_n1 ?_
  refine k_lconst X102 hx 9 (D d6_8) (z := (0 : Int64)) rfl ?_
  refine k_lcif_ne X102 hx 13 17 10 (D d6_9) (D d6_10) (fun hc256 => ?_) (fun hc256 => ?_)
  ·
   refine k_iconst X102 hx 18 (D d6_17) (z := (0 : Int32)) rfl ?_
   exact k_retN X102 hx (t := .boolean) hret (by simp) (D d6_18) hlk (by decide) (by decide) (z' := (0 : Int32)) rfl ⟨N102', (Or.inr (Or.inr (Or.inr (Or.inr (Or.inr (Or.inr (Or.inr (Or.inr (Or.inl ⟨v196, v197, v198, v199, h200, h201, h202, h203, hc204, hc205, hc206, hc207, hc256, rfl, ⟨F208, F209, F210⟩, ⟨F211, F212, F213, F214, F215, F216, F217, F218, F219, F220⟩, F221, F222, Z223⟩)))))))))⟩
  ·
   refine k_iconst X102 hx 14 (D d6_13) (z := (1 : Int32)) rfl ?_
   refine k_goto X102 hx 18 (D d6_14) ?_
   exact k_retN X102 hx (t := .boolean) hret (by simp) (D d6_18) hlk (by decide) (by decide) (z' := (1 : Int32)) rfl ⟨N102', (Or.inr (Or.inr (Or.inr (Or.inr (Or.inr (Or.inr (Or.inr (Or.inr (Or.inr (Or.inl ⟨v196, v197, v198, v199, h200, h201, h202, h203, hc204, hc205, hc206, hc207, hc256, rfl, ⟨F208, F209, F210⟩, ⟨F211, F212, F213, F214, F215, F216, F217, F218, F219, F220⟩, F221, F222, Z223⟩))))))))))⟩
 ·
  refine k_n1 ?_
  refine k_lconst X102 hx 9 (D d6_8) (z := (0 : Int64)) rfl ?_
  refine k_lcif_ne X102 hx 13 17 10 (D d6_9) (D d6_10) (fun hc257 => ?_) (fun hc257 => ?_)
  ·
   refine k_iconst X102 hx 18 (D d6_17) (z := (0 : Int32)) rfl ?_
   exact k_retN X102 hx (t := .boolean) hret (by simp) (D d6_18) hlk (by decide) (by decide) (z' := (0 : Int32)) rfl ⟨N102', (Or.inr (Or.inr (Or.inr (Or.inr (Or.inr (Or.inr (Or.inr (Or.inr (Or.inr (Or.inr (Or.inl ⟨v224, v225, v226, v227, h228, h229, h230, h231, hc232, hc233, hc234, hc235, hc257, rfl, ⟨F236, F237, F238⟩, ⟨F239, F240, F241, F242, F243, F244, F245, F246, F247, F248⟩, F249, F250, Z251⟩)))))))))))⟩
  ·
   refine k_iconst X102 hx 14 (D d6_13) (z := (1 : Int32)) rfl ?_
   refine k_goto X102 hx 18 (D d6_14) ?_
   exact k_retN X102 hx (t := .boolean) hret (by simp) (D d6_18) hlk (by decide) (by decide) (z' := (1 : Int32)) rfl ⟨N102', (Or.inr (Or.inr (Or.inr (Or.inr (Or.inr (Or.inr (Or.inr (Or.inr (Or.inr (Or.inr (Or.inr ⟨v224, v225, v226, v227, h228, h229, h230, h231, hc232, hc233, hc234, hc235, hc257, rfl, ⟨F236, F237, F238⟩, ⟨F239, F240, F241, F242, F243, F244, F245, F246, F247, F248⟩, F249, F250, Z251⟩)))))))))))⟩
abbrev R9_70 : Room := { frames := 0, cells := 0, slots := 0, locals := 0 }
def Q9_70 (Z : State) (a1 a2 a4 a5 : Addr) (p3 p6 p7 p9 p12 : Int64) (k8 k11 : ClassId) (p10 : Int32) (h0 : Heap) (n0 : Nat) (v : Option Value) (h : Heap) (L : List Loc) : Prop := Fr n0 L /\ ((v = none /\ BL Z h a2 (.long p3) (.ref a1) /\ BS Z h a1 (.ref a4) (.ref a5) (.long p3) (.long p6) (.int 1) (.long p7) (.int 0) (.long 0) (.int 0) /\ Arv Z h a4 k8 .long p10 [(.long p9), (.long 0)] (.long 0) /\ Arv Z h a5 k11 .long p10 [(.long p12), (.long 0)] (.long 0) /\ n0 <= h.size))
theorem rm9_70 (l : Launch) (Z : State) (a0 : Array Value) (hw : WW a0 Z) (ws : List Jvm.Cond) (a1 a2 a4 a5 : Addr) (p3 p6 p7 p9 p12 : Int64) (k8 k11 : ClassId) (p10 : Int32) (h0 : Heap) (n0 : Nat) (Z0 : n0 <= h0.size) (B0 : BL Z h0 a2 (.long p3) (.ref a1)) (g_a2 : n0 <= a2) (B2 : BS Z h0 a1 (.ref a4) (.ref a5) (.long p3) (.long p6) (.int 1) (.long p7) (.int 0) (.long 0) (.int 0)) (g_a1 : n0 <= a1) (F0_4 : Arv Z h0 a4 k8 .long p10 [(.long p9), (.long 0)] (.long 0)) (g_a4 : n0 <= a4) (F0_6 : Arv Z h0 a5 k11 .long p10 [(.long p12), (.long 0)] (.long 0)) (g_a5 : n0 <= a5) (lt0_0 : a2 < a1) (lt0_1 : a1 < a4) (lt0_2 : a4 < a5) (hp0 : ¬ p3 < (1 : Int64)) (hp1 : ¬ (8 : Int64) < p3) (hp2 : ¬ p6 < (1 : Int64)) (hp3 : ¬ p10 < (1 : Int32)) (hp4 : ¬ (8 : Int32) < p10) (hd16 : p10 = p3.toInt32) (hx17 : ¬ (p3.toInt32) < (1 : Int32)) (hx18 : ¬ (8 : Int32) < (p3.toInt32)) :
    KMet l (⟨"com/example/halter/halter/SlidingSum", "forgetWhatLeftTheWindow", "()V"⟩ : MethodName) prog_20_method_8_code 2 none ws R9_70 #[(.ref a1)] Z h0 R9_70.cells R9_70.slots (Q9_70 Z a1 a2 a4 a5 p3 p6 p7 p9 p12 k8 k11 p10 h0 n0) := by
 refine k_body (plainFor_of_name pn_1) (fun m => ef9_8 m a1) ?_
 intro p e s m below meth c s₁ hx D hml hlk hret hown hnm hZ X0 e0
 have N0 := Fr.nil n0
 obtain ⟨f0, f1, f2⟩ := B0
 obtain ⟨f3, f4, f5, f6, f7, f8, f9, f10, f11, f12⟩ := B2
 refine k_aloadN X0 hx 1 (D d9_0) rfl rfl ?_
 refine k_getF1 X0 hx hZ hown 4 (k_w hw 61 rfl) e0 f10 (D d9_1) (fun T101 X101 e101 => ?_)
 refine k_if_le X101 hx 7 69 (D d9_4) (fun _ => ?_) (fun hc => absurd hc (by decide))
 refine k_aloadN X101 hx 70 (D d9_69) rfl rfl ?_
 refine k_getF1 X101 hx hZ hown 73 (k_w hw 29 rfl) e101 f4 (D d9_70) (fun T102 X102 e102 => ?_)
 refine k_alen X102 hx hZ 74 e102 F0_4 (D d9_73) ?_
 refine k_istoreN X102 hx 75 (D d9_74) (Ls' := #[rv a1, iv p10]) rfl ?_
 refine k_iloadN X102 hx 76 (D d9_75) rfl ?_
 refine k_bipush X102 hx 78 (D d9_76) (z := (8 : Int32)) rfl ?_
 refine k_icmp_le X102 hx 81 98 (D d9_78) (fun _ => ?_) (fun hc => absurd hc hp4)
 refine k_iloadN X102 hx 99 (D d9_98) rfl ?_
 refine k_aloadN X102 hx 100 (D d9_99) rfl rfl ?_
 refine k_getF1 X102 hx hZ hown 103 (k_w hw 29 rfl) e102 f4 (D d9_100) (fun T103 X103 e103 => ?_)
 refine k_alen X103 hx hZ 104 e103 F0_4 (D d9_103) ?_
 refine k_icmp_eq X103 hx 107 112 (D d9_104) (fun _ => ?_) (fun hc => absurd rfl hc)
 exact k_ret X103 hx hret (D d9_112) hlk (by decide) (by decide) (by rw [e103]; exact ⟨N0, ⟨rfl, ⟨f0, f1, f2⟩, ⟨f3, f4, f5, f6, f7, f8, f9, f10, f11, f12⟩, F0_4, F0_6, Z0⟩⟩)
abbrev R8_69 : Room := { frames := 1, cells := 0, slots := 0, locals := 13 }
def Q8_69 (Z : State) (a1 a3 a5 a6 : Addr) (p2 p4 p7 p8 p10 p13 : Int64) (k9 k12 : ClassId) (p11 : Int32) (h0 : Heap) (n0 : Nat) (v : Option Value) (h : Heap) (L : List Loc) : Prop := Fr n0 L /\ ((∃ (v103 : Int64), v103 = p2 - p8 /\ ¬ (0 : Int64) < v103 /\ v = none /\ BL Z h a3 (.long p4) (.ref a1) /\ BS Z h a1 (.ref a5) (.ref a6) (.long p4) (.long p7) (.int 1) (.long p8) (.int 0) (.long 0) (.int 0) /\ Arv Z h a5 k9 .long p11 [(.long p10), (.long 0)] (.long 0) /\ Arv Z h a6 k12 .long p11 [(.long p13), (.long 0)] (.long 0) /\ n0 <= h.size) \/ (∃ (v103 : Int64), v103 = p2 - p8 /\ (0 : Int64) < v103 /\ v = none /\ BL Z h a3 (.long p4) (.ref a1) /\ BS Z h a1 (.ref a5) (.ref a6) (.long p4) (.long p7) (.int 1) (.long p2) (.int 0) (.long 0) (.int 0) /\ Arv Z h a5 k9 .long p11 [(.long p10), (.long 0)] (.long 0) /\ Arv Z h a6 k12 .long p11 [(.long p13), (.long 0)] (.long 0) /\ n0 <= h.size))
theorem rm8_69 (l : Launch) (Z : State) (a0 : Array Value) (hw : WW a0 Z) (ws : List Jvm.Cond) (a1 a3 a5 a6 : Addr) (p2 p4 p7 p8 p10 p13 : Int64) (k9 k12 : ClassId) (p11 : Int32) (h0 : Heap) (n0 : Nat) (Z0 : n0 <= h0.size) (B0 : BL Z h0 a3 (.long p4) (.ref a1)) (g_a3 : n0 <= a3) (B2 : BS Z h0 a1 (.ref a5) (.ref a6) (.long p4) (.long p7) (.int 1) (.long p8) (.int 0) (.long 0) (.int 0)) (g_a1 : n0 <= a1) (F0_4 : Arv Z h0 a5 k9 .long p11 [(.long p10), (.long 0)] (.long 0)) (g_a5 : n0 <= a5) (F0_6 : Arv Z h0 a6 k12 .long p11 [(.long p13), (.long 0)] (.long 0)) (g_a6 : n0 <= a6) (lt0_0 : a3 < a1) (lt0_1 : a1 < a5) (lt0_2 : a5 < a6) (hp0 : ¬ p4 < (1 : Int64)) (hp1 : ¬ (8 : Int64) < p4) (hp2 : ¬ p7 < (1 : Int64)) (hp3 : ¬ p11 < (1 : Int32)) (hp4 : ¬ (8 : Int32) < p11) (hd16 : p11 = p4.toInt32) (hx17 : ¬ (p4.toInt32) < (1 : Int32)) (hx18 : ¬ (8 : Int32) < (p4.toInt32)) :
    KMet l (⟨"com/example/halter/halter/SlidingSum", "catchUp", "(J)V"⟩ : MethodName) prog_20_method_7_code 3 none ws R8_69 #[(.ref a1), (.long p2)] Z h0 R8_69.cells R8_69.slots (Q8_69 Z a1 a3 a5 a6 p2 p4 p7 p8 p10 p13 k9 k12 p11 h0 n0) := by
 refine k_body (plainFor_of_name pn_1) (fun m => ef8_7 m a1 p2) ?_
 intro p e s m below meth c s₁ hx D hml hlk hret hown hnm hZ X0 e0
 have N0 := Fr.nil n0
 obtain ⟨f0, f1, f2⟩ := B0
 obtain ⟨f3, f4, f5, f6, f7, f8, f9, f10, f11, f12⟩ := B2
 refine k_aloadN X0 hx 1 (D d8_0) rfl rfl ?_
 refine k_getF1 X0 hx hZ hown 4 (k_w hw 53 rfl) e0 f8 (D d8_1) (fun T101 X101 e101 => ?_)
 refine k_if_eq X101 hx 7 18 (D d8_4) (fun hc => absurd hc (by decide)) (fun _ => ?_)
 refine k_lloadN X101 hx 8 (D d8_7) rfl ?_
 refine k_aloadN X101 hx 9 (D d8_8) rfl rfl ?_
 refine k_getF1 X101 hx hZ hown 12 (k_w hw 55 rfl) e101 f9 (D d8_9) (fun T102 X102 e102 => ?_)
 refine k_lsub X102 hx 13 (D d8_12) (fun v103 hv103 => ?_)
 refine k_lconst X102 hx 14 (D d8_13) (z := (0 : Int64)) rfl ?_
 refine k_lcif_le X102 hx 18 28 15 (D d8_14) (D d8_15) (fun hc104 => ?_) (fun hc104 => ?_)
 ·
  refine k_aloadN X102 hx 29 (D d8_28) rfl rfl ?_
  refine k_callP X102 hx hZ hown 32 (a := a1) (k_w hw 57 rfl) (k_w hw 58 rfl) (k_w hw 59 rfl) (k_w hw 22 rfl) (k_w hw 23 rfl) (k_w hw 60 rfl) (by decide) f3 (rm9_70 l Z a0 hw [] a1 a3 a5 a6 p4 p7 p8 p10 p13 k9 k12 p11 h0 n0 Z0 ⟨f0, f1, f2⟩ g_a3 ⟨f3, f4, f5, f6, f7, f8, f9, f10, f11, f12⟩ g_a1 F0_4 g_a5 F0_6 g_a6 lt0_0 lt0_1 lt0_2 hp0 hp1 hp2 hp3 hp4 hd16 (by have q := hp3; rw [hd16] at q; exact q) (by have q := hp4; rw [hd16] at q; exact q)) (by decide) (by decide) e102 (by rw [hml]; rfl) (argsL := []) (rest := []) (lenOf pd_1 rfl) rfl (W := 0) (Nat.le_refl _) rfl (D d8_29) (by decide) (by decide) (fun T105 L105 r105 X105 q105 => ?_)
  obtain ⟨N105, q105⟩ := q105
  have N105' := Fr.app N0 N105
  obtain ⟨rfl, ⟨F106, F107, F108⟩, ⟨F109, F110, F111, F112, F113, F114, F115, F116, F117, F118⟩, F119, F120, Z121⟩ := q105
  refine k_n0 ?_
  exact k_ret X105 hx hret (D d8_32) hlk (by decide) (by decide) ⟨N105', (Or.inl ⟨v103, hv103, hc104, rfl, ⟨F106, F107, F108⟩, ⟨F109, F110, F111, F112, F113, F114, F115, F116, F117, F118⟩, F119, F120, Z121⟩)⟩
 ·
  refine k_aloadN X102 hx 19 (D d8_18) rfl rfl ?_
  refine k_lloadN X102 hx 20 (D d8_19) rfl ?_
  refine k_putF1 X102 hx hZ hown 23 (k_w hw 55 rfl) e102 f9 f3 (Or.inl (k_w hw 56 rfl)) (k_w hw 22 rfl) .long rfl rfl (D d8_20) (fun T122 h122 X122 e122 W122 => ?_)
  have Fw122 := f9.same W122
  have N122 := Fr.snoc X122 N0 g_a1
  have Z122 := k_zw Z0 W122
  refine k_aloadN X122 hx 24 (D d8_23) rfl rfl ?_
  refine k_iconst X122 hx 25 (D d8_24) (z := (1 : Int32)) rfl ?_
  have F123 := (f8.other W122 (Or.inr (sn34 hw)))
  have F124 := (f3.wr W122)
  refine k_putF1 X122 hx hZ hown 28 (k_w hw 53 rfl) e122 F123 F124 (Or.inl (k_w hw 54 rfl)) (k_w hw 22 rfl) .boolean rfl rfl (D d8_25) (fun T125 h125 X125 e125 W125 => ?_)
  have Fw125 := F123.same W125
  have N125 := Fr.snoc X125 N122 g_a1
  have Z125 := k_zw Z122 W125
  refine k_aloadN X125 hx 29 (D d8_28) rfl rfl ?_
  have F126 := ((f0.wr W122).wr W125)
  have F127 := ((f1.other W122 (Or.inl (Nat.ne_of_lt lt0_0))).other W125 (Or.inl (Nat.ne_of_lt lt0_0)))
  have F128 := ((f2.other W122 (Or.inl (Nat.ne_of_lt lt0_0))).other W125 (Or.inl (Nat.ne_of_lt lt0_0)))
  have F129 := (F124.wr W125)
  have F130 := ((f4.other W122 (Or.inr (sn35 hw))).other W125 (Or.inr (sn36 hw)))
  have F131 := ((f5.other W122 (Or.inr (sn37 hw))).other W125 (Or.inr (sn38 hw)))
  have F132 := ((f6.other W122 (Or.inr (sn39 hw))).other W125 (Or.inr (sn40 hw)))
  have F133 := ((f7.other W122 (Or.inr (sn41 hw))).other W125 (Or.inr (sn42 hw)))
  have F134 := (Fw122.other W125 (Or.inr (sn43 hw)))
  have F135 := ((f10.other W122 (Or.inr (sn44 hw))).other W125 (Or.inr (sn45 hw)))
  have F136 := ((f11.other W122 (Or.inr (sn46 hw))).other W125 (Or.inr (sn47 hw)))
  have F137 := ((f12.other W122 (Or.inr (sn48 hw))).other W125 (Or.inr (sn49 hw)))
  have F138 := ((F0_4.other W122 (Ne.symm (Nat.ne_of_lt lt0_1))).other W125 (Ne.symm (Nat.ne_of_lt lt0_1)))
  have F139 := ((F0_6.other W122 (Ne.symm (Nat.ne_of_lt (Nat.lt_trans lt0_1 lt0_2)))).other W125 (Ne.symm (Nat.ne_of_lt (Nat.lt_trans lt0_1 lt0_2))))
  refine k_callP X125 hx hZ hown 32 (a := a1) (k_w hw 57 rfl) (k_w hw 58 rfl) (k_w hw 59 rfl) (k_w hw 22 rfl) (k_w hw 23 rfl) (k_w hw 60 rfl) (by decide) F129 (rm9_70 l Z a0 hw [] a1 a3 a5 a6 p4 p7 p2 p10 p13 k9 k12 p11 h125 n0 Z125 ⟨F126, F127, F128⟩ g_a3 ⟨F129, F130, F131, F132, F133, Fw125, F134, F135, F136, F137⟩ g_a1 F138 g_a5 F139 g_a6 lt0_0 lt0_1 lt0_2 hp0 hp1 hp2 hp3 hp4 hd16 (by have q := hp3; rw [hd16] at q; exact q) (by have q := hp4; rw [hd16] at q; exact q)) (by decide) (by decide) e125 (by rw [hml]; rfl) (argsL := []) (rest := []) (lenOf pd_1 rfl) rfl (W := 0) (Nat.le_refl _) rfl (D d8_29) (by decide) (by decide) (fun T140 L140 r140 X140 q140 => ?_)
  obtain ⟨N140, q140⟩ := q140
  have N140' := Fr.app N125 N140
  obtain ⟨rfl, ⟨F141, F142, F143⟩, ⟨F144, F145, F146, F147, F148, F149, F150, F151, F152, F153⟩, F154, F155, Z156⟩ := q140
  refine k_n0 ?_
  exact k_ret X140 hx hret (D d8_32) hlk (by decide) (by decide) ⟨N140', (Or.inr ⟨v103, hv103, hc104, rfl, ⟨F141, F142, F143⟩, ⟨F144, F145, F146, F147, F148, F149, F150, F151, F152, F153⟩, F154, F155, Z156⟩)⟩
abbrev R7_68 : Room := { frames := 2, cells := 0, slots := 0, locals := 27 }
def Q7_68 (Z : State) (a1 a3 a5 a6 : Addr) (p2 p4 p7 p8 p10 p13 : Int64) (k9 k12 : ClassId) (p11 : Int32) (h0 : Heap) (n0 : Nat) (v : Option Value) (h : Heap) (L : List Loc) : Prop := Fr n0 L /\ ((∃ (v102 : Int64), v102 = p2 - p8 /\ ¬ (0 : Int64) < v102 /\ v = some (.long 0) /\ BL Z h a3 (.long p4) (.ref a1) /\ BS Z h a1 (.ref a5) (.ref a6) (.long p4) (.long p7) (.int 1) (.long p8) (.int 0) (.long 0) (.int 0) /\ Arv Z h a5 k9 .long p11 [(.long p10), (.long 0)] (.long 0) /\ Arv Z h a6 k12 .long p11 [(.long p13), (.long 0)] (.long 0) /\ n0 <= h.size) \/ (∃ (v121 : Int64), v121 = p2 - p8 /\ (0 : Int64) < v121 /\ v = some (.long 0) /\ BL Z h a3 (.long p4) (.ref a1) /\ BS Z h a1 (.ref a5) (.ref a6) (.long p4) (.long p7) (.int 1) (.long p2) (.int 0) (.long 0) (.int 0) /\ Arv Z h a5 k9 .long p11 [(.long p10), (.long 0)] (.long 0) /\ Arv Z h a6 k12 .long p11 [(.long p13), (.long 0)] (.long 0) /\ n0 <= h.size))
theorem rm7_68 (l : Launch) (Z : State) (a0 : Array Value) (hw : WW a0 Z) (ws : List Jvm.Cond) (a1 a3 a5 a6 : Addr) (p2 p4 p7 p8 p10 p13 : Int64) (k9 k12 : ClassId) (p11 : Int32) (h0 : Heap) (n0 : Nat) (Z0 : n0 <= h0.size) (B0 : BL Z h0 a3 (.long p4) (.ref a1)) (g_a3 : n0 <= a3) (B2 : BS Z h0 a1 (.ref a5) (.ref a6) (.long p4) (.long p7) (.int 1) (.long p8) (.int 0) (.long 0) (.int 0)) (g_a1 : n0 <= a1) (F0_4 : Arv Z h0 a5 k9 .long p11 [(.long p10), (.long 0)] (.long 0)) (g_a5 : n0 <= a5) (F0_6 : Arv Z h0 a6 k12 .long p11 [(.long p13), (.long 0)] (.long 0)) (g_a6 : n0 <= a6) (lt0_0 : a3 < a1) (lt0_1 : a1 < a5) (lt0_2 : a5 < a6) (hp0 : ¬ p4 < (1 : Int64)) (hp1 : ¬ (8 : Int64) < p4) (hp2 : ¬ p7 < (1 : Int64)) (hp3 : ¬ p11 < (1 : Int32)) (hp4 : ¬ (8 : Int32) < p11) (hd16 : p11 = p4.toInt32) :
    KMet l (⟨"com/example/halter/halter/SlidingSum", "at", "(J)J"⟩ : MethodName) prog_20_method_2_code 3 (some .long) ws R7_68 #[(.ref a1), (.long p2)] Z h0 R7_68.cells R7_68.slots (Q7_68 Z a1 a3 a5 a6 p2 p4 p7 p8 p10 p13 k9 k12 p11 h0 n0) := by
 refine k_body (plainFor_of_name pn_1) (fun m => ef8_7 m a1 p2) ?_
 intro p e s m below meth c s₁ hx D hml hlk hret hown hnm hZ X0 e0
 have N0 := Fr.nil n0
 obtain ⟨f0, f1, f2⟩ := B0
 obtain ⟨f3, f4, f5, f6, f7, f8, f9, f10, f11, f12⟩ := B2
 refine k_aloadN X0 hx 1 (D d7_0) rfl rfl ?_
 refine k_lloadN X0 hx 2 (D d7_1) rfl ?_
 refine k_callP X0 hx hZ hown 5 (a := a1) (k_w hw 49 rfl) (k_w hw 50 rfl) (k_w hw 51 rfl) (k_w hw 22 rfl) (k_w hw 23 rfl) (k_w hw 52 rfl) (by decide) f3 (rm8_69 l Z a0 hw [] a1 a3 a5 a6 p2 p4 p7 p8 p10 p13 k9 k12 p11 h0 n0 Z0 ⟨f0, f1, f2⟩ g_a3 ⟨f3, f4, f5, f6, f7, f8, f9, f10, f11, f12⟩ g_a1 F0_4 g_a5 F0_6 g_a6 lt0_0 lt0_1 lt0_2 hp0 hp1 hp2 hp3 hp4 hd16 (by have q := hp3; rw [hd16] at q; exact q) (by have q := hp4; rw [hd16] at q; exact q)) (by decide) (by decide) e0 (by rw [hml]; rfl) (argsL := [(.long p2)]) (rest := []) (lenOf pd_3 rfl) rfl (W := 0) (Nat.le_refl _) rfl (D d7_2) (by decide) (by decide) (fun T101 L101 r101 X101 q101 => ?_)
 obtain ⟨N101, q101⟩ := q101
 have N101' := Fr.app N0 N101
 rcases q101 with ⟨v102, h103, hc104, rfl, ⟨F105, F106, F107⟩, ⟨F108, F109, F110, F111, F112, F113, F114, F115, F116, F117⟩, F118, F119, Z120⟩ | ⟨v121, h122, hc123, rfl, ⟨F124, F125, F126⟩, ⟨F127, F128, F129, F130, F131, F132, F133, F134, F135, F136⟩, F137, F138, Z139⟩
 ·
  refine k_n0 ?_
  refine k_aloadN X101 hx 6 (D d7_5) rfl rfl ?_
  refine k_getF1 X101 hx hZ hown 9 (k_w hw 63 rfl) rfl F116 (D d7_6) (fun T140 X140 e140 => ?_)
  exact k_retL X140 hx hret (D d7_9) hlk (by decide) (by decide) (by rw [e140]; exact ⟨N101', (Or.inl ⟨v102, h103, hc104, rfl, ⟨F105, F106, F107⟩, ⟨F108, F109, F110, F111, F112, F113, F114, F115, F116, F117⟩, F118, F119, Z120⟩)⟩)
 ·
  refine k_n0 ?_
  refine k_aloadN X101 hx 6 (D d7_5) rfl rfl ?_
  refine k_getF1 X101 hx hZ hown 9 (k_w hw 63 rfl) rfl F135 (D d7_6) (fun T141 X141 e141 => ?_)
  exact k_retL X141 hx hret (D d7_9) hlk (by decide) (by decide) (by rw [e141]; exact ⟨N101', (Or.inr ⟨v121, h122, hc123, rfl, ⟨F124, F125, F126⟩, ⟨F127, F128, F129, F130, F131, F132, F133, F134, F135, F136⟩, F137, F138, Z139⟩)⟩)
abbrev R6_67 : Room := { frames := 3, cells := 0, slots := 0, locals := 41 }
def Q6_67 (Z : State) (a1 a4 a5 a6 : Addr) (p2 p3 p7 p8 p10 p13 : Int64) (k9 k12 : ClassId) (p11 : Int32) (h0 : Heap) (n0 : Nat) (v : Option Value) (h : Heap) (L : List Loc) : Prop := Fr n0 L /\ ((∃ (v103 : Int64), v103 = p2 - p8 /\ ¬ (0 : Int64) < v103 /\ v = some (.int 1) /\ BL Z h a1 (.long p3) (.ref a4) /\ BS Z h a4 (.ref a5) (.ref a6) (.long p3) (.long p7) (.int 1) (.long p8) (.int 0) (.long 0) (.int 0) /\ Arv Z h a5 k9 .long p11 [(.long p10), (.long 0)] (.long 0) /\ Arv Z h a6 k12 .long p11 [(.long p13), (.long 0)] (.long 0) /\ n0 <= h.size) \/ (∃ (v122 : Int64), v122 = p2 - p8 /\ (0 : Int64) < v122 /\ v = some (.int 1) /\ BL Z h a1 (.long p3) (.ref a4) /\ BS Z h a4 (.ref a5) (.ref a6) (.long p3) (.long p7) (.int 1) (.long p2) (.int 0) (.long 0) (.int 0) /\ Arv Z h a5 k9 .long p11 [(.long p10), (.long 0)] (.long 0) /\ Arv Z h a6 k12 .long p11 [(.long p13), (.long 0)] (.long 0) /\ n0 <= h.size))
theorem rm6_67 (l : Launch) (Z : State) (a0 : Array Value) (hw : WW a0 Z) (ws : List Jvm.Cond) (a1 a4 a5 a6 : Addr) (p2 p3 p7 p8 p10 p13 : Int64) (k9 k12 : ClassId) (p11 : Int32) (h0 : Heap) (n0 : Nat) (Z0 : n0 <= h0.size) (B0 : BL Z h0 a1 (.long p3) (.ref a4)) (g_a1 : n0 <= a1) (B2 : BS Z h0 a4 (.ref a5) (.ref a6) (.long p3) (.long p7) (.int 1) (.long p8) (.int 0) (.long 0) (.int 0)) (g_a4 : n0 <= a4) (F0_4 : Arv Z h0 a5 k9 .long p11 [(.long p10), (.long 0)] (.long 0)) (g_a5 : n0 <= a5) (F0_6 : Arv Z h0 a6 k12 .long p11 [(.long p13), (.long 0)] (.long 0)) (g_a6 : n0 <= a6) (lt0_0 : a1 < a4) (lt0_1 : a4 < a5) (lt0_2 : a5 < a6) (hp0 : ¬ p3 < (1 : Int64)) (hp1 : ¬ (8 : Int64) < p3) (hp2 : ¬ p7 < (1 : Int64)) (hp3 : ¬ p11 < (1 : Int32)) (hp4 : ¬ (8 : Int32) < p11) (hd16 : p11 = p3.toInt32) :
    KMet l (⟨"com/example/halter/halter/SlidingLogLimiter$Log", "idleAt", "(J)Z"⟩ : MethodName) prog_18_method_3_code 3 (some .boolean) ws R6_67 #[(.ref a1), (.long p2)] Z h0 R6_67.cells R6_67.slots (Q6_67 Z a1 a4 a5 a6 p2 p3 p7 p8 p10 p13 k9 k12 p11 h0 n0) := by
 refine k_body (plainFor_of_name pn_2) (fun m => ef8_7 m a1 p2) ?_
 intro p e s m below meth c s₁ hx D hml hlk hret hown hnm hZ X0 e0
 have N0 := Fr.nil n0
 obtain ⟨f0, f1, f2⟩ := B0
 obtain ⟨f3, f4, f5, f6, f7, f8, f9, f10, f11, f12⟩ := B2
 refine k_aloadN X0 hx 1 (D d6_0) rfl rfl ?_
 refine k_getF1 X0 hx hZ hown 4 (k_w hw 37 rfl) e0 f2 (D d6_1) (fun T101 X101 e101 => ?_)
 refine k_lloadN X101 hx 5 (D d6_4) rfl ?_
 refine k_callV X101 hx hZ hown 8 (a := a4) (k_w hw 44 rfl) (k_w hw 45 rfl) (k_w hw 47 rfl) (k_w hw 46 rfl) (k_w hw 23 rfl) (k_w hw 48 rfl) (by decide) f3 (rm7_68 l Z a0 hw [] a4 a1 a5 a6 p2 p3 p7 p8 p10 p13 k9 k12 p11 h0 n0 Z0 ⟨f0, f1, f2⟩ g_a1 ⟨f3, f4, f5, f6, f7, f8, f9, f10, f11, f12⟩ g_a4 F0_4 g_a5 F0_6 g_a6 lt0_0 lt0_1 lt0_2 hp0 hp1 hp2 hp3 hp4 hd16) (by decide) (by decide) e101 (by rw [hml]; rfl) (argsL := [(.long p2)]) (rest := []) (lenOf pd_4 rfl) rfl (W := 0) (Nat.le_refl _) rfl (D d6_5) (by decide) (by decide) (fun T102 L102 r102 X102 q102 => ?_)
 obtain ⟨N102, q102⟩ := q102
 have N102' := Fr.app N0 N102
 rcases q102 with ⟨v103, h104, hc105, rfl, ⟨F106, F107, F108⟩, ⟨F109, F110, F111, F112, F113, F114, F115, F116, F117, F118⟩, F119, F120, Z121⟩ | ⟨v122, h123, hc124, rfl, ⟨F125, F126, F127⟩, ⟨F128, F129, F130, F131, F132, F133, F134, F135, F136, F137⟩, F138, F139, Z140⟩
 ·
  refine k_n1 ?_
  refine k_lconst X102 hx 9 (D d6_8) (z := (0 : Int64)) rfl ?_
  refine k_lcif_ne X102 hx 13 17 10 (D d6_9) (D d6_10) (fun hc => absurd (by decide) hc) (fun _ => ?_)
  refine k_iconst X102 hx 14 (D d6_13) (z := (1 : Int32)) rfl ?_
  refine k_goto X102 hx 18 (D d6_14) ?_
  exact k_retN X102 hx (t := .boolean) hret (by simp) (D d6_18) hlk (by decide) (by decide) (z' := (1 : Int32)) rfl ⟨N102', (Or.inl ⟨v103, h104, hc105, rfl, ⟨F106, F107, F108⟩, ⟨F109, F110, F111, F112, F113, F114, F115, F116, F117, F118⟩, F119, F120, Z121⟩)⟩
 ·
  refine k_n1 ?_
  refine k_lconst X102 hx 9 (D d6_8) (z := (0 : Int64)) rfl ?_
  refine k_lcif_ne X102 hx 13 17 10 (D d6_9) (D d6_10) (fun hc => absurd (by decide) hc) (fun _ => ?_)
  refine k_iconst X102 hx 14 (D d6_13) (z := (1 : Int32)) rfl ?_
  refine k_goto X102 hx 18 (D d6_14) ?_
  exact k_retN X102 hx (t := .boolean) hret (by simp) (D d6_18) hlk (by decide) (by decide) (z' := (1 : Int32)) rfl ⟨N102', (Or.inr ⟨v122, h123, hc124, rfl, ⟨F125, F126, F127⟩, ⟨F128, F129, F130, F131, F132, F133, F134, F135, F136, F137⟩, F138, F139, Z140⟩)⟩
abbrev R9_74 : Room := { frames := 0, cells := 0, slots := 0, locals := 0 }
def Q9_74 (Z : State) (a1 a2 a4 a5 : Addr) (p3 p6 p7 p9 p12 : Int64) (k8 k11 : ClassId) (p10 : Int32) (h0 : Heap) (n0 : Nat) (v : Option Value) (h : Heap) (L : List Loc) : Prop := Fr n0 L /\ ((v = none /\ BL Z h a2 (.long p3) (.ref a1) /\ BS Z h a1 (.ref a4) (.ref a5) (.long p3) (.long p6) (.int 1) (.long p7) (.int 0) (.long 0) (.int 1) /\ Arv Z h a4 k8 .long p10 [(.long p9), (.long 0)] (.long 0) /\ Arv Z h a5 k11 .long p10 [(.long p12), (.long 0)] (.long 0) /\ n0 <= h.size))
theorem rm9_74 (l : Launch) (Z : State) (a0 : Array Value) (hw : WW a0 Z) (ws : List Jvm.Cond) (a1 a2 a4 a5 : Addr) (p3 p6 p7 p9 p12 : Int64) (k8 k11 : ClassId) (p10 : Int32) (h0 : Heap) (n0 : Nat) (Z0 : n0 <= h0.size) (B0 : BL Z h0 a2 (.long p3) (.ref a1)) (g_a2 : n0 <= a2) (B2 : BS Z h0 a1 (.ref a4) (.ref a5) (.long p3) (.long p6) (.int 1) (.long p7) (.int 0) (.long 0) (.int 1)) (g_a1 : n0 <= a1) (F0_4 : Arv Z h0 a4 k8 .long p10 [(.long p9), (.long 0)] (.long 0)) (g_a4 : n0 <= a4) (F0_6 : Arv Z h0 a5 k11 .long p10 [(.long p12), (.long 0)] (.long 0)) (g_a5 : n0 <= a5) (lt0_0 : a2 < a1) (lt0_1 : a1 < a4) (lt0_2 : a4 < a5) (hp0 : ¬ p3 < (1 : Int64)) (hp1 : ¬ (8 : Int64) < p3) (hp2 : ¬ p6 < (1 : Int64)) (hp3 : ¬ p10 < (2 : Int32)) (hp4 : ¬ (8 : Int32) < p10) (hd16 : p10 = p3.toInt32) (hx17 : ¬ (p3.toInt32) < (2 : Int32)) (hx18 : ¬ (8 : Int32) < (p3.toInt32)) :
    KMet l (⟨"com/example/halter/halter/SlidingSum", "forgetWhatLeftTheWindow", "()V"⟩ : MethodName) prog_20_method_8_code 2 none ws R9_74 #[(.ref a1)] Z h0 R9_74.cells R9_74.slots (Q9_74 Z a1 a2 a4 a5 p3 p6 p7 p9 p12 k8 k11 p10 h0 n0) := by
 refine k_body (plainFor_of_name pn_1) (fun m => ef9_8 m a1) ?_
 intro p e s m below meth c s₁ hx D hml hlk hret hown hnm hZ X0 e0
 have N0 := Fr.nil n0
 obtain ⟨f0, f1, f2⟩ := B0
 obtain ⟨f3, f4, f5, f6, f7, f8, f9, f10, f11, f12⟩ := B2
 refine k_aloadN X0 hx 1 (D d9_0) rfl rfl ?_
 refine k_getF1 X0 hx hZ hown 4 (k_w hw 61 rfl) e0 f10 (D d9_1) (fun T101 X101 e101 => ?_)
 refine k_if_le X101 hx 7 69 (D d9_4) (fun _ => ?_) (fun hc => absurd hc (by decide))
 refine k_aloadN X101 hx 70 (D d9_69) rfl rfl ?_
 refine k_getF1 X101 hx hZ hown 73 (k_w hw 29 rfl) e101 f4 (D d9_70) (fun T102 X102 e102 => ?_)
 refine k_alen X102 hx hZ 74 e102 F0_4 (D d9_73) ?_
 refine k_istoreN X102 hx 75 (D d9_74) (Ls' := #[rv a1, iv p10]) rfl ?_
 refine k_iloadN X102 hx 76 (D d9_75) rfl ?_
 refine k_bipush X102 hx 78 (D d9_76) (z := (8 : Int32)) rfl ?_
 refine k_icmp_le X102 hx 81 98 (D d9_78) (fun _ => ?_) (fun hc => absurd hc hp4)
 refine k_iloadN X102 hx 99 (D d9_98) rfl ?_
 refine k_aloadN X102 hx 100 (D d9_99) rfl rfl ?_
 refine k_getF1 X102 hx hZ hown 103 (k_w hw 29 rfl) e102 f4 (D d9_100) (fun T103 X103 e103 => ?_)
 refine k_alen X103 hx hZ 104 e103 F0_4 (D d9_103) ?_
 refine k_icmp_eq X103 hx 107 112 (D d9_104) (fun _ => ?_) (fun hc => absurd rfl hc)
 exact k_ret X103 hx hret (D d9_112) hlk (by decide) (by decide) (by rw [e103]; exact ⟨N0, ⟨rfl, ⟨f0, f1, f2⟩, ⟨f3, f4, f5, f6, f7, f8, f9, f10, f11, f12⟩, F0_4, F0_6, Z0⟩⟩)
abbrev R8_73 : Room := { frames := 1, cells := 0, slots := 0, locals := 13 }
def Q8_73 (Z : State) (a1 a3 a5 a6 : Addr) (p2 p4 p7 p8 p10 p13 : Int64) (k9 k12 : ClassId) (p11 : Int32) (h0 : Heap) (n0 : Nat) (v : Option Value) (h : Heap) (L : List Loc) : Prop := Fr n0 L /\ ((∃ (v103 : Int64), v103 = p2 - p8 /\ ¬ (0 : Int64) < v103 /\ v = none /\ BL Z h a3 (.long p4) (.ref a1) /\ BS Z h a1 (.ref a5) (.ref a6) (.long p4) (.long p7) (.int 1) (.long p8) (.int 0) (.long 0) (.int 1) /\ Arv Z h a5 k9 .long p11 [(.long p10), (.long 0)] (.long 0) /\ Arv Z h a6 k12 .long p11 [(.long p13), (.long 0)] (.long 0) /\ n0 <= h.size) \/ (∃ (v103 : Int64), v103 = p2 - p8 /\ (0 : Int64) < v103 /\ v = none /\ BL Z h a3 (.long p4) (.ref a1) /\ BS Z h a1 (.ref a5) (.ref a6) (.long p4) (.long p7) (.int 1) (.long p2) (.int 0) (.long 0) (.int 1) /\ Arv Z h a5 k9 .long p11 [(.long p10), (.long 0)] (.long 0) /\ Arv Z h a6 k12 .long p11 [(.long p13), (.long 0)] (.long 0) /\ n0 <= h.size))
theorem rm8_73 (l : Launch) (Z : State) (a0 : Array Value) (hw : WW a0 Z) (ws : List Jvm.Cond) (a1 a3 a5 a6 : Addr) (p2 p4 p7 p8 p10 p13 : Int64) (k9 k12 : ClassId) (p11 : Int32) (h0 : Heap) (n0 : Nat) (Z0 : n0 <= h0.size) (B0 : BL Z h0 a3 (.long p4) (.ref a1)) (g_a3 : n0 <= a3) (B2 : BS Z h0 a1 (.ref a5) (.ref a6) (.long p4) (.long p7) (.int 1) (.long p8) (.int 0) (.long 0) (.int 1)) (g_a1 : n0 <= a1) (F0_4 : Arv Z h0 a5 k9 .long p11 [(.long p10), (.long 0)] (.long 0)) (g_a5 : n0 <= a5) (F0_6 : Arv Z h0 a6 k12 .long p11 [(.long p13), (.long 0)] (.long 0)) (g_a6 : n0 <= a6) (lt0_0 : a3 < a1) (lt0_1 : a1 < a5) (lt0_2 : a5 < a6) (hp0 : ¬ p4 < (1 : Int64)) (hp1 : ¬ (8 : Int64) < p4) (hp2 : ¬ p7 < (1 : Int64)) (hp3 : ¬ p11 < (2 : Int32)) (hp4 : ¬ (8 : Int32) < p11) (hd16 : p11 = p4.toInt32) (hx17 : ¬ (p4.toInt32) < (2 : Int32)) (hx18 : ¬ (8 : Int32) < (p4.toInt32)) :
    KMet l (⟨"com/example/halter/halter/SlidingSum", "catchUp", "(J)V"⟩ : MethodName) prog_20_method_7_code 3 none ws R8_73 #[(.ref a1), (.long p2)] Z h0 R8_73.cells R8_73.slots (Q8_73 Z a1 a3 a5 a6 p2 p4 p7 p8 p10 p13 k9 k12 p11 h0 n0) := by
 refine k_body (plainFor_of_name pn_1) (fun m => ef8_7 m a1 p2) ?_
 intro p e s m below meth c s₁ hx D hml hlk hret hown hnm hZ X0 e0
 have N0 := Fr.nil n0
 obtain ⟨f0, f1, f2⟩ := B0
 obtain ⟨f3, f4, f5, f6, f7, f8, f9, f10, f11, f12⟩ := B2
 refine k_aloadN X0 hx 1 (D d8_0) rfl rfl ?_
 refine k_getF1 X0 hx hZ hown 4 (k_w hw 53 rfl) e0 f8 (D d8_1) (fun T101 X101 e101 => ?_)
 refine k_if_eq X101 hx 7 18 (D d8_4) (fun hc => absurd hc (by decide)) (fun _ => ?_)
 refine k_lloadN X101 hx 8 (D d8_7) rfl ?_
 refine k_aloadN X101 hx 9 (D d8_8) rfl rfl ?_
 refine k_getF1 X101 hx hZ hown 12 (k_w hw 55 rfl) e101 f9 (D d8_9) (fun T102 X102 e102 => ?_)
 refine k_lsub X102 hx 13 (D d8_12) (fun v103 hv103 => ?_)
 refine k_lconst X102 hx 14 (D d8_13) (z := (0 : Int64)) rfl ?_
 refine k_lcif_le X102 hx 18 28 15 (D d8_14) (D d8_15) (fun hc104 => ?_) (fun hc104 => ?_)
 ·
  refine k_aloadN X102 hx 29 (D d8_28) rfl rfl ?_
  refine k_callP X102 hx hZ hown 32 (a := a1) (k_w hw 57 rfl) (k_w hw 58 rfl) (k_w hw 59 rfl) (k_w hw 22 rfl) (k_w hw 23 rfl) (k_w hw 60 rfl) (by decide) f3 (rm9_74 l Z a0 hw [] a1 a3 a5 a6 p4 p7 p8 p10 p13 k9 k12 p11 h0 n0 Z0 ⟨f0, f1, f2⟩ g_a3 ⟨f3, f4, f5, f6, f7, f8, f9, f10, f11, f12⟩ g_a1 F0_4 g_a5 F0_6 g_a6 lt0_0 lt0_1 lt0_2 hp0 hp1 hp2 hp3 hp4 hd16 (by have q := hp3; rw [hd16] at q; exact q) (by have q := hp4; rw [hd16] at q; exact q)) (by decide) (by decide) e102 (by rw [hml]; rfl) (argsL := []) (rest := []) (lenOf pd_1 rfl) rfl (W := 0) (Nat.le_refl _) rfl (D d8_29) (by decide) (by decide) (fun T105 L105 r105 X105 q105 => ?_)
  obtain ⟨N105, q105⟩ := q105
  have N105' := Fr.app N0 N105
  obtain ⟨rfl, ⟨F106, F107, F108⟩, ⟨F109, F110, F111, F112, F113, F114, F115, F116, F117, F118⟩, F119, F120, Z121⟩ := q105
  refine k_n0 ?_
  exact k_ret X105 hx hret (D d8_32) hlk (by decide) (by decide) ⟨N105', (Or.inl ⟨v103, hv103, hc104, rfl, ⟨F106, F107, F108⟩, ⟨F109, F110, F111, F112, F113, F114, F115, F116, F117, F118⟩, F119, F120, Z121⟩)⟩
 ·
  refine k_aloadN X102 hx 19 (D d8_18) rfl rfl ?_
  refine k_lloadN X102 hx 20 (D d8_19) rfl ?_
  refine k_putF1 X102 hx hZ hown 23 (k_w hw 55 rfl) e102 f9 f3 (Or.inl (k_w hw 56 rfl)) (k_w hw 22 rfl) .long rfl rfl (D d8_20) (fun T122 h122 X122 e122 W122 => ?_)
  have Fw122 := f9.same W122
  have N122 := Fr.snoc X122 N0 g_a1
  have Z122 := k_zw Z0 W122
  refine k_aloadN X122 hx 24 (D d8_23) rfl rfl ?_
  refine k_iconst X122 hx 25 (D d8_24) (z := (1 : Int32)) rfl ?_
  have F123 := (f8.other W122 (Or.inr (sn34 hw)))
  have F124 := (f3.wr W122)
  refine k_putF1 X122 hx hZ hown 28 (k_w hw 53 rfl) e122 F123 F124 (Or.inl (k_w hw 54 rfl)) (k_w hw 22 rfl) .boolean rfl rfl (D d8_25) (fun T125 h125 X125 e125 W125 => ?_)
  have Fw125 := F123.same W125
  have N125 := Fr.snoc X125 N122 g_a1
  have Z125 := k_zw Z122 W125
  refine k_aloadN X125 hx 29 (D d8_28) rfl rfl ?_
  have F126 := ((f0.wr W122).wr W125)
  have F127 := ((f1.other W122 (Or.inl (Nat.ne_of_lt lt0_0))).other W125 (Or.inl (Nat.ne_of_lt lt0_0)))
  have F128 := ((f2.other W122 (Or.inl (Nat.ne_of_lt lt0_0))).other W125 (Or.inl (Nat.ne_of_lt lt0_0)))
  have F129 := (F124.wr W125)
  have F130 := ((f4.other W122 (Or.inr (sn35 hw))).other W125 (Or.inr (sn36 hw)))
  have F131 := ((f5.other W122 (Or.inr (sn37 hw))).other W125 (Or.inr (sn38 hw)))
  have F132 := ((f6.other W122 (Or.inr (sn39 hw))).other W125 (Or.inr (sn40 hw)))
  have F133 := ((f7.other W122 (Or.inr (sn41 hw))).other W125 (Or.inr (sn42 hw)))
  have F134 := (Fw122.other W125 (Or.inr (sn43 hw)))
  have F135 := ((f10.other W122 (Or.inr (sn44 hw))).other W125 (Or.inr (sn45 hw)))
  have F136 := ((f11.other W122 (Or.inr (sn46 hw))).other W125 (Or.inr (sn47 hw)))
  have F137 := ((f12.other W122 (Or.inr (sn48 hw))).other W125 (Or.inr (sn49 hw)))
  have F138 := ((F0_4.other W122 (Ne.symm (Nat.ne_of_lt lt0_1))).other W125 (Ne.symm (Nat.ne_of_lt lt0_1)))
  have F139 := ((F0_6.other W122 (Ne.symm (Nat.ne_of_lt (Nat.lt_trans lt0_1 lt0_2)))).other W125 (Ne.symm (Nat.ne_of_lt (Nat.lt_trans lt0_1 lt0_2))))
  refine k_callP X125 hx hZ hown 32 (a := a1) (k_w hw 57 rfl) (k_w hw 58 rfl) (k_w hw 59 rfl) (k_w hw 22 rfl) (k_w hw 23 rfl) (k_w hw 60 rfl) (by decide) F129 (rm9_74 l Z a0 hw [] a1 a3 a5 a6 p4 p7 p2 p10 p13 k9 k12 p11 h125 n0 Z125 ⟨F126, F127, F128⟩ g_a3 ⟨F129, F130, F131, F132, F133, Fw125, F134, F135, F136, F137⟩ g_a1 F138 g_a5 F139 g_a6 lt0_0 lt0_1 lt0_2 hp0 hp1 hp2 hp3 hp4 hd16 (by have q := hp3; rw [hd16] at q; exact q) (by have q := hp4; rw [hd16] at q; exact q)) (by decide) (by decide) e125 (by rw [hml]; rfl) (argsL := []) (rest := []) (lenOf pd_1 rfl) rfl (W := 0) (Nat.le_refl _) rfl (D d8_29) (by decide) (by decide) (fun T140 L140 r140 X140 q140 => ?_)
  obtain ⟨N140, q140⟩ := q140
  have N140' := Fr.app N125 N140
  obtain ⟨rfl, ⟨F141, F142, F143⟩, ⟨F144, F145, F146, F147, F148, F149, F150, F151, F152, F153⟩, F154, F155, Z156⟩ := q140
  refine k_n0 ?_
  exact k_ret X140 hx hret (D d8_32) hlk (by decide) (by decide) ⟨N140', (Or.inr ⟨v103, hv103, hc104, rfl, ⟨F141, F142, F143⟩, ⟨F144, F145, F146, F147, F148, F149, F150, F151, F152, F153⟩, F154, F155, Z156⟩)⟩
abbrev R7_72 : Room := { frames := 2, cells := 0, slots := 0, locals := 27 }
def Q7_72 (Z : State) (a1 a3 a5 a6 : Addr) (p2 p4 p7 p8 p10 p13 : Int64) (k9 k12 : ClassId) (p11 : Int32) (h0 : Heap) (n0 : Nat) (v : Option Value) (h : Heap) (L : List Loc) : Prop := Fr n0 L /\ ((∃ (v102 : Int64), v102 = p2 - p8 /\ ¬ (0 : Int64) < v102 /\ v = some (.long 0) /\ BL Z h a3 (.long p4) (.ref a1) /\ BS Z h a1 (.ref a5) (.ref a6) (.long p4) (.long p7) (.int 1) (.long p8) (.int 0) (.long 0) (.int 1) /\ Arv Z h a5 k9 .long p11 [(.long p10), (.long 0)] (.long 0) /\ Arv Z h a6 k12 .long p11 [(.long p13), (.long 0)] (.long 0) /\ n0 <= h.size) \/ (∃ (v121 : Int64), v121 = p2 - p8 /\ (0 : Int64) < v121 /\ v = some (.long 0) /\ BL Z h a3 (.long p4) (.ref a1) /\ BS Z h a1 (.ref a5) (.ref a6) (.long p4) (.long p7) (.int 1) (.long p2) (.int 0) (.long 0) (.int 1) /\ Arv Z h a5 k9 .long p11 [(.long p10), (.long 0)] (.long 0) /\ Arv Z h a6 k12 .long p11 [(.long p13), (.long 0)] (.long 0) /\ n0 <= h.size))
theorem rm7_72 (l : Launch) (Z : State) (a0 : Array Value) (hw : WW a0 Z) (ws : List Jvm.Cond) (a1 a3 a5 a6 : Addr) (p2 p4 p7 p8 p10 p13 : Int64) (k9 k12 : ClassId) (p11 : Int32) (h0 : Heap) (n0 : Nat) (Z0 : n0 <= h0.size) (B0 : BL Z h0 a3 (.long p4) (.ref a1)) (g_a3 : n0 <= a3) (B2 : BS Z h0 a1 (.ref a5) (.ref a6) (.long p4) (.long p7) (.int 1) (.long p8) (.int 0) (.long 0) (.int 1)) (g_a1 : n0 <= a1) (F0_4 : Arv Z h0 a5 k9 .long p11 [(.long p10), (.long 0)] (.long 0)) (g_a5 : n0 <= a5) (F0_6 : Arv Z h0 a6 k12 .long p11 [(.long p13), (.long 0)] (.long 0)) (g_a6 : n0 <= a6) (lt0_0 : a3 < a1) (lt0_1 : a1 < a5) (lt0_2 : a5 < a6) (hp0 : ¬ p4 < (1 : Int64)) (hp1 : ¬ (8 : Int64) < p4) (hp2 : ¬ p7 < (1 : Int64)) (hp3 : ¬ p11 < (2 : Int32)) (hp4 : ¬ (8 : Int32) < p11) (hd16 : p11 = p4.toInt32) :
    KMet l (⟨"com/example/halter/halter/SlidingSum", "at", "(J)J"⟩ : MethodName) prog_20_method_2_code 3 (some .long) ws R7_72 #[(.ref a1), (.long p2)] Z h0 R7_72.cells R7_72.slots (Q7_72 Z a1 a3 a5 a6 p2 p4 p7 p8 p10 p13 k9 k12 p11 h0 n0) := by
 refine k_body (plainFor_of_name pn_1) (fun m => ef8_7 m a1 p2) ?_
 intro p e s m below meth c s₁ hx D hml hlk hret hown hnm hZ X0 e0
 have N0 := Fr.nil n0
 obtain ⟨f0, f1, f2⟩ := B0
 obtain ⟨f3, f4, f5, f6, f7, f8, f9, f10, f11, f12⟩ := B2
 refine k_aloadN X0 hx 1 (D d7_0) rfl rfl ?_
 refine k_lloadN X0 hx 2 (D d7_1) rfl ?_
 refine k_callP X0 hx hZ hown 5 (a := a1) (k_w hw 49 rfl) (k_w hw 50 rfl) (k_w hw 51 rfl) (k_w hw 22 rfl) (k_w hw 23 rfl) (k_w hw 52 rfl) (by decide) f3 (rm8_73 l Z a0 hw [] a1 a3 a5 a6 p2 p4 p7 p8 p10 p13 k9 k12 p11 h0 n0 Z0 ⟨f0, f1, f2⟩ g_a3 ⟨f3, f4, f5, f6, f7, f8, f9, f10, f11, f12⟩ g_a1 F0_4 g_a5 F0_6 g_a6 lt0_0 lt0_1 lt0_2 hp0 hp1 hp2 hp3 hp4 hd16 (by have q := hp3; rw [hd16] at q; exact q) (by have q := hp4; rw [hd16] at q; exact q)) (by decide) (by decide) e0 (by rw [hml]; rfl) (argsL := [(.long p2)]) (rest := []) (lenOf pd_3 rfl) rfl (W := 0) (Nat.le_refl _) rfl (D d7_2) (by decide) (by decide) (fun T101 L101 r101 X101 q101 => ?_)
 obtain ⟨N101, q101⟩ := q101
 have N101' := Fr.app N0 N101
 rcases q101 with ⟨v102, h103, hc104, rfl, ⟨F105, F106, F107⟩, ⟨F108, F109, F110, F111, F112, F113, F114, F115, F116, F117⟩, F118, F119, Z120⟩ | ⟨v121, h122, hc123, rfl, ⟨F124, F125, F126⟩, ⟨F127, F128, F129, F130, F131, F132, F133, F134, F135, F136⟩, F137, F138, Z139⟩
 ·
  refine k_n0 ?_
  refine k_aloadN X101 hx 6 (D d7_5) rfl rfl ?_
  refine k_getF1 X101 hx hZ hown 9 (k_w hw 63 rfl) rfl F116 (D d7_6) (fun T140 X140 e140 => ?_)
  exact k_retL X140 hx hret (D d7_9) hlk (by decide) (by decide) (by rw [e140]; exact ⟨N101', (Or.inl ⟨v102, h103, hc104, rfl, ⟨F105, F106, F107⟩, ⟨F108, F109, F110, F111, F112, F113, F114, F115, F116, F117⟩, F118, F119, Z120⟩)⟩)
 ·
  refine k_n0 ?_
  refine k_aloadN X101 hx 6 (D d7_5) rfl rfl ?_
  refine k_getF1 X101 hx hZ hown 9 (k_w hw 63 rfl) rfl F135 (D d7_6) (fun T141 X141 e141 => ?_)
  exact k_retL X141 hx hret (D d7_9) hlk (by decide) (by decide) (by rw [e141]; exact ⟨N101', (Or.inr ⟨v121, h122, hc123, rfl, ⟨F124, F125, F126⟩, ⟨F127, F128, F129, F130, F131, F132, F133, F134, F135, F136⟩, F137, F138, Z139⟩)⟩)
abbrev R6_71 : Room := { frames := 3, cells := 0, slots := 0, locals := 41 }
def Q6_71 (Z : State) (a1 a4 a5 a6 : Addr) (p2 p3 p7 p8 p10 p13 : Int64) (k9 k12 : ClassId) (p11 : Int32) (h0 : Heap) (n0 : Nat) (v : Option Value) (h : Heap) (L : List Loc) : Prop := Fr n0 L /\ ((∃ (v103 : Int64), v103 = p2 - p8 /\ ¬ (0 : Int64) < v103 /\ v = some (.int 1) /\ BL Z h a1 (.long p3) (.ref a4) /\ BS Z h a4 (.ref a5) (.ref a6) (.long p3) (.long p7) (.int 1) (.long p8) (.int 0) (.long 0) (.int 1) /\ Arv Z h a5 k9 .long p11 [(.long p10), (.long 0)] (.long 0) /\ Arv Z h a6 k12 .long p11 [(.long p13), (.long 0)] (.long 0) /\ n0 <= h.size) \/ (∃ (v122 : Int64), v122 = p2 - p8 /\ (0 : Int64) < v122 /\ v = some (.int 1) /\ BL Z h a1 (.long p3) (.ref a4) /\ BS Z h a4 (.ref a5) (.ref a6) (.long p3) (.long p7) (.int 1) (.long p2) (.int 0) (.long 0) (.int 1) /\ Arv Z h a5 k9 .long p11 [(.long p10), (.long 0)] (.long 0) /\ Arv Z h a6 k12 .long p11 [(.long p13), (.long 0)] (.long 0) /\ n0 <= h.size))
theorem rm6_71 (l : Launch) (Z : State) (a0 : Array Value) (hw : WW a0 Z) (ws : List Jvm.Cond) (a1 a4 a5 a6 : Addr) (p2 p3 p7 p8 p10 p13 : Int64) (k9 k12 : ClassId) (p11 : Int32) (h0 : Heap) (n0 : Nat) (Z0 : n0 <= h0.size) (B0 : BL Z h0 a1 (.long p3) (.ref a4)) (g_a1 : n0 <= a1) (B2 : BS Z h0 a4 (.ref a5) (.ref a6) (.long p3) (.long p7) (.int 1) (.long p8) (.int 0) (.long 0) (.int 1)) (g_a4 : n0 <= a4) (F0_4 : Arv Z h0 a5 k9 .long p11 [(.long p10), (.long 0)] (.long 0)) (g_a5 : n0 <= a5) (F0_6 : Arv Z h0 a6 k12 .long p11 [(.long p13), (.long 0)] (.long 0)) (g_a6 : n0 <= a6) (lt0_0 : a1 < a4) (lt0_1 : a4 < a5) (lt0_2 : a5 < a6) (hp0 : ¬ p3 < (1 : Int64)) (hp1 : ¬ (8 : Int64) < p3) (hp2 : ¬ p7 < (1 : Int64)) (hp3 : ¬ p11 < (2 : Int32)) (hp4 : ¬ (8 : Int32) < p11) (hd16 : p11 = p3.toInt32) :
    KMet l (⟨"com/example/halter/halter/SlidingLogLimiter$Log", "idleAt", "(J)Z"⟩ : MethodName) prog_18_method_3_code 3 (some .boolean) ws R6_71 #[(.ref a1), (.long p2)] Z h0 R6_71.cells R6_71.slots (Q6_71 Z a1 a4 a5 a6 p2 p3 p7 p8 p10 p13 k9 k12 p11 h0 n0) := by
 refine k_body (plainFor_of_name pn_2) (fun m => ef8_7 m a1 p2) ?_
 intro p e s m below meth c s₁ hx D hml hlk hret hown hnm hZ X0 e0
 have N0 := Fr.nil n0
 obtain ⟨f0, f1, f2⟩ := B0
 obtain ⟨f3, f4, f5, f6, f7, f8, f9, f10, f11, f12⟩ := B2
 refine k_aloadN X0 hx 1 (D d6_0) rfl rfl ?_
 refine k_getF1 X0 hx hZ hown 4 (k_w hw 37 rfl) e0 f2 (D d6_1) (fun T101 X101 e101 => ?_)
 refine k_lloadN X101 hx 5 (D d6_4) rfl ?_
 refine k_callV X101 hx hZ hown 8 (a := a4) (k_w hw 44 rfl) (k_w hw 45 rfl) (k_w hw 47 rfl) (k_w hw 46 rfl) (k_w hw 23 rfl) (k_w hw 48 rfl) (by decide) f3 (rm7_72 l Z a0 hw [] a4 a1 a5 a6 p2 p3 p7 p8 p10 p13 k9 k12 p11 h0 n0 Z0 ⟨f0, f1, f2⟩ g_a1 ⟨f3, f4, f5, f6, f7, f8, f9, f10, f11, f12⟩ g_a4 F0_4 g_a5 F0_6 g_a6 lt0_0 lt0_1 lt0_2 hp0 hp1 hp2 hp3 hp4 hd16) (by decide) (by decide) e101 (by rw [hml]; rfl) (argsL := [(.long p2)]) (rest := []) (lenOf pd_4 rfl) rfl (W := 0) (Nat.le_refl _) rfl (D d6_5) (by decide) (by decide) (fun T102 L102 r102 X102 q102 => ?_)
 obtain ⟨N102, q102⟩ := q102
 have N102' := Fr.app N0 N102
 rcases q102 with ⟨v103, h104, hc105, rfl, ⟨F106, F107, F108⟩, ⟨F109, F110, F111, F112, F113, F114, F115, F116, F117, F118⟩, F119, F120, Z121⟩ | ⟨v122, h123, hc124, rfl, ⟨F125, F126, F127⟩, ⟨F128, F129, F130, F131, F132, F133, F134, F135, F136, F137⟩, F138, F139, Z140⟩
 ·
  refine k_n1 ?_
  refine k_lconst X102 hx 9 (D d6_8) (z := (0 : Int64)) rfl ?_
  refine k_lcif_ne X102 hx 13 17 10 (D d6_9) (D d6_10) (fun hc => absurd (by decide) hc) (fun _ => ?_)
  refine k_iconst X102 hx 14 (D d6_13) (z := (1 : Int32)) rfl ?_
  refine k_goto X102 hx 18 (D d6_14) ?_
  exact k_retN X102 hx (t := .boolean) hret (by simp) (D d6_18) hlk (by decide) (by decide) (z' := (1 : Int32)) rfl ⟨N102', (Or.inl ⟨v103, h104, hc105, rfl, ⟨F106, F107, F108⟩, ⟨F109, F110, F111, F112, F113, F114, F115, F116, F117, F118⟩, F119, F120, Z121⟩)⟩
 ·
  refine k_n1 ?_
  refine k_lconst X102 hx 9 (D d6_8) (z := (0 : Int64)) rfl ?_
  refine k_lcif_ne X102 hx 13 17 10 (D d6_9) (D d6_10) (fun hc => absurd (by decide) hc) (fun _ => ?_)
  refine k_iconst X102 hx 14 (D d6_13) (z := (1 : Int32)) rfl ?_
  refine k_goto X102 hx 18 (D d6_14) ?_
  exact k_retN X102 hx (t := .boolean) hret (by simp) (D d6_18) hlk (by decide) (by decide) (z' := (1 : Int32)) rfl ⟨N102', (Or.inr ⟨v122, h123, hc124, rfl, ⟨F125, F126, F127⟩, ⟨F128, F129, F130, F131, F132, F133, F134, F135, F136, F137⟩, F138, F139, Z140⟩)⟩
abbrev R9_78 : Room := { frames := 0, cells := 0, slots := 0, locals := 0 }
def Q9_78 (Z : State) (a1 a2 a4 a5 : Addr) (p3 p6 p7 p8 p10 p13 : Int64) (k9 k12 : ClassId) (p11 : Int32) (h0 : Heap) (n0 : Nat) (v : Option Value) (h : Heap) (L : List Loc) : Prop := Fr n0 L /\ ((v = none /\ BL Z h a2 (.long p3) (.ref a1) /\ BS Z h a1 (.ref a4) (.ref a5) (.long p3) (.long p6) (.int 1) (.long p7) (.int 1) (.long p8) (.int 1) /\ Arv Z h a4 k9 .long p11 [(.long p10), (.long p7)] (.long 0) /\ Arv Z h a5 k12 .long p11 [(.long p13), (.long p8)] (.long 0) /\ n0 <= h.size))
theorem rm9_78 (l : Launch) (Z : State) (a0 : Array Value) (hw : WW a0 Z) (ws : List Jvm.Cond) (a1 a2 a4 a5 : Addr) (p3 p6 p7 p8 p10 p13 : Int64) (k9 k12 : ClassId) (p11 : Int32) (h0 : Heap) (n0 : Nat) (Z0 : n0 <= h0.size) (B0 : BL Z h0 a2 (.long p3) (.ref a1)) (g_a2 : n0 <= a2) (B2 : BS Z h0 a1 (.ref a4) (.ref a5) (.long p3) (.long p6) (.int 1) (.long p7) (.int 1) (.long p8) (.int 1)) (g_a1 : n0 <= a1) (F0_4 : Arv Z h0 a4 k9 .long p11 [(.long p10), (.long p7)] (.long 0)) (g_a4 : n0 <= a4) (F0_6 : Arv Z h0 a5 k12 .long p11 [(.long p13), (.long p8)] (.long 0)) (g_a5 : n0 <= a5) (lt0_0 : a2 < a1) (lt0_1 : a1 < a4) (lt0_2 : a4 < a5) (hp0 : ¬ p3 < (1 : Int64)) (hp1 : ¬ (8 : Int64) < p3) (hp2 : ¬ p6 < (1 : Int64)) (hp3 : ¬ p11 < (2 : Int32)) (hp4 : ¬ (8 : Int32) < p11) (hd16 : p11 = p3.toInt32) (hx17 : ¬ (p3.toInt32) < (2 : Int32)) (hx18 : ¬ (8 : Int32) < (p3.toInt32)) :
    KMet l (⟨"com/example/halter/halter/SlidingSum", "forgetWhatLeftTheWindow", "()V"⟩ : MethodName) prog_20_method_8_code 2 none ws R9_78 #[(.ref a1)] Z h0 R9_78.cells R9_78.slots (Q9_78 Z a1 a2 a4 a5 p3 p6 p7 p8 p10 p13 k9 k12 p11 h0 n0) := by
 refine k_body (plainFor_of_name pn_1) (fun m => ef9_8 m a1) ?_
 intro p e s m below meth c s₁ hx D hml hlk hret hown hnm hZ X0 e0
 have N0 := Fr.nil n0
 obtain ⟨f0, f1, f2⟩ := B0
 obtain ⟨f3, f4, f5, f6, f7, f8, f9, f10, f11, f12⟩ := B2
 refine k_aloadN X0 hx 1 (D d9_0) rfl rfl ?_
 refine k_getF1 X0 hx hZ hown 4 (k_w hw 61 rfl) e0 f10 (D d9_1) (fun T101 X101 e101 => ?_)
 refine k_if_le X101 hx 7 69 (D d9_4) (fun hc => absurd (by decide) hc) (fun _ => ?_)
 refine k_aloadN X101 hx 8 (D d9_7) rfl rfl ?_
 refine k_getF1 X101 hx hZ hown 11 (k_w hw 55 rfl) e101 f9 (D d9_8) (fun T102 X102 e102 => ?_)
 refine k_aloadN X102 hx 12 (D d9_11) rfl rfl ?_
 refine k_getF1 X102 hx hZ hown 15 (k_w hw 29 rfl) e102 f4 (D d9_12) (fun T103 X103 e103 => ?_)
 refine k_aloadN X103 hx 16 (D d9_15) rfl rfl ?_
 refine k_getF1 X103 hx hZ hown 19 (k_w hw 99 rfl) e103 f12 (D d9_16) (fun T104 X104 e104 => ?_)
 refine k_laload X104 hx hZ 20 e104 F0_4 ⟨by decide, (Classical.byContradiction (fun hq105 => by have B106 : (1 : Int) <= p3.toInt /\ p3.toInt <= 8 := ⟨kL_ge hp0 (by decide), kL_le hp1 (by decide)⟩; have B107 : (1 : Int) <= p6.toInt /\ p6.toInt <= 9223372036854775807 := ⟨kL_ge hp2 (by decide), Int.le_of_lt_add_one (rng64 p6).2⟩; have q109 : p11.toInt = p3.toInt := k_l2ix hd16 B106 (by decide) (by decide); have B108 : (2 : Int) <= p11.toInt /\ p11.toInt <= 1 := ⟨k_ge hp3 (by decide), k_le hq105 (by decide)⟩; have B110 : (2 : Int) <= (p3.toInt32).toInt /\ (p3.toInt32).toInt <= 8 := ⟨k_ge hx17 (by decide), k_le hx18 (by decide)⟩; omega))⟩ (v := (.long p7)) rfl (D d9_19) ?_
 refine k_lsubL X104 hx 21 (D d9_20) (z := (0 : Int64)) (Int64.sub_self _) ?_
 refine k_aloadN X104 hx 22 (D d9_21) rfl rfl ?_
 refine k_getF1 X104 hx hZ hown 25 (k_w hw 35 rfl) e104 f7 (D d9_22) (fun T111 X111 e111 => ?_)
 refine k_lcif_lt X111 hx 29 69 26 (D d9_25) (D d9_26) (fun _ => ?_) (fun hc => absurd (k_dL_alt_nxlt hp2 (by decide)) hc)
 refine k_aloadN X111 hx 70 (D d9_69) rfl rfl ?_
 refine k_getF1 X111 hx hZ hown 73 (k_w hw 29 rfl) e111 f4 (D d9_70) (fun T112 X112 e112 => ?_)
 refine k_alen X112 hx hZ 74 e112 F0_4 (D d9_73) ?_
 refine k_istoreN X112 hx 75 (D d9_74) (Ls' := #[rv a1, iv p11]) rfl ?_
 refine k_iloadN X112 hx 76 (D d9_75) rfl ?_
 refine k_bipush X112 hx 78 (D d9_76) (z := (8 : Int32)) rfl ?_
 refine k_icmp_le X112 hx 81 98 (D d9_78) (fun _ => ?_) (fun hc => absurd hc hp4)
 refine k_iloadN X112 hx 99 (D d9_98) rfl ?_
 refine k_aloadN X112 hx 100 (D d9_99) rfl rfl ?_
 refine k_getF1 X112 hx hZ hown 103 (k_w hw 29 rfl) e112 f4 (D d9_100) (fun T113 X113 e113 => ?_)
 refine k_alen X113 hx hZ 104 e113 F0_4 (D d9_103) ?_
 refine k_icmp_eq X113 hx 107 112 (D d9_104) (fun _ => ?_) (fun hc => absurd rfl hc)
 exact k_ret X113 hx hret (D d9_112) hlk (by decide) (by decide) (by rw [e113]; exact ⟨N0, ⟨rfl, ⟨f0, f1, f2⟩, ⟨f3, f4, f5, f6, f7, f8, f9, f10, f11, f12⟩, F0_4, F0_6, Z0⟩⟩)
abbrev R17_80 : Room := { frames := 0, cells := 0, slots := 0, locals := 0 }
def Q17_80 (Z : State) (a1 a2 a3 : Addr) (p4 p5 p6 p8 p9 p12 p13 : Int64) (k7 k11 : ClassId) (p10 : Int32) (h0 : Heap) (n0 : Nat) (v : Option Value) (h : Heap) (L : List Loc) : Prop := Fr n0 L /\ h = h0 /\ ((¬ (2 : Int32) < p10 /\ v = some (.int 0)) \/ ((2 : Int32) < p10 /\ v = some (.int 2)))
theorem rm17_80 (l : Launch) (Z : State) (a0 : Array Value) (hw : WW a0 Z) (ws : List Jvm.Cond) (a1 a2 a3 : Addr) (p4 p5 p6 p8 p9 p12 p13 : Int64) (k7 k11 : ClassId) (p10 : Int32) (h0 : Heap) (n0 : Nat) (Z0 : n0 <= h0.size) (B0 : BS Z h0 a1 (.ref a2) (.ref a3) (.long p4) (.long p5) (.int 1) (.long p6) (.int 1) (.long 0) (.int 1)) (F0_1 : Arv Z h0 a2 k7 .long p10 [(.long p8), (.long p9)] (.long 0)) (F0_2 : Arv Z h0 a3 k11 .long p10 [(.long p12), (.long p13)] (.long 0)) (lt0_0 : a1 < a2) (lt0_1 : a2 < a3) (hp0 : ¬ p4 < (1 : Int64)) (hp1 : ¬ (8 : Int64) < p4) (hp2 : ¬ p5 < (1 : Int64)) (hp3 : ¬ p10 < (2 : Int32)) (hp4 : ¬ (8 : Int32) < p10) (hd10 : p10 = p4.toInt32) :
    KMet l (⟨"com/example/halter/halter/SlidingSum", "place", "(I)I"⟩ : MethodName) prog_20_method_12_code 3 (some .int) ws R17_80 #[(.ref a1), (.int 1)] Z h0 R17_80.cells R17_80.slots (Q17_80 Z a1 a2 a3 p4 p5 p6 p8 p9 p12 p13 k7 k11 p10 h0 n0) := by
 refine k_body (plainFor_of_name pn_1) (fun m => ef17_29 m a1) ?_
 intro p e s m below meth c s₁ hx D hml hlk hret hown hnm hZ X0 e0
 have N0 := Fr.nil n0
 obtain ⟨f0, f1, f2, f3, f4, f5, f6, f7, f8, f9⟩ := B0
 refine k_aloadN X0 hx 1 (D d17_0) rfl rfl ?_
 refine k_getF1 X0 hx hZ hown 4 (k_w hw 99 rfl) e0 f9 (D d17_1) (fun T101 X101 e101 => ?_)
 refine k_iloadN X101 hx 5 (D d17_4) rfl ?_
 refine k_iaddL X101 hx 6 (D d17_5) (z := (2 : Int32)) (by decide) ?_
 refine k_istoreN X101 hx 7 (D d17_6) (Ls' := #[rv a1, iv 1, iv 2]) rfl ?_
 refine k_iloadN X101 hx 8 (D d17_7) rfl ?_
 refine k_aloadN X101 hx 9 (D d17_8) rfl rfl ?_
 refine k_getF1 X101 hx hZ hown 12 (k_w hw 29 rfl) e101 f1 (D d17_9) (fun T102 X102 e102 => ?_)
 refine k_alen X102 hx hZ 13 e102 F0_1 (D d17_12) ?_
 refine k_icmp_ge X102 hx 16 20 (D d17_13) (fun hc103 => ?_) (fun hc103 => ?_)
 ·
  refine k_iloadN X102 hx 21 (D d17_20) rfl ?_
  refine k_aloadN X102 hx 22 (D d17_21) rfl rfl ?_
  refine k_getF1 X102 hx hZ hown 25 (k_w hw 29 rfl) e102 f1 (D d17_22) (fun T104 X104 e104 => ?_)
  refine k_alen X104 hx hZ 26 e104 F0_1 (D d17_25) ?_
  refine k_isubL X104 hx 27 (D d17_26) (z := (0 : Int32)) (by rw [show p10 = (2 : Int32) from (Classical.byContradiction (fun hq105 => by have B108 : (1 : Int) <= p4.toInt /\ p4.toInt <= 8 := ⟨kL_ge hp0 (by decide), kL_le hp1 (by decide)⟩; have q107 : p10.toInt = p4.toInt := k_l2ix hd10 B108 (by decide) (by decide); have B106 : (2 : Int) <= p10.toInt /\ p10.toInt <= 2 := ⟨k_ge hp3 (by decide), k_le hc103 (by decide)⟩; have B109 : (2 : Int) <= (2 : Int32).toInt /\ (2 : Int32).toInt <= 2 := (by decide); have q110 : ¬ p10.toInt = (2 : Int32).toInt := fun q => hq105 (Int32.toInt_inj.mp q); omega))]; decide) ?_
  exact k_retI X104 hx hret (D d17_27) hlk (by decide) (by decide) ⟨N0, e104, (Or.inl ⟨hc103, rfl⟩)⟩
 ·
  refine k_iloadN X102 hx 17 (D d17_16) rfl ?_
  refine k_goto X102 hx 27 (D d17_17) ?_
  exact k_retI X102 hx hret (D d17_27) hlk (by decide) (by decide) ⟨N0, e102, (Or.inr ⟨hc103, rfl⟩)⟩
abbrev R9_79 : Room := { frames := 1, cells := 0, slots := 0, locals := 15 }
def Q9_79 (Z : State) (a1 a2 a4 a5 : Addr) (p3 p6 p7 p8 p10 p11 p14 : Int64) (k9 k13 : ClassId) (p12 : Int32) (h0 : Heap) (n0 : Nat) (v : Option Value) (h : Heap) (L : List Loc) : Prop := Fr n0 L /\ ((∃ (v117 : Int64), v117 = p7 - p11 /\ v117 < p6 /\ v = none /\ BL Z h a2 (.long p3) (.ref a1) /\ BS Z h a1 (.ref a4) (.ref a5) (.long p3) (.long p6) (.int 1) (.long p7) (.int 1) (.long p8) (.int 1) /\ Arv Z h a4 k9 .long p12 [(.long p10), (.long p11)] (.long 0) /\ Arv Z h a5 k13 .long p12 [(.long p14), (.long p8)] (.long 0) /\ n0 <= h.size) \/ (∃ (v117 : Int64), v117 = p7 - p11 /\ ¬ v117 < p6 /\ ¬ (2 : Int32) < p12 /\ v = none /\ BL Z h a2 (.long p3) (.ref a1) /\ BS Z h a1 (.ref a4) (.ref a5) (.long p3) (.long p6) (.int 1) (.long p7) (.int 0) (.long 0) (.int 0) /\ Arv Z h a4 k9 .long p12 [(.long p10), (.long p11)] (.long 0) /\ Arv Z h a5 k13 .long p12 [(.long p14), (.long p8)] (.long 0) /\ n0 <= h.size) \/ (∃ (v117 : Int64), v117 = p7 - p11 /\ ¬ v117 < p6 /\ (2 : Int32) < p12 /\ v = none /\ BL Z h a2 (.long p3) (.ref a1) /\ BS Z h a1 (.ref a4) (.ref a5) (.long p3) (.long p6) (.int 1) (.long p7) (.int 0) (.long 0) (.int 2) /\ Arv Z h a4 k9 .long p12 [(.long p10), (.long p11)] (.long 0) /\ Arv Z h a5 k13 .long p12 [(.long p14), (.long p8)] (.long 0) /\ n0 <= h.size))
theorem rm9_79 (l : Launch) (Z : State) (a0 : Array Value) (hw : WW a0 Z) (ws : List Jvm.Cond) (a1 a2 a4 a5 : Addr) (p3 p6 p7 p8 p10 p11 p14 : Int64) (k9 k13 : ClassId) (p12 : Int32) (h0 : Heap) (n0 : Nat) (Z0 : n0 <= h0.size) (B0 : BL Z h0 a2 (.long p3) (.ref a1)) (g_a2 : n0 <= a2) (B2 : BS Z h0 a1 (.ref a4) (.ref a5) (.long p3) (.long p6) (.int 1) (.long p7) (.int 1) (.long p8) (.int 1)) (g_a1 : n0 <= a1) (F0_4 : Arv Z h0 a4 k9 .long p12 [(.long p10), (.long p11)] (.long 0)) (g_a4 : n0 <= a4) (F0_6 : Arv Z h0 a5 k13 .long p12 [(.long p14), (.long p8)] (.long 0)) (g_a5 : n0 <= a5) (lt0_0 : a2 < a1) (lt0_1 : a1 < a4) (lt0_2 : a4 < a5) (hp0 : ¬ p3 < (1 : Int64)) (hp1 : ¬ (8 : Int64) < p3) (hp2 : ¬ p6 < (1 : Int64)) (hp3 : ¬ p12 < (2 : Int32)) (hp4 : ¬ (8 : Int32) < p12) (hd16 : p12 = p3.toInt32) (hx17 : ¬ (p3.toInt32) < (2 : Int32)) (hx18 : ¬ (8 : Int32) < (p3.toInt32)) (hx19 : (0 : Int64) < (p7 - p11)) :
    KMet l (⟨"com/example/halter/halter/SlidingSum", "forgetWhatLeftTheWindow", "()V"⟩ : MethodName) prog_20_method_8_code 2 none ws R9_79 #[(.ref a1)] Z h0 R9_79.cells R9_79.slots (Q9_79 Z a1 a2 a4 a5 p3 p6 p7 p8 p10 p11 p14 k9 k13 p12 h0 n0) := by
 refine k_body (plainFor_of_name pn_1) (fun m => ef9_8 m a1) ?_
 intro p e s m below meth c s₁ hx D hml hlk hret hown hnm hZ X0 e0
 have N0 := Fr.nil n0
 obtain ⟨f0, f1, f2⟩ := B0
 obtain ⟨f3, f4, f5, f6, f7, f8, f9, f10, f11, f12⟩ := B2
 refine k_aloadN X0 hx 1 (D d9_0) rfl rfl ?_
 refine k_getF1 X0 hx hZ hown 4 (k_w hw 61 rfl) e0 f10 (D d9_1) (fun T101 X101 e101 => ?_)
 refine k_if_le X101 hx 7 69 (D d9_4) (fun hc => absurd (by decide) hc) (fun _ => ?_)
 refine k_aloadN X101 hx 8 (D d9_7) rfl rfl ?_
 refine k_getF1 X101 hx hZ hown 11 (k_w hw 55 rfl) e101 f9 (D d9_8) (fun T102 X102 e102 => ?_)
 refine k_aloadN X102 hx 12 (D d9_11) rfl rfl ?_
 refine k_getF1 X102 hx hZ hown 15 (k_w hw 29 rfl) e102 f4 (D d9_12) (fun T103 X103 e103 => ?_)
 refine k_aloadN X103 hx 16 (D d9_15) rfl rfl ?_
 refine k_getF1 X103 hx hZ hown 19 (k_w hw 99 rfl) e103 f12 (D d9_16) (fun T104 X104 e104 => ?_)
 refine k_laload X104 hx hZ 20 e104 F0_4 ⟨by decide, (Classical.byContradiction (fun hq105 => by have B106 : (1 : Int) <= p3.toInt /\ p3.toInt <= 8 := ⟨kL_ge hp0 (by decide), kL_le hp1 (by decide)⟩; have B107 : (1 : Int) <= p6.toInt /\ p6.toInt <= 9223372036854775807 := ⟨kL_ge hp2 (by decide), Int.le_of_lt_add_one (rng64 p6).2⟩; have q109 : p12.toInt = p3.toInt := k_l2ix hd16 B106 (by decide) (by decide); have B108 : (2 : Int) <= p12.toInt /\ p12.toInt <= 1 := ⟨k_ge hp3 (by decide), k_le hq105 (by decide)⟩; have B110 : (2 : Int) <= (p3.toInt32).toInt /\ (p3.toInt32).toInt <= 8 := ⟨k_ge hx17 (by decide), k_le hx18 (by decide)⟩; have B113 : (-9223372036854775808 : Int) <= p7.toInt /\ p7.toInt <= 9223372036854775807 := ⟨(rng64 p7).1, Int.le_of_lt_add_one (rng64 p7).2⟩; have B114 : (-9223372036854775808 : Int) <= p11.toInt /\ p11.toInt <= 9223372036854775807 := ⟨(rng64 p11).1, Int.le_of_lt_add_one (rng64 p11).2⟩; have q115 : ((p7 - p11).toInt - (p7.toInt - p11.toInt)) % 18446744073709551616 = 0 := c_lsub _ _; have B111 : (-9223372036854775808 : Int) <= (p7 - p11).toInt /\ (p7 - p11).toInt <= 9223372036854775807 := ⟨(rng64 (p7 - p11)).1, Int.le_of_lt_add_one (rng64 (p7 - p11)).2⟩; have B116 : (1 : Int) <= (p7 - p11).toInt /\ (p7 - p11).toInt <= 9223372036854775807 := ⟨kL_gt hx19 (by decide), B111.2⟩; omega))⟩ (v := (.long p11)) rfl (D d9_19) ?_
 refine k_lsub X104 hx 21 (D d9_20) (fun v117 hv117 => ?_)
 refine k_aloadN X104 hx 22 (D d9_21) rfl rfl ?_
 refine k_getF1 X104 hx hZ hown 25 (k_w hw 35 rfl) e104 f7 (D d9_22) (fun T118 X118 e118 => ?_)
 refine k_lcif_lt X118 hx 29 69 26 (D d9_25) (D d9_26) (fun hc119 => ?_) (fun hc119 => ?_)
 ·
  refine k_aloadN X118 hx 70 (D d9_69) rfl rfl ?_
  refine k_getF1 X118 hx hZ hown 73 (k_w hw 29 rfl) e118 f4 (D d9_70) (fun T120 X120 e120 => ?_)
  refine k_alen X120 hx hZ 74 e120 F0_4 (D d9_73) ?_
  refine k_istoreN X120 hx 75 (D d9_74) (Ls' := #[rv a1, iv p12]) rfl ?_
  refine k_iloadN X120 hx 76 (D d9_75) rfl ?_
  refine k_bipush X120 hx 78 (D d9_76) (z := (8 : Int32)) rfl ?_
  refine k_icmp_le X120 hx 81 98 (D d9_78) (fun _ => ?_) (fun hc => absurd hc hp4)
  refine k_iloadN X120 hx 99 (D d9_98) rfl ?_
  refine k_aloadN X120 hx 100 (D d9_99) rfl rfl ?_
  refine k_getF1 X120 hx hZ hown 103 (k_w hw 29 rfl) e120 f4 (D d9_100) (fun T121 X121 e121 => ?_)
  refine k_alen X121 hx hZ 104 e121 F0_4 (D d9_103) ?_
  refine k_icmp_eq X121 hx 107 112 (D d9_104) (fun _ => ?_) (fun hc => absurd rfl hc)
  exact k_ret X121 hx hret (D d9_112) hlk (by decide) (by decide) (by rw [e121]; exact ⟨N0, (Or.inl ⟨v117, hv117, hc119, rfl, ⟨f0, f1, f2⟩, ⟨f3, f4, f5, f6, f7, f8, f9, f10, f11, f12⟩, F0_4, F0_6, Z0⟩)⟩)
 ·
  refine k_aloadN X118 hx 30 (D d9_29) rfl rfl ?_
  refine k_dup X118 hx 31 (D d9_30) rfl ?_
  refine k_getF1 X118 hx hZ hown 34 (k_w hw 63 rfl) e118 f11 (D d9_31) (fun T122 X122 e122 => ?_)
  refine k_aloadN X122 hx 35 (D d9_34) rfl rfl ?_
  refine k_getF1 X122 hx hZ hown 38 (k_w hw 31 rfl) e122 f5 (D d9_35) (fun T123 X123 e123 => ?_)
  refine k_aloadN X123 hx 39 (D d9_38) rfl rfl ?_
  refine k_getF1 X123 hx hZ hown 42 (k_w hw 99 rfl) e123 f12 (D d9_39) (fun T124 X124 e124 => ?_)
  refine k_laload X124 hx hZ 43 e124 F0_6 ⟨by decide, (Classical.byContradiction (fun hq125 => by have B126 : (1 : Int) <= p3.toInt /\ p3.toInt <= 8 := ⟨kL_ge hp0 (by decide), kL_le hp1 (by decide)⟩; have B127 : (1 : Int) <= p6.toInt /\ p6.toInt <= 9223372036854775807 := ⟨kL_ge hp2 (by decide), Int.le_of_lt_add_one (rng64 p6).2⟩; have q129 : p12.toInt = p3.toInt := k_l2ix hd16 B126 (by decide) (by decide); have B128 : (2 : Int) <= p12.toInt /\ p12.toInt <= 1 := ⟨k_ge hp3 (by decide), k_le hq125 (by decide)⟩; have B130 : (2 : Int) <= (p3.toInt32).toInt /\ (p3.toInt32).toInt <= 8 := ⟨k_ge hx17 (by decide), k_le hx18 (by decide)⟩; have B133 : (-9223372036854775808 : Int) <= p7.toInt /\ p7.toInt <= 9223372036854775807 := ⟨(rng64 p7).1, Int.le_of_lt_add_one (rng64 p7).2⟩; have B134 : (-9223372036854775808 : Int) <= p11.toInt /\ p11.toInt <= 9223372036854775807 := ⟨(rng64 p11).1, Int.le_of_lt_add_one (rng64 p11).2⟩; have q135 : ((p7 - p11).toInt - (p7.toInt - p11.toInt)) % 18446744073709551616 = 0 := c_lsub _ _; have B131 : (-9223372036854775808 : Int) <= (p7 - p11).toInt /\ (p7 - p11).toInt <= 9223372036854775807 := ⟨(rng64 (p7 - p11)).1, Int.le_of_lt_add_one (rng64 (p7 - p11)).2⟩; have B136 : (1 : Int) <= (p7 - p11).toInt /\ (p7 - p11).toInt <= 9223372036854775807 := ⟨kL_gt hx19 (by decide), B131.2⟩; have q139 : (v117.toInt - (p7.toInt - p11.toInt)) % 18446744073709551616 = 0 := (by rw [hv117]; exact c_lsub _ _); have B137 : (-9223372036854775808 : Int) <= v117.toInt /\ v117.toInt <= 9223372036854775807 := ⟨(rng64 v117).1, Int.le_of_lt_add_one (rng64 v117).2⟩; have q140 := kL_m hc119; omega))⟩ (v := (.long p8)) rfl (D d9_42) ?_
  refine k_lsubL X124 hx 44 (D d9_43) (z := (0 : Int64)) (Int64.sub_self _) ?_
  refine k_putF1 X124 hx hZ hown 47 (k_w hw 63 rfl) e124 f11 f3 (Or.inl (k_w hw 64 rfl)) (k_w hw 22 rfl) .long rfl rfl (D d9_44) (fun T141 h141 X141 e141 W141 => ?_)
  have Fw141 := f11.same W141
  have N141 := Fr.snoc X141 N0 g_a1
  have Z141 := k_zw Z0 W141
  refine k_aloadN X141 hx 48 (D d9_47) rfl rfl ?_
  refine k_aloadN X141 hx 49 (D d9_48) rfl rfl ?_
  refine k_iconst X141 hx 50 (D d9_49) (z := (1 : Int32)) rfl ?_
  have F142 := (f3.wr W141)
  have F143 := (f4.other W141 (Or.inr (sn60 hw)))
  have F144 := (f5.other W141 (Or.inr (sn62 hw)))
  have F145 := (f6.other W141 (Or.inr (sn64 hw)))
  have F146 := (f7.other W141 (Or.inr (sn66 hw)))
  have F147 := (f8.other W141 (Or.inr (sn68 hw)))
  have F148 := (f9.other W141 (Or.inr (sn70 hw)))
  have F149 := (f10.other W141 (Or.inr (sn71 hw)))
  have F150 := (f12.other W141 (Or.inr (sn73 hw)))
  have F151 := (F0_4.other W141 (Ne.symm (Nat.ne_of_lt lt0_1)))
  have F152 := (F0_6.other W141 (Ne.symm (Nat.ne_of_lt (Nat.lt_trans lt0_1 lt0_2))))
  refine k_callP X141 hx hZ hown 53 (a := a1) (k_w hw 101 rfl) (k_w hw 102 rfl) (k_w hw 103 rfl) (k_w hw 22 rfl) (k_w hw 23 rfl) (k_w hw 104 rfl) (by decide) F142 (rm17_80 l Z a0 hw [] a1 a4 a5 p3 p6 p7 p10 p11 p14 p8 k9 k13 p12 h141 n0 Z141 ⟨F142, F143, F144, F145, F146, F147, F148, F149, Fw141, F150⟩ F151 F152 lt0_1 lt0_2 hp0 hp1 hp2 hp3 hp4 hd16) (by decide) (by decide) e141 (by rw [hml]; rfl) (argsL := [(.int 1)]) (rest := [(.ref a1)]) (lenOf pd_7 rfl) rfl (W := 1) (Nat.le_refl _) rfl (D d9_50) (by decide) (by decide) (fun T153 L153 r153 X153 q153 => ?_)
  obtain ⟨N153, e153, q153⟩ := q153
  have N153' := Fr.app N141 N153
  rcases q153 with ⟨hc154, rfl⟩ | ⟨hc155, rfl⟩
  ·
   refine k_n1 ?_
   refine k_putF1 X153 hx hZ hown 56 (k_w hw 99 rfl) e153 F150 F142 (Or.inl (k_w hw 100 rfl)) (k_w hw 22 rfl) .int rfl rfl (D d9_53) (fun T156 h156 X156 e156 W156 => ?_)
   have Fw156 := F150.same W156
   have N156 := Fr.snoc X156 N153' g_a1
   have Z156 := k_zw Z141 W156
   refine k_aloadN X156 hx 57 (D d9_56) rfl rfl ?_
   refine k_dup X156 hx 58 (D d9_57) rfl ?_
   have F157 := (F149.other W156 (Or.inr (sn56 hw)))
   refine k_getF1 X156 hx hZ hown 61 (k_w hw 61 rfl) e156 F157 (D d9_58) (fun T158 X158 e158 => ?_)
   refine k_iconst X158 hx 62 (D d9_61) (z := (1 : Int32)) rfl ?_
   refine k_isubL X158 hx 63 (D d9_62) (z := (0 : Int32)) (by decide) ?_
   have F159 := (F142.wr W156)
   refine k_putF1 X158 hx hZ hown 66 (k_w hw 61 rfl) e158 F157 F159 (Or.inl (k_w hw 62 rfl)) (k_w hw 22 rfl) .int rfl rfl (D d9_63) (fun T160 h160 X160 e160 W160 => ?_)
   have Fw160 := F157.same W160
   have N160 := Fr.snoc X160 N156 g_a1
   have Z160 := k_zw Z156 W160
   refine k_goto X160 hx 0 (D d9_66) ?_
   refine k_aloadN X160 hx 1 (D d9_0) rfl rfl ?_
   refine k_getF1 X160 hx hZ hown 4 (k_w hw 61 rfl) e160 Fw160 (D d9_1) (fun T161 X161 e161 => ?_)
   refine k_if_le X161 hx 7 69 (D d9_4) (fun _ => ?_) (fun hc => absurd hc (by decide))
   refine k_aloadN X161 hx 70 (D d9_69) rfl rfl ?_
   have F162 := ((F143.other W156 (Or.inr (sn50 hw))).other W160 (Or.inr (sn59 hw)))
   refine k_getF1 X161 hx hZ hown 73 (k_w hw 29 rfl) e161 F162 (D d9_70) (fun T163 X163 e163 => ?_)
   have F164 := ((F151.other W156 (Ne.symm (Nat.ne_of_lt lt0_1))).other W160 (Ne.symm (Nat.ne_of_lt lt0_1)))
   refine k_alen X163 hx hZ 74 e163 F164 (D d9_73) ?_
   refine k_istoreN X163 hx 75 (D d9_74) (Ls' := #[rv a1, iv p12]) rfl ?_
   refine k_iloadN X163 hx 76 (D d9_75) rfl ?_
   refine k_bipush X163 hx 78 (D d9_76) (z := (8 : Int32)) rfl ?_
   refine k_icmp_le X163 hx 81 98 (D d9_78) (fun _ => ?_) (fun hc => absurd hc hp4)
   refine k_iloadN X163 hx 99 (D d9_98) rfl ?_
   refine k_aloadN X163 hx 100 (D d9_99) rfl rfl ?_
   refine k_getF1 X163 hx hZ hown 103 (k_w hw 29 rfl) e163 F162 (D d9_100) (fun T165 X165 e165 => ?_)
   refine k_alen X165 hx hZ 104 e165 F164 (D d9_103) ?_
   refine k_icmp_eq X165 hx 107 112 (D d9_104) (fun _ => ?_) (fun hc => absurd rfl hc)
   have F176 := (((f0.wr W141).wr W156).wr W160)
   have F177 := (((f1.other W141 (Or.inl (Nat.ne_of_lt lt0_0))).other W156 (Or.inl (Nat.ne_of_lt lt0_0))).other W160 (Or.inl (Nat.ne_of_lt lt0_0)))
   have F178 := (((f2.other W141 (Or.inl (Nat.ne_of_lt lt0_0))).other W156 (Or.inl (Nat.ne_of_lt lt0_0))).other W160 (Or.inl (Nat.ne_of_lt lt0_0)))
   have F179 := (F159.wr W160)
   have F180 := ((F144.other W156 (Or.inr (sn51 hw))).other W160 (Or.inr (sn61 hw)))
   have F181 := ((F145.other W156 (Or.inr (sn52 hw))).other W160 (Or.inr (sn63 hw)))
   have F182 := ((F146.other W156 (Or.inr (sn53 hw))).other W160 (Or.inr (sn65 hw)))
   have F183 := ((F147.other W156 (Or.inr (sn54 hw))).other W160 (Or.inr (sn67 hw)))
   have F184 := ((F148.other W156 (Or.inr (sn55 hw))).other W160 (Or.inr (sn69 hw)))
   have F185 := ((Fw141.other W156 (Or.inr (sn57 hw))).other W160 (Or.inr (sn58 hw)))
   have F186 := (Fw156.other W160 (Or.inr (sn72 hw)))
   have F187 := ((F152.other W156 (Ne.symm (Nat.ne_of_lt (Nat.lt_trans lt0_1 lt0_2)))).other W160 (Ne.symm (Nat.ne_of_lt (Nat.lt_trans lt0_1 lt0_2))))
   exact k_ret X165 hx hret (D d9_112) hlk (by decide) (by decide) (by rw [e165]; exact ⟨N160, (Or.inr (Or.inl ⟨v117, hv117, hc119, hc154, rfl, ⟨F176, F177, F178⟩, ⟨F179, F162, F180, F181, F182, F183, F184, Fw160, F185, F186⟩, F164, F187, Z160⟩))⟩)
  ·
   refine k_n1 ?_
   refine k_putF1 X153 hx hZ hown 56 (k_w hw 99 rfl) e153 F150 F142 (Or.inl (k_w hw 100 rfl)) (k_w hw 22 rfl) .int rfl rfl (D d9_53) (fun T166 h166 X166 e166 W166 => ?_)
   have Fw166 := F150.same W166
   have N166 := Fr.snoc X166 N153' g_a1
   have Z166 := k_zw Z141 W166
   refine k_aloadN X166 hx 57 (D d9_56) rfl rfl ?_
   refine k_dup X166 hx 58 (D d9_57) rfl ?_
   have F167 := (F149.other W166 (Or.inr (sn56 hw)))
   refine k_getF1 X166 hx hZ hown 61 (k_w hw 61 rfl) e166 F167 (D d9_58) (fun T168 X168 e168 => ?_)
   refine k_iconst X168 hx 62 (D d9_61) (z := (1 : Int32)) rfl ?_
   refine k_isubL X168 hx 63 (D d9_62) (z := (0 : Int32)) (by decide) ?_
   have F169 := (F142.wr W166)
   refine k_putF1 X168 hx hZ hown 66 (k_w hw 61 rfl) e168 F167 F169 (Or.inl (k_w hw 62 rfl)) (k_w hw 22 rfl) .int rfl rfl (D d9_63) (fun T170 h170 X170 e170 W170 => ?_)
   have Fw170 := F167.same W170
   have N170 := Fr.snoc X170 N166 g_a1
   have Z170 := k_zw Z166 W170
   refine k_goto X170 hx 0 (D d9_66) ?_
   refine k_aloadN X170 hx 1 (D d9_0) rfl rfl ?_
   refine k_getF1 X170 hx hZ hown 4 (k_w hw 61 rfl) e170 Fw170 (D d9_1) (fun T171 X171 e171 => ?_)
   refine k_if_le X171 hx 7 69 (D d9_4) (fun _ => ?_) (fun hc => absurd hc (by decide))
   refine k_aloadN X171 hx 70 (D d9_69) rfl rfl ?_
   have F172 := ((F143.other W166 (Or.inr (sn50 hw))).other W170 (Or.inr (sn59 hw)))
   refine k_getF1 X171 hx hZ hown 73 (k_w hw 29 rfl) e171 F172 (D d9_70) (fun T173 X173 e173 => ?_)
   have F174 := ((F151.other W166 (Ne.symm (Nat.ne_of_lt lt0_1))).other W170 (Ne.symm (Nat.ne_of_lt lt0_1)))
   refine k_alen X173 hx hZ 74 e173 F174 (D d9_73) ?_
   refine k_istoreN X173 hx 75 (D d9_74) (Ls' := #[rv a1, iv p12]) rfl ?_
   refine k_iloadN X173 hx 76 (D d9_75) rfl ?_
   refine k_bipush X173 hx 78 (D d9_76) (z := (8 : Int32)) rfl ?_
   refine k_icmp_le X173 hx 81 98 (D d9_78) (fun _ => ?_) (fun hc => absurd hc hp4)
   refine k_iloadN X173 hx 99 (D d9_98) rfl ?_
   refine k_aloadN X173 hx 100 (D d9_99) rfl rfl ?_
   refine k_getF1 X173 hx hZ hown 103 (k_w hw 29 rfl) e173 F172 (D d9_100) (fun T175 X175 e175 => ?_)
   refine k_alen X175 hx hZ 104 e175 F174 (D d9_103) ?_
   refine k_icmp_eq X175 hx 107 112 (D d9_104) (fun _ => ?_) (fun hc => absurd rfl hc)
   have F188 := (((f0.wr W141).wr W166).wr W170)
   have F189 := (((f1.other W141 (Or.inl (Nat.ne_of_lt lt0_0))).other W166 (Or.inl (Nat.ne_of_lt lt0_0))).other W170 (Or.inl (Nat.ne_of_lt lt0_0)))
   have F190 := (((f2.other W141 (Or.inl (Nat.ne_of_lt lt0_0))).other W166 (Or.inl (Nat.ne_of_lt lt0_0))).other W170 (Or.inl (Nat.ne_of_lt lt0_0)))
   have F191 := (F169.wr W170)
   have F192 := ((F144.other W166 (Or.inr (sn51 hw))).other W170 (Or.inr (sn61 hw)))
   have F193 := ((F145.other W166 (Or.inr (sn52 hw))).other W170 (Or.inr (sn63 hw)))
   have F194 := ((F146.other W166 (Or.inr (sn53 hw))).other W170 (Or.inr (sn65 hw)))
   have F195 := ((F147.other W166 (Or.inr (sn54 hw))).other W170 (Or.inr (sn67 hw)))
   have F196 := ((F148.other W166 (Or.inr (sn55 hw))).other W170 (Or.inr (sn69 hw)))
   have F197 := ((Fw141.other W166 (Or.inr (sn57 hw))).other W170 (Or.inr (sn58 hw)))
   have F198 := (Fw166.other W170 (Or.inr (sn72 hw)))
   have F199 := ((F152.other W166 (Ne.symm (Nat.ne_of_lt (Nat.lt_trans lt0_1 lt0_2)))).other W170 (Ne.symm (Nat.ne_of_lt (Nat.lt_trans lt0_1 lt0_2))))
   exact k_ret X175 hx hret (D d9_112) hlk (by decide) (by decide) (by rw [e175]; exact ⟨N170, (Or.inr (Or.inr ⟨v117, hv117, hc119, hc155, rfl, ⟨F188, F189, F190⟩, ⟨F191, F172, F192, F193, F194, F195, F196, Fw170, F197, F198⟩, F174, F199, Z170⟩))⟩)
abbrev R8_77 : Room := { frames := 2, cells := 0, slots := 0, locals := 28 }
def Q8_77 (Z : State) (a1 a3 a5 a6 : Addr) (p2 p4 p7 p8 p9 p11 p14 : Int64) (k10 k13 : ClassId) (p12 : Int32) (h0 : Heap) (n0 : Nat) (v : Option Value) (h : Heap) (L : List Loc) : Prop := Fr n0 L /\ ((∃ (v103 : Int64), v103 = p2 - p8 /\ ¬ (0 : Int64) < v103 /\ v = none /\ BL Z h a3 (.long p4) (.ref a1) /\ BS Z h a1 (.ref a5) (.ref a6) (.long p4) (.long p7) (.int 1) (.long p8) (.int 1) (.long p9) (.int 1) /\ Arv Z h a5 k10 .long p12 [(.long p11), (.long p8)] (.long 0) /\ Arv Z h a6 k13 .long p12 [(.long p14), (.long p9)] (.long 0) /\ n0 <= h.size) \/ (∃ (v103 : Int64), v103 = p2 - p8 /\ (0 : Int64) < v103 /\ v103 < p7 /\ v = none /\ BL Z h a3 (.long p4) (.ref a1) /\ BS Z h a1 (.ref a5) (.ref a6) (.long p4) (.long p7) (.int 1) (.long p2) (.int 1) (.long p9) (.int 1) /\ Arv Z h a5 k10 .long p12 [(.long p11), (.long p8)] (.long 0) /\ Arv Z h a6 k13 .long p12 [(.long p14), (.long p9)] (.long 0) /\ n0 <= h.size) \/ (∃ (v103 : Int64), v103 = p2 - p8 /\ (0 : Int64) < v103 /\ ¬ v103 < p7 /\ ¬ (2 : Int32) < p12 /\ v = none /\ BL Z h a3 (.long p4) (.ref a1) /\ BS Z h a1 (.ref a5) (.ref a6) (.long p4) (.long p7) (.int 1) (.long p2) (.int 0) (.long 0) (.int 0) /\ Arv Z h a5 k10 .long p12 [(.long p11), (.long p8)] (.long 0) /\ Arv Z h a6 k13 .long p12 [(.long p14), (.long p9)] (.long 0) /\ n0 <= h.size) \/ (∃ (v103 : Int64), v103 = p2 - p8 /\ (0 : Int64) < v103 /\ ¬ v103 < p7 /\ (2 : Int32) < p12 /\ v = none /\ BL Z h a3 (.long p4) (.ref a1) /\ BS Z h a1 (.ref a5) (.ref a6) (.long p4) (.long p7) (.int 1) (.long p2) (.int 0) (.long 0) (.int 2) /\ Arv Z h a5 k10 .long p12 [(.long p11), (.long p8)] (.long 0) /\ Arv Z h a6 k13 .long p12 [(.long p14), (.long p9)] (.long 0) /\ n0 <= h.size))
theorem rm8_77 (l : Launch) (Z : State) (a0 : Array Value) (hw : WW a0 Z) (ws : List Jvm.Cond) (a1 a3 a5 a6 : Addr) (p2 p4 p7 p8 p9 p11 p14 : Int64) (k10 k13 : ClassId) (p12 : Int32) (h0 : Heap) (n0 : Nat) (Z0 : n0 <= h0.size) (B0 : BL Z h0 a3 (.long p4) (.ref a1)) (g_a3 : n0 <= a3) (B2 : BS Z h0 a1 (.ref a5) (.ref a6) (.long p4) (.long p7) (.int 1) (.long p8) (.int 1) (.long p9) (.int 1)) (g_a1 : n0 <= a1) (F0_4 : Arv Z h0 a5 k10 .long p12 [(.long p11), (.long p8)] (.long 0)) (g_a5 : n0 <= a5) (F0_6 : Arv Z h0 a6 k13 .long p12 [(.long p14), (.long p9)] (.long 0)) (g_a6 : n0 <= a6) (lt0_0 : a3 < a1) (lt0_1 : a1 < a5) (lt0_2 : a5 < a6) (hp0 : ¬ p4 < (1 : Int64)) (hp1 : ¬ (8 : Int64) < p4) (hp2 : ¬ p7 < (1 : Int64)) (hp3 : ¬ p12 < (2 : Int32)) (hp4 : ¬ (8 : Int32) < p12) (hd16 : p12 = p4.toInt32) (hx17 : ¬ (p4.toInt32) < (2 : Int32)) (hx18 : ¬ (8 : Int32) < (p4.toInt32)) :
    KMet l (⟨"com/example/halter/halter/SlidingSum", "catchUp", "(J)V"⟩ : MethodName) prog_20_method_7_code 3 none ws R8_77 #[(.ref a1), (.long p2)] Z h0 R8_77.cells R8_77.slots (Q8_77 Z a1 a3 a5 a6 p2 p4 p7 p8 p9 p11 p14 k10 k13 p12 h0 n0) := by
 refine k_body (plainFor_of_name pn_1) (fun m => ef8_7 m a1 p2) ?_
 intro p e s m below meth c s₁ hx D hml hlk hret hown hnm hZ X0 e0
 have N0 := Fr.nil n0
 obtain ⟨f0, f1, f2⟩ := B0
 obtain ⟨f3, f4, f5, f6, f7, f8, f9, f10, f11, f12⟩ := B2
 refine k_aloadN X0 hx 1 (D d8_0) rfl rfl ?_
 refine k_getF1 X0 hx hZ hown 4 (k_w hw 53 rfl) e0 f8 (D d8_1) (fun T101 X101 e101 => ?_)
 refine k_if_eq X101 hx 7 18 (D d8_4) (fun hc => absurd hc (by decide)) (fun _ => ?_)
 refine k_lloadN X101 hx 8 (D d8_7) rfl ?_
 refine k_aloadN X101 hx 9 (D d8_8) rfl rfl ?_
 refine k_getF1 X101 hx hZ hown 12 (k_w hw 55 rfl) e101 f9 (D d8_9) (fun T102 X102 e102 => ?_)
 refine k_lsub X102 hx 13 (D d8_12) (fun v103 hv103 => ?_)
 refine k_lconst X102 hx 14 (D d8_13) (z := (0 : Int64)) rfl ?_
 refine k_lcif_le X102 hx 18 28 15 (D d8_14) (D d8_15) (fun hc104 => ?_) (fun hc104 => ?_)
 ·
  refine k_aloadN X102 hx 29 (D d8_28) rfl rfl ?_
  refine k_callP X102 hx hZ hown 32 (a := a1) (k_w hw 57 rfl) (k_w hw 58 rfl) (k_w hw 59 rfl) (k_w hw 22 rfl) (k_w hw 23 rfl) (k_w hw 60 rfl) (by decide) f3 (rm9_78 l Z a0 hw [] a1 a3 a5 a6 p4 p7 p8 p9 p11 p14 k10 k13 p12 h0 n0 Z0 ⟨f0, f1, f2⟩ g_a3 ⟨f3, f4, f5, f6, f7, f8, f9, f10, f11, f12⟩ g_a1 F0_4 g_a5 F0_6 g_a6 lt0_0 lt0_1 lt0_2 hp0 hp1 hp2 hp3 hp4 hd16 (by have q := hp3; rw [hd16] at q; exact q) (by have q := hp4; rw [hd16] at q; exact q)) (by decide) (by decide) e102 (by rw [hml]; rfl) (argsL := []) (rest := []) (lenOf pd_1 rfl) rfl (W := 0) (Nat.le_refl _) rfl (D d8_29) (by decide) (by decide) (fun T105 L105 r105 X105 q105 => ?_)
  obtain ⟨N105, q105⟩ := q105
  have N105' := Fr.app N0 N105
  obtain ⟨rfl, ⟨F106, F107, F108⟩, ⟨F109, F110, F111, F112, F113, F114, F115, F116, F117, F118⟩, F119, F120, Z121⟩ := q105
  refine k_n0 ?_
  exact k_ret X105 hx hret (D d8_32) hlk (by decide) (by decide) ⟨N105', (Or.inl ⟨v103, hv103, hc104, rfl, ⟨F106, F107, F108⟩, ⟨F109, F110, F111, F112, F113, F114, F115, F116, F117, F118⟩, F119, F120, Z121⟩)⟩
 ·
  refine k_aloadN X102 hx 19 (D d8_18) rfl rfl ?_
  refine k_lloadN X102 hx 20 (D d8_19) rfl ?_
  refine k_putF1 X102 hx hZ hown 23 (k_w hw 55 rfl) e102 f9 f3 (Or.inl (k_w hw 56 rfl)) (k_w hw 22 rfl) .long rfl rfl (D d8_20) (fun T122 h122 X122 e122 W122 => ?_)
  have Fw122 := f9.same W122
  have N122 := Fr.snoc X122 N0 g_a1
  have Z122 := k_zw Z0 W122
  refine k_aloadN X122 hx 24 (D d8_23) rfl rfl ?_
  refine k_iconst X122 hx 25 (D d8_24) (z := (1 : Int32)) rfl ?_
  have F123 := (f8.other W122 (Or.inr (sn34 hw)))
  have F124 := (f3.wr W122)
  refine k_putF1 X122 hx hZ hown 28 (k_w hw 53 rfl) e122 F123 F124 (Or.inl (k_w hw 54 rfl)) (k_w hw 22 rfl) .boolean rfl rfl (D d8_25) (fun T125 h125 X125 e125 W125 => ?_)
  have Fw125 := F123.same W125
  have N125 := Fr.snoc X125 N122 g_a1
  have Z125 := k_zw Z122 W125
  refine k_aloadN X125 hx 29 (D d8_28) rfl rfl ?_
  have F126 := ((f0.wr W122).wr W125)
  have F127 := ((f1.other W122 (Or.inl (Nat.ne_of_lt lt0_0))).other W125 (Or.inl (Nat.ne_of_lt lt0_0)))
  have F128 := ((f2.other W122 (Or.inl (Nat.ne_of_lt lt0_0))).other W125 (Or.inl (Nat.ne_of_lt lt0_0)))
  have F129 := (F124.wr W125)
  have F130 := ((f4.other W122 (Or.inr (sn35 hw))).other W125 (Or.inr (sn36 hw)))
  have F131 := ((f5.other W122 (Or.inr (sn37 hw))).other W125 (Or.inr (sn38 hw)))
  have F132 := ((f6.other W122 (Or.inr (sn39 hw))).other W125 (Or.inr (sn40 hw)))
  have F133 := ((f7.other W122 (Or.inr (sn41 hw))).other W125 (Or.inr (sn42 hw)))
  have F134 := (Fw122.other W125 (Or.inr (sn43 hw)))
  have F135 := ((f10.other W122 (Or.inr (sn44 hw))).other W125 (Or.inr (sn45 hw)))
  have F136 := ((f11.other W122 (Or.inr (sn46 hw))).other W125 (Or.inr (sn47 hw)))
  have F137 := ((f12.other W122 (Or.inr (sn48 hw))).other W125 (Or.inr (sn49 hw)))
  have F138 := ((F0_4.other W122 (Ne.symm (Nat.ne_of_lt lt0_1))).other W125 (Ne.symm (Nat.ne_of_lt lt0_1)))
  have F139 := ((F0_6.other W122 (Ne.symm (Nat.ne_of_lt (Nat.lt_trans lt0_1 lt0_2)))).other W125 (Ne.symm (Nat.ne_of_lt (Nat.lt_trans lt0_1 lt0_2))))
  refine k_callP X125 hx hZ hown 32 (a := a1) (k_w hw 57 rfl) (k_w hw 58 rfl) (k_w hw 59 rfl) (k_w hw 22 rfl) (k_w hw 23 rfl) (k_w hw 60 rfl) (by decide) F129 (rm9_79 l Z a0 hw [] a1 a3 a5 a6 p4 p7 p2 p9 p11 p8 p14 k10 k13 p12 h125 n0 Z125 ⟨F126, F127, F128⟩ g_a3 ⟨F129, F130, F131, F132, F133, Fw125, F134, F135, F136, F137⟩ g_a1 F138 g_a5 F139 g_a6 lt0_0 lt0_1 lt0_2 hp0 hp1 hp2 hp3 hp4 hd16 (by have q := hp3; rw [hd16] at q; exact q) (by have q := hp4; rw [hd16] at q; exact q) (by have q := hc104; rw [hv103] at q; exact q)) (by decide) (by decide) e125 (by rw [hml]; rfl) (argsL := []) (rest := []) (lenOf pd_1 rfl) rfl (W := 0) (Nat.le_refl _) rfl (D d8_29) (by decide) (by decide) (fun T140 L140 r140 X140 q140 => ?_)
  obtain ⟨N140, q140⟩ := q140
  have N140' := Fr.app N125 N140
  rcases q140 with ⟨v141, h142, hc143, rfl, ⟨F144, F145, F146⟩, ⟨F147, F148, F149, F150, F151, F152, F153, F154, F155, F156⟩, F157, F158, Z159⟩ | ⟨v160, h161, hc162, hc163, rfl, ⟨F164, F165, F166⟩, ⟨F167, F168, F169, F170, F171, F172, F173, F174, F175, F176⟩, F177, F178, Z179⟩ | ⟨v180, h181, hc182, hc183, rfl, ⟨F184, F185, F186⟩, ⟨F187, F188, F189, F190, F191, F192, F193, F194, F195, F196⟩, F197, F198, Z199⟩
  ·
   have hh200 : v103 = v141 := hv103.trans h142.symm
   subst hh200
   refine k_n0 ?_
   exact k_ret X140 hx hret (D d8_32) hlk (by decide) (by decide) ⟨N140', (Or.inr (Or.inl ⟨v103, hv103, hc104, hc143, rfl, ⟨F144, F145, F146⟩, ⟨F147, F148, F149, F150, F151, F152, F153, F154, F155, F156⟩, F157, F158, Z159⟩))⟩
  ·
   have hh201 : v103 = v160 := hv103.trans h161.symm
   subst hh201
   refine k_n0 ?_
   exact k_ret X140 hx hret (D d8_32) hlk (by decide) (by decide) ⟨N140', (Or.inr (Or.inr (Or.inl ⟨v103, hv103, hc104, hc162, hc163, rfl, ⟨F164, F165, F166⟩, ⟨F167, F168, F169, F170, F171, F172, F173, F174, F175, F176⟩, F177, F178, Z179⟩)))⟩
  ·
   have hh202 : v103 = v180 := hv103.trans h181.symm
   subst hh202
   refine k_n0 ?_
   exact k_ret X140 hx hret (D d8_32) hlk (by decide) (by decide) ⟨N140', (Or.inr (Or.inr (Or.inr ⟨v103, hv103, hc104, hc182, hc183, rfl, ⟨F184, F185, F186⟩, ⟨F187, F188, F189, F190, F191, F192, F193, F194, F195, F196⟩, F197, F198, Z199⟩)))⟩
abbrev R7_76 : Room := { frames := 3, cells := 0, slots := 0, locals := 42 }
def Q7_76 (Z : State) (a1 a3 a5 a6 : Addr) (p2 p4 p7 p8 p9 p11 p14 : Int64) (k10 k13 : ClassId) (p12 : Int32) (h0 : Heap) (n0 : Nat) (v : Option Value) (h : Heap) (L : List Loc) : Prop := Fr n0 L /\ ((∃ (v102 : Int64), v102 = p2 - p8 /\ ¬ (0 : Int64) < v102 /\ v = some (.long p9) /\ BL Z h a3 (.long p4) (.ref a1) /\ BS Z h a1 (.ref a5) (.ref a6) (.long p4) (.long p7) (.int 1) (.long p8) (.int 1) (.long p9) (.int 1) /\ Arv Z h a5 k10 .long p12 [(.long p11), (.long p8)] (.long 0) /\ Arv Z h a6 k13 .long p12 [(.long p14), (.long p9)] (.long 0) /\ n0 <= h.size) \/ (∃ (v121 : Int64), v121 = p2 - p8 /\ (0 : Int64) < v121 /\ v121 < p7 /\ v = some (.long p9) /\ BL Z h a3 (.long p4) (.ref a1) /\ BS Z h a1 (.ref a5) (.ref a6) (.long p4) (.long p7) (.int 1) (.long p2) (.int 1) (.long p9) (.int 1) /\ Arv Z h a5 k10 .long p12 [(.long p11), (.long p8)] (.long 0) /\ Arv Z h a6 k13 .long p12 [(.long p14), (.long p9)] (.long 0) /\ n0 <= h.size) \/ (∃ (v141 : Int64), v141 = p2 - p8 /\ (0 : Int64) < v141 /\ ¬ v141 < p7 /\ ¬ (2 : Int32) < p12 /\ v = some (.long 0) /\ BL Z h a3 (.long p4) (.ref a1) /\ BS Z h a1 (.ref a5) (.ref a6) (.long p4) (.long p7) (.int 1) (.long p2) (.int 0) (.long 0) (.int 0) /\ Arv Z h a5 k10 .long p12 [(.long p11), (.long p8)] (.long 0) /\ Arv Z h a6 k13 .long p12 [(.long p14), (.long p9)] (.long 0) /\ n0 <= h.size) \/ (∃ (v162 : Int64), v162 = p2 - p8 /\ (0 : Int64) < v162 /\ ¬ v162 < p7 /\ (2 : Int32) < p12 /\ v = some (.long 0) /\ BL Z h a3 (.long p4) (.ref a1) /\ BS Z h a1 (.ref a5) (.ref a6) (.long p4) (.long p7) (.int 1) (.long p2) (.int 0) (.long 0) (.int 2) /\ Arv Z h a5 k10 .long p12 [(.long p11), (.long p8)] (.long 0) /\ Arv Z h a6 k13 .long p12 [(.long p14), (.long p9)] (.long 0) /\ n0 <= h.size))
theorem rm7_76 (l : Launch) (Z : State) (a0 : Array Value) (hw : WW a0 Z) (ws : List Jvm.Cond) (a1 a3 a5 a6 : Addr) (p2 p4 p7 p8 p9 p11 p14 : Int64) (k10 k13 : ClassId) (p12 : Int32) (h0 : Heap) (n0 : Nat) (Z0 : n0 <= h0.size) (B0 : BL Z h0 a3 (.long p4) (.ref a1)) (g_a3 : n0 <= a3) (B2 : BS Z h0 a1 (.ref a5) (.ref a6) (.long p4) (.long p7) (.int 1) (.long p8) (.int 1) (.long p9) (.int 1)) (g_a1 : n0 <= a1) (F0_4 : Arv Z h0 a5 k10 .long p12 [(.long p11), (.long p8)] (.long 0)) (g_a5 : n0 <= a5) (F0_6 : Arv Z h0 a6 k13 .long p12 [(.long p14), (.long p9)] (.long 0)) (g_a6 : n0 <= a6) (lt0_0 : a3 < a1) (lt0_1 : a1 < a5) (lt0_2 : a5 < a6) (hp0 : ¬ p4 < (1 : Int64)) (hp1 : ¬ (8 : Int64) < p4) (hp2 : ¬ p7 < (1 : Int64)) (hp3 : ¬ p12 < (2 : Int32)) (hp4 : ¬ (8 : Int32) < p12) (hd16 : p12 = p4.toInt32) :
    KMet l (⟨"com/example/halter/halter/SlidingSum", "at", "(J)J"⟩ : MethodName) prog_20_method_2_code 3 (some .long) ws R7_76 #[(.ref a1), (.long p2)] Z h0 R7_76.cells R7_76.slots (Q7_76 Z a1 a3 a5 a6 p2 p4 p7 p8 p9 p11 p14 k10 k13 p12 h0 n0) := by
 refine k_body (plainFor_of_name pn_1) (fun m => ef8_7 m a1 p2) ?_
 intro p e s m below meth c s₁ hx D hml hlk hret hown hnm hZ X0 e0
 have N0 := Fr.nil n0
 obtain ⟨f0, f1, f2⟩ := B0
 obtain ⟨f3, f4, f5, f6, f7, f8, f9, f10, f11, f12⟩ := B2
 refine k_aloadN X0 hx 1 (D d7_0) rfl rfl ?_
 refine k_lloadN X0 hx 2 (D d7_1) rfl ?_
 refine k_callP X0 hx hZ hown 5 (a := a1) (k_w hw 49 rfl) (k_w hw 50 rfl) (k_w hw 51 rfl) (k_w hw 22 rfl) (k_w hw 23 rfl) (k_w hw 52 rfl) (by decide) f3 (rm8_77 l Z a0 hw [] a1 a3 a5 a6 p2 p4 p7 p8 p9 p11 p14 k10 k13 p12 h0 n0 Z0 ⟨f0, f1, f2⟩ g_a3 ⟨f3, f4, f5, f6, f7, f8, f9, f10, f11, f12⟩ g_a1 F0_4 g_a5 F0_6 g_a6 lt0_0 lt0_1 lt0_2 hp0 hp1 hp2 hp3 hp4 hd16 (by have q := hp3; rw [hd16] at q; exact q) (by have q := hp4; rw [hd16] at q; exact q)) (by decide) (by decide) e0 (by rw [hml]; rfl) (argsL := [(.long p2)]) (rest := []) (lenOf pd_3 rfl) rfl (W := 0) (Nat.le_refl _) rfl (D d7_2) (by decide) (by decide) (fun T101 L101 r101 X101 q101 => ?_)
 obtain ⟨N101, q101⟩ := q101
 have N101' := Fr.app N0 N101
 rcases q101 with ⟨v102, h103, hc104, rfl, ⟨F105, F106, F107⟩, ⟨F108, F109, F110, F111, F112, F113, F114, F115, F116, F117⟩, F118, F119, Z120⟩ | ⟨v121, h122, hc123, hc124, rfl, ⟨F125, F126, F127⟩, ⟨F128, F129, F130, F131, F132, F133, F134, F135, F136, F137⟩, F138, F139, Z140⟩ | ⟨v141, h142, hc143, hc144, hc145, rfl, ⟨F146, F147, F148⟩, ⟨F149, F150, F151, F152, F153, F154, F155, F156, F157, F158⟩, F159, F160, Z161⟩ | ⟨v162, h163, hc164, hc165, hc166, rfl, ⟨F167, F168, F169⟩, ⟨F170, F171, F172, F173, F174, F175, F176, F177, F178, F179⟩, F180, F181, Z182⟩
 ·
  refine k_n0 ?_
  refine k_aloadN X101 hx 6 (D d7_5) rfl rfl ?_
  refine k_getF1 X101 hx hZ hown 9 (k_w hw 63 rfl) rfl F116 (D d7_6) (fun T183 X183 e183 => ?_)
  exact k_retL X183 hx hret (D d7_9) hlk (by decide) (by decide) (by rw [e183]; exact ⟨N101', (Or.inl ⟨v102, h103, hc104, rfl, ⟨F105, F106, F107⟩, ⟨F108, F109, F110, F111, F112, F113, F114, F115, F116, F117⟩, F118, F119, Z120⟩)⟩)
 ·
  refine k_n0 ?_
  refine k_aloadN X101 hx 6 (D d7_5) rfl rfl ?_
  refine k_getF1 X101 hx hZ hown 9 (k_w hw 63 rfl) rfl F136 (D d7_6) (fun T184 X184 e184 => ?_)
  exact k_retL X184 hx hret (D d7_9) hlk (by decide) (by decide) (by rw [e184]; exact ⟨N101', (Or.inr (Or.inl ⟨v121, h122, hc123, hc124, rfl, ⟨F125, F126, F127⟩, ⟨F128, F129, F130, F131, F132, F133, F134, F135, F136, F137⟩, F138, F139, Z140⟩))⟩)
 ·
  refine k_n0 ?_
  refine k_aloadN X101 hx 6 (D d7_5) rfl rfl ?_
  refine k_getF1 X101 hx hZ hown 9 (k_w hw 63 rfl) rfl F157 (D d7_6) (fun T185 X185 e185 => ?_)
  exact k_retL X185 hx hret (D d7_9) hlk (by decide) (by decide) (by rw [e185]; exact ⟨N101', (Or.inr (Or.inr (Or.inl ⟨v141, h142, hc143, hc144, hc145, rfl, ⟨F146, F147, F148⟩, ⟨F149, F150, F151, F152, F153, F154, F155, F156, F157, F158⟩, F159, F160, Z161⟩)))⟩)
 ·
  refine k_n0 ?_
  refine k_aloadN X101 hx 6 (D d7_5) rfl rfl ?_
  refine k_getF1 X101 hx hZ hown 9 (k_w hw 63 rfl) rfl F178 (D d7_6) (fun T186 X186 e186 => ?_)
  exact k_retL X186 hx hret (D d7_9) hlk (by decide) (by decide) (by rw [e186]; exact ⟨N101', (Or.inr (Or.inr (Or.inr ⟨v162, h163, hc164, hc165, hc166, rfl, ⟨F167, F168, F169⟩, ⟨F170, F171, F172, F173, F174, F175, F176, F177, F178, F179⟩, F180, F181, Z182⟩)))⟩)
abbrev R6_75 : Room := { frames := 4, cells := 0, slots := 0, locals := 56 }
def Q6_75 (Z : State) (a1 a4 a5 a6 : Addr) (p2 p3 p7 p8 p9 p11 p14 : Int64) (k10 k13 : ClassId) (p12 : Int32) (h0 : Heap) (n0 : Nat) (v : Option Value) (h : Heap) (L : List Loc) : Prop := Fr n0 L /\ ((∃ (v103 : Int64), v103 = p2 - p8 /\ ¬ (0 : Int64) < v103 /\ ¬ p9 = (0 : Int64) /\ v = some (.int 0) /\ BL Z h a1 (.long p3) (.ref a4) /\ BS Z h a4 (.ref a5) (.ref a6) (.long p3) (.long p7) (.int 1) (.long p8) (.int 1) (.long p9) (.int 1) /\ Arv Z h a5 k10 .long p12 [(.long p11), (.long p8)] (.long 0) /\ Arv Z h a6 k13 .long p12 [(.long p14), (.long p9)] (.long 0) /\ n0 <= h.size) \/ (∃ (v103 : Int64), v103 = p2 - p8 /\ ¬ (0 : Int64) < v103 /\ p9 = (0 : Int64) /\ v = some (.int 1) /\ BL Z h a1 (.long p3) (.ref a4) /\ BS Z h a4 (.ref a5) (.ref a6) (.long p3) (.long p7) (.int 1) (.long p8) (.int 1) (.long p9) (.int 1) /\ Arv Z h a5 k10 .long p12 [(.long p11), (.long p8)] (.long 0) /\ Arv Z h a6 k13 .long p12 [(.long p14), (.long p9)] (.long 0) /\ n0 <= h.size) \/ (∃ (v122 : Int64), v122 = p2 - p8 /\ (0 : Int64) < v122 /\ v122 < p7 /\ ¬ p9 = (0 : Int64) /\ v = some (.int 0) /\ BL Z h a1 (.long p3) (.ref a4) /\ BS Z h a4 (.ref a5) (.ref a6) (.long p3) (.long p7) (.int 1) (.long p2) (.int 1) (.long p9) (.int 1) /\ Arv Z h a5 k10 .long p12 [(.long p11), (.long p8)] (.long 0) /\ Arv Z h a6 k13 .long p12 [(.long p14), (.long p9)] (.long 0) /\ n0 <= h.size) \/ (∃ (v122 : Int64), v122 = p2 - p8 /\ (0 : Int64) < v122 /\ v122 < p7 /\ p9 = (0 : Int64) /\ v = some (.int 1) /\ BL Z h a1 (.long p3) (.ref a4) /\ BS Z h a4 (.ref a5) (.ref a6) (.long p3) (.long p7) (.int 1) (.long p2) (.int 1) (.long p9) (.int 1) /\ Arv Z h a5 k10 .long p12 [(.long p11), (.long p8)] (.long 0) /\ Arv Z h a6 k13 .long p12 [(.long p14), (.long p9)] (.long 0) /\ n0 <= h.size) \/ (∃ (v142 : Int64), v142 = p2 - p8 /\ (0 : Int64) < v142 /\ ¬ v142 < p7 /\ ¬ (2 : Int32) < p12 /\ v = some (.int 1) /\ BL Z h a1 (.long p3) (.ref a4) /\ BS Z h a4 (.ref a5) (.ref a6) (.long p3) (.long p7) (.int 1) (.long p2) (.int 0) (.long 0) (.int 0) /\ Arv Z h a5 k10 .long p12 [(.long p11), (.long p8)] (.long 0) /\ Arv Z h a6 k13 .long p12 [(.long p14), (.long p9)] (.long 0) /\ n0 <= h.size) \/ (∃ (v163 : Int64), v163 = p2 - p8 /\ (0 : Int64) < v163 /\ ¬ v163 < p7 /\ (2 : Int32) < p12 /\ v = some (.int 1) /\ BL Z h a1 (.long p3) (.ref a4) /\ BS Z h a4 (.ref a5) (.ref a6) (.long p3) (.long p7) (.int 1) (.long p2) (.int 0) (.long 0) (.int 2) /\ Arv Z h a5 k10 .long p12 [(.long p11), (.long p8)] (.long 0) /\ Arv Z h a6 k13 .long p12 [(.long p14), (.long p9)] (.long 0) /\ n0 <= h.size))
theorem rm6_75 (l : Launch) (Z : State) (a0 : Array Value) (hw : WW a0 Z) (ws : List Jvm.Cond) (a1 a4 a5 a6 : Addr) (p2 p3 p7 p8 p9 p11 p14 : Int64) (k10 k13 : ClassId) (p12 : Int32) (h0 : Heap) (n0 : Nat) (Z0 : n0 <= h0.size) (B0 : BL Z h0 a1 (.long p3) (.ref a4)) (g_a1 : n0 <= a1) (B2 : BS Z h0 a4 (.ref a5) (.ref a6) (.long p3) (.long p7) (.int 1) (.long p8) (.int 1) (.long p9) (.int 1)) (g_a4 : n0 <= a4) (F0_4 : Arv Z h0 a5 k10 .long p12 [(.long p11), (.long p8)] (.long 0)) (g_a5 : n0 <= a5) (F0_6 : Arv Z h0 a6 k13 .long p12 [(.long p14), (.long p9)] (.long 0)) (g_a6 : n0 <= a6) (lt0_0 : a1 < a4) (lt0_1 : a4 < a5) (lt0_2 : a5 < a6) (hp0 : ¬ p3 < (1 : Int64)) (hp1 : ¬ (8 : Int64) < p3) (hp2 : ¬ p7 < (1 : Int64)) (hp3 : ¬ p12 < (2 : Int32)) (hp4 : ¬ (8 : Int32) < p12) (hd16 : p12 = p3.toInt32) :
    KMet l (⟨"com/example/halter/halter/SlidingLogLimiter$Log", "idleAt", "(J)Z"⟩ : MethodName) prog_18_method_3_code 3 (some .boolean) ws R6_75 #[(.ref a1), (.long p2)] Z h0 R6_75.cells R6_75.slots (Q6_75 Z a1 a4 a5 a6 p2 p3 p7 p8 p9 p11 p14 k10 k13 p12 h0 n0) := by
 refine k_body (plainFor_of_name pn_2) (fun m => ef8_7 m a1 p2) ?_
 intro p e s m below meth c s₁ hx D hml hlk hret hown hnm hZ X0 e0
 have N0 := Fr.nil n0
 obtain ⟨f0, f1, f2⟩ := B0
 obtain ⟨f3, f4, f5, f6, f7, f8, f9, f10, f11, f12⟩ := B2
 refine k_aloadN X0 hx 1 (D d6_0) rfl rfl ?_
 refine k_getF1 X0 hx hZ hown 4 (k_w hw 37 rfl) e0 f2 (D d6_1) (fun T101 X101 e101 => ?_)
 refine k_lloadN X101 hx 5 (D d6_4) rfl ?_
 refine k_callV X101 hx hZ hown 8 (a := a4) (k_w hw 44 rfl) (k_w hw 45 rfl) (k_w hw 47 rfl) (k_w hw 46 rfl) (k_w hw 23 rfl) (k_w hw 48 rfl) (by decide) f3 (rm7_76 l Z a0 hw [] a4 a1 a5 a6 p2 p3 p7 p8 p9 p11 p14 k10 k13 p12 h0 n0 Z0 ⟨f0, f1, f2⟩ g_a1 ⟨f3, f4, f5, f6, f7, f8, f9, f10, f11, f12⟩ g_a4 F0_4 g_a5 F0_6 g_a6 lt0_0 lt0_1 lt0_2 hp0 hp1 hp2 hp3 hp4 hd16) (by decide) (by decide) e101 (by rw [hml]; rfl) (argsL := [(.long p2)]) (rest := []) (lenOf pd_4 rfl) rfl (W := 0) (Nat.le_refl _) rfl (D d6_5) (by decide) (by decide) (fun T102 L102 r102 X102 q102 => ?_)
 obtain ⟨N102, q102⟩ := q102
 have N102' := Fr.app N0 N102
 rcases q102 with ⟨v103, h104, hc105, rfl, ⟨F106, F107, F108⟩, ⟨F109, F110, F111, F112, F113, F114, F115, F116, F117, F118⟩, F119, F120, Z121⟩ | ⟨v122, h123, hc124, hc125, rfl, ⟨F126, F127, F128⟩, ⟨F129, F130, F131, F132, F133, F134, F135, F136, F137, F138⟩, F139, F140, Z141⟩ | ⟨v142, h143, hc144, hc145, hc146, rfl, ⟨F147, F148, F149⟩, ⟨F150, F151, F152, F153, F154, F155, F156, F157, F158, F159⟩, F160, F161, Z162⟩ | ⟨v163, h164, hc165, hc166, hc167, rfl, ⟨F168, F169, F170⟩, ⟨F171, F172, F173, F174, F175, F176, F177, F178, F179, F180⟩, F181, F182, Z183⟩
 ·
  refine k_n1 ?_
  refine k_lconst X102 hx 9 (D d6_8) (z := (0 : Int64)) rfl ?_
  refine k_lcif_ne X102 hx 13 17 10 (D d6_9) (D d6_10) (fun hc184 => ?_) (fun hc184 => ?_)
  ·
   refine k_iconst X102 hx 18 (D d6_17) (z := (0 : Int32)) rfl ?_
   exact k_retN X102 hx (t := .boolean) hret (by simp) (D d6_18) hlk (by decide) (by decide) (z' := (0 : Int32)) rfl ⟨N102', (Or.inl ⟨v103, h104, hc105, hc184, rfl, ⟨F106, F107, F108⟩, ⟨F109, F110, F111, F112, F113, F114, F115, F116, F117, F118⟩, F119, F120, Z121⟩)⟩
  ·
   refine k_iconst X102 hx 14 (D d6_13) (z := (1 : Int32)) rfl ?_
   refine k_goto X102 hx 18 (D d6_14) ?_
   exact k_retN X102 hx (t := .boolean) hret (by simp) (D d6_18) hlk (by decide) (by decide) (z' := (1 : Int32)) rfl ⟨N102', (Or.inr (Or.inl ⟨v103, h104, hc105, hc184, rfl, ⟨F106, F107, F108⟩, ⟨F109, F110, F111, F112, F113, F114, F115, F116, F117, F118⟩, F119, F120, Z121⟩))⟩
 ·
  refine k_n1 ?_
  refine k_lconst X102 hx 9 (D d6_8) (z := (0 : Int64)) rfl ?_
  refine k_lcif_ne X102 hx 13 17 10 (D d6_9) (D d6_10) (fun hc185 => ?_) (fun hc185 => ?_)
  ·
   refine k_iconst X102 hx 18 (D d6_17) (z := (0 : Int32)) rfl ?_
   exact k_retN X102 hx (t := .boolean) hret (by simp) (D d6_18) hlk (by decide) (by decide) (z' := (0 : Int32)) rfl ⟨N102', (Or.inr (Or.inr (Or.inl ⟨v122, h123, hc124, hc125, hc185, rfl, ⟨F126, F127, F128⟩, ⟨F129, F130, F131, F132, F133, F134, F135, F136, F137, F138⟩, F139, F140, Z141⟩)))⟩
  ·
   refine k_iconst X102 hx 14 (D d6_13) (z := (1 : Int32)) rfl ?_
   refine k_goto X102 hx 18 (D d6_14) ?_
   exact k_retN X102 hx (t := .boolean) hret (by simp) (D d6_18) hlk (by decide) (by decide) (z' := (1 : Int32)) rfl ⟨N102', (Or.inr (Or.inr (Or.inr (Or.inl ⟨v122, h123, hc124, hc125, hc185, rfl, ⟨F126, F127, F128⟩, ⟨F129, F130, F131, F132, F133, F134, F135, F136, F137, F138⟩, F139, F140, Z141⟩))))⟩
 ·
  refine k_n1 ?_
  refine k_lconst X102 hx 9 (D d6_8) (z := (0 : Int64)) rfl ?_
  refine k_lcif_ne X102 hx 13 17 10 (D d6_9) (D d6_10) (fun hc => absurd (by decide) hc) (fun _ => ?_)
  refine k_iconst X102 hx 14 (D d6_13) (z := (1 : Int32)) rfl ?_
  refine k_goto X102 hx 18 (D d6_14) ?_
  exact k_retN X102 hx (t := .boolean) hret (by simp) (D d6_18) hlk (by decide) (by decide) (z' := (1 : Int32)) rfl ⟨N102', (Or.inr (Or.inr (Or.inr (Or.inr (Or.inl ⟨v142, h143, hc144, hc145, hc146, rfl, ⟨F147, F148, F149⟩, ⟨F150, F151, F152, F153, F154, F155, F156, F157, F158, F159⟩, F160, F161, Z162⟩)))))⟩
 ·
  refine k_n1 ?_
  refine k_lconst X102 hx 9 (D d6_8) (z := (0 : Int64)) rfl ?_
  refine k_lcif_ne X102 hx 13 17 10 (D d6_9) (D d6_10) (fun hc => absurd (by decide) hc) (fun _ => ?_)
  refine k_iconst X102 hx 14 (D d6_13) (z := (1 : Int32)) rfl ?_
  refine k_goto X102 hx 18 (D d6_14) ?_
  exact k_retN X102 hx (t := .boolean) hret (by simp) (D d6_18) hlk (by decide) (by decide) (z' := (1 : Int32)) rfl ⟨N102', (Or.inr (Or.inr (Or.inr (Or.inr (Or.inr ⟨v163, h164, hc165, hc166, hc167, rfl, ⟨F168, F169, F170⟩, ⟨F171, F172, F173, F174, F175, F176, F177, F178, F179, F180⟩, F181, F182, Z183⟩)))))⟩
abbrev R1_81 : Room := { frames := 0, cells := 0, slots := 0, locals := 0 }
def f1_81 (p1 p2 : Int64) : Int64 := (if p1 < p2 then p2 else p1)
theorem own_mx_f1_81 (p1 : Int64) (p2 : Int64) : (p1.toInt < p2.toInt -> (f1_81 p1 p2).toInt = p2.toInt) /\ (¬ p1.toInt < p2.toInt -> (f1_81 p1 p2).toInt = p1.toInt) := by
  unfold f1_81
  simp only [Int64.lt_iff_toInt_lt]
  exact ⟨fun h => by rw [if_pos h], fun h => by rw [if_neg h]⟩
def Q1_81 (Z : State) (p1 p2 : Int64) (h0 : Heap) (n0 : Nat) (v : Option Value) (h : Heap) (L : List Loc) : Prop := Fr n0 L /\ h = h0 /\ v = some (.long (f1_81 p1 p2))
theorem ef1_81 (m : MethodId) (x0 : Int64) (x1 : Int64) : entryFrame m #[(.long x0), (.long x1)] 4 = mkF m 0 #[.val (.long x0), .second, .val (.long x1), .second] [] := by first | (simp [entryFrame, mkF, argsToLocals, Value.category]; done) | rfl
theorem rm1_81 (l : Launch) (Z : State) (a0 : Array Value) (hw : WW a0 Z) (ws : List Jvm.Cond) (p1 p2 : Int64) (h0 : Heap) (n0 : Nat) (Z0 : n0 <= h0.size)  :
    KMet l (⟨"java/lang/Math", "max", "(JJ)J"⟩ : MethodName) jdk_29_method_66_code 4 (some .long) ws R1_81 #[(.long p1), (.long p2)] Z h0 R1_81.cells R1_81.slots (Q1_81 Z p1 p2 h0 n0) := by
 refine k_body (Jvm.Free.JP.mathPlain rfl (by decide +kernel)) (fun m => ef1_81 m p1 p2) ?_
 intro p e s m below meth c s₁ hx D hml hlk hret hown hnm hZ X0 e0
 have N0 := Fr.nil n0
 refine k_lloadN X0 hx 1 (D d1_0) rfl ?_
 refine k_lloadN X0 hx 2 (D d1_1) rfl ?_
 refine k_lcif_lt X0 hx 6 10 3 (D d1_2) (D d1_3) (fun hc101 => ?_) (fun hc101 => ?_)
 ·
  refine k_lloadN X0 hx 11 (D d1_10) rfl ?_
  have hf : f1_81 p1 p2 = p2 := by simp only [f1_81, if_pos hc101]
  exact k_retL X0 hx hret (D d1_11) hlk (by decide) (by decide) ⟨N0, e0, by rw [hf]⟩
 ·
  refine k_lloadN X0 hx 7 (D d1_6) rfl ?_
  refine k_goto X0 hx 11 (D d1_7) ?_
  have hf : f1_81 p1 p2 = p1 := by simp only [f1_81, if_neg hc101]
  exact k_retL X0 hx hret (D d1_11) hlk (by decide) (by decide) ⟨N0, e0, by rw [hf]⟩
theorem ef0 (m : MethodId) (x0 : Int32) (x1 : Int64) (x2 : Int64) (x3 : Int64) (x4 : Int64) : entryFrame m #[(.int x0), (.long x1), (.long x2), (.long x3), (.long x4)] maxLocals = mkF m 0 #[.val (.int x0), .val (.long x1), .second, .val (.long x2), .second, .val (.long x3), .second, .val (.long x4), .second, .unset, .unset, .unset, .unset, .unset, .unset, .unset, .unset, .unset, .unset, .unset, .unset, .unset, .unset, .unset, .unset, .unset, .unset, .unset, .unset, .unset, .unset, .unset, .unset, .unset, .unset, .unset, .unset, .unset, .unset, .unset] [] := by first | (simp [entryFrame, mkF, argsToLocals, Value.category, maxLocals]; done) | rfl
theorem pn_4 : plainName "com/example/halter/halter/SlidingLogLimiterIdleAtPinLaw" = true := by first | (simp [plainName, overriddenIn]; done) | decide +kernel
def Q0 (n0 : Nat) (v : Option Value) (h : Heap) (L : List Loc) : Prop := v = some (.int 1) /\ Fr n0 L
theorem rm0 (l : Launch) (Z : State) (a0 : Array Value) (hw : WW a0 Z) (ws : List Jvm.Cond) (i0 : Int32) (i1 : Int64) (i2 : Int64) (i3 : Int64) (i4 : Int64) (h0 : Heap) (n0 : Nat) (Z0 : n0 <= h0.size) :
    KMet l x code maxLocals ret ws room_1 #[(.int i0), (.long i1), (.long i2), (.long i3), (.long i4)] Z h0 24 128 (Q0 n0) := by
 refine k_body (plainFor_of_name pn_4) (fun m => ef0 m i0 i1 i2 i3 i4) ?_
 intro p e s m below meth c s₁ hx D hml hlk hret hown hnm hZ X0 e0
 have N0 := Fr.nil n0
 refine k_iconst X0 hx 1 (D at_0) (z := (1 : Int32)) rfl ?_
 refine k_iloadN X0 hx 2 (D at_1) rfl ?_
 refine k_bipush X0 hx 4 (D at_2) (z := (7 : Int32)) rfl ?_
 refine k_iand X0 hx 5 (D at_4) (fun v1 hv1 => ?_)
 refine k_iadd X0 hx 6 (D at_5) (fun v2 hv2 => ?_)
 refine k_i2l X0 hx 7 (D at_6) (fun v3 hv3 => ?_)
 refine k_lstore X0 hx 9 (D at_7) (Ls' := #[iv i0, jv i1, s_, jv i2, s_, jv i3, s_, jv i4, s_, jv v3, s_, u_, u_, u_, u_, u_, u_, u_, u_, u_, u_, u_, u_, u_, u_, u_, u_, u_, u_, u_, u_, u_, u_, u_, u_, u_, u_, u_, u_, u_]) rfl ?_
 refine k_iconst X0 hx 10 (D at_9) (z := (1 : Int32)) rfl ?_
 refine k_iloadN X0 hx 11 (D at_10) rfl ?_
 refine k_iconst X0 hx 12 (D at_11) (z := (3 : Int32)) rfl ?_
 refine k_iushr X0 hx 13 (D at_12) (fun v4 hv4 => ?_)
 refine k_bipush X0 hx 15 (D at_13) (z := (7 : Int32)) rfl ?_
 refine k_iand X0 hx 16 (D at_15) (fun v5 hv5 => ?_)
 refine k_iadd X0 hx 17 (D at_16) (fun v6 hv6 => ?_)
 refine k_i2l X0 hx 18 (D at_17) (fun v7 hv7 => ?_)
 refine k_lstore X0 hx 20 (D at_18) (Ls' := #[iv i0, jv i1, s_, jv i2, s_, jv i3, s_, jv i4, s_, jv v3, s_, jv v7, s_, u_, u_, u_, u_, u_, u_, u_, u_, u_, u_, u_, u_, u_, u_, u_, u_, u_, u_, u_, u_, u_, u_, u_, u_, u_, u_, u_]) rfl ?_
 refine k_iconst X0 hx 21 (D at_20) (z := (1 : Int32)) rfl ?_
 refine k_iloadN X0 hx 22 (D at_21) rfl ?_
 refine k_bipush X0 hx 24 (D at_22) (z := (6 : Int32)) rfl ?_
 refine k_iushr X0 hx 25 (D at_24) (fun v8 hv8 => ?_)
 refine k_bipush X0 hx 27 (D at_25) (z := (7 : Int32)) rfl ?_
 refine k_iand X0 hx 28 (D at_27) (fun v9 hv9 => ?_)
 refine k_iadd X0 hx 29 (D at_28) (fun v10 hv10 => ?_)
 refine k_i2l X0 hx 30 (D at_29) (fun v11 hv11 => ?_)
 refine k_lstore X0 hx 32 (D at_30) (Ls' := #[iv i0, jv i1, s_, jv i2, s_, jv i3, s_, jv i4, s_, jv v3, s_, jv v7, s_, jv v11, s_, u_, u_, u_, u_, u_, u_, u_, u_, u_, u_, u_, u_, u_, u_, u_, u_, u_, u_, u_, u_, u_, u_, u_, u_, u_]) rfl ?_
 refine k_iloadN X0 hx 33 (D at_32) rfl ?_
 refine k_bipush X0 hx 35 (D at_33) (z := (9 : Int32)) rfl ?_
 refine k_iushr X0 hx 36 (D at_35) (fun v12 hv12 => ?_)
 refine k_iconst X0 hx 37 (D at_36) (z := (3 : Int32)) rfl ?_
 refine k_iand X0 hx 38 (D at_37) (fun v13 hv13 => ?_)
 refine k_iconst X0 hx 39 (D at_38) (z := (3 : Int32)) rfl ?_
 refine k_irem X0 hx 40 (D at_39) (by decide) (fun v14 hv14 => ?_)
 have hs15 : v14 = (0 : Int32) \/ v14 = (1 : Int32) \/ v14 = (2 : Int32) := by
  have B22 : (-2147483648 : Int) <= i0.toInt /\ i0.toInt <= 2147483647 := ⟨(rng32 i0).1, Int.le_of_lt_add_one (rng32 i0).2⟩
  have q21 : v12.toInt = (i0.toInt % 4294967296) / 512 := (by rw [hv12]; exact c_iushr _ _ 9 (by decide) (by decide))
  have B20 : (0 : Int) <= v12.toInt /\ v12.toInt <= 8388607 := (by rw [q21]; exact k_divmodB (by decide) (by decide) (by decide))
  have q19 : v13.toInt = v12.toInt % 4 := (by rw [hv13]; exact c_mask _ _ 2 (by decide) (by decide))
  have B18 : (0 : Int) <= v13.toInt /\ v13.toInt <= 3 := (by rw [q19]; exact k_modB (by decide))
  have q17 : v14.toInt = v13.toInt % 3 := (by rw [hv14]; exact (c_irem _ _ 3 (by decide)).1 (Int.le_trans (by decide) B18.1))
  have B16 : (0 : Int) <= v14.toInt /\ v14.toInt <= 2 := (by rw [q17]; exact k_modB (by decide))
  rcases (by omega : v14.toInt = 0 \/ v14.toInt = 1 \/ v14.toInt = 2) with hq | hq | hq
  · exact Or.inl (Int32.toInt_inj.mp hq)
  · exact Or.inr (Or.inl (Int32.toInt_inj.mp hq))
  · exact Or.inr (Or.inr ((Int32.toInt_inj.mp hq)))
 rcases hs15 with rfl | rfl | rfl
 ·
  show KEnds p e below s _ _ _ s₁ (mkF m 40 #[iv i0, jv i1, s_, jv i2, s_, jv i3, s_, jv i4, s_, jv v3, s_, jv v7, s_, jv v11, s_, u_, u_, u_, u_, u_, u_, u_, u_, u_, u_, u_, u_, u_, u_, u_, u_, u_, u_, u_, u_, u_, u_, u_, u_, u_] [(.int 0)])
  refine k_istore X0 hx 42 (D at_40) (Ls' := #[iv i0, jv i1, s_, jv i2, s_, jv i3, s_, jv i4, s_, jv v3, s_, jv v7, s_, jv v11, s_, iv 0, u_, u_, u_, u_, u_, u_, u_, u_, u_, u_, u_, u_, u_, u_, u_, u_, u_, u_, u_, u_, u_, u_, u_, u_]) rfl ?_
  refine k_lconst X0 hx 43 (D at_42) (z := (1 : Int64)) rfl ?_
  refine k_lloadN X0 hx 44 (D at_43) rfl ?_
  refine k_ldcL X0 hx hZ hown 47 (k_w hw 0 rfl) (D at_44) ?_
  refine k_land X0 hx 48 (D at_47) (fun v24 hv24 => ?_)
  refine k_callS X0 hx hZ hown 51 (k_w hw 1 rfl) (k_w hw 2 rfl) (k_w hw 3 rfl) (k_w hw 4 rfl) (by decide) (rm1_1 l Z a0 hw [] v24 h0 n0 Z0 ) (by decide) (by decide) e0 (by rw [hml]; rfl) (argsL := [(.long 1), (.long v24)]) (rest := []) (lenOf pd_0 rfl) rfl (W := 0) (Nat.le_refl _) rfl (D at_48) (by decide) (by decide) (fun T25 L25 r25 X25 q25 => ?_)
  obtain ⟨N25, e25, rfl⟩ := q25
  have N25' := Fr.app N0 N25
  show KEnds p e below s _ _ _ T25 (mkF m 51 #[iv i0, jv i1, s_, jv i2, s_, jv i3, s_, jv i4, s_, jv v3, s_, jv v7, s_, jv v11, s_, iv 0, u_, u_, u_, u_, u_, u_, u_, u_, u_, u_, u_, u_, u_, u_, u_, u_, u_, u_, u_, u_, u_, u_, u_, u_] ((.long (f1_1 v24)) :: []))
  obtain ⟨v26, hv26⟩ : ∃ z, z = f1_1 v24 := ⟨_, rfl⟩
  rw [← hv26]
  refine k_lstore X25 hx 53 (D at_51) (Ls' := #[iv i0, jv i1, s_, jv i2, s_, jv i3, s_, jv i4, s_, jv v3, s_, jv v7, s_, jv v11, s_, iv 0, jv v26, s_, u_, u_, u_, u_, u_, u_, u_, u_, u_, u_, u_, u_, u_, u_, u_, u_, u_, u_, u_, u_, u_, u_]) rfl ?_
  refine k_lload X25 hx 55 (D at_53) rfl ?_
  refine k_iconst X25 hx 56 (D at_55) (z := (2 : Int32)) rfl ?_
  refine k_lshr X25 hx 57 (D at_56) (fun v27 hv27 => ?_)
  refine k_lstore X25 hx 59 (D at_57) (Ls' := #[iv i0, jv i1, s_, jv i2, s_, jv i3, s_, jv i4, s_, jv v3, s_, jv v7, s_, jv v11, s_, iv 0, jv v26, s_, jv v27, s_, u_, u_, u_, u_, u_, u_, u_, u_, u_, u_, u_, u_, u_, u_, u_, u_, u_, u_, u_, u_]) rfl ?_
  refine k_lload X25 hx 61 (D at_59) rfl ?_
  refine k_iconst X25 hx 62 (D at_61) (z := (2 : Int32)) rfl ?_
  refine k_lshr X25 hx 63 (D at_62) (fun v28 hv28 => ?_)
  refine k_lstore X25 hx 65 (D at_63) (Ls' := #[iv i0, jv i1, s_, jv i2, s_, jv i3, s_, jv i4, s_, jv v3, s_, jv v7, s_, jv v11, s_, iv 0, jv v26, s_, jv v27, s_, jv v28, s_, u_, u_, u_, u_, u_, u_, u_, u_, u_, u_, u_, u_, u_, u_, u_, u_, u_, u_]) rfl ?_
  refine k_lload X25 hx 67 (D at_65) rfl ?_
  refine k_lload X25 hx 69 (D at_67) rfl ?_
  refine k_ladd X25 hx 70 (D at_69) (fun v29 hv29 => ?_)
  refine k_lstore X25 hx 72 (D at_70) (Ls' := #[iv i0, jv i1, s_, jv i2, s_, jv i3, s_, jv i4, s_, jv v3, s_, jv v7, s_, jv v11, s_, iv 0, jv v26, s_, jv v27, s_, jv v28, s_, jv v29, s_, u_, u_, u_, u_, u_, u_, u_, u_, u_, u_, u_, u_, u_, u_, u_, u_]) rfl ?_
  refine k_newO X25 hx hZ hown 75 (k_w hw 5 rfl) (k_w hw 6 rfl) (k_w hw 7 rfl) e25 (D at_72) (by decide) (by decide) (fun T30 h30 b30 g30 X30 e30 E30 A30 D30 => ?_)
  have g_b30 : n0 <= b30 := Nat.le_trans Z0 (Nat.le_of_eq g30.symm)
  have Z30 : n0 <= h30.size := Nat.le_trans Z0 E30.1
  have F31 : Fld Z h30 b30 "com/example/halter/halter/SlidingLogLimiter$Log" "limit" "J" (.long 0) := D30 (Or.inr (k_w hw 20 rfl)) (ty := .long) (by decide)
  have F32 : Fld Z h30 b30 "com/example/halter/halter/SlidingLogLimiter$Log" "admitted" "Lcom/example/halter/halter/SlidingSum;" .null := D30 (Or.inr (k_w hw 38 rfl)) (ty := (.object "com/example/halter/halter/SlidingSum")) (by decide)
  refine k_dup X30 hx 76 (D at_75) rfl ?_
  refine k_lload X30 hx 78 (D at_76) rfl ?_
  refine k_lload X30 hx 80 (D at_78) rfl ?_
  have hp33 : ¬ v3 < (1 : Int64) := by
   intro hq34
   have B39 : (1 : Int) <= (1 : Int32).toInt /\ (1 : Int32).toInt <= 1 := (by decide)
   have B42 : (-2147483648 : Int) <= i0.toInt /\ i0.toInt <= 2147483647 := ⟨(rng32 i0).1, Int.le_of_lt_add_one (rng32 i0).2⟩
   have q41 : v1.toInt = i0.toInt % 8 := (by rw [hv1]; exact c_mask _ _ 3 (by decide) (by decide))
   have B40 : (0 : Int) <= v1.toInt /\ v1.toInt <= 7 := (by rw [q41]; exact k_modB (by decide))
   have q38 : v2.toInt = (1 : Int32).toInt + v1.toInt := k_iaddx hv2 B39 B40 (by decide) (by decide)
   have B37 : (1 : Int) <= v2.toInt /\ v2.toInt <= 8 := k_addB q38 B39 B40
   have q36 : v3.toInt = v2.toInt := (by rw [hv3]; exact c_i2l _)
   have B35 : (1 : Int) <= v3.toInt /\ v3.toInt <= 8 := (by rw [q36]; exact B37)
   have B43 : (1 : Int) <= v3.toInt /\ v3.toInt <= 0 := ⟨B35.1, kL_lt hq34 (by decide)⟩
   omega
  have hp44 : ¬ (8 : Int64) < v3 := by
   intro hq45
   have B50 : (1 : Int) <= (1 : Int32).toInt /\ (1 : Int32).toInt <= 1 := (by decide)
   have B53 : (-2147483648 : Int) <= i0.toInt /\ i0.toInt <= 2147483647 := ⟨(rng32 i0).1, Int.le_of_lt_add_one (rng32 i0).2⟩
   have q52 : v1.toInt = i0.toInt % 8 := (by rw [hv1]; exact c_mask _ _ 3 (by decide) (by decide))
   have B51 : (0 : Int) <= v1.toInt /\ v1.toInt <= 7 := (by rw [q52]; exact k_modB (by decide))
   have q49 : v2.toInt = (1 : Int32).toInt + v1.toInt := k_iaddx hv2 B50 B51 (by decide) (by decide)
   have B48 : (1 : Int) <= v2.toInt /\ v2.toInt <= 8 := k_addB q49 B50 B51
   have q47 : v3.toInt = v2.toInt := (by rw [hv3]; exact c_i2l _)
   have B46 : (1 : Int) <= v3.toInt /\ v3.toInt <= 8 := (by rw [q47]; exact B48)
   have B54 : (9 : Int) <= v3.toInt /\ v3.toInt <= 8 := ⟨kL_gt hq45 (by decide), B46.2⟩
   omega
  have hp55 : ¬ v26 < (1 : Int64) := by
   intro hq56
   have B61 : (1 : Int) <= (1 : Int32).toInt /\ (1 : Int32).toInt <= 1 := (by decide)
   have B64 : (-2147483648 : Int) <= i0.toInt /\ i0.toInt <= 2147483647 := ⟨(rng32 i0).1, Int.le_of_lt_add_one (rng32 i0).2⟩
   have q63 : v1.toInt = i0.toInt % 8 := (by rw [hv1]; exact c_mask _ _ 3 (by decide) (by decide))
   have B62 : (0 : Int) <= v1.toInt /\ v1.toInt <= 7 := (by rw [q63]; exact k_modB (by decide))
   have q60 : v2.toInt = (1 : Int32).toInt + v1.toInt := k_iaddx hv2 B61 B62 (by decide) (by decide)
   have B59 : (1 : Int) <= v2.toInt /\ v2.toInt <= 8 := k_addB q60 B61 B62
   have q58 : v3.toInt = v2.toInt := (by rw [hv3]; exact c_i2l _)
   have B57 : (1 : Int) <= v3.toInt /\ v3.toInt <= 8 := (by rw [q58]; exact B59)
   have B67 : (1 : Int) <= (1 : Int64).toInt /\ (1 : Int64).toInt <= 1 := (by decide)
   have B70 : (-9223372036854775808 : Int) <= i1.toInt /\ i1.toInt <= 9223372036854775807 := ⟨(rng64 i1).1, Int.le_of_lt_add_one (rng64 i1).2⟩
   have q69 : v24.toInt = i1.toInt % 9223372036854775808 := (by rw [hv24]; exact c_maskL _ _ 63 (by decide) (by decide))
   have B68 : (0 : Int) <= v24.toInt /\ v24.toInt <= 9223372036854775807 := (by rw [q69]; exact k_modB (by decide))
   have q66 := own_mx_f1_1 v24; rw [← hv26] at q66
   have B65 : (1 : Int) <= v26.toInt /\ v26.toInt <= 9223372036854775807 := (by omega)
   have B71 : (1 : Int) <= v26.toInt /\ v26.toInt <= 0 := ⟨B65.1, kL_lt hq56 (by decide)⟩
   omega
  refine k_callI X30 hx hZ hown 83 (a := b30) rfl (k_w hw 8 rfl) (k_w hw 9 rfl) (k_w hw 7 rfl) (k_w hw 10 rfl) rfl (by decide) (rm2_2 l Z a0 hw [] b30 v3 v26 h30 n0 Z30 ⟨A30, F31, F32⟩ g_b30 hp33 hp44 hp55) (by decide) (by decide) e30 (by rw [hml]; rfl) (argsL := [(.long v3), (.long v26)]) (rest := [(.ref b30)]) (lenOf pd_2 rfl) rfl (W := 1) (Nat.le_refl _) rfl (D at_80) (by decide) (by decide) (fun T72 L72 r72 X72 q72 => ?_)
  obtain ⟨N72, q72⟩ := q72
  have N72' := Fr.app N25' N72
  obtain ⟨b73, b74, k75, b76, k77, rfl, ⟨F78, F79, F80⟩, ⟨F81, F82, F83, F84, F85, F86, F87, F88, F89, F90⟩, F91, F92, g_b73, lt93, g_b74, lt94, g_b76, lt95, Z96⟩ := q72
  refine k_n0 ?_
  refine k_astore X72 hx 85 (D at_83) rfl (Ls' := #[iv i0, jv i1, s_, jv i2, s_, jv i3, s_, jv i4, s_, jv v3, s_, jv v7, s_, jv v11, s_, iv 0, jv v26, s_, jv v27, s_, jv v28, s_, jv v29, s_, rv b30, u_, u_, u_, u_, u_, u_, u_, u_, u_, u_, u_, u_, u_, u_, u_]) rfl ?_
  refine k_iconst X72 hx 86 (D at_85) (z := (0 : Int32)) rfl ?_
  refine k_istore X72 hx 88 (D at_86) (Ls' := #[iv i0, jv i1, s_, jv i2, s_, jv i3, s_, jv i4, s_, jv v3, s_, jv v7, s_, jv v11, s_, iv 0, jv v26, s_, jv v27, s_, jv v28, s_, jv v29, s_, rv b30, iv 0, u_, u_, u_, u_, u_, u_, u_, u_, u_, u_, u_, u_, u_, u_]) rfl ?_
  refine k_iconst X72 hx 89 (D at_88) (z := (0 : Int32)) rfl ?_
  refine k_istore X72 hx 91 (D at_89) (Ls' := #[iv i0, jv i1, s_, jv i2, s_, jv i3, s_, jv i4, s_, jv v3, s_, jv v7, s_, jv v11, s_, iv 0, jv v26, s_, jv v27, s_, jv v28, s_, jv v29, s_, rv b30, iv 0, iv 0, u_, u_, u_, u_, u_, u_, u_, u_, u_, u_, u_, u_, u_]) rfl ?_
  have B101 : (1 : Int) <= (1 : Int32).toInt /\ (1 : Int32).toInt <= 1 := (by decide)
  have B104 : (-2147483648 : Int) <= i0.toInt /\ i0.toInt <= 2147483647 := ⟨(rng32 i0).1, Int.le_of_lt_add_one (rng32 i0).2⟩
  have q103 : v1.toInt = i0.toInt % 8 := (by rw [hv1]; exact c_mask _ _ 3 (by decide) (by decide))
  have B102 : (0 : Int) <= v1.toInt /\ v1.toInt <= 7 := (by rw [q103]; exact k_modB (by decide))
  have q100 : v2.toInt = (1 : Int32).toInt + v1.toInt := k_iaddx hv2 B101 B102 (by decide) (by decide)
  have B99 : (1 : Int) <= v2.toInt /\ v2.toInt <= 8 := k_addB q100 B101 B102
  have q98 : v3.toInt = v2.toInt := (by rw [hv3]; exact c_i2l _)
  have B97 : (1 : Int) <= v3.toInt /\ v3.toInt <= 8 := (by rw [q98]; exact B99)
  have B107 : (1 : Int) <= (1 : Int64).toInt /\ (1 : Int64).toInt <= 1 := (by decide)
  have B110 : (-9223372036854775808 : Int) <= i1.toInt /\ i1.toInt <= 9223372036854775807 := ⟨(rng64 i1).1, Int.le_of_lt_add_one (rng64 i1).2⟩
  have q109 : v24.toInt = i1.toInt % 9223372036854775808 := (by rw [hv24]; exact c_maskL _ _ 63 (by decide) (by decide))
  have B108 : (0 : Int) <= v24.toInt /\ v24.toInt <= 9223372036854775807 := (by rw [q109]; exact k_modB (by decide))
  have q106 := own_mx_f1_1 v24; rw [← hv26] at q106
  have B105 : (1 : Int) <= v26.toInt /\ v26.toInt <= 9223372036854775807 := (by omega)
  have q118 : v4.toInt = (i0.toInt % 4294967296) / 8 := (by rw [hv4]; exact c_iushr _ _ 3 (by decide) (by decide))
  have B117 : (0 : Int) <= v4.toInt /\ v4.toInt <= 536870911 := (by rw [q118]; exact k_divmodB (by decide) (by decide) (by decide))
  have q116 : v5.toInt = v4.toInt % 8 := (by rw [hv5]; exact c_mask _ _ 3 (by decide) (by decide))
  have B115 : (0 : Int) <= v5.toInt /\ v5.toInt <= 7 := (by rw [q116]; exact k_modB (by decide))
  have q114 : v6.toInt = (1 : Int32).toInt + v5.toInt := k_iaddx hv6 B101 B115 (by decide) (by decide)
  have B113 : (1 : Int) <= v6.toInt /\ v6.toInt <= 8 := k_addB q114 B101 B115
  have q112 : v7.toInt = v6.toInt := (by rw [hv7]; exact c_i2l _)
  have B111 : (1 : Int) <= v7.toInt /\ v7.toInt <= 8 := (by rw [q112]; exact B113)
  have q126 : v8.toInt = (i0.toInt % 4294967296) / 64 := (by rw [hv8]; exact c_iushr _ _ 6 (by decide) (by decide))
  have B125 : (0 : Int) <= v8.toInt /\ v8.toInt <= 67108863 := (by rw [q126]; exact k_divmodB (by decide) (by decide) (by decide))
  have q124 : v9.toInt = v8.toInt % 8 := (by rw [hv9]; exact c_mask _ _ 3 (by decide) (by decide))
  have B123 : (0 : Int) <= v9.toInt /\ v9.toInt <= 7 := (by rw [q124]; exact k_modB (by decide))
  have q122 : v10.toInt = (1 : Int32).toInt + v9.toInt := k_iaddx hv10 B101 B123 (by decide) (by decide)
  have B121 : (1 : Int) <= v10.toInt /\ v10.toInt <= 8 := k_addB q122 B101 B123
  have q120 : v11.toInt = v10.toInt := (by rw [hv11]; exact c_i2l _)
  have B119 : (1 : Int) <= v11.toInt /\ v11.toInt <= 8 := (by rw [q120]; exact B121)
  have B129 : (-9223372036854775808 : Int) <= i3.toInt /\ i3.toInt <= 9223372036854775807 := ⟨(rng64 i3).1, Int.le_of_lt_add_one (rng64 i3).2⟩
  have q128 : v27.toInt = i3.toInt / 4 := (by rw [hv27]; exact c_lshr _ _ 2 (by decide))
  have B127 : (-2305843009213693952 : Int) <= v27.toInt /\ v27.toInt <= 2305843009213693951 := (by rw [q128]; exact k_divB B129 (by decide) (by decide) (by decide))
  have B134 : (-9223372036854775808 : Int) <= i4.toInt /\ i4.toInt <= 9223372036854775807 := ⟨(rng64 i4).1, Int.le_of_lt_add_one (rng64 i4).2⟩
  have q133 : v28.toInt = i4.toInt / 4 := (by rw [hv28]; exact c_lshr _ _ 2 (by decide))
  have B132 : (-2305843009213693952 : Int) <= v28.toInt /\ v28.toInt <= 2305843009213693951 := (by rw [q133]; exact k_divB B134 (by decide) (by decide) (by decide))
  have q131 : v29.toInt = v27.toInt + v28.toInt := k_laddx hv29 B127 B132 (by decide) (by decide)
  have B130 : (-4611686018427387904 : Int) <= v29.toInt /\ v29.toInt <= 4611686018427387902 := k_addB q131 B127 B132
  have e01 : (0 : Int32).toInt = 0 /\ (1 : Int32).toInt = 1 := (by decide)
  suffices key135 : ∀ (T154 : State) (lo154 : List Loc) (ce154 sl154 : Nat) (v155 : Int32) (v156 : Int32) (v157 : Int32), Stand p l e room_1 s m #[(.int i0), (.long i1), (.long i2), (.long i3), (.long i4)] below meth c T154 lo154 ce154 sl154 -> Fr n0 lo154 -> n0 <= T154.heap.size -> ce154 <= 24 -> sl154 <= 128 -> (v155.toInt = 0 /\ v156.toInt = 0 /\ v157.toInt = 1) -> KEnds p e below s 24 128 (Q0 n0) T154 (mkF m 137 #[iv i0, jv i1, s_, jv i2, s_, jv i3, s_, jv i4, s_, jv v3, s_, jv v7, s_, jv v11, s_, iv 0, jv v26, s_, jv v27, s_, jv v28, s_, jv v29, s_, rv b30, iv v155, iv v156, iv v157, u_, u_, u_, u_, u_, u_, u_, u_, u_, u_, u_, u_] []) by
   refine k_iload X72 hx 93 (D at_91) rfl ?_
   refine k_iconst X72 hx 94 (D at_93) (z := (1 : Int32)) rfl ?_
   refine k_icmp_lt X72 hx 97 107 (D at_94) (fun _ => ?_) (fun hc => absurd (by decide) hc)
   refine k_iload X72 hx 109 (D at_107) rfl ?_
   refine k_iconst X72 hx 110 (D at_109) (z := (2 : Int32)) rfl ?_
   refine k_icmp_lt X72 hx 113 126 (D at_110) (fun _ => ?_) (fun hc => absurd (by decide) hc)
   refine k_aload X72 hx 128 (D at_126) rfl rfl ?_
   refine k_lloadN X72 hx 129 (D at_128) rfl ?_
   refine k_lload X72 hx 131 (D at_129) rfl ?_
   refine k_ladd X72 hx 132 (D at_131) (fun v136 hv136 => ?_)
   refine k_callV X72 hx hZ hown 135 (a := b30) (k_w hw 39 rfl) (k_w hw 40 rfl) (k_w hw 42 rfl) (k_w hw 41 rfl) (k_w hw 7 rfl) (k_w hw 43 rfl) (by decide) F78 (rm6_5 l Z a0 hw [] b30 b73 b74 b76 v136 v3 v26 k75 k77 T72.heap n0 Z96 ⟨F78, F79, F80⟩ g_b30 ⟨F81, F82, F83, F84, F85, F86, F87, F88, F89, F90⟩ g_b73 F91 g_b74 F92 g_b76 lt93 lt94 lt95 hp33 hp44 hp55) (by decide) (by decide) rfl (by rw [hml]; rfl) (argsL := [(.long v136)]) (rest := []) (lenOf pd_5 rfl) rfl (W := 0) (Nat.le_refl _) rfl (D at_132) (by decide) (by decide) (fun T137 L137 r137 X137 q137 => ?_)
   obtain ⟨N137, q137⟩ := q137
   have N137' := Fr.app N72' N137
   obtain ⟨rfl, ⟨F138, F139, F140⟩, ⟨F141, F142, F143, F144, F145, F146, F147, F148, F149, F150⟩, F151, F152, Z153⟩ := q137
   refine k_n1 ?_
   refine k_istore X137 hx 137 (D at_135) (Ls' := #[iv i0, jv i1, s_, jv i2, s_, jv i3, s_, jv i4, s_, jv v3, s_, jv v7, s_, jv v11, s_, iv 0, jv v26, s_, jv v27, s_, jv v28, s_, jv v29, s_, rv b30, iv 0, iv 0, iv 1, u_, u_, u_, u_, u_, u_, u_, u_, u_, u_, u_, u_]) rfl ?_
   refine key135 T137 _ _ _ (0 : Int32) (0 : Int32) (1 : Int32) X137 N137' (Z153) (by decide) (by decide) ?_
   refine ⟨?_, ?_, ?_⟩ <;> omega
  intro T154 lo154 ce154 sl154 v155 v156 v157 X154 N154 Z154 hce154 hsl154 hP158
  refine k_iload X154 hx 139 (D at_137) rfl ?_
  refine k_iconst X154 hx 140 (D at_139) (z := (1 : Int32)) rfl ?_
  refine k_icmp_lt X154 hx 143 155 (D at_140) (fun _ => ?_) (fun hc => absurd (by decide) hc)
  refine k_iconst X154 hx 156 (D at_155) (z := (0 : Int32)) rfl ?_
  refine k_istore X154 hx 158 (D at_156) (Ls' := #[iv i0, jv i1, s_, jv i2, s_, jv i3, s_, jv i4, s_, jv v3, s_, jv v7, s_, jv v11, s_, iv 0, jv v26, s_, jv v27, s_, jv v28, s_, jv v29, s_, rv b30, iv v155, iv v156, iv v157, iv 0, u_, u_, u_, u_, u_, u_, u_, u_, u_, u_, u_]) rfl ?_
  refine k_iload X154 hx 160 (D at_158) rfl ?_
  refine k_iconst X154 hx 161 (D at_160) (z := (2 : Int32)) rfl ?_
  refine k_icmp_lt X154 hx 164 173 (D at_161) (fun _ => ?_) (fun hc => absurd (by decide) hc)
  refine k_lconst X154 hx 174 (D at_173) (z := (0 : Int64)) rfl ?_
  refine k_lstore X154 hx 176 (D at_174) (Ls' := #[iv i0, jv i1, s_, jv i2, s_, jv i3, s_, jv i4, s_, jv v3, s_, jv v7, s_, jv v11, s_, iv 0, jv v26, s_, jv v27, s_, jv v28, s_, jv v29, s_, rv b30, iv v155, iv v156, iv v157, iv 0, jv 0, s_, u_, u_, u_, u_, u_, u_, u_, u_, u_]) rfl ?_
  refine k_iload X154 hx 178 (D at_176) rfl ?_
  refine k_if_eq X154 hx 181 193 (D at_178) (fun _ => ?_) (fun hc => absurd (by decide) hc)
  refine k_iconst X154 hx 194 (D at_193) (z := (0 : Int32)) rfl ?_
  refine k_istore X154 hx 196 (D at_194) (Ls' := #[iv i0, jv i1, s_, jv i2, s_, jv i3, s_, jv i4, s_, jv v3, s_, jv v7, s_, jv v11, s_, iv 0, jv v26, s_, jv v27, s_, jv v28, s_, jv v29, s_, rv b30, iv v155, iv v156, iv v157, iv 0, jv 0, s_, iv 0, u_, u_, u_, u_, u_, u_, u_, u_]) rfl ?_
  refine k_iload X154 hx 198 (D at_196) rfl ?_
  refine k_if_eq X154 hx 201 206 (D at_198) (fun _ => ?_) (fun hc => absurd (by decide) hc)
  refine k_lconst X154 hx 207 (D at_206) (z := (0 : Int64)) rfl ?_
  refine k_lstore X154 hx 209 (D at_207) (Ls' := #[iv i0, jv i1, s_, jv i2, s_, jv i3, s_, jv i4, s_, jv v3, s_, jv v7, s_, jv v11, s_, iv 0, jv v26, s_, jv v27, s_, jv v28, s_, jv v29, s_, rv b30, iv v155, iv v156, iv v157, iv 0, jv 0, s_, iv 0, jv 0, s_, u_, u_, u_, u_, u_, u_]) rfl ?_
  refine k_iload X154 hx 211 (D at_209) rfl ?_
  refine k_iconst X154 hx 212 (D at_211) (z := (2 : Int32)) rfl ?_
  refine k_icmp_lt X154 hx 215 230 (D at_212) (fun _ => ?_) (fun hc => absurd (by decide) hc)
  refine k_iconst X154 hx 231 (D at_230) (z := (0 : Int32)) rfl ?_
  refine k_istore X154 hx 233 (D at_231) (Ls' := #[iv i0, jv i1, s_, jv i2, s_, jv i3, s_, jv i4, s_, jv v3, s_, jv v7, s_, jv v11, s_, iv 0, jv v26, s_, jv v27, s_, jv v28, s_, jv v29, s_, rv b30, iv v155, iv v156, iv v157, iv 0, jv 0, s_, iv 0, jv 0, s_, iv 0, u_, u_, u_, u_, u_]) rfl ?_
  refine k_lload X154 hx 235 (D at_233) rfl ?_
  refine k_lload X154 hx 237 (D at_235) rfl ?_
  refine k_callS X154 hx hZ hown 240 (k_w hw 1 rfl) (k_w hw 2 rfl) (k_w hw 3 rfl) (k_w hw 4 rfl) (by decide) (rm1_9 l Z a0 hw [] v29 T154.heap n0 Z154 ) (by decide) (by decide) rfl (by rw [hml]; rfl) (argsL := [(.long 0), (.long v29)]) (rest := []) (lenOf pd_0 rfl) rfl (W := 0) (Nat.le_refl _) rfl (D at_237) (by show _ + 0 <= _; exact Nat.le_trans hce154 (by decide)) (by show _ + 0 <= _; exact Nat.le_trans hsl154 (by decide)) (fun T159 L159 r159 X159 q159 => ?_)
  obtain ⟨N159, e159, rfl⟩ := q159
  have N159' := Fr.app N154 N159
  show KEnds p e below s _ _ _ T159 (mkF m 240 #[iv i0, jv i1, s_, jv i2, s_, jv i3, s_, jv i4, s_, jv v3, s_, jv v7, s_, jv v11, s_, iv 0, jv v26, s_, jv v27, s_, jv v28, s_, jv v29, s_, rv b30, iv v155, iv v156, iv v157, iv 0, jv 0, s_, iv 0, jv 0, s_, iv 0, u_, u_, u_, u_, u_] ((.long (f1_9 v29)) :: []))
  obtain ⟨v160, hv160⟩ : ∃ z, z = f1_9 v29 := ⟨_, rfl⟩
  rw [← hv160]
  refine k_lstore X159 hx 242 (D at_240) (Ls' := #[iv i0, jv i1, s_, jv i2, s_, jv i3, s_, jv i4, s_, jv v3, s_, jv v7, s_, jv v11, s_, iv 0, jv v26, s_, jv v27, s_, jv v28, s_, jv v29, s_, rv b30, iv v155, iv v156, iv v157, iv 0, jv 0, s_, iv 0, jv 0, s_, iv 0, jv v160, s_, u_, u_, u_]) rfl ?_
  refine k_iload X159 hx 244 (D at_242) rfl ?_
  refine k_if_eq X159 hx 247 259 (D at_244) (fun _ => ?_) (fun hc => absurd (by decide) hc)
  refine k_iconst X159 hx 260 (D at_259) (z := (0 : Int32)) rfl ?_
  refine k_istore X159 hx 262 (D at_260) (Ls' := #[iv i0, jv i1, s_, jv i2, s_, jv i3, s_, jv i4, s_, jv v3, s_, jv v7, s_, jv v11, s_, iv 0, jv v26, s_, jv v27, s_, jv v28, s_, jv v29, s_, rv b30, iv v155, iv v156, iv v157, iv 0, jv 0, s_, iv 0, jv 0, s_, iv 0, jv v160, s_, iv 0, u_, u_]) rfl ?_
  refine k_iload X159 hx 264 (D at_262) rfl ?_
  refine k_if_eq X159 hx 267 282 (D at_264) (fun _ => ?_) (fun hc => absurd (by decide) hc)
  refine k_iconst X159 hx 283 (D at_282) (z := (0 : Int32)) rfl ?_
  refine k_istore X159 hx 285 (D at_283) (Ls' := #[iv i0, jv i1, s_, jv i2, s_, jv i3, s_, jv i4, s_, jv v3, s_, jv v7, s_, jv v11, s_, iv 0, jv v26, s_, jv v27, s_, jv v28, s_, jv v29, s_, rv b30, iv v155, iv v156, iv v157, iv 0, jv 0, s_, iv 0, jv 0, s_, iv 0, jv v160, s_, iv 0, iv 0, u_]) rfl ?_
  refine k_iload X159 hx 287 (D at_285) rfl ?_
  refine k_if_ne X159 hx 290 299 (D at_287) (fun hc => absurd (by decide) hc) (fun _ => ?_)
  refine k_iload X159 hx 292 (D at_290) rfl ?_
  refine k_if_ne X159 hx 295 299 (D at_292) (fun hc => absurd (by decide) hc) (fun _ => ?_)
  refine k_iconst X159 hx 296 (D at_295) (z := (1 : Int32)) rfl ?_
  refine k_goto X159 hx 300 (D at_296) ?_
  refine k_istore X159 hx 302 (D at_300) (Ls' := #[iv i0, jv i1, s_, jv i2, s_, jv i3, s_, jv i4, s_, jv v3, s_, jv v7, s_, jv v11, s_, iv 0, jv v26, s_, jv v27, s_, jv v28, s_, jv v29, s_, rv b30, iv v155, iv v156, iv v157, iv 0, jv 0, s_, iv 0, jv 0, s_, iv 0, jv v160, s_, iv 0, iv 0, iv 1]) rfl ?_
  refine k_iload X159 hx 304 (D at_302) rfl ?_
  refine k_iload X159 hx 306 (D at_304) rfl ?_
  refine k_icmp_ne X159 hx 309 327 (D at_306) (fun hc => absurd (Classical.byContradiction (fun hq161 => by have B162 : (-2147483648 : Int) <= v155.toInt /\ v155.toInt <= 2147483647 := ⟨(rng32 v155).1, Int.le_of_lt_add_one (rng32 v155).2⟩; have B165 : (0 : Int) <= (0 : Int32).toInt /\ (0 : Int32).toInt <= 0 := (by decide); have q166 : ¬ v155.toInt = (0 : Int32).toInt := fun q => hq161 (Int32.toInt_inj.mp q); omega)) hc) (fun _ => ?_)
  refine k_iload X159 hx 311 (D at_309) rfl ?_
  refine k_iload X159 hx 313 (D at_311) rfl ?_
  refine k_icmp_ne X159 hx 316 327 (D at_313) (fun hc => absurd (Classical.byContradiction (fun hq167 => by have B168 : (-2147483648 : Int) <= v156.toInt /\ v156.toInt <= 2147483647 := ⟨(rng32 v156).1, Int.le_of_lt_add_one (rng32 v156).2⟩; have B171 : (0 : Int) <= (0 : Int32).toInt /\ (0 : Int32).toInt <= 0 := (by decide); have q172 : ¬ v156.toInt = (0 : Int32).toInt := fun q => hq167 (Int32.toInt_inj.mp q); omega)) hc) (fun _ => ?_)
  refine k_iload X159 hx 318 (D at_316) rfl ?_
  refine k_iload X159 hx 320 (D at_318) rfl ?_
  refine k_icmp_ne X159 hx 323 327 (D at_320) (fun hc => absurd (Classical.byContradiction (fun hq173 => by have B174 : (-2147483648 : Int) <= v157.toInt /\ v157.toInt <= 2147483647 := ⟨(rng32 v157).1, Int.le_of_lt_add_one (rng32 v157).2⟩; have q177 : ¬ v157.toInt = (1 : Int32).toInt := fun q => hq173 (Int32.toInt_inj.mp q); omega)) hc) (fun _ => ?_)
  refine k_iconst X159 hx 324 (D at_323) (z := (1 : Int32)) rfl ?_
  refine k_goto X159 hx 328 (D at_324) ?_
  exact k_retN X159 hx (t := .boolean) hret (by simp) (D at_328) hlk (by first | exact hce154 | exact Nat.le_trans (Nat.le_refl _) hce154) (by first | exact hsl154 | exact Nat.le_trans (Nat.le_refl _) hsl154) (z' := (1 : Int32)) rfl ⟨rfl, N159'⟩
 ·
  show KEnds p e below s _ _ _ s₁ (mkF m 40 #[iv i0, jv i1, s_, jv i2, s_, jv i3, s_, jv i4, s_, jv v3, s_, jv v7, s_, jv v11, s_, u_, u_, u_, u_, u_, u_, u_, u_, u_, u_, u_, u_, u_, u_, u_, u_, u_, u_, u_, u_, u_, u_, u_, u_, u_] [(.int 1)])
  refine k_istore X0 hx 42 (D at_40) (Ls' := #[iv i0, jv i1, s_, jv i2, s_, jv i3, s_, jv i4, s_, jv v3, s_, jv v7, s_, jv v11, s_, iv 1, u_, u_, u_, u_, u_, u_, u_, u_, u_, u_, u_, u_, u_, u_, u_, u_, u_, u_, u_, u_, u_, u_, u_, u_]) rfl ?_
  refine k_lconst X0 hx 43 (D at_42) (z := (1 : Int64)) rfl ?_
  refine k_lloadN X0 hx 44 (D at_43) rfl ?_
  refine k_ldcL X0 hx hZ hown 47 (k_w hw 0 rfl) (D at_44) ?_
  refine k_land X0 hx 48 (D at_47) (fun v179 hv179 => ?_)
  refine k_callS X0 hx hZ hown 51 (k_w hw 1 rfl) (k_w hw 2 rfl) (k_w hw 3 rfl) (k_w hw 4 rfl) (by decide) (rm1_1 l Z a0 hw [] v179 h0 n0 Z0 ) (by decide) (by decide) e0 (by rw [hml]; rfl) (argsL := [(.long 1), (.long v179)]) (rest := []) (lenOf pd_0 rfl) rfl (W := 0) (Nat.le_refl _) rfl (D at_48) (by decide) (by decide) (fun T180 L180 r180 X180 q180 => ?_)
  obtain ⟨N180, e180, rfl⟩ := q180
  have N180' := Fr.app N0 N180
  show KEnds p e below s _ _ _ T180 (mkF m 51 #[iv i0, jv i1, s_, jv i2, s_, jv i3, s_, jv i4, s_, jv v3, s_, jv v7, s_, jv v11, s_, iv 1, u_, u_, u_, u_, u_, u_, u_, u_, u_, u_, u_, u_, u_, u_, u_, u_, u_, u_, u_, u_, u_, u_, u_, u_] ((.long (f1_1 v179)) :: []))
  obtain ⟨v181, hv181⟩ : ∃ z, z = f1_1 v179 := ⟨_, rfl⟩
  rw [← hv181]
  refine k_lstore X180 hx 53 (D at_51) (Ls' := #[iv i0, jv i1, s_, jv i2, s_, jv i3, s_, jv i4, s_, jv v3, s_, jv v7, s_, jv v11, s_, iv 1, jv v181, s_, u_, u_, u_, u_, u_, u_, u_, u_, u_, u_, u_, u_, u_, u_, u_, u_, u_, u_, u_, u_, u_, u_]) rfl ?_
  refine k_lload X180 hx 55 (D at_53) rfl ?_
  refine k_iconst X180 hx 56 (D at_55) (z := (2 : Int32)) rfl ?_
  refine k_lshr X180 hx 57 (D at_56) (fun v182 hv182 => ?_)
  refine k_lstore X180 hx 59 (D at_57) (Ls' := #[iv i0, jv i1, s_, jv i2, s_, jv i3, s_, jv i4, s_, jv v3, s_, jv v7, s_, jv v11, s_, iv 1, jv v181, s_, jv v182, s_, u_, u_, u_, u_, u_, u_, u_, u_, u_, u_, u_, u_, u_, u_, u_, u_, u_, u_, u_, u_]) rfl ?_
  refine k_lload X180 hx 61 (D at_59) rfl ?_
  refine k_iconst X180 hx 62 (D at_61) (z := (2 : Int32)) rfl ?_
  refine k_lshr X180 hx 63 (D at_62) (fun v183 hv183 => ?_)
  refine k_lstore X180 hx 65 (D at_63) (Ls' := #[iv i0, jv i1, s_, jv i2, s_, jv i3, s_, jv i4, s_, jv v3, s_, jv v7, s_, jv v11, s_, iv 1, jv v181, s_, jv v182, s_, jv v183, s_, u_, u_, u_, u_, u_, u_, u_, u_, u_, u_, u_, u_, u_, u_, u_, u_, u_, u_]) rfl ?_
  refine k_lload X180 hx 67 (D at_65) rfl ?_
  refine k_lload X180 hx 69 (D at_67) rfl ?_
  refine k_ladd X180 hx 70 (D at_69) (fun v184 hv184 => ?_)
  refine k_lstore X180 hx 72 (D at_70) (Ls' := #[iv i0, jv i1, s_, jv i2, s_, jv i3, s_, jv i4, s_, jv v3, s_, jv v7, s_, jv v11, s_, iv 1, jv v181, s_, jv v182, s_, jv v183, s_, jv v184, s_, u_, u_, u_, u_, u_, u_, u_, u_, u_, u_, u_, u_, u_, u_, u_, u_]) rfl ?_
  refine k_newO X180 hx hZ hown 75 (k_w hw 5 rfl) (k_w hw 6 rfl) (k_w hw 7 rfl) e180 (D at_72) (by decide) (by decide) (fun T185 h185 b185 g185 X185 e185 E185 A185 D185 => ?_)
  have g_b185 : n0 <= b185 := Nat.le_trans Z0 (Nat.le_of_eq g185.symm)
  have Z185 : n0 <= h185.size := Nat.le_trans Z0 E185.1
  have F186 : Fld Z h185 b185 "com/example/halter/halter/SlidingLogLimiter$Log" "limit" "J" (.long 0) := D185 (Or.inr (k_w hw 20 rfl)) (ty := .long) (by decide)
  have F187 : Fld Z h185 b185 "com/example/halter/halter/SlidingLogLimiter$Log" "admitted" "Lcom/example/halter/halter/SlidingSum;" .null := D185 (Or.inr (k_w hw 38 rfl)) (ty := (.object "com/example/halter/halter/SlidingSum")) (by decide)
  refine k_dup X185 hx 76 (D at_75) rfl ?_
  refine k_lload X185 hx 78 (D at_76) rfl ?_
  refine k_lload X185 hx 80 (D at_78) rfl ?_
  have hp188 : ¬ v3 < (1 : Int64) := by
   intro hq189
   have B194 : (1 : Int) <= (1 : Int32).toInt /\ (1 : Int32).toInt <= 1 := (by decide)
   have B197 : (-2147483648 : Int) <= i0.toInt /\ i0.toInt <= 2147483647 := ⟨(rng32 i0).1, Int.le_of_lt_add_one (rng32 i0).2⟩
   have q196 : v1.toInt = i0.toInt % 8 := (by rw [hv1]; exact c_mask _ _ 3 (by decide) (by decide))
   have B195 : (0 : Int) <= v1.toInt /\ v1.toInt <= 7 := (by rw [q196]; exact k_modB (by decide))
   have q193 : v2.toInt = (1 : Int32).toInt + v1.toInt := k_iaddx hv2 B194 B195 (by decide) (by decide)
   have B192 : (1 : Int) <= v2.toInt /\ v2.toInt <= 8 := k_addB q193 B194 B195
   have q191 : v3.toInt = v2.toInt := (by rw [hv3]; exact c_i2l _)
   have B190 : (1 : Int) <= v3.toInt /\ v3.toInt <= 8 := (by rw [q191]; exact B192)
   have B198 : (1 : Int) <= v3.toInt /\ v3.toInt <= 0 := ⟨B190.1, kL_lt hq189 (by decide)⟩
   omega
  have hp199 : ¬ (8 : Int64) < v3 := by
   intro hq200
   have B205 : (1 : Int) <= (1 : Int32).toInt /\ (1 : Int32).toInt <= 1 := (by decide)
   have B208 : (-2147483648 : Int) <= i0.toInt /\ i0.toInt <= 2147483647 := ⟨(rng32 i0).1, Int.le_of_lt_add_one (rng32 i0).2⟩
   have q207 : v1.toInt = i0.toInt % 8 := (by rw [hv1]; exact c_mask _ _ 3 (by decide) (by decide))
   have B206 : (0 : Int) <= v1.toInt /\ v1.toInt <= 7 := (by rw [q207]; exact k_modB (by decide))
   have q204 : v2.toInt = (1 : Int32).toInt + v1.toInt := k_iaddx hv2 B205 B206 (by decide) (by decide)
   have B203 : (1 : Int) <= v2.toInt /\ v2.toInt <= 8 := k_addB q204 B205 B206
   have q202 : v3.toInt = v2.toInt := (by rw [hv3]; exact c_i2l _)
   have B201 : (1 : Int) <= v3.toInt /\ v3.toInt <= 8 := (by rw [q202]; exact B203)
   have B209 : (9 : Int) <= v3.toInt /\ v3.toInt <= 8 := ⟨kL_gt hq200 (by decide), B201.2⟩
   omega
  have hp210 : ¬ v181 < (1 : Int64) := by
   intro hq211
   have B216 : (1 : Int) <= (1 : Int32).toInt /\ (1 : Int32).toInt <= 1 := (by decide)
   have B219 : (-2147483648 : Int) <= i0.toInt /\ i0.toInt <= 2147483647 := ⟨(rng32 i0).1, Int.le_of_lt_add_one (rng32 i0).2⟩
   have q218 : v1.toInt = i0.toInt % 8 := (by rw [hv1]; exact c_mask _ _ 3 (by decide) (by decide))
   have B217 : (0 : Int) <= v1.toInt /\ v1.toInt <= 7 := (by rw [q218]; exact k_modB (by decide))
   have q215 : v2.toInt = (1 : Int32).toInt + v1.toInt := k_iaddx hv2 B216 B217 (by decide) (by decide)
   have B214 : (1 : Int) <= v2.toInt /\ v2.toInt <= 8 := k_addB q215 B216 B217
   have q213 : v3.toInt = v2.toInt := (by rw [hv3]; exact c_i2l _)
   have B212 : (1 : Int) <= v3.toInt /\ v3.toInt <= 8 := (by rw [q213]; exact B214)
   have B222 : (1 : Int) <= (1 : Int64).toInt /\ (1 : Int64).toInt <= 1 := (by decide)
   have B225 : (-9223372036854775808 : Int) <= i1.toInt /\ i1.toInt <= 9223372036854775807 := ⟨(rng64 i1).1, Int.le_of_lt_add_one (rng64 i1).2⟩
   have q224 : v179.toInt = i1.toInt % 9223372036854775808 := (by rw [hv179]; exact c_maskL _ _ 63 (by decide) (by decide))
   have B223 : (0 : Int) <= v179.toInt /\ v179.toInt <= 9223372036854775807 := (by rw [q224]; exact k_modB (by decide))
   have q221 := own_mx_f1_1 v179; rw [← hv181] at q221
   have B220 : (1 : Int) <= v181.toInt /\ v181.toInt <= 9223372036854775807 := (by omega)
   have B226 : (1 : Int) <= v181.toInt /\ v181.toInt <= 0 := ⟨B220.1, kL_lt hq211 (by decide)⟩
   omega
  refine k_callI X185 hx hZ hown 83 (a := b185) rfl (k_w hw 8 rfl) (k_w hw 9 rfl) (k_w hw 7 rfl) (k_w hw 10 rfl) rfl (by decide) (rm2_2 l Z a0 hw [] b185 v3 v181 h185 n0 Z185 ⟨A185, F186, F187⟩ g_b185 hp188 hp199 hp210) (by decide) (by decide) e185 (by rw [hml]; rfl) (argsL := [(.long v3), (.long v181)]) (rest := [(.ref b185)]) (lenOf pd_2 rfl) rfl (W := 1) (Nat.le_refl _) rfl (D at_80) (by decide) (by decide) (fun T227 L227 r227 X227 q227 => ?_)
  obtain ⟨N227, q227⟩ := q227
  have N227' := Fr.app N180' N227
  obtain ⟨b228, b229, k230, b231, k232, rfl, ⟨F233, F234, F235⟩, ⟨F236, F237, F238, F239, F240, F241, F242, F243, F244, F245⟩, F246, F247, g_b228, lt248, g_b229, lt249, g_b231, lt250, Z251⟩ := q227
  refine k_n0 ?_
  refine k_astore X227 hx 85 (D at_83) rfl (Ls' := #[iv i0, jv i1, s_, jv i2, s_, jv i3, s_, jv i4, s_, jv v3, s_, jv v7, s_, jv v11, s_, iv 1, jv v181, s_, jv v182, s_, jv v183, s_, jv v184, s_, rv b185, u_, u_, u_, u_, u_, u_, u_, u_, u_, u_, u_, u_, u_, u_, u_]) rfl ?_
  refine k_iconst X227 hx 86 (D at_85) (z := (0 : Int32)) rfl ?_
  refine k_istore X227 hx 88 (D at_86) (Ls' := #[iv i0, jv i1, s_, jv i2, s_, jv i3, s_, jv i4, s_, jv v3, s_, jv v7, s_, jv v11, s_, iv 1, jv v181, s_, jv v182, s_, jv v183, s_, jv v184, s_, rv b185, iv 0, u_, u_, u_, u_, u_, u_, u_, u_, u_, u_, u_, u_, u_, u_]) rfl ?_
  refine k_iconst X227 hx 89 (D at_88) (z := (0 : Int32)) rfl ?_
  refine k_istore X227 hx 91 (D at_89) (Ls' := #[iv i0, jv i1, s_, jv i2, s_, jv i3, s_, jv i4, s_, jv v3, s_, jv v7, s_, jv v11, s_, iv 1, jv v181, s_, jv v182, s_, jv v183, s_, jv v184, s_, rv b185, iv 0, iv 0, u_, u_, u_, u_, u_, u_, u_, u_, u_, u_, u_, u_, u_]) rfl ?_
  have B256 : (1 : Int) <= (1 : Int32).toInt /\ (1 : Int32).toInt <= 1 := (by decide)
  have B259 : (-2147483648 : Int) <= i0.toInt /\ i0.toInt <= 2147483647 := ⟨(rng32 i0).1, Int.le_of_lt_add_one (rng32 i0).2⟩
  have q258 : v1.toInt = i0.toInt % 8 := (by rw [hv1]; exact c_mask _ _ 3 (by decide) (by decide))
  have B257 : (0 : Int) <= v1.toInt /\ v1.toInt <= 7 := (by rw [q258]; exact k_modB (by decide))
  have q255 : v2.toInt = (1 : Int32).toInt + v1.toInt := k_iaddx hv2 B256 B257 (by decide) (by decide)
  have B254 : (1 : Int) <= v2.toInt /\ v2.toInt <= 8 := k_addB q255 B256 B257
  have q253 : v3.toInt = v2.toInt := (by rw [hv3]; exact c_i2l _)
  have B252 : (1 : Int) <= v3.toInt /\ v3.toInt <= 8 := (by rw [q253]; exact B254)
  have B262 : (1 : Int) <= (1 : Int64).toInt /\ (1 : Int64).toInt <= 1 := (by decide)
  have B265 : (-9223372036854775808 : Int) <= i1.toInt /\ i1.toInt <= 9223372036854775807 := ⟨(rng64 i1).1, Int.le_of_lt_add_one (rng64 i1).2⟩
  have q264 : v179.toInt = i1.toInt % 9223372036854775808 := (by rw [hv179]; exact c_maskL _ _ 63 (by decide) (by decide))
  have B263 : (0 : Int) <= v179.toInt /\ v179.toInt <= 9223372036854775807 := (by rw [q264]; exact k_modB (by decide))
  have q261 := own_mx_f1_1 v179; rw [← hv181] at q261
  have B260 : (1 : Int) <= v181.toInt /\ v181.toInt <= 9223372036854775807 := (by omega)
  have q273 : v4.toInt = (i0.toInt % 4294967296) / 8 := (by rw [hv4]; exact c_iushr _ _ 3 (by decide) (by decide))
  have B272 : (0 : Int) <= v4.toInt /\ v4.toInt <= 536870911 := (by rw [q273]; exact k_divmodB (by decide) (by decide) (by decide))
  have q271 : v5.toInt = v4.toInt % 8 := (by rw [hv5]; exact c_mask _ _ 3 (by decide) (by decide))
  have B270 : (0 : Int) <= v5.toInt /\ v5.toInt <= 7 := (by rw [q271]; exact k_modB (by decide))
  have q269 : v6.toInt = (1 : Int32).toInt + v5.toInt := k_iaddx hv6 B256 B270 (by decide) (by decide)
  have B268 : (1 : Int) <= v6.toInt /\ v6.toInt <= 8 := k_addB q269 B256 B270
  have q267 : v7.toInt = v6.toInt := (by rw [hv7]; exact c_i2l _)
  have B266 : (1 : Int) <= v7.toInt /\ v7.toInt <= 8 := (by rw [q267]; exact B268)
  have q281 : v8.toInt = (i0.toInt % 4294967296) / 64 := (by rw [hv8]; exact c_iushr _ _ 6 (by decide) (by decide))
  have B280 : (0 : Int) <= v8.toInt /\ v8.toInt <= 67108863 := (by rw [q281]; exact k_divmodB (by decide) (by decide) (by decide))
  have q279 : v9.toInt = v8.toInt % 8 := (by rw [hv9]; exact c_mask _ _ 3 (by decide) (by decide))
  have B278 : (0 : Int) <= v9.toInt /\ v9.toInt <= 7 := (by rw [q279]; exact k_modB (by decide))
  have q277 : v10.toInt = (1 : Int32).toInt + v9.toInt := k_iaddx hv10 B256 B278 (by decide) (by decide)
  have B276 : (1 : Int) <= v10.toInt /\ v10.toInt <= 8 := k_addB q277 B256 B278
  have q275 : v11.toInt = v10.toInt := (by rw [hv11]; exact c_i2l _)
  have B274 : (1 : Int) <= v11.toInt /\ v11.toInt <= 8 := (by rw [q275]; exact B276)
  have B284 : (-9223372036854775808 : Int) <= i3.toInt /\ i3.toInt <= 9223372036854775807 := ⟨(rng64 i3).1, Int.le_of_lt_add_one (rng64 i3).2⟩
  have q283 : v182.toInt = i3.toInt / 4 := (by rw [hv182]; exact c_lshr _ _ 2 (by decide))
  have B282 : (-2305843009213693952 : Int) <= v182.toInt /\ v182.toInt <= 2305843009213693951 := (by rw [q283]; exact k_divB B284 (by decide) (by decide) (by decide))
  have B289 : (-9223372036854775808 : Int) <= i4.toInt /\ i4.toInt <= 9223372036854775807 := ⟨(rng64 i4).1, Int.le_of_lt_add_one (rng64 i4).2⟩
  have q288 : v183.toInt = i4.toInt / 4 := (by rw [hv183]; exact c_lshr _ _ 2 (by decide))
  have B287 : (-2305843009213693952 : Int) <= v183.toInt /\ v183.toInt <= 2305843009213693951 := (by rw [q288]; exact k_divB B289 (by decide) (by decide) (by decide))
  have q286 : v184.toInt = v182.toInt + v183.toInt := k_laddx hv184 B282 B287 (by decide) (by decide)
  have B285 : (-4611686018427387904 : Int) <= v184.toInt /\ v184.toInt <= 4611686018427387902 := k_addB q286 B282 B287
  have e01 : (0 : Int32).toInt = 0 /\ (1 : Int32).toInt = 1 := (by decide)
  suffices key290 : ∀ (T562 : State) (lo562 : List Loc) (ce562 sl562 : Nat) (v563 : Int32) (v564 : Int32) (v565 : Int32), Stand p l e room_1 s m #[(.int i0), (.long i1), (.long i2), (.long i3), (.long i4)] below meth c T562 lo562 ce562 sl562 -> Fr n0 lo562 -> n0 <= T562.heap.size -> ce562 <= 24 -> sl562 <= 128 -> (((v563.toInt = 1 /\ v7.toInt <= v3.toInt) \/ (v563.toInt = 0 /\ ¬ (v7.toInt <= v3.toInt))) /\ v564.toInt = 0 /\ ((v565.toInt = 1 /\ ¬ ((v7.toInt <= v3.toInt /\ v184.toInt < v181.toInt))) \/ (v565.toInt = 0 /\ ((v7.toInt <= v3.toInt /\ v184.toInt < v181.toInt))))) -> KEnds p e below s 24 128 (Q0 n0) T562 (mkF m 137 #[iv i0, jv i1, s_, jv i2, s_, jv i3, s_, jv i4, s_, jv v3, s_, jv v7, s_, jv v11, s_, iv 1, jv v181, s_, jv v182, s_, jv v183, s_, jv v184, s_, rv b185, iv v563, iv v564, iv v565, u_, u_, u_, u_, u_, u_, u_, u_, u_, u_, u_, u_] []) by
   refine k_iload X227 hx 93 (D at_91) rfl ?_
   refine k_iconst X227 hx 94 (D at_93) (z := (1 : Int32)) rfl ?_
   refine k_icmp_lt X227 hx 97 107 (D at_94) (fun hc => absurd hc (by decide)) (fun _ => ?_)
   refine k_aload X227 hx 99 (D at_97) rfl rfl ?_
   refine k_lload X227 hx 101 (D at_99) rfl ?_
   refine k_lloadN X227 hx 102 (D at_101) rfl ?_
   have hp291 : ¬ v7 < (1 : Int64) := by
    intro hq292
    have q293 : v7.toInt <= 0 := kL_lt hq292 (by decide)
    omega
   refine k_callV X227 hx hZ hown 105 (a := b185) (k_w hw 65 rfl) (k_w hw 66 rfl) (k_w hw 68 rfl) (k_w hw 67 rfl) (k_w hw 7 rfl) (k_w hw 69 rfl) (by decide) F233 (rm10_10 l Z a0 hw [] b185 b228 b229 b231 v7 i2 v3 v181 k230 k232 T227.heap n0 Z251 ⟨F233, F234, F235⟩ g_b185 ⟨F236, F237, F238, F239, F240, F241, F242, F243, F244, F245⟩ g_b228 F246 g_b229 F247 g_b231 lt248 lt249 lt250 hp188 hp199 hp210 hp291) (by decide) (by decide) rfl (by rw [hml]; rfl) (argsL := [(.long v7), (.long i2)]) (rest := []) (lenOf pd_8 rfl) rfl (W := 0) (Nat.le_refl _) rfl (D at_102) (by decide) (by decide) (fun T294 L294 r294 X294 q294 => ?_)
   obtain ⟨N294, q294⟩ := q294
   have N294' := Fr.app N227' N294
   rcases q294 with ⟨hc295, rfl, ⟨F296, F297, F298⟩, ⟨F299, F300, F301, F302, F303, F304, F305, F306, F307, F308⟩, F309, F310, Z311⟩ | ⟨v312, b313, k314, b315, k316, h317, hc318, hc319, hc320, rfl, ⟨F321, F322, F323⟩, ⟨F324, F325, F326, F327, F328, F329, F330, F331, F332, F333⟩, F334, F335, F336, F337, g_b313, lt338, g_b315, lt339, Z340⟩
   ·
    refine k_n1 ?_
    refine k_istore X294 hx 107 (D at_105) (Ls' := #[iv i0, jv i1, s_, jv i2, s_, jv i3, s_, jv i4, s_, jv v3, s_, jv v7, s_, jv v11, s_, iv 1, jv v181, s_, jv v182, s_, jv v183, s_, jv v184, s_, rv b185, iv 0, iv 0, u_, u_, u_, u_, u_, u_, u_, u_, u_, u_, u_, u_, u_]) rfl ?_
    refine k_iload X294 hx 109 (D at_107) rfl ?_
    refine k_iconst X294 hx 110 (D at_109) (z := (2 : Int32)) rfl ?_
    refine k_icmp_lt X294 hx 113 126 (D at_110) (fun _ => ?_) (fun hc => absurd (by decide) hc)
    refine k_aload X294 hx 128 (D at_126) rfl rfl ?_
    refine k_lloadN X294 hx 129 (D at_128) rfl ?_
    refine k_lload X294 hx 131 (D at_129) rfl ?_
    refine k_ladd X294 hx 132 (D at_131) (fun v341 hv341 => ?_)
    refine k_callV X294 hx hZ hown 135 (a := b185) (k_w hw 39 rfl) (k_w hw 40 rfl) (k_w hw 42 rfl) (k_w hw 41 rfl) (k_w hw 7 rfl) (k_w hw 43 rfl) (by decide) F296 (rm6_21 l Z a0 hw [] b185 b228 b229 b231 v341 v3 v181 i2 k230 k232 T294.heap n0 Z311 ⟨F296, F297, F298⟩ g_b185 ⟨F299, F300, F301, F302, F303, F304, F305, F306, F307, F308⟩ g_b228 F309 g_b229 F310 g_b231 lt248 lt249 lt250 hp188 hp199 hp210) (by decide) (by decide) rfl (by rw [hml]; rfl) (argsL := [(.long v341)]) (rest := []) (lenOf pd_5 rfl) rfl (W := 0) (Nat.le_refl _) rfl (D at_132) (by decide) (by decide) (fun T342 L342 r342 X342 q342 => ?_)
    obtain ⟨N342, q342⟩ := q342
    have N342' := Fr.app N294' N342
    rcases q342 with ⟨v343, h344, hc345, rfl, ⟨F346, F347, F348⟩, ⟨F349, F350, F351, F352, F353, F354, F355, F356, F357, F358⟩, F359, F360, Z361⟩ | ⟨v362, h363, hc364, rfl, ⟨F365, F366, F367⟩, ⟨F368, F369, F370, F371, F372, F373, F374, F375, F376, F377⟩, F378, F379, Z380⟩
    ·
     have hr381 : v343 = v184 := by rw [h344, hv341]; exact k_s1 _ _
     refine k_n1 ?_
     refine k_istore X342 hx 137 (D at_135) (Ls' := #[iv i0, jv i1, s_, jv i2, s_, jv i3, s_, jv i4, s_, jv v3, s_, jv v7, s_, jv v11, s_, iv 1, jv v181, s_, jv v182, s_, jv v183, s_, jv v184, s_, rv b185, iv 0, iv 0, iv 1, u_, u_, u_, u_, u_, u_, u_, u_, u_, u_, u_, u_]) rfl ?_
     refine key290 T342 _ _ _ (0 : Int32) (0 : Int32) (1 : Int32) X342 N342' (Z361) (by decide) (by decide) ?_
     have q382 : 1 <= v7.toInt := kL_ge hp291 (by decide)
     have q383 := kL_p hc295
     have q385 : v343.toInt = v184.toInt := (by rw [hr381])
     have B384 : (-4611686018427387904 : Int) <= v343.toInt /\ v343.toInt <= 4611686018427387902 := (by rw [q385]; exact B285)
     have B386 : (-4611686018427387904 : Int) <= v343.toInt /\ v343.toInt <= 0 := ⟨B384.1, kL_le hc345 (by decide)⟩
     refine ⟨?_, ?_, ?_⟩ <;> omega
    ·
     have hr387 : v362 = v184 := by rw [h363, hv341]; exact k_s1 _ _
     refine k_n1 ?_
     refine k_istore X342 hx 137 (D at_135) (Ls' := #[iv i0, jv i1, s_, jv i2, s_, jv i3, s_, jv i4, s_, jv v3, s_, jv v7, s_, jv v11, s_, iv 1, jv v181, s_, jv v182, s_, jv v183, s_, jv v184, s_, rv b185, iv 0, iv 0, iv 1, u_, u_, u_, u_, u_, u_, u_, u_, u_, u_, u_, u_]) rfl ?_
     refine key290 T342 _ _ _ (0 : Int32) (0 : Int32) (1 : Int32) X342 N342' (Z380) (by decide) (by decide) ?_
     have q388 : 1 <= v7.toInt := kL_ge hp291 (by decide)
     have q389 := kL_p hc295
     have q391 : v362.toInt = v184.toInt := (by rw [hr387])
     have B390 : (-4611686018427387904 : Int) <= v362.toInt /\ v362.toInt <= 4611686018427387902 := (by rw [q391]; exact B285)
     have B392 : (1 : Int) <= v362.toInt /\ v362.toInt <= 4611686018427387902 := ⟨kL_gt hc364 (by decide), B390.2⟩
     refine ⟨?_, ?_, ?_⟩ <;> omega
   ·
    refine k_n1 ?_
    refine k_istore X294 hx 107 (D at_105) (Ls' := #[iv i0, jv i1, s_, jv i2, s_, jv i3, s_, jv i4, s_, jv v3, s_, jv v7, s_, jv v11, s_, iv 1, jv v181, s_, jv v182, s_, jv v183, s_, jv v184, s_, rv b185, iv 1, iv 0, u_, u_, u_, u_, u_, u_, u_, u_, u_, u_, u_, u_, u_]) rfl ?_
    refine k_iload X294 hx 109 (D at_107) rfl ?_
    refine k_iconst X294 hx 110 (D at_109) (z := (2 : Int32)) rfl ?_
    refine k_icmp_lt X294 hx 113 126 (D at_110) (fun _ => ?_) (fun hc => absurd (by decide) hc)
    refine k_aload X294 hx 128 (D at_126) rfl rfl ?_
    refine k_lloadN X294 hx 129 (D at_128) rfl ?_
    refine k_lload X294 hx 131 (D at_129) rfl ?_
    refine k_ladd X294 hx 132 (D at_131) (fun v393 hv393 => ?_)
    refine k_callV X294 hx hZ hown 135 (a := b185) (k_w hw 39 rfl) (k_w hw 40 rfl) (k_w hw 42 rfl) (k_w hw 41 rfl) (k_w hw 7 rfl) (k_w hw 43 rfl) (by decide) F321 (rm6_24 l Z a0 hw [] b185 b228 b313 b315 v393 v3 v181 i2 v7 k314 k316 v312 T294.heap n0 Z340 ⟨F321, F322, F323⟩ g_b185 ⟨F324, F325, F326, F327, F328, F329, F330, F331, F332, F333⟩ g_b228 F336 g_b313 F337 g_b315 lt248 (Nat.lt_trans (Nat.lt_trans lt249 lt250) lt338) lt339 hp188 hp199 hp210 hc319 hc320 h317) (by decide) (by decide) rfl (by rw [hml]; rfl) (argsL := [(.long v393)]) (rest := []) (lenOf pd_5 rfl) rfl (W := 0) (Nat.le_refl _) rfl (D at_132) (by decide) (by decide) (fun T394 L394 r394 X394 q394 => ?_)
    obtain ⟨N394, q394⟩ := q394
    have N394' := Fr.app N294' N394
    rcases q394 with ⟨v395, h396, hc397, hc398, rfl, ⟨F399, F400, F401⟩, ⟨F402, F403, F404, F405, F406, F407, F408, F409, F410, F411⟩, F412, F413, Z414⟩ | ⟨v415, h416, hc417, hc418, rfl, ⟨F419, F420, F421⟩, ⟨F422, F423, F424, F425, F426, F427, F428, F429, F430, F431⟩, F432, F433, Z434⟩ | ⟨v435, h436, hc437, hc438, hc439, rfl, ⟨F440, F441, F442⟩, ⟨F443, F444, F445, F446, F447, F448, F449, F450, F451, F452⟩, F453, F454, Z455⟩ | ⟨v456, h457, hc458, hc459, hc460, rfl, ⟨F461, F462, F463⟩, ⟨F464, F465, F466, F467, F468, F469, F470, F471, F472, F473⟩, F474, F475, Z476⟩ | ⟨v477, h478, hc479, hc480, hc481, rfl, ⟨F482, F483, F484⟩, ⟨F485, F486, F487, F488, F489, F490, F491, F492, F493, F494⟩, F495, F496, Z497⟩ | ⟨v498, h499, hc500, hc501, hc502, rfl, ⟨F503, F504, F505⟩, ⟨F506, F507, F508, F509, F510, F511, F512, F513, F514, F515⟩, F516, F517, Z518⟩
    ·
     have hr519 : v395 = v184 := by rw [h396, hv393]; exact k_s1 _ _
     refine k_n1 ?_
     refine k_istore X394 hx 137 (D at_135) (Ls' := #[iv i0, jv i1, s_, jv i2, s_, jv i3, s_, jv i4, s_, jv v3, s_, jv v7, s_, jv v11, s_, iv 1, jv v181, s_, jv v182, s_, jv v183, s_, jv v184, s_, rv b185, iv 1, iv 0, iv 0, u_, u_, u_, u_, u_, u_, u_, u_, u_, u_, u_, u_]) rfl ?_
     refine key290 T394 _ _ _ (1 : Int32) (0 : Int32) (0 : Int32) X394 N394' (Z414) (by decide) (by decide) ?_
     have q520 : 1 <= v7.toInt := kL_ge hp291 (by decide)
     have q521 := kL_m hc318
     have q523 : v312.toInt = v3.toInt := k_l2ix h317 B252 (by decide) (by decide)
     have B522 : (1 : Int) <= v312.toInt /\ v312.toInt <= 8 := (by rw [q523]; exact B252)
     have q525 : v395.toInt = v184.toInt := (by rw [hr519])
     have B524 : (-4611686018427387904 : Int) <= v395.toInt /\ v395.toInt <= 4611686018427387902 := (by rw [q525]; exact B285)
     have B526 : (-4611686018427387904 : Int) <= v395.toInt /\ v395.toInt <= 0 := ⟨B524.1, kL_le hc397 (by decide)⟩
     have B527 : (0 : Int) <= (0 : Int64).toInt /\ (0 : Int64).toInt <= 0 := (by decide)
     have q528 : ¬ v7.toInt = (0 : Int64).toInt := fun q => hc398 (Int64.toInt_inj.mp q)
     refine ⟨?_, ?_, ?_⟩ <;> omega
    ·
     have hr529 : v415 = v184 := by rw [h416, hv393]; exact k_s1 _ _
     refine k_n1 ?_
     exact absurd hc418 (k_dL_ne_nxlt hp291 (by decide))
    ·
     have hr530 : v435 = v184 := by rw [h436, hv393]; exact k_s1 _ _
     refine k_n1 ?_
     refine k_istore X394 hx 137 (D at_135) (Ls' := #[iv i0, jv i1, s_, jv i2, s_, jv i3, s_, jv i4, s_, jv v3, s_, jv v7, s_, jv v11, s_, iv 1, jv v181, s_, jv v182, s_, jv v183, s_, jv v184, s_, rv b185, iv 1, iv 0, iv 0, u_, u_, u_, u_, u_, u_, u_, u_, u_, u_, u_, u_]) rfl ?_
     refine key290 T394 _ _ _ (1 : Int32) (0 : Int32) (0 : Int32) X394 N394' (Z455) (by decide) (by decide) ?_
     have q531 : 1 <= v7.toInt := kL_ge hp291 (by decide)
     have q532 := kL_m hc318
     have q534 : v312.toInt = v3.toInt := k_l2ix h317 B252 (by decide) (by decide)
     have B533 : (1 : Int) <= v312.toInt /\ v312.toInt <= 8 := (by rw [q534]; exact B252)
     have q536 : v435.toInt = v184.toInt := (by rw [hr530])
     have B535 : (-4611686018427387904 : Int) <= v435.toInt /\ v435.toInt <= 4611686018427387902 := (by rw [q536]; exact B285)
     have B537 : (1 : Int) <= v435.toInt /\ v435.toInt <= 4611686018427387902 := ⟨kL_gt hc437 (by decide), B535.2⟩
     have q538 := kL_p hc438
     have B539 : (0 : Int) <= (0 : Int64).toInt /\ (0 : Int64).toInt <= 0 := (by decide)
     have q540 : ¬ v7.toInt = (0 : Int64).toInt := fun q => hc439 (Int64.toInt_inj.mp q)
     refine ⟨?_, ?_, ?_⟩ <;> omega
    ·
     have hr541 : v456 = v184 := by rw [h457, hv393]; exact k_s1 _ _
     refine k_n1 ?_
     exact absurd hc460 (k_dL_ne_nxlt hp291 (by decide))
    ·
     have hr542 : v477 = v184 := by rw [h478, hv393]; exact k_s1 _ _
     refine k_n1 ?_
     refine k_istore X394 hx 137 (D at_135) (Ls' := #[iv i0, jv i1, s_, jv i2, s_, jv i3, s_, jv i4, s_, jv v3, s_, jv v7, s_, jv v11, s_, iv 1, jv v181, s_, jv v182, s_, jv v183, s_, jv v184, s_, rv b185, iv 1, iv 0, iv 1, u_, u_, u_, u_, u_, u_, u_, u_, u_, u_, u_, u_]) rfl ?_
     refine key290 T394 _ _ _ (1 : Int32) (0 : Int32) (1 : Int32) X394 N394' (Z497) (by decide) (by decide) ?_
     have q543 : 1 <= v7.toInt := kL_ge hp291 (by decide)
     have q544 := kL_m hc318
     have q546 : v312.toInt = v3.toInt := k_l2ix h317 B252 (by decide) (by decide)
     have B545 : (1 : Int) <= v312.toInt /\ v312.toInt <= 8 := (by rw [q546]; exact B252)
     have B547 : (1 : Int) <= v312.toInt /\ v312.toInt <= 1 := ⟨B545.1, k_le hc481 (by decide)⟩
     have q549 : v477.toInt = v184.toInt := (by rw [hr542])
     have B548 : (-4611686018427387904 : Int) <= v477.toInt /\ v477.toInt <= 4611686018427387902 := (by rw [q549]; exact B285)
     have B550 : (1 : Int) <= v477.toInt /\ v477.toInt <= 4611686018427387902 := ⟨kL_gt hc479 (by decide), B548.2⟩
     have q551 := kL_m hc480
     refine ⟨?_, ?_, ?_⟩ <;> omega
    ·
     have hr552 : v498 = v184 := by rw [h499, hv393]; exact k_s1 _ _
     refine k_n1 ?_
     refine k_istore X394 hx 137 (D at_135) (Ls' := #[iv i0, jv i1, s_, jv i2, s_, jv i3, s_, jv i4, s_, jv v3, s_, jv v7, s_, jv v11, s_, iv 1, jv v181, s_, jv v182, s_, jv v183, s_, jv v184, s_, rv b185, iv 1, iv 0, iv 1, u_, u_, u_, u_, u_, u_, u_, u_, u_, u_, u_, u_]) rfl ?_
     refine key290 T394 _ _ _ (1 : Int32) (0 : Int32) (1 : Int32) X394 N394' (Z518) (by decide) (by decide) ?_
     have q553 : 1 <= v7.toInt := kL_ge hp291 (by decide)
     have q554 := kL_m hc318
     have q556 : v312.toInt = v3.toInt := k_l2ix h317 B252 (by decide) (by decide)
     have B555 : (1 : Int) <= v312.toInt /\ v312.toInt <= 8 := (by rw [q556]; exact B252)
     have B557 : (2 : Int) <= v312.toInt /\ v312.toInt <= 8 := ⟨k_gt hc502 (by decide), B555.2⟩
     have q559 : v498.toInt = v184.toInt := (by rw [hr552])
     have B558 : (-4611686018427387904 : Int) <= v498.toInt /\ v498.toInt <= 4611686018427387902 := (by rw [q559]; exact B285)
     have B560 : (1 : Int) <= v498.toInt /\ v498.toInt <= 4611686018427387902 := ⟨kL_gt hc500 (by decide), B558.2⟩
     have q561 := kL_m hc501
     refine ⟨?_, ?_, ?_⟩ <;> omega
  intro T562 lo562 ce562 sl562 v563 v564 v565 X562 N562 Z562 hce562 hsl562 hP566
  refine k_iload X562 hx 139 (D at_137) rfl ?_
  refine k_iconst X562 hx 140 (D at_139) (z := (1 : Int32)) rfl ?_
  refine k_icmp_lt X562 hx 143 155 (D at_140) (fun hc => absurd hc (by decide)) (fun _ => ?_)
  refine k_lload X562 hx 145 (D at_143) rfl ?_
  refine k_lload X562 hx 147 (D at_145) rfl ?_
  refine k_lcif_gt X562 hx 151 155 148 (D at_147) (D at_148) (fun hc567 => ?_) (fun hc567 => ?_)
  ·
   refine k_iconst X562 hx 156 (D at_155) (z := (0 : Int32)) rfl ?_
   refine k_istore X562 hx 158 (D at_156) (Ls' := #[iv i0, jv i1, s_, jv i2, s_, jv i3, s_, jv i4, s_, jv v3, s_, jv v7, s_, jv v11, s_, iv 1, jv v181, s_, jv v182, s_, jv v183, s_, jv v184, s_, rv b185, iv v563, iv v564, iv v565, iv 0, u_, u_, u_, u_, u_, u_, u_, u_, u_, u_, u_]) rfl ?_
   refine k_iload X562 hx 160 (D at_158) rfl ?_
   refine k_iconst X562 hx 161 (D at_160) (z := (2 : Int32)) rfl ?_
   refine k_icmp_lt X562 hx 164 173 (D at_161) (fun _ => ?_) (fun hc => absurd (by decide) hc)
   refine k_lconst X562 hx 174 (D at_173) (z := (0 : Int64)) rfl ?_
   refine k_lstore X562 hx 176 (D at_174) (Ls' := #[iv i0, jv i1, s_, jv i2, s_, jv i3, s_, jv i4, s_, jv v3, s_, jv v7, s_, jv v11, s_, iv 1, jv v181, s_, jv v182, s_, jv v183, s_, jv v184, s_, rv b185, iv v563, iv v564, iv v565, iv 0, jv 0, s_, u_, u_, u_, u_, u_, u_, u_, u_, u_]) rfl ?_
   refine k_iload X562 hx 178 (D at_176) rfl ?_
   refine k_if_eq X562 hx 181 193 (D at_178) (fun _ => ?_) (fun hc => absurd (by decide) hc)
   refine k_iconst X562 hx 194 (D at_193) (z := (0 : Int32)) rfl ?_
   refine k_istore X562 hx 196 (D at_194) (Ls' := #[iv i0, jv i1, s_, jv i2, s_, jv i3, s_, jv i4, s_, jv v3, s_, jv v7, s_, jv v11, s_, iv 1, jv v181, s_, jv v182, s_, jv v183, s_, jv v184, s_, rv b185, iv v563, iv v564, iv v565, iv 0, jv 0, s_, iv 0, u_, u_, u_, u_, u_, u_, u_, u_]) rfl ?_
   refine k_iload X562 hx 198 (D at_196) rfl ?_
   refine k_if_eq X562 hx 201 206 (D at_198) (fun _ => ?_) (fun hc => absurd (by decide) hc)
   refine k_lconst X562 hx 207 (D at_206) (z := (0 : Int64)) rfl ?_
   refine k_lstore X562 hx 209 (D at_207) (Ls' := #[iv i0, jv i1, s_, jv i2, s_, jv i3, s_, jv i4, s_, jv v3, s_, jv v7, s_, jv v11, s_, iv 1, jv v181, s_, jv v182, s_, jv v183, s_, jv v184, s_, rv b185, iv v563, iv v564, iv v565, iv 0, jv 0, s_, iv 0, jv 0, s_, u_, u_, u_, u_, u_, u_]) rfl ?_
   refine k_iload X562 hx 211 (D at_209) rfl ?_
   refine k_iconst X562 hx 212 (D at_211) (z := (2 : Int32)) rfl ?_
   refine k_icmp_lt X562 hx 215 230 (D at_212) (fun _ => ?_) (fun hc => absurd (by decide) hc)
   refine k_iconst X562 hx 231 (D at_230) (z := (0 : Int32)) rfl ?_
   refine k_istore X562 hx 233 (D at_231) (Ls' := #[iv i0, jv i1, s_, jv i2, s_, jv i3, s_, jv i4, s_, jv v3, s_, jv v7, s_, jv v11, s_, iv 1, jv v181, s_, jv v182, s_, jv v183, s_, jv v184, s_, rv b185, iv v563, iv v564, iv v565, iv 0, jv 0, s_, iv 0, jv 0, s_, iv 0, u_, u_, u_, u_, u_]) rfl ?_
   refine k_lload X562 hx 235 (D at_233) rfl ?_
   refine k_lload X562 hx 237 (D at_235) rfl ?_
   refine k_callS X562 hx hZ hown 240 (k_w hw 1 rfl) (k_w hw 2 rfl) (k_w hw 3 rfl) (k_w hw 4 rfl) (by decide) (rm1_9 l Z a0 hw [] v184 T562.heap n0 Z562 ) (by decide) (by decide) rfl (by rw [hml]; rfl) (argsL := [(.long 0), (.long v184)]) (rest := []) (lenOf pd_0 rfl) rfl (W := 0) (Nat.le_refl _) rfl (D at_237) (by show _ + 0 <= _; exact Nat.le_trans hce562 (by decide)) (by show _ + 0 <= _; exact Nat.le_trans hsl562 (by decide)) (fun T568 L568 r568 X568 q568 => ?_)
   obtain ⟨N568, e568, rfl⟩ := q568
   have N568' := Fr.app N562 N568
   show KEnds p e below s _ _ _ T568 (mkF m 240 #[iv i0, jv i1, s_, jv i2, s_, jv i3, s_, jv i4, s_, jv v3, s_, jv v7, s_, jv v11, s_, iv 1, jv v181, s_, jv v182, s_, jv v183, s_, jv v184, s_, rv b185, iv v563, iv v564, iv v565, iv 0, jv 0, s_, iv 0, jv 0, s_, iv 0, u_, u_, u_, u_, u_] ((.long (f1_9 v184)) :: []))
   obtain ⟨v569, hv569⟩ : ∃ z, z = f1_9 v184 := ⟨_, rfl⟩
   rw [← hv569]
   refine k_lstore X568 hx 242 (D at_240) (Ls' := #[iv i0, jv i1, s_, jv i2, s_, jv i3, s_, jv i4, s_, jv v3, s_, jv v7, s_, jv v11, s_, iv 1, jv v181, s_, jv v182, s_, jv v183, s_, jv v184, s_, rv b185, iv v563, iv v564, iv v565, iv 0, jv 0, s_, iv 0, jv 0, s_, iv 0, jv v569, s_, u_, u_, u_]) rfl ?_
   refine k_iload X568 hx 244 (D at_242) rfl ?_
   refine k_if_eq X568 hx 247 259 (D at_244) (fun _ => ?_) (fun hc => absurd (by decide) hc)
   refine k_iconst X568 hx 260 (D at_259) (z := (0 : Int32)) rfl ?_
   refine k_istore X568 hx 262 (D at_260) (Ls' := #[iv i0, jv i1, s_, jv i2, s_, jv i3, s_, jv i4, s_, jv v3, s_, jv v7, s_, jv v11, s_, iv 1, jv v181, s_, jv v182, s_, jv v183, s_, jv v184, s_, rv b185, iv v563, iv v564, iv v565, iv 0, jv 0, s_, iv 0, jv 0, s_, iv 0, jv v569, s_, iv 0, u_, u_]) rfl ?_
   refine k_iload X568 hx 264 (D at_262) rfl ?_
   refine k_if_eq X568 hx 267 282 (D at_264) (fun _ => ?_) (fun hc => absurd (by decide) hc)
   refine k_iconst X568 hx 283 (D at_282) (z := (0 : Int32)) rfl ?_
   refine k_istore X568 hx 285 (D at_283) (Ls' := #[iv i0, jv i1, s_, jv i2, s_, jv i3, s_, jv i4, s_, jv v3, s_, jv v7, s_, jv v11, s_, iv 1, jv v181, s_, jv v182, s_, jv v183, s_, jv v184, s_, rv b185, iv v563, iv v564, iv v565, iv 0, jv 0, s_, iv 0, jv 0, s_, iv 0, jv v569, s_, iv 0, iv 0, u_]) rfl ?_
   refine k_iload X568 hx 287 (D at_285) rfl ?_
   refine k_if_ne X568 hx 290 299 (D at_287) (fun hc => absurd (by decide) hc) (fun _ => ?_)
   refine k_iload X568 hx 292 (D at_290) rfl ?_
   refine k_if_ne X568 hx 295 299 (D at_292) (fun hc => absurd (by decide) hc) (fun _ => ?_)
   refine k_iconst X568 hx 296 (D at_295) (z := (1 : Int32)) rfl ?_
   refine k_goto X568 hx 300 (D at_296) ?_
   refine k_istore X568 hx 302 (D at_300) (Ls' := #[iv i0, jv i1, s_, jv i2, s_, jv i3, s_, jv i4, s_, jv v3, s_, jv v7, s_, jv v11, s_, iv 1, jv v181, s_, jv v182, s_, jv v183, s_, jv v184, s_, rv b185, iv v563, iv v564, iv v565, iv 0, jv 0, s_, iv 0, jv 0, s_, iv 0, jv v569, s_, iv 0, iv 0, iv 1]) rfl ?_
   refine k_iload X568 hx 304 (D at_302) rfl ?_
   refine k_iload X568 hx 306 (D at_304) rfl ?_
   have q570 := kL_p hc567
   refine k_icmp_ne X568 hx 309 327 (D at_306) (fun hc => absurd (Classical.byContradiction (fun hq571 => by have B572 : (-2147483648 : Int) <= v563.toInt /\ v563.toInt <= 2147483647 := ⟨(rng32 v563).1, Int.le_of_lt_add_one (rng32 v563).2⟩; have B575 : (0 : Int) <= (0 : Int32).toInt /\ (0 : Int32).toInt <= 0 := (by decide); have q576 : ¬ v563.toInt = (0 : Int32).toInt := fun q => hq571 (Int32.toInt_inj.mp q); omega)) hc) (fun _ => ?_)
   refine k_iload X568 hx 311 (D at_309) rfl ?_
   refine k_iload X568 hx 313 (D at_311) rfl ?_
   refine k_icmp_ne X568 hx 316 327 (D at_313) (fun hc => absurd (Classical.byContradiction (fun hq577 => by have B578 : (-2147483648 : Int) <= v564.toInt /\ v564.toInt <= 2147483647 := ⟨(rng32 v564).1, Int.le_of_lt_add_one (rng32 v564).2⟩; have B581 : (0 : Int) <= (0 : Int32).toInt /\ (0 : Int32).toInt <= 0 := (by decide); have q582 : ¬ v564.toInt = (0 : Int32).toInt := fun q => hq577 (Int32.toInt_inj.mp q); omega)) hc) (fun _ => ?_)
   refine k_iload X568 hx 318 (D at_316) rfl ?_
   refine k_iload X568 hx 320 (D at_318) rfl ?_
   refine k_icmp_ne X568 hx 323 327 (D at_320) (fun hc => absurd (Classical.byContradiction (fun hq583 => by have B584 : (-2147483648 : Int) <= v565.toInt /\ v565.toInt <= 2147483647 := ⟨(rng32 v565).1, Int.le_of_lt_add_one (rng32 v565).2⟩; have q587 : ¬ v565.toInt = (1 : Int32).toInt := fun q => hq583 (Int32.toInt_inj.mp q); omega)) hc) (fun _ => ?_)
   refine k_iconst X568 hx 324 (D at_323) (z := (1 : Int32)) rfl ?_
   refine k_goto X568 hx 328 (D at_324) ?_
   exact k_retN X568 hx (t := .boolean) hret (by simp) (D at_328) hlk (by first | exact hce562 | exact Nat.le_trans (Nat.le_refl _) hce562) (by first | exact hsl562 | exact Nat.le_trans (Nat.le_refl _) hsl562) (z' := (1 : Int32)) rfl ⟨rfl, N568'⟩
  ·
   refine k_iconst X562 hx 152 (D at_151) (z := (1 : Int32)) rfl ?_
   refine k_goto X562 hx 156 (D at_152) ?_
   refine k_istore X562 hx 158 (D at_156) (Ls' := #[iv i0, jv i1, s_, jv i2, s_, jv i3, s_, jv i4, s_, jv v3, s_, jv v7, s_, jv v11, s_, iv 1, jv v181, s_, jv v182, s_, jv v183, s_, jv v184, s_, rv b185, iv v563, iv v564, iv v565, iv 1, u_, u_, u_, u_, u_, u_, u_, u_, u_, u_, u_]) rfl ?_
   refine k_iload X562 hx 160 (D at_158) rfl ?_
   refine k_iconst X562 hx 161 (D at_160) (z := (2 : Int32)) rfl ?_
   refine k_icmp_lt X562 hx 164 173 (D at_161) (fun _ => ?_) (fun hc => absurd (by decide) hc)
   refine k_lconst X562 hx 174 (D at_173) (z := (0 : Int64)) rfl ?_
   refine k_lstore X562 hx 176 (D at_174) (Ls' := #[iv i0, jv i1, s_, jv i2, s_, jv i3, s_, jv i4, s_, jv v3, s_, jv v7, s_, jv v11, s_, iv 1, jv v181, s_, jv v182, s_, jv v183, s_, jv v184, s_, rv b185, iv v563, iv v564, iv v565, iv 1, jv 0, s_, u_, u_, u_, u_, u_, u_, u_, u_, u_]) rfl ?_
   refine k_iload X562 hx 178 (D at_176) rfl ?_
   refine k_if_eq X562 hx 181 193 (D at_178) (fun hc => absurd hc (by decide)) (fun _ => ?_)
   refine k_lload X562 hx 183 (D at_181) rfl ?_
   refine k_lload X562 hx 185 (D at_183) rfl ?_
   refine k_lcif_ge X562 hx 189 193 186 (D at_185) (D at_186) (fun hc => absurd (k_dL_alt_nxlt hp210 (by decide)) hc) (fun _ => ?_)
   refine k_iconst X562 hx 190 (D at_189) (z := (1 : Int32)) rfl ?_
   refine k_goto X562 hx 194 (D at_190) ?_
   refine k_istore X562 hx 196 (D at_194) (Ls' := #[iv i0, jv i1, s_, jv i2, s_, jv i3, s_, jv i4, s_, jv v3, s_, jv v7, s_, jv v11, s_, iv 1, jv v181, s_, jv v182, s_, jv v183, s_, jv v184, s_, rv b185, iv v563, iv v564, iv v565, iv 1, jv 0, s_, iv 1, u_, u_, u_, u_, u_, u_, u_, u_]) rfl ?_
   refine k_iload X562 hx 198 (D at_196) rfl ?_
   refine k_if_eq X562 hx 201 206 (D at_198) (fun hc => absurd hc (by decide)) (fun _ => ?_)
   refine k_lload X562 hx 203 (D at_201) rfl ?_
   refine k_goto X562 hx 207 (D at_203) ?_
   refine k_lstore X562 hx 209 (D at_207) (Ls' := #[iv i0, jv i1, s_, jv i2, s_, jv i3, s_, jv i4, s_, jv v3, s_, jv v7, s_, jv v11, s_, iv 1, jv v181, s_, jv v182, s_, jv v183, s_, jv v184, s_, rv b185, iv v563, iv v564, iv v565, iv 1, jv 0, s_, iv 1, jv v7, s_, u_, u_, u_, u_, u_, u_]) rfl ?_
   refine k_iload X562 hx 211 (D at_209) rfl ?_
   refine k_iconst X562 hx 212 (D at_211) (z := (2 : Int32)) rfl ?_
   refine k_icmp_lt X562 hx 215 230 (D at_212) (fun _ => ?_) (fun hc => absurd (by decide) hc)
   refine k_iconst X562 hx 231 (D at_230) (z := (0 : Int32)) rfl ?_
   refine k_istore X562 hx 233 (D at_231) (Ls' := #[iv i0, jv i1, s_, jv i2, s_, jv i3, s_, jv i4, s_, jv v3, s_, jv v7, s_, jv v11, s_, iv 1, jv v181, s_, jv v182, s_, jv v183, s_, jv v184, s_, rv b185, iv v563, iv v564, iv v565, iv 1, jv 0, s_, iv 1, jv v7, s_, iv 0, u_, u_, u_, u_, u_]) rfl ?_
   refine k_lload X562 hx 235 (D at_233) rfl ?_
   refine k_lload X562 hx 237 (D at_235) rfl ?_
   refine k_callS X562 hx hZ hown 240 (k_w hw 1 rfl) (k_w hw 2 rfl) (k_w hw 3 rfl) (k_w hw 4 rfl) (by decide) (rm1_9 l Z a0 hw [] v184 T562.heap n0 Z562 ) (by decide) (by decide) rfl (by rw [hml]; rfl) (argsL := [(.long 0), (.long v184)]) (rest := []) (lenOf pd_0 rfl) rfl (W := 0) (Nat.le_refl _) rfl (D at_237) (by show _ + 0 <= _; exact Nat.le_trans hce562 (by decide)) (by show _ + 0 <= _; exact Nat.le_trans hsl562 (by decide)) (fun T588 L588 r588 X588 q588 => ?_)
   obtain ⟨N588, e588, rfl⟩ := q588
   have N588' := Fr.app N562 N588
   show KEnds p e below s _ _ _ T588 (mkF m 240 #[iv i0, jv i1, s_, jv i2, s_, jv i3, s_, jv i4, s_, jv v3, s_, jv v7, s_, jv v11, s_, iv 1, jv v181, s_, jv v182, s_, jv v183, s_, jv v184, s_, rv b185, iv v563, iv v564, iv v565, iv 1, jv 0, s_, iv 1, jv v7, s_, iv 0, u_, u_, u_, u_, u_] ((.long (f1_9 v184)) :: []))
   obtain ⟨v589, hv589⟩ : ∃ z, z = f1_9 v184 := ⟨_, rfl⟩
   rw [← hv589]
   refine k_lstore X588 hx 242 (D at_240) (Ls' := #[iv i0, jv i1, s_, jv i2, s_, jv i3, s_, jv i4, s_, jv v3, s_, jv v7, s_, jv v11, s_, iv 1, jv v181, s_, jv v182, s_, jv v183, s_, jv v184, s_, rv b185, iv v563, iv v564, iv v565, iv 1, jv 0, s_, iv 1, jv v7, s_, iv 0, jv v589, s_, u_, u_, u_]) rfl ?_
   refine k_iload X588 hx 244 (D at_242) rfl ?_
   refine k_if_eq X588 hx 247 259 (D at_244) (fun hc => absurd hc (by decide)) (fun _ => ?_)
   refine k_lload X588 hx 249 (D at_247) rfl ?_
   refine k_lload X588 hx 251 (D at_249) rfl ?_
   refine k_lcif_ge X588 hx 255 259 252 (D at_251) (D at_252) (fun hc590 => ?_) (fun hc590 => ?_)
   ·
    refine k_iconst X588 hx 260 (D at_259) (z := (0 : Int32)) rfl ?_
    refine k_istore X588 hx 262 (D at_260) (Ls' := #[iv i0, jv i1, s_, jv i2, s_, jv i3, s_, jv i4, s_, jv v3, s_, jv v7, s_, jv v11, s_, iv 1, jv v181, s_, jv v182, s_, jv v183, s_, jv v184, s_, rv b185, iv v563, iv v564, iv v565, iv 1, jv 0, s_, iv 1, jv v7, s_, iv 0, jv v589, s_, iv 0, u_, u_]) rfl ?_
    refine k_iload X588 hx 264 (D at_262) rfl ?_
    refine k_if_eq X588 hx 267 282 (D at_264) (fun _ => ?_) (fun hc => absurd (by decide) hc)
    refine k_iconst X588 hx 283 (D at_282) (z := (0 : Int32)) rfl ?_
    refine k_istore X588 hx 285 (D at_283) (Ls' := #[iv i0, jv i1, s_, jv i2, s_, jv i3, s_, jv i4, s_, jv v3, s_, jv v7, s_, jv v11, s_, iv 1, jv v181, s_, jv v182, s_, jv v183, s_, jv v184, s_, rv b185, iv v563, iv v564, iv v565, iv 1, jv 0, s_, iv 1, jv v7, s_, iv 0, jv v589, s_, iv 0, iv 0, u_]) rfl ?_
    refine k_iload X588 hx 287 (D at_285) rfl ?_
    refine k_if_ne X588 hx 290 299 (D at_287) (fun hc => absurd (by decide) hc) (fun _ => ?_)
    refine k_iload X588 hx 292 (D at_290) rfl ?_
    refine k_if_ne X588 hx 295 299 (D at_292) (fun hc => absurd (by decide) hc) (fun _ => ?_)
    refine k_iconst X588 hx 296 (D at_295) (z := (1 : Int32)) rfl ?_
    refine k_goto X588 hx 300 (D at_296) ?_
    refine k_istore X588 hx 302 (D at_300) (Ls' := #[iv i0, jv i1, s_, jv i2, s_, jv i3, s_, jv i4, s_, jv v3, s_, jv v7, s_, jv v11, s_, iv 1, jv v181, s_, jv v182, s_, jv v183, s_, jv v184, s_, rv b185, iv v563, iv v564, iv v565, iv 1, jv 0, s_, iv 1, jv v7, s_, iv 0, jv v589, s_, iv 0, iv 0, iv 1]) rfl ?_
    refine k_iload X588 hx 304 (D at_302) rfl ?_
    refine k_iload X588 hx 306 (D at_304) rfl ?_
    have q591 := kL_m hc567
    have B594 : (0 : Int) <= (0 : Int64).toInt /\ (0 : Int64).toInt <= 0 := (by decide)
    have q593 := own_mx_f1_9 v184; rw [← hv589] at q593
    have B592 : (0 : Int) <= v589.toInt /\ v589.toInt <= 4611686018427387902 := (by omega)
    have q595 := kL_m hc590
    refine k_icmp_ne X588 hx 309 327 (D at_306) (fun hc => absurd (Classical.byContradiction (fun hq596 => by have B597 : (-2147483648 : Int) <= v563.toInt /\ v563.toInt <= 2147483647 := ⟨(rng32 v563).1, Int.le_of_lt_add_one (rng32 v563).2⟩; have q600 : ¬ v563.toInt = (1 : Int32).toInt := fun q => hq596 (Int32.toInt_inj.mp q); omega)) hc) (fun _ => ?_)
    refine k_iload X588 hx 311 (D at_309) rfl ?_
    refine k_iload X588 hx 313 (D at_311) rfl ?_
    refine k_icmp_ne X588 hx 316 327 (D at_313) (fun hc => absurd (Classical.byContradiction (fun hq601 => by have B602 : (-2147483648 : Int) <= v564.toInt /\ v564.toInt <= 2147483647 := ⟨(rng32 v564).1, Int.le_of_lt_add_one (rng32 v564).2⟩; have B605 : (0 : Int) <= (0 : Int32).toInt /\ (0 : Int32).toInt <= 0 := (by decide); have q606 : ¬ v564.toInt = (0 : Int32).toInt := fun q => hq601 (Int32.toInt_inj.mp q); omega)) hc) (fun _ => ?_)
    refine k_iload X588 hx 318 (D at_316) rfl ?_
    refine k_iload X588 hx 320 (D at_318) rfl ?_
    refine k_icmp_ne X588 hx 323 327 (D at_320) (fun hc => absurd (Classical.byContradiction (fun hq607 => by have B608 : (-2147483648 : Int) <= v565.toInt /\ v565.toInt <= 2147483647 := ⟨(rng32 v565).1, Int.le_of_lt_add_one (rng32 v565).2⟩; have q611 : ¬ v565.toInt = (1 : Int32).toInt := fun q => hq607 (Int32.toInt_inj.mp q); omega)) hc) (fun _ => ?_)
    refine k_iconst X588 hx 324 (D at_323) (z := (1 : Int32)) rfl ?_
    refine k_goto X588 hx 328 (D at_324) ?_
    exact k_retN X588 hx (t := .boolean) hret (by simp) (D at_328) hlk (by first | exact hce562 | exact Nat.le_trans (Nat.le_refl _) hce562) (by first | exact hsl562 | exact Nat.le_trans (Nat.le_refl _) hsl562) (z' := (1 : Int32)) rfl ⟨rfl, N588'⟩
   ·
    refine k_iconst X588 hx 256 (D at_255) (z := (1 : Int32)) rfl ?_
    refine k_goto X588 hx 260 (D at_256) ?_
    refine k_istore X588 hx 262 (D at_260) (Ls' := #[iv i0, jv i1, s_, jv i2, s_, jv i3, s_, jv i4, s_, jv v3, s_, jv v7, s_, jv v11, s_, iv 1, jv v181, s_, jv v182, s_, jv v183, s_, jv v184, s_, rv b185, iv v563, iv v564, iv v565, iv 1, jv 0, s_, iv 1, jv v7, s_, iv 0, jv v589, s_, iv 1, u_, u_]) rfl ?_
    refine k_iload X588 hx 264 (D at_262) rfl ?_
    refine k_if_eq X588 hx 267 282 (D at_264) (fun _ => ?_) (fun hc => absurd (by decide) hc)
    refine k_iconst X588 hx 283 (D at_282) (z := (0 : Int32)) rfl ?_
    refine k_istore X588 hx 285 (D at_283) (Ls' := #[iv i0, jv i1, s_, jv i2, s_, jv i3, s_, jv i4, s_, jv v3, s_, jv v7, s_, jv v11, s_, iv 1, jv v181, s_, jv v182, s_, jv v183, s_, jv v184, s_, rv b185, iv v563, iv v564, iv v565, iv 1, jv 0, s_, iv 1, jv v7, s_, iv 0, jv v589, s_, iv 1, iv 0, u_]) rfl ?_
    refine k_iload X588 hx 287 (D at_285) rfl ?_
    refine k_if_ne X588 hx 290 299 (D at_287) (fun _ => ?_) (fun hc => absurd hc (by decide))
    refine k_iconst X588 hx 300 (D at_299) (z := (0 : Int32)) rfl ?_
    refine k_istore X588 hx 302 (D at_300) (Ls' := #[iv i0, jv i1, s_, jv i2, s_, jv i3, s_, jv i4, s_, jv v3, s_, jv v7, s_, jv v11, s_, iv 1, jv v181, s_, jv v182, s_, jv v183, s_, jv v184, s_, rv b185, iv v563, iv v564, iv v565, iv 1, jv 0, s_, iv 1, jv v7, s_, iv 0, jv v589, s_, iv 1, iv 0, iv 0]) rfl ?_
    refine k_iload X588 hx 304 (D at_302) rfl ?_
    refine k_iload X588 hx 306 (D at_304) rfl ?_
    have q612 := kL_m hc567
    have B615 : (0 : Int) <= (0 : Int64).toInt /\ (0 : Int64).toInt <= 0 := (by decide)
    have q614 := own_mx_f1_9 v184; rw [← hv589] at q614
    have B613 : (0 : Int) <= v589.toInt /\ v589.toInt <= 4611686018427387902 := (by omega)
    have q616 := kL_p hc590
    refine k_icmp_ne X588 hx 309 327 (D at_306) (fun hc => absurd (Classical.byContradiction (fun hq617 => by have B618 : (-2147483648 : Int) <= v563.toInt /\ v563.toInt <= 2147483647 := ⟨(rng32 v563).1, Int.le_of_lt_add_one (rng32 v563).2⟩; have q621 : ¬ v563.toInt = (1 : Int32).toInt := fun q => hq617 (Int32.toInt_inj.mp q); omega)) hc) (fun _ => ?_)
    refine k_iload X588 hx 311 (D at_309) rfl ?_
    refine k_iload X588 hx 313 (D at_311) rfl ?_
    refine k_icmp_ne X588 hx 316 327 (D at_313) (fun hc => absurd (Classical.byContradiction (fun hq622 => by have B623 : (-2147483648 : Int) <= v564.toInt /\ v564.toInt <= 2147483647 := ⟨(rng32 v564).1, Int.le_of_lt_add_one (rng32 v564).2⟩; have B626 : (0 : Int) <= (0 : Int32).toInt /\ (0 : Int32).toInt <= 0 := (by decide); have q627 : ¬ v564.toInt = (0 : Int32).toInt := fun q => hq622 (Int32.toInt_inj.mp q); omega)) hc) (fun _ => ?_)
    refine k_iload X588 hx 318 (D at_316) rfl ?_
    refine k_iload X588 hx 320 (D at_318) rfl ?_
    refine k_icmp_ne X588 hx 323 327 (D at_320) (fun hc => absurd (Classical.byContradiction (fun hq628 => by have B629 : (-2147483648 : Int) <= v565.toInt /\ v565.toInt <= 2147483647 := ⟨(rng32 v565).1, Int.le_of_lt_add_one (rng32 v565).2⟩; have B632 : (0 : Int) <= (0 : Int32).toInt /\ (0 : Int32).toInt <= 0 := (by decide); have q633 : ¬ v565.toInt = (0 : Int32).toInt := fun q => hq628 (Int32.toInt_inj.mp q); omega)) hc) (fun _ => ?_)
    refine k_iconst X588 hx 324 (D at_323) (z := (1 : Int32)) rfl ?_
    refine k_goto X588 hx 328 (D at_324) ?_
    exact k_retN X588 hx (t := .boolean) hret (by simp) (D at_328) hlk (by first | exact hce562 | exact Nat.le_trans (Nat.le_refl _) hce562) (by first | exact hsl562 | exact Nat.le_trans (Nat.le_refl _) hsl562) (z' := (1 : Int32)) rfl ⟨rfl, N588'⟩
 ·
  show KEnds p e below s _ _ _ s₁ (mkF m 40 #[iv i0, jv i1, s_, jv i2, s_, jv i3, s_, jv i4, s_, jv v3, s_, jv v7, s_, jv v11, s_, u_, u_, u_, u_, u_, u_, u_, u_, u_, u_, u_, u_, u_, u_, u_, u_, u_, u_, u_, u_, u_, u_, u_, u_, u_] [(.int 2)])
  refine k_istore X0 hx 42 (D at_40) (Ls' := #[iv i0, jv i1, s_, jv i2, s_, jv i3, s_, jv i4, s_, jv v3, s_, jv v7, s_, jv v11, s_, iv 2, u_, u_, u_, u_, u_, u_, u_, u_, u_, u_, u_, u_, u_, u_, u_, u_, u_, u_, u_, u_, u_, u_, u_, u_]) rfl ?_
  refine k_lconst X0 hx 43 (D at_42) (z := (1 : Int64)) rfl ?_
  refine k_lloadN X0 hx 44 (D at_43) rfl ?_
  refine k_ldcL X0 hx hZ hown 47 (k_w hw 0 rfl) (D at_44) ?_
  refine k_land X0 hx 48 (D at_47) (fun v635 hv635 => ?_)
  refine k_callS X0 hx hZ hown 51 (k_w hw 1 rfl) (k_w hw 2 rfl) (k_w hw 3 rfl) (k_w hw 4 rfl) (by decide) (rm1_1 l Z a0 hw [] v635 h0 n0 Z0 ) (by decide) (by decide) e0 (by rw [hml]; rfl) (argsL := [(.long 1), (.long v635)]) (rest := []) (lenOf pd_0 rfl) rfl (W := 0) (Nat.le_refl _) rfl (D at_48) (by decide) (by decide) (fun T636 L636 r636 X636 q636 => ?_)
  obtain ⟨N636, e636, rfl⟩ := q636
  have N636' := Fr.app N0 N636
  show KEnds p e below s _ _ _ T636 (mkF m 51 #[iv i0, jv i1, s_, jv i2, s_, jv i3, s_, jv i4, s_, jv v3, s_, jv v7, s_, jv v11, s_, iv 2, u_, u_, u_, u_, u_, u_, u_, u_, u_, u_, u_, u_, u_, u_, u_, u_, u_, u_, u_, u_, u_, u_, u_, u_] ((.long (f1_1 v635)) :: []))
  obtain ⟨v637, hv637⟩ : ∃ z, z = f1_1 v635 := ⟨_, rfl⟩
  rw [← hv637]
  refine k_lstore X636 hx 53 (D at_51) (Ls' := #[iv i0, jv i1, s_, jv i2, s_, jv i3, s_, jv i4, s_, jv v3, s_, jv v7, s_, jv v11, s_, iv 2, jv v637, s_, u_, u_, u_, u_, u_, u_, u_, u_, u_, u_, u_, u_, u_, u_, u_, u_, u_, u_, u_, u_, u_, u_]) rfl ?_
  refine k_lload X636 hx 55 (D at_53) rfl ?_
  refine k_iconst X636 hx 56 (D at_55) (z := (2 : Int32)) rfl ?_
  refine k_lshr X636 hx 57 (D at_56) (fun v638 hv638 => ?_)
  refine k_lstore X636 hx 59 (D at_57) (Ls' := #[iv i0, jv i1, s_, jv i2, s_, jv i3, s_, jv i4, s_, jv v3, s_, jv v7, s_, jv v11, s_, iv 2, jv v637, s_, jv v638, s_, u_, u_, u_, u_, u_, u_, u_, u_, u_, u_, u_, u_, u_, u_, u_, u_, u_, u_, u_, u_]) rfl ?_
  refine k_lload X636 hx 61 (D at_59) rfl ?_
  refine k_iconst X636 hx 62 (D at_61) (z := (2 : Int32)) rfl ?_
  refine k_lshr X636 hx 63 (D at_62) (fun v639 hv639 => ?_)
  refine k_lstore X636 hx 65 (D at_63) (Ls' := #[iv i0, jv i1, s_, jv i2, s_, jv i3, s_, jv i4, s_, jv v3, s_, jv v7, s_, jv v11, s_, iv 2, jv v637, s_, jv v638, s_, jv v639, s_, u_, u_, u_, u_, u_, u_, u_, u_, u_, u_, u_, u_, u_, u_, u_, u_, u_, u_]) rfl ?_
  refine k_lload X636 hx 67 (D at_65) rfl ?_
  refine k_lload X636 hx 69 (D at_67) rfl ?_
  refine k_ladd X636 hx 70 (D at_69) (fun v640 hv640 => ?_)
  refine k_lstore X636 hx 72 (D at_70) (Ls' := #[iv i0, jv i1, s_, jv i2, s_, jv i3, s_, jv i4, s_, jv v3, s_, jv v7, s_, jv v11, s_, iv 2, jv v637, s_, jv v638, s_, jv v639, s_, jv v640, s_, u_, u_, u_, u_, u_, u_, u_, u_, u_, u_, u_, u_, u_, u_, u_, u_]) rfl ?_
  refine k_newO X636 hx hZ hown 75 (k_w hw 5 rfl) (k_w hw 6 rfl) (k_w hw 7 rfl) e636 (D at_72) (by decide) (by decide) (fun T641 h641 b641 g641 X641 e641 E641 A641 D641 => ?_)
  have g_b641 : n0 <= b641 := Nat.le_trans Z0 (Nat.le_of_eq g641.symm)
  have Z641 : n0 <= h641.size := Nat.le_trans Z0 E641.1
  have F642 : Fld Z h641 b641 "com/example/halter/halter/SlidingLogLimiter$Log" "limit" "J" (.long 0) := D641 (Or.inr (k_w hw 20 rfl)) (ty := .long) (by decide)
  have F643 : Fld Z h641 b641 "com/example/halter/halter/SlidingLogLimiter$Log" "admitted" "Lcom/example/halter/halter/SlidingSum;" .null := D641 (Or.inr (k_w hw 38 rfl)) (ty := (.object "com/example/halter/halter/SlidingSum")) (by decide)
  refine k_dup X641 hx 76 (D at_75) rfl ?_
  refine k_lload X641 hx 78 (D at_76) rfl ?_
  refine k_lload X641 hx 80 (D at_78) rfl ?_
  have hp644 : ¬ v3 < (1 : Int64) := by
   intro hq645
   have B650 : (1 : Int) <= (1 : Int32).toInt /\ (1 : Int32).toInt <= 1 := (by decide)
   have B653 : (-2147483648 : Int) <= i0.toInt /\ i0.toInt <= 2147483647 := ⟨(rng32 i0).1, Int.le_of_lt_add_one (rng32 i0).2⟩
   have q652 : v1.toInt = i0.toInt % 8 := (by rw [hv1]; exact c_mask _ _ 3 (by decide) (by decide))
   have B651 : (0 : Int) <= v1.toInt /\ v1.toInt <= 7 := (by rw [q652]; exact k_modB (by decide))
   have q649 : v2.toInt = (1 : Int32).toInt + v1.toInt := k_iaddx hv2 B650 B651 (by decide) (by decide)
   have B648 : (1 : Int) <= v2.toInt /\ v2.toInt <= 8 := k_addB q649 B650 B651
   have q647 : v3.toInt = v2.toInt := (by rw [hv3]; exact c_i2l _)
   have B646 : (1 : Int) <= v3.toInt /\ v3.toInt <= 8 := (by rw [q647]; exact B648)
   have B654 : (1 : Int) <= v3.toInt /\ v3.toInt <= 0 := ⟨B646.1, kL_lt hq645 (by decide)⟩
   omega
  have hp655 : ¬ (8 : Int64) < v3 := by
   intro hq656
   have B661 : (1 : Int) <= (1 : Int32).toInt /\ (1 : Int32).toInt <= 1 := (by decide)
   have B664 : (-2147483648 : Int) <= i0.toInt /\ i0.toInt <= 2147483647 := ⟨(rng32 i0).1, Int.le_of_lt_add_one (rng32 i0).2⟩
   have q663 : v1.toInt = i0.toInt % 8 := (by rw [hv1]; exact c_mask _ _ 3 (by decide) (by decide))
   have B662 : (0 : Int) <= v1.toInt /\ v1.toInt <= 7 := (by rw [q663]; exact k_modB (by decide))
   have q660 : v2.toInt = (1 : Int32).toInt + v1.toInt := k_iaddx hv2 B661 B662 (by decide) (by decide)
   have B659 : (1 : Int) <= v2.toInt /\ v2.toInt <= 8 := k_addB q660 B661 B662
   have q658 : v3.toInt = v2.toInt := (by rw [hv3]; exact c_i2l _)
   have B657 : (1 : Int) <= v3.toInt /\ v3.toInt <= 8 := (by rw [q658]; exact B659)
   have B665 : (9 : Int) <= v3.toInt /\ v3.toInt <= 8 := ⟨kL_gt hq656 (by decide), B657.2⟩
   omega
  have hp666 : ¬ v637 < (1 : Int64) := by
   intro hq667
   have B672 : (1 : Int) <= (1 : Int32).toInt /\ (1 : Int32).toInt <= 1 := (by decide)
   have B675 : (-2147483648 : Int) <= i0.toInt /\ i0.toInt <= 2147483647 := ⟨(rng32 i0).1, Int.le_of_lt_add_one (rng32 i0).2⟩
   have q674 : v1.toInt = i0.toInt % 8 := (by rw [hv1]; exact c_mask _ _ 3 (by decide) (by decide))
   have B673 : (0 : Int) <= v1.toInt /\ v1.toInt <= 7 := (by rw [q674]; exact k_modB (by decide))
   have q671 : v2.toInt = (1 : Int32).toInt + v1.toInt := k_iaddx hv2 B672 B673 (by decide) (by decide)
   have B670 : (1 : Int) <= v2.toInt /\ v2.toInt <= 8 := k_addB q671 B672 B673
   have q669 : v3.toInt = v2.toInt := (by rw [hv3]; exact c_i2l _)
   have B668 : (1 : Int) <= v3.toInt /\ v3.toInt <= 8 := (by rw [q669]; exact B670)
   have B678 : (1 : Int) <= (1 : Int64).toInt /\ (1 : Int64).toInt <= 1 := (by decide)
   have B681 : (-9223372036854775808 : Int) <= i1.toInt /\ i1.toInt <= 9223372036854775807 := ⟨(rng64 i1).1, Int.le_of_lt_add_one (rng64 i1).2⟩
   have q680 : v635.toInt = i1.toInt % 9223372036854775808 := (by rw [hv635]; exact c_maskL _ _ 63 (by decide) (by decide))
   have B679 : (0 : Int) <= v635.toInt /\ v635.toInt <= 9223372036854775807 := (by rw [q680]; exact k_modB (by decide))
   have q677 := own_mx_f1_1 v635; rw [← hv637] at q677
   have B676 : (1 : Int) <= v637.toInt /\ v637.toInt <= 9223372036854775807 := (by omega)
   have B682 : (1 : Int) <= v637.toInt /\ v637.toInt <= 0 := ⟨B676.1, kL_lt hq667 (by decide)⟩
   omega
  refine k_callI X641 hx hZ hown 83 (a := b641) rfl (k_w hw 8 rfl) (k_w hw 9 rfl) (k_w hw 7 rfl) (k_w hw 10 rfl) rfl (by decide) (rm2_2 l Z a0 hw [] b641 v3 v637 h641 n0 Z641 ⟨A641, F642, F643⟩ g_b641 hp644 hp655 hp666) (by decide) (by decide) e641 (by rw [hml]; rfl) (argsL := [(.long v3), (.long v637)]) (rest := [(.ref b641)]) (lenOf pd_2 rfl) rfl (W := 1) (Nat.le_refl _) rfl (D at_80) (by decide) (by decide) (fun T683 L683 r683 X683 q683 => ?_)
  obtain ⟨N683, q683⟩ := q683
  have N683' := Fr.app N636' N683
  obtain ⟨b684, b685, k686, b687, k688, rfl, ⟨F689, F690, F691⟩, ⟨F692, F693, F694, F695, F696, F697, F698, F699, F700, F701⟩, F702, F703, g_b684, lt704, g_b685, lt705, g_b687, lt706, Z707⟩ := q683
  refine k_n0 ?_
  refine k_astore X683 hx 85 (D at_83) rfl (Ls' := #[iv i0, jv i1, s_, jv i2, s_, jv i3, s_, jv i4, s_, jv v3, s_, jv v7, s_, jv v11, s_, iv 2, jv v637, s_, jv v638, s_, jv v639, s_, jv v640, s_, rv b641, u_, u_, u_, u_, u_, u_, u_, u_, u_, u_, u_, u_, u_, u_, u_]) rfl ?_
  refine k_iconst X683 hx 86 (D at_85) (z := (0 : Int32)) rfl ?_
  refine k_istore X683 hx 88 (D at_86) (Ls' := #[iv i0, jv i1, s_, jv i2, s_, jv i3, s_, jv i4, s_, jv v3, s_, jv v7, s_, jv v11, s_, iv 2, jv v637, s_, jv v638, s_, jv v639, s_, jv v640, s_, rv b641, iv 0, u_, u_, u_, u_, u_, u_, u_, u_, u_, u_, u_, u_, u_, u_]) rfl ?_
  refine k_iconst X683 hx 89 (D at_88) (z := (0 : Int32)) rfl ?_
  refine k_istore X683 hx 91 (D at_89) (Ls' := #[iv i0, jv i1, s_, jv i2, s_, jv i3, s_, jv i4, s_, jv v3, s_, jv v7, s_, jv v11, s_, iv 2, jv v637, s_, jv v638, s_, jv v639, s_, jv v640, s_, rv b641, iv 0, iv 0, u_, u_, u_, u_, u_, u_, u_, u_, u_, u_, u_, u_, u_]) rfl ?_
  have B712 : (1 : Int) <= (1 : Int32).toInt /\ (1 : Int32).toInt <= 1 := (by decide)
  have B715 : (-2147483648 : Int) <= i0.toInt /\ i0.toInt <= 2147483647 := ⟨(rng32 i0).1, Int.le_of_lt_add_one (rng32 i0).2⟩
  have q714 : v1.toInt = i0.toInt % 8 := (by rw [hv1]; exact c_mask _ _ 3 (by decide) (by decide))
  have B713 : (0 : Int) <= v1.toInt /\ v1.toInt <= 7 := (by rw [q714]; exact k_modB (by decide))
  have q711 : v2.toInt = (1 : Int32).toInt + v1.toInt := k_iaddx hv2 B712 B713 (by decide) (by decide)
  have B710 : (1 : Int) <= v2.toInt /\ v2.toInt <= 8 := k_addB q711 B712 B713
  have q709 : v3.toInt = v2.toInt := (by rw [hv3]; exact c_i2l _)
  have B708 : (1 : Int) <= v3.toInt /\ v3.toInt <= 8 := (by rw [q709]; exact B710)
  have B718 : (1 : Int) <= (1 : Int64).toInt /\ (1 : Int64).toInt <= 1 := (by decide)
  have B721 : (-9223372036854775808 : Int) <= i1.toInt /\ i1.toInt <= 9223372036854775807 := ⟨(rng64 i1).1, Int.le_of_lt_add_one (rng64 i1).2⟩
  have q720 : v635.toInt = i1.toInt % 9223372036854775808 := (by rw [hv635]; exact c_maskL _ _ 63 (by decide) (by decide))
  have B719 : (0 : Int) <= v635.toInt /\ v635.toInt <= 9223372036854775807 := (by rw [q720]; exact k_modB (by decide))
  have q717 := own_mx_f1_1 v635; rw [← hv637] at q717
  have B716 : (1 : Int) <= v637.toInt /\ v637.toInt <= 9223372036854775807 := (by omega)
  have q729 : v4.toInt = (i0.toInt % 4294967296) / 8 := (by rw [hv4]; exact c_iushr _ _ 3 (by decide) (by decide))
  have B728 : (0 : Int) <= v4.toInt /\ v4.toInt <= 536870911 := (by rw [q729]; exact k_divmodB (by decide) (by decide) (by decide))
  have q727 : v5.toInt = v4.toInt % 8 := (by rw [hv5]; exact c_mask _ _ 3 (by decide) (by decide))
  have B726 : (0 : Int) <= v5.toInt /\ v5.toInt <= 7 := (by rw [q727]; exact k_modB (by decide))
  have q725 : v6.toInt = (1 : Int32).toInt + v5.toInt := k_iaddx hv6 B712 B726 (by decide) (by decide)
  have B724 : (1 : Int) <= v6.toInt /\ v6.toInt <= 8 := k_addB q725 B712 B726
  have q723 : v7.toInt = v6.toInt := (by rw [hv7]; exact c_i2l _)
  have B722 : (1 : Int) <= v7.toInt /\ v7.toInt <= 8 := (by rw [q723]; exact B724)
  have q737 : v8.toInt = (i0.toInt % 4294967296) / 64 := (by rw [hv8]; exact c_iushr _ _ 6 (by decide) (by decide))
  have B736 : (0 : Int) <= v8.toInt /\ v8.toInt <= 67108863 := (by rw [q737]; exact k_divmodB (by decide) (by decide) (by decide))
  have q735 : v9.toInt = v8.toInt % 8 := (by rw [hv9]; exact c_mask _ _ 3 (by decide) (by decide))
  have B734 : (0 : Int) <= v9.toInt /\ v9.toInt <= 7 := (by rw [q735]; exact k_modB (by decide))
  have q733 : v10.toInt = (1 : Int32).toInt + v9.toInt := k_iaddx hv10 B712 B734 (by decide) (by decide)
  have B732 : (1 : Int) <= v10.toInt /\ v10.toInt <= 8 := k_addB q733 B712 B734
  have q731 : v11.toInt = v10.toInt := (by rw [hv11]; exact c_i2l _)
  have B730 : (1 : Int) <= v11.toInt /\ v11.toInt <= 8 := (by rw [q731]; exact B732)
  have B740 : (-9223372036854775808 : Int) <= i3.toInt /\ i3.toInt <= 9223372036854775807 := ⟨(rng64 i3).1, Int.le_of_lt_add_one (rng64 i3).2⟩
  have q739 : v638.toInt = i3.toInt / 4 := (by rw [hv638]; exact c_lshr _ _ 2 (by decide))
  have B738 : (-2305843009213693952 : Int) <= v638.toInt /\ v638.toInt <= 2305843009213693951 := (by rw [q739]; exact k_divB B740 (by decide) (by decide) (by decide))
  have B745 : (-9223372036854775808 : Int) <= i4.toInt /\ i4.toInt <= 9223372036854775807 := ⟨(rng64 i4).1, Int.le_of_lt_add_one (rng64 i4).2⟩
  have q744 : v639.toInt = i4.toInt / 4 := (by rw [hv639]; exact c_lshr _ _ 2 (by decide))
  have B743 : (-2305843009213693952 : Int) <= v639.toInt /\ v639.toInt <= 2305843009213693951 := (by rw [q744]; exact k_divB B745 (by decide) (by decide) (by decide))
  have q742 : v640.toInt = v638.toInt + v639.toInt := k_laddx hv640 B738 B743 (by decide) (by decide)
  have B741 : (-4611686018427387904 : Int) <= v640.toInt /\ v640.toInt <= 4611686018427387902 := k_addB q742 B738 B743
  have e01 : (0 : Int32).toInt = 0 /\ (1 : Int32).toInt = 1 := (by decide)
  suffices key746 : ∀ (T3403 : State) (lo3403 : List Loc) (ce3403 sl3403 : Nat) (v3404 : Int32) (v3405 : Int32) (v3406 : Int32), Stand p l e room_1 s m #[(.int i0), (.long i1), (.long i2), (.long i3), (.long i4)] below meth c T3403 lo3403 ce3403 sl3403 -> Fr n0 lo3403 -> n0 <= T3403.heap.size -> ce3403 <= 24 -> sl3403 <= 128 -> (((v3404.toInt = 1 /\ v7.toInt <= v3.toInt) \/ (v3404.toInt = 0 /\ ¬ (v7.toInt <= v3.toInt))) /\ ((v3405.toInt = 1 /\ (((v7.toInt <= v3.toInt /\ v638.toInt < v637.toInt) /\ v7.toInt + v11.toInt <= v3.toInt) \/ (¬ (v7.toInt <= v3.toInt /\ v638.toInt < v637.toInt) /\ v11.toInt <= v3.toInt))) \/ (v3405.toInt = 0 /\ ¬ ((((v7.toInt <= v3.toInt /\ v638.toInt < v637.toInt) /\ v7.toInt + v11.toInt <= v3.toInt) \/ (¬ (v7.toInt <= v3.toInt /\ v638.toInt < v637.toInt) /\ v11.toInt <= v3.toInt))))) /\ ((v3406.toInt = 1 /\ ¬ ((v7.toInt <= v3.toInt /\ v640.toInt < v637.toInt /\ v638.toInt < v637.toInt) \/ ((((v7.toInt <= v3.toInt /\ v638.toInt < v637.toInt) /\ v7.toInt + v11.toInt <= v3.toInt) \/ (¬ (v7.toInt <= v3.toInt /\ v638.toInt < v637.toInt) /\ v11.toInt <= v3.toInt)) /\ (v640.toInt < v637.toInt \/ v640.toInt - v638.toInt < v637.toInt)))) \/ (v3406.toInt = 0 /\ ((v7.toInt <= v3.toInt /\ v640.toInt < v637.toInt /\ v638.toInt < v637.toInt) \/ ((((v7.toInt <= v3.toInt /\ v638.toInt < v637.toInt) /\ v7.toInt + v11.toInt <= v3.toInt) \/ (¬ (v7.toInt <= v3.toInt /\ v638.toInt < v637.toInt) /\ v11.toInt <= v3.toInt)) /\ (v640.toInt < v637.toInt \/ v640.toInt - v638.toInt < v637.toInt)))))) -> KEnds p e below s 24 128 (Q0 n0) T3403 (mkF m 137 #[iv i0, jv i1, s_, jv i2, s_, jv i3, s_, jv i4, s_, jv v3, s_, jv v7, s_, jv v11, s_, iv 2, jv v637, s_, jv v638, s_, jv v639, s_, jv v640, s_, rv b641, iv v3404, iv v3405, iv v3406, u_, u_, u_, u_, u_, u_, u_, u_, u_, u_, u_, u_] []) by
   refine k_iload X683 hx 93 (D at_91) rfl ?_
   refine k_iconst X683 hx 94 (D at_93) (z := (1 : Int32)) rfl ?_
   refine k_icmp_lt X683 hx 97 107 (D at_94) (fun hc => absurd hc (by decide)) (fun _ => ?_)
   refine k_aload X683 hx 99 (D at_97) rfl rfl ?_
   refine k_lload X683 hx 101 (D at_99) rfl ?_
   refine k_lloadN X683 hx 102 (D at_101) rfl ?_
   have hp747 : ¬ v7 < (1 : Int64) := by
    intro hq748
    have q749 : v7.toInt <= 0 := kL_lt hq748 (by decide)
    omega
   refine k_callV X683 hx hZ hown 105 (a := b641) (k_w hw 65 rfl) (k_w hw 66 rfl) (k_w hw 68 rfl) (k_w hw 67 rfl) (k_w hw 7 rfl) (k_w hw 69 rfl) (by decide) F689 (rm10_10 l Z a0 hw [] b641 b684 b685 b687 v7 i2 v3 v637 k686 k688 T683.heap n0 Z707 ⟨F689, F690, F691⟩ g_b641 ⟨F692, F693, F694, F695, F696, F697, F698, F699, F700, F701⟩ g_b684 F702 g_b685 F703 g_b687 lt704 lt705 lt706 hp644 hp655 hp666 hp747) (by decide) (by decide) rfl (by rw [hml]; rfl) (argsL := [(.long v7), (.long i2)]) (rest := []) (lenOf pd_8 rfl) rfl (W := 0) (Nat.le_refl _) rfl (D at_102) (by decide) (by decide) (fun T750 L750 r750 X750 q750 => ?_)
   obtain ⟨N750, q750⟩ := q750
   have N750' := Fr.app N683' N750
   rcases q750 with ⟨hc751, rfl, ⟨F752, F753, F754⟩, ⟨F755, F756, F757, F758, F759, F760, F761, F762, F763, F764⟩, F765, F766, Z767⟩ | ⟨v768, b769, k770, b771, k772, h773, hc774, hc775, hc776, rfl, ⟨F777, F778, F779⟩, ⟨F780, F781, F782, F783, F784, F785, F786, F787, F788, F789⟩, F790, F791, F792, F793, g_b769, lt794, g_b771, lt795, Z796⟩
   ·
    refine k_n1 ?_
    refine k_istore X750 hx 107 (D at_105) (Ls' := #[iv i0, jv i1, s_, jv i2, s_, jv i3, s_, jv i4, s_, jv v3, s_, jv v7, s_, jv v11, s_, iv 2, jv v637, s_, jv v638, s_, jv v639, s_, jv v640, s_, rv b641, iv 0, iv 0, u_, u_, u_, u_, u_, u_, u_, u_, u_, u_, u_, u_, u_]) rfl ?_
    refine k_iload X750 hx 109 (D at_107) rfl ?_
    refine k_iconst X750 hx 110 (D at_109) (z := (2 : Int32)) rfl ?_
    refine k_icmp_lt X750 hx 113 126 (D at_110) (fun hc => absurd hc (by decide)) (fun _ => ?_)
    refine k_aload X750 hx 115 (D at_113) rfl rfl ?_
    refine k_lload X750 hx 117 (D at_115) rfl ?_
    refine k_lloadN X750 hx 118 (D at_117) rfl ?_
    refine k_lload X750 hx 120 (D at_118) rfl ?_
    refine k_ladd X750 hx 121 (D at_120) (fun v797 hv797 => ?_)
    have hp798 : ¬ v11 < (1 : Int64) := by
     intro hq799
     have q800 : 1 <= v7.toInt := kL_ge hp747 (by decide)
     have q801 := kL_p hc751
     have q802 : v11.toInt <= 0 := kL_lt hq799 (by decide)
     omega
    refine k_callV X750 hx hZ hown 124 (a := b641) (k_w hw 65 rfl) (k_w hw 66 rfl) (k_w hw 68 rfl) (k_w hw 67 rfl) (k_w hw 7 rfl) (k_w hw 69 rfl) (by decide) F752 (rm10_30 l Z a0 hw [] b641 b684 b685 b687 v11 v797 v3 v637 i2 k686 k688 T750.heap n0 Z767 ⟨F752, F753, F754⟩ g_b641 ⟨F755, F756, F757, F758, F759, F760, F761, F762, F763, F764⟩ g_b684 F765 g_b685 F766 g_b687 lt704 lt705 lt706 hp644 hp655 hp666 hp798) (by decide) (by decide) rfl (by rw [hml]; rfl) (argsL := [(.long v11), (.long v797)]) (rest := []) (lenOf pd_8 rfl) rfl (W := 0) (Nat.le_refl _) rfl (D at_121) (by decide) (by decide) (fun T803 L803 r803 X803 q803 => ?_)
    obtain ⟨N803, q803⟩ := q803
    have N803' := Fr.app N750' N803
    rcases q803 with ⟨v804, h805, hc806, hc807, rfl, ⟨F808, F809, F810⟩, ⟨F811, F812, F813, F814, F815, F816, F817, F818, F819, F820⟩, F821, F822, Z823⟩ | ⟨v824, v825, b826, k827, b828, k829, h830, h831, hc832, hc833, hc834, hc835, rfl, ⟨F836, F837, F838⟩, ⟨F839, F840, F841, F842, F843, F844, F845, F846, F847, F848⟩, F849, F850, F851, F852, g_b826, lt853, g_b828, lt854, Z855⟩ | ⟨v856, h857, hc858, hc859, rfl, ⟨F860, F861, F862⟩, ⟨F863, F864, F865, F866, F867, F868, F869, F870, F871, F872⟩, F873, F874, Z875⟩ | ⟨v876, v877, b878, k879, b880, k881, h882, h883, hc884, hc885, hc886, hc887, rfl, ⟨F888, F889, F890⟩, ⟨F891, F892, F893, F894, F895, F896, F897, F898, F899, F900⟩, F901, F902, F903, F904, g_b878, lt905, g_b880, lt906, Z907⟩
    ·
     have hr908 : v804 = v638 := by rw [h805, hv797]; exact k_s1 _ _
     refine k_n1 ?_
     refine k_istore X803 hx 126 (D at_124) (Ls' := #[iv i0, jv i1, s_, jv i2, s_, jv i3, s_, jv i4, s_, jv v3, s_, jv v7, s_, jv v11, s_, iv 2, jv v637, s_, jv v638, s_, jv v639, s_, jv v640, s_, rv b641, iv 0, iv 0, u_, u_, u_, u_, u_, u_, u_, u_, u_, u_, u_, u_, u_]) rfl ?_
     refine k_aload X803 hx 128 (D at_126) rfl rfl ?_
     refine k_lloadN X803 hx 129 (D at_128) rfl ?_
     refine k_lload X803 hx 131 (D at_129) rfl ?_
     refine k_ladd X803 hx 132 (D at_131) (fun v909 hv909 => ?_)
     refine k_callV X803 hx hZ hown 135 (a := b641) (k_w hw 39 rfl) (k_w hw 40 rfl) (k_w hw 42 rfl) (k_w hw 41 rfl) (k_w hw 7 rfl) (k_w hw 43 rfl) (by decide) F808 (rm6_21 l Z a0 hw [] b641 b684 b685 b687 v909 v3 v637 i2 k686 k688 T803.heap n0 Z823 ⟨F808, F809, F810⟩ g_b641 ⟨F811, F812, F813, F814, F815, F816, F817, F818, F819, F820⟩ g_b684 F821 g_b685 F822 g_b687 lt704 lt705 lt706 hp644 hp655 hp666) (by decide) (by decide) rfl (by rw [hml]; rfl) (argsL := [(.long v909)]) (rest := []) (lenOf pd_5 rfl) rfl (W := 0) (Nat.le_refl _) rfl (D at_132) (by decide) (by decide) (fun T910 L910 r910 X910 q910 => ?_)
     obtain ⟨N910, q910⟩ := q910
     have N910' := Fr.app N803' N910
     rcases q910 with ⟨v911, h912, hc913, rfl, ⟨F914, F915, F916⟩, ⟨F917, F918, F919, F920, F921, F922, F923, F924, F925, F926⟩, F927, F928, Z929⟩ | ⟨v930, h931, hc932, rfl, ⟨F933, F934, F935⟩, ⟨F936, F937, F938, F939, F940, F941, F942, F943, F944, F945⟩, F946, F947, Z948⟩
     ·
      have hr949 : v911 = v640 := by rw [h912, hv909]; exact k_s1 _ _
      refine k_n1 ?_
      refine k_istore X910 hx 137 (D at_135) (Ls' := #[iv i0, jv i1, s_, jv i2, s_, jv i3, s_, jv i4, s_, jv v3, s_, jv v7, s_, jv v11, s_, iv 2, jv v637, s_, jv v638, s_, jv v639, s_, jv v640, s_, rv b641, iv 0, iv 0, iv 1, u_, u_, u_, u_, u_, u_, u_, u_, u_, u_, u_, u_]) rfl ?_
      refine key746 T910 _ _ _ (0 : Int32) (0 : Int32) (1 : Int32) X910 N910' (Z929) (by decide) (by decide) ?_
      have q950 : 1 <= v7.toInt := kL_ge hp747 (by decide)
      have q951 := kL_p hc751
      have q952 : 1 <= v11.toInt := kL_ge hp798 (by decide)
      have q954 : v804.toInt = v638.toInt := (by rw [hr908])
      have B953 : (-2305843009213693952 : Int) <= v804.toInt /\ v804.toInt <= 2305843009213693951 := (by rw [q954]; exact B738)
      have B955 : (-2305843009213693952 : Int) <= v804.toInt /\ v804.toInt <= 0 := ⟨B953.1, kL_le hc806 (by decide)⟩
      have q956 := kL_p hc807
      have q958 : v911.toInt = v640.toInt := (by rw [hr949])
      have B957 : (-4611686018427387904 : Int) <= v911.toInt /\ v911.toInt <= 4611686018427387902 := (by rw [q958]; exact B741)
      have B959 : (-4611686018427387904 : Int) <= v911.toInt /\ v911.toInt <= 0 := ⟨B957.1, kL_le hc913 (by decide)⟩
      refine ⟨?_, ?_, ?_⟩ <;> omega
     ·
      have hr960 : v930 = v640 := by rw [h931, hv909]; exact k_s1 _ _
      refine k_n1 ?_
      refine k_istore X910 hx 137 (D at_135) (Ls' := #[iv i0, jv i1, s_, jv i2, s_, jv i3, s_, jv i4, s_, jv v3, s_, jv v7, s_, jv v11, s_, iv 2, jv v637, s_, jv v638, s_, jv v639, s_, jv v640, s_, rv b641, iv 0, iv 0, iv 1, u_, u_, u_, u_, u_, u_, u_, u_, u_, u_, u_, u_]) rfl ?_
      refine key746 T910 _ _ _ (0 : Int32) (0 : Int32) (1 : Int32) X910 N910' (Z948) (by decide) (by decide) ?_
      have q961 : 1 <= v7.toInt := kL_ge hp747 (by decide)
      have q962 := kL_p hc751
      have q963 : 1 <= v11.toInt := kL_ge hp798 (by decide)
      have q965 : v804.toInt = v638.toInt := (by rw [hr908])
      have B964 : (-2305843009213693952 : Int) <= v804.toInt /\ v804.toInt <= 2305843009213693951 := (by rw [q965]; exact B738)
      have B966 : (-2305843009213693952 : Int) <= v804.toInt /\ v804.toInt <= 0 := ⟨B964.1, kL_le hc806 (by decide)⟩
      have q967 := kL_p hc807
      have q969 : v930.toInt = v640.toInt := (by rw [hr960])
      have B968 : (-4611686018427387904 : Int) <= v930.toInt /\ v930.toInt <= 4611686018427387902 := (by rw [q969]; exact B741)
      have B970 : (1 : Int) <= v930.toInt /\ v930.toInt <= 4611686018427387902 := ⟨kL_gt hc932 (by decide), B968.2⟩
      refine ⟨?_, ?_, ?_⟩ <;> omega
    ·
     have hr971 : v824 = v638 := by rw [h830, hv797]; exact k_s1 _ _
     refine k_n1 ?_
     refine k_istore X803 hx 126 (D at_124) (Ls' := #[iv i0, jv i1, s_, jv i2, s_, jv i3, s_, jv i4, s_, jv v3, s_, jv v7, s_, jv v11, s_, iv 2, jv v637, s_, jv v638, s_, jv v639, s_, jv v640, s_, rv b641, iv 0, iv 1, u_, u_, u_, u_, u_, u_, u_, u_, u_, u_, u_, u_, u_]) rfl ?_
     refine k_aload X803 hx 128 (D at_126) rfl rfl ?_
     refine k_lloadN X803 hx 129 (D at_128) rfl ?_
     refine k_lload X803 hx 131 (D at_129) rfl ?_
     refine k_ladd X803 hx 132 (D at_131) (fun v972 hv972 => ?_)
     refine k_callV X803 hx hZ hown 135 (a := b641) (k_w hw 39 rfl) (k_w hw 40 rfl) (k_w hw 42 rfl) (k_w hw 41 rfl) (k_w hw 7 rfl) (k_w hw 43 rfl) (by decide) F836 (rm6_24 l Z a0 hw [] b641 b684 b826 b828 v972 v3 v637 i2 v11 k827 k829 v825 T803.heap n0 Z855 ⟨F836, F837, F838⟩ g_b641 ⟨F839, F840, F841, F842, F843, F844, F845, F846, F847, F848⟩ g_b684 F851 g_b826 F852 g_b828 lt704 (Nat.lt_trans (Nat.lt_trans lt705 lt706) lt853) lt854 hp644 hp655 hp666 hc834 hc835 h831) (by decide) (by decide) rfl (by rw [hml]; rfl) (argsL := [(.long v972)]) (rest := []) (lenOf pd_5 rfl) rfl (W := 0) (Nat.le_refl _) rfl (D at_132) (by decide) (by decide) (fun T973 L973 r973 X973 q973 => ?_)
     obtain ⟨N973, q973⟩ := q973
     have N973' := Fr.app N803' N973
     rcases q973 with ⟨v974, h975, hc976, hc977, rfl, ⟨F978, F979, F980⟩, ⟨F981, F982, F983, F984, F985, F986, F987, F988, F989, F990⟩, F991, F992, Z993⟩ | ⟨v994, h995, hc996, hc997, rfl, ⟨F998, F999, F1000⟩, ⟨F1001, F1002, F1003, F1004, F1005, F1006, F1007, F1008, F1009, F1010⟩, F1011, F1012, Z1013⟩ | ⟨v1014, h1015, hc1016, hc1017, hc1018, rfl, ⟨F1019, F1020, F1021⟩, ⟨F1022, F1023, F1024, F1025, F1026, F1027, F1028, F1029, F1030, F1031⟩, F1032, F1033, Z1034⟩ | ⟨v1035, h1036, hc1037, hc1038, hc1039, rfl, ⟨F1040, F1041, F1042⟩, ⟨F1043, F1044, F1045, F1046, F1047, F1048, F1049, F1050, F1051, F1052⟩, F1053, F1054, Z1055⟩ | ⟨v1056, h1057, hc1058, hc1059, hc1060, rfl, ⟨F1061, F1062, F1063⟩, ⟨F1064, F1065, F1066, F1067, F1068, F1069, F1070, F1071, F1072, F1073⟩, F1074, F1075, Z1076⟩ | ⟨v1077, h1078, hc1079, hc1080, hc1081, rfl, ⟨F1082, F1083, F1084⟩, ⟨F1085, F1086, F1087, F1088, F1089, F1090, F1091, F1092, F1093, F1094⟩, F1095, F1096, Z1097⟩
     ·
      have hr1098 : v974 = v640 := by rw [h975, hv972]; exact k_s1 _ _
      refine k_n1 ?_
      refine k_istore X973 hx 137 (D at_135) (Ls' := #[iv i0, jv i1, s_, jv i2, s_, jv i3, s_, jv i4, s_, jv v3, s_, jv v7, s_, jv v11, s_, iv 2, jv v637, s_, jv v638, s_, jv v639, s_, jv v640, s_, rv b641, iv 0, iv 1, iv 0, u_, u_, u_, u_, u_, u_, u_, u_, u_, u_, u_, u_]) rfl ?_
      refine key746 T973 _ _ _ (0 : Int32) (1 : Int32) (0 : Int32) X973 N973' (Z993) (by decide) (by decide) ?_
      have q1099 : 1 <= v7.toInt := kL_ge hp747 (by decide)
      have q1100 := kL_p hc751
      have q1101 : 1 <= v11.toInt := kL_ge hp798 (by decide)
      have q1103 : v824.toInt = v638.toInt := (by rw [hr971])
      have B1102 : (-2305843009213693952 : Int) <= v824.toInt /\ v824.toInt <= 2305843009213693951 := (by rw [q1103]; exact B738)
      have B1104 : (-2305843009213693952 : Int) <= v824.toInt /\ v824.toInt <= 0 := ⟨B1102.1, kL_le hc832 (by decide)⟩
      have q1105 := kL_m hc833
      have q1107 : v825.toInt = v3.toInt := k_l2ix h831 B708 (by decide) (by decide)
      have B1106 : (1 : Int) <= v825.toInt /\ v825.toInt <= 8 := (by rw [q1107]; exact B708)
      have q1109 : v974.toInt = v640.toInt := (by rw [hr1098])
      have B1108 : (-4611686018427387904 : Int) <= v974.toInt /\ v974.toInt <= 4611686018427387902 := (by rw [q1109]; exact B741)
      have B1110 : (-4611686018427387904 : Int) <= v974.toInt /\ v974.toInt <= 0 := ⟨B1108.1, kL_le hc976 (by decide)⟩
      have B1111 : (0 : Int) <= (0 : Int64).toInt /\ (0 : Int64).toInt <= 0 := (by decide)
      have q1112 : ¬ v11.toInt = (0 : Int64).toInt := fun q => hc977 (Int64.toInt_inj.mp q)
      refine ⟨?_, ?_, ?_⟩ <;> omega
     ·
      have hr1113 : v994 = v640 := by rw [h995, hv972]; exact k_s1 _ _
      refine k_n1 ?_
      exact absurd hc997 (k_dL_ne_nxlt hp798 (by decide))
     ·
      have hr1114 : v1014 = v640 := by rw [h1015, hv972]; exact k_s1 _ _
      refine k_n1 ?_
      refine k_istore X973 hx 137 (D at_135) (Ls' := #[iv i0, jv i1, s_, jv i2, s_, jv i3, s_, jv i4, s_, jv v3, s_, jv v7, s_, jv v11, s_, iv 2, jv v637, s_, jv v638, s_, jv v639, s_, jv v640, s_, rv b641, iv 0, iv 1, iv 0, u_, u_, u_, u_, u_, u_, u_, u_, u_, u_, u_, u_]) rfl ?_
      refine key746 T973 _ _ _ (0 : Int32) (1 : Int32) (0 : Int32) X973 N973' (Z1034) (by decide) (by decide) ?_
      have q1115 : 1 <= v7.toInt := kL_ge hp747 (by decide)
      have q1116 := kL_p hc751
      have q1117 : 1 <= v11.toInt := kL_ge hp798 (by decide)
      have q1119 : v824.toInt = v638.toInt := (by rw [hr971])
      have B1118 : (-2305843009213693952 : Int) <= v824.toInt /\ v824.toInt <= 2305843009213693951 := (by rw [q1119]; exact B738)
      have B1120 : (-2305843009213693952 : Int) <= v824.toInt /\ v824.toInt <= 0 := ⟨B1118.1, kL_le hc832 (by decide)⟩
      have q1121 := kL_m hc833
      have q1123 : v825.toInt = v3.toInt := k_l2ix h831 B708 (by decide) (by decide)
      have B1122 : (1 : Int) <= v825.toInt /\ v825.toInt <= 8 := (by rw [q1123]; exact B708)
      have q1125 : v1014.toInt = v640.toInt := (by rw [hr1114])
      have B1124 : (-4611686018427387904 : Int) <= v1014.toInt /\ v1014.toInt <= 4611686018427387902 := (by rw [q1125]; exact B741)
      have B1126 : (1 : Int) <= v1014.toInt /\ v1014.toInt <= 4611686018427387902 := ⟨kL_gt hc1016 (by decide), B1124.2⟩
      have q1127 := kL_p hc1017
      have B1128 : (0 : Int) <= (0 : Int64).toInt /\ (0 : Int64).toInt <= 0 := (by decide)
      have q1129 : ¬ v11.toInt = (0 : Int64).toInt := fun q => hc1018 (Int64.toInt_inj.mp q)
      refine ⟨?_, ?_, ?_⟩ <;> omega
     ·
      have hr1130 : v1035 = v640 := by rw [h1036, hv972]; exact k_s1 _ _
      refine k_n1 ?_
      exact absurd hc1039 (k_dL_ne_nxlt hp798 (by decide))
     ·
      have hr1131 : v1056 = v640 := by rw [h1057, hv972]; exact k_s1 _ _
      refine k_n1 ?_
      refine k_istore X973 hx 137 (D at_135) (Ls' := #[iv i0, jv i1, s_, jv i2, s_, jv i3, s_, jv i4, s_, jv v3, s_, jv v7, s_, jv v11, s_, iv 2, jv v637, s_, jv v638, s_, jv v639, s_, jv v640, s_, rv b641, iv 0, iv 1, iv 1, u_, u_, u_, u_, u_, u_, u_, u_, u_, u_, u_, u_]) rfl ?_
      refine key746 T973 _ _ _ (0 : Int32) (1 : Int32) (1 : Int32) X973 N973' (Z1076) (by decide) (by decide) ?_
      have q1132 : 1 <= v7.toInt := kL_ge hp747 (by decide)
      have q1133 := kL_p hc751
      have q1134 : 1 <= v11.toInt := kL_ge hp798 (by decide)
      have q1136 : v824.toInt = v638.toInt := (by rw [hr971])
      have B1135 : (-2305843009213693952 : Int) <= v824.toInt /\ v824.toInt <= 2305843009213693951 := (by rw [q1136]; exact B738)
      have B1137 : (-2305843009213693952 : Int) <= v824.toInt /\ v824.toInt <= 0 := ⟨B1135.1, kL_le hc832 (by decide)⟩
      have q1138 := kL_m hc833
      have q1140 : v825.toInt = v3.toInt := k_l2ix h831 B708 (by decide) (by decide)
      have B1139 : (1 : Int) <= v825.toInt /\ v825.toInt <= 8 := (by rw [q1140]; exact B708)
      have B1141 : (1 : Int) <= v825.toInt /\ v825.toInt <= 1 := ⟨B1139.1, k_le hc1060 (by decide)⟩
      have q1143 : v1056.toInt = v640.toInt := (by rw [hr1131])
      have B1142 : (-4611686018427387904 : Int) <= v1056.toInt /\ v1056.toInt <= 4611686018427387902 := (by rw [q1143]; exact B741)
      have B1144 : (1 : Int) <= v1056.toInt /\ v1056.toInt <= 4611686018427387902 := ⟨kL_gt hc1058 (by decide), B1142.2⟩
      have q1145 := kL_m hc1059
      refine ⟨?_, ?_, ?_⟩ <;> omega
     ·
      have hr1146 : v1077 = v640 := by rw [h1078, hv972]; exact k_s1 _ _
      refine k_n1 ?_
      refine k_istore X973 hx 137 (D at_135) (Ls' := #[iv i0, jv i1, s_, jv i2, s_, jv i3, s_, jv i4, s_, jv v3, s_, jv v7, s_, jv v11, s_, iv 2, jv v637, s_, jv v638, s_, jv v639, s_, jv v640, s_, rv b641, iv 0, iv 1, iv 1, u_, u_, u_, u_, u_, u_, u_, u_, u_, u_, u_, u_]) rfl ?_
      refine key746 T973 _ _ _ (0 : Int32) (1 : Int32) (1 : Int32) X973 N973' (Z1097) (by decide) (by decide) ?_
      have q1147 : 1 <= v7.toInt := kL_ge hp747 (by decide)
      have q1148 := kL_p hc751
      have q1149 : 1 <= v11.toInt := kL_ge hp798 (by decide)
      have q1151 : v824.toInt = v638.toInt := (by rw [hr971])
      have B1150 : (-2305843009213693952 : Int) <= v824.toInt /\ v824.toInt <= 2305843009213693951 := (by rw [q1151]; exact B738)
      have B1152 : (-2305843009213693952 : Int) <= v824.toInt /\ v824.toInt <= 0 := ⟨B1150.1, kL_le hc832 (by decide)⟩
      have q1153 := kL_m hc833
      have q1155 : v825.toInt = v3.toInt := k_l2ix h831 B708 (by decide) (by decide)
      have B1154 : (1 : Int) <= v825.toInt /\ v825.toInt <= 8 := (by rw [q1155]; exact B708)
      have B1156 : (2 : Int) <= v825.toInt /\ v825.toInt <= 8 := ⟨k_gt hc1081 (by decide), B1154.2⟩
      have q1158 : v1077.toInt = v640.toInt := (by rw [hr1146])
      have B1157 : (-4611686018427387904 : Int) <= v1077.toInt /\ v1077.toInt <= 4611686018427387902 := (by rw [q1158]; exact B741)
      have B1159 : (1 : Int) <= v1077.toInt /\ v1077.toInt <= 4611686018427387902 := ⟨kL_gt hc1079 (by decide), B1157.2⟩
      have q1160 := kL_m hc1080
      refine ⟨?_, ?_, ?_⟩ <;> omega
    ·
     have hr1161 : v856 = v638 := by rw [h857, hv797]; exact k_s1 _ _
     refine k_n1 ?_
     refine k_istore X803 hx 126 (D at_124) (Ls' := #[iv i0, jv i1, s_, jv i2, s_, jv i3, s_, jv i4, s_, jv v3, s_, jv v7, s_, jv v11, s_, iv 2, jv v637, s_, jv v638, s_, jv v639, s_, jv v640, s_, rv b641, iv 0, iv 0, u_, u_, u_, u_, u_, u_, u_, u_, u_, u_, u_, u_, u_]) rfl ?_
     refine k_aload X803 hx 128 (D at_126) rfl rfl ?_
     refine k_lloadN X803 hx 129 (D at_128) rfl ?_
     refine k_lload X803 hx 131 (D at_129) rfl ?_
     refine k_ladd X803 hx 132 (D at_131) (fun v1162 hv1162 => ?_)
     refine k_callV X803 hx hZ hown 135 (a := b641) (k_w hw 39 rfl) (k_w hw 40 rfl) (k_w hw 42 rfl) (k_w hw 41 rfl) (k_w hw 7 rfl) (k_w hw 43 rfl) (by decide) F860 (rm6_21 l Z a0 hw [] b641 b684 b685 b687 v1162 v3 v637 v797 k686 k688 T803.heap n0 Z875 ⟨F860, F861, F862⟩ g_b641 ⟨F863, F864, F865, F866, F867, F868, F869, F870, F871, F872⟩ g_b684 F873 g_b685 F874 g_b687 lt704 lt705 lt706 hp644 hp655 hp666) (by decide) (by decide) rfl (by rw [hml]; rfl) (argsL := [(.long v1162)]) (rest := []) (lenOf pd_5 rfl) rfl (W := 0) (Nat.le_refl _) rfl (D at_132) (by decide) (by decide) (fun T1163 L1163 r1163 X1163 q1163 => ?_)
     obtain ⟨N1163, q1163⟩ := q1163
     have N1163' := Fr.app N803' N1163
     rcases q1163 with ⟨v1164, h1165, hc1166, rfl, ⟨F1167, F1168, F1169⟩, ⟨F1170, F1171, F1172, F1173, F1174, F1175, F1176, F1177, F1178, F1179⟩, F1180, F1181, Z1182⟩ | ⟨v1183, h1184, hc1185, rfl, ⟨F1186, F1187, F1188⟩, ⟨F1189, F1190, F1191, F1192, F1193, F1194, F1195, F1196, F1197, F1198⟩, F1199, F1200, Z1201⟩
     ·
      have hr1202 : v1164 = v640 - v638 := by rw [h1165, hv1162, hv797]; exact k_s2 _ _ _
      refine k_n1 ?_
      refine k_istore X1163 hx 137 (D at_135) (Ls' := #[iv i0, jv i1, s_, jv i2, s_, jv i3, s_, jv i4, s_, jv v3, s_, jv v7, s_, jv v11, s_, iv 2, jv v637, s_, jv v638, s_, jv v639, s_, jv v640, s_, rv b641, iv 0, iv 0, iv 1, u_, u_, u_, u_, u_, u_, u_, u_, u_, u_, u_, u_]) rfl ?_
      refine key746 T1163 _ _ _ (0 : Int32) (0 : Int32) (1 : Int32) X1163 N1163' (Z1182) (by decide) (by decide) ?_
      have q1203 : 1 <= v7.toInt := kL_ge hp747 (by decide)
      have q1204 := kL_p hc751
      have q1205 : 1 <= v11.toInt := kL_ge hp798 (by decide)
      have q1207 : v856.toInt = v638.toInt := (by rw [hr1161])
      have B1206 : (-2305843009213693952 : Int) <= v856.toInt /\ v856.toInt <= 2305843009213693951 := (by rw [q1207]; exact B738)
      have B1208 : (1 : Int) <= v856.toInt /\ v856.toInt <= 2305843009213693951 := ⟨kL_gt hc858 (by decide), B1206.2⟩
      have q1209 := kL_p hc859
      have q1211 : v1164.toInt = v640.toInt - v638.toInt := k_lsubx hr1202 B741 B738 (by decide) (by decide)
      have B1210 : (-6917529027641081855 : Int) <= v1164.toInt /\ v1164.toInt <= 6917529027641081854 := k_subB' q1211 B741 B738
      have B1212 : (-6917529027641081855 : Int) <= v1164.toInt /\ v1164.toInt <= 0 := ⟨B1210.1, kL_le hc1166 (by decide)⟩
      refine ⟨?_, ?_, ?_⟩ <;> omega
     ·
      have hr1213 : v1183 = v640 - v638 := by rw [h1184, hv1162, hv797]; exact k_s2 _ _ _
      refine k_n1 ?_
      refine k_istore X1163 hx 137 (D at_135) (Ls' := #[iv i0, jv i1, s_, jv i2, s_, jv i3, s_, jv i4, s_, jv v3, s_, jv v7, s_, jv v11, s_, iv 2, jv v637, s_, jv v638, s_, jv v639, s_, jv v640, s_, rv b641, iv 0, iv 0, iv 1, u_, u_, u_, u_, u_, u_, u_, u_, u_, u_, u_, u_]) rfl ?_
      refine key746 T1163 _ _ _ (0 : Int32) (0 : Int32) (1 : Int32) X1163 N1163' (Z1201) (by decide) (by decide) ?_
      have q1214 : 1 <= v7.toInt := kL_ge hp747 (by decide)
      have q1215 := kL_p hc751
      have q1216 : 1 <= v11.toInt := kL_ge hp798 (by decide)
      have q1218 : v856.toInt = v638.toInt := (by rw [hr1161])
      have B1217 : (-2305843009213693952 : Int) <= v856.toInt /\ v856.toInt <= 2305843009213693951 := (by rw [q1218]; exact B738)
      have B1219 : (1 : Int) <= v856.toInt /\ v856.toInt <= 2305843009213693951 := ⟨kL_gt hc858 (by decide), B1217.2⟩
      have q1220 := kL_p hc859
      have q1222 : v1183.toInt = v640.toInt - v638.toInt := k_lsubx hr1213 B741 B738 (by decide) (by decide)
      have B1221 : (-6917529027641081855 : Int) <= v1183.toInt /\ v1183.toInt <= 6917529027641081854 := k_subB' q1222 B741 B738
      have B1223 : (1 : Int) <= v1183.toInt /\ v1183.toInt <= 6917529027641081854 := ⟨kL_gt hc1185 (by decide), B1221.2⟩
      refine ⟨?_, ?_, ?_⟩ <;> omega
    ·
     have hr1224 : v876 = v638 := by rw [h882, hv797]; exact k_s1 _ _
     refine k_n1 ?_
     refine k_istore X803 hx 126 (D at_124) (Ls' := #[iv i0, jv i1, s_, jv i2, s_, jv i3, s_, jv i4, s_, jv v3, s_, jv v7, s_, jv v11, s_, iv 2, jv v637, s_, jv v638, s_, jv v639, s_, jv v640, s_, rv b641, iv 0, iv 1, u_, u_, u_, u_, u_, u_, u_, u_, u_, u_, u_, u_, u_]) rfl ?_
     refine k_aload X803 hx 128 (D at_126) rfl rfl ?_
     refine k_lloadN X803 hx 129 (D at_128) rfl ?_
     refine k_lload X803 hx 131 (D at_129) rfl ?_
     refine k_ladd X803 hx 132 (D at_131) (fun v1225 hv1225 => ?_)
     refine k_callV X803 hx hZ hown 135 (a := b641) (k_w hw 39 rfl) (k_w hw 40 rfl) (k_w hw 42 rfl) (k_w hw 41 rfl) (k_w hw 7 rfl) (k_w hw 43 rfl) (by decide) F888 (rm6_24 l Z a0 hw [] b641 b684 b878 b880 v1225 v3 v637 v797 v11 k879 k881 v877 T803.heap n0 Z907 ⟨F888, F889, F890⟩ g_b641 ⟨F891, F892, F893, F894, F895, F896, F897, F898, F899, F900⟩ g_b684 F903 g_b878 F904 g_b880 lt704 (Nat.lt_trans (Nat.lt_trans lt705 lt706) lt905) lt906 hp644 hp655 hp666 hc886 hc887 h883) (by decide) (by decide) rfl (by rw [hml]; rfl) (argsL := [(.long v1225)]) (rest := []) (lenOf pd_5 rfl) rfl (W := 0) (Nat.le_refl _) rfl (D at_132) (by decide) (by decide) (fun T1226 L1226 r1226 X1226 q1226 => ?_)
     obtain ⟨N1226, q1226⟩ := q1226
     have N1226' := Fr.app N803' N1226
     rcases q1226 with ⟨v1227, h1228, hc1229, hc1230, rfl, ⟨F1231, F1232, F1233⟩, ⟨F1234, F1235, F1236, F1237, F1238, F1239, F1240, F1241, F1242, F1243⟩, F1244, F1245, Z1246⟩ | ⟨v1247, h1248, hc1249, hc1250, rfl, ⟨F1251, F1252, F1253⟩, ⟨F1254, F1255, F1256, F1257, F1258, F1259, F1260, F1261, F1262, F1263⟩, F1264, F1265, Z1266⟩ | ⟨v1267, h1268, hc1269, hc1270, hc1271, rfl, ⟨F1272, F1273, F1274⟩, ⟨F1275, F1276, F1277, F1278, F1279, F1280, F1281, F1282, F1283, F1284⟩, F1285, F1286, Z1287⟩ | ⟨v1288, h1289, hc1290, hc1291, hc1292, rfl, ⟨F1293, F1294, F1295⟩, ⟨F1296, F1297, F1298, F1299, F1300, F1301, F1302, F1303, F1304, F1305⟩, F1306, F1307, Z1308⟩ | ⟨v1309, h1310, hc1311, hc1312, hc1313, rfl, ⟨F1314, F1315, F1316⟩, ⟨F1317, F1318, F1319, F1320, F1321, F1322, F1323, F1324, F1325, F1326⟩, F1327, F1328, Z1329⟩ | ⟨v1330, h1331, hc1332, hc1333, hc1334, rfl, ⟨F1335, F1336, F1337⟩, ⟨F1338, F1339, F1340, F1341, F1342, F1343, F1344, F1345, F1346, F1347⟩, F1348, F1349, Z1350⟩
     ·
      have hr1351 : v1227 = v640 - v638 := by rw [h1228, hv1225, hv797]; exact k_s2 _ _ _
      refine k_n1 ?_
      refine k_istore X1226 hx 137 (D at_135) (Ls' := #[iv i0, jv i1, s_, jv i2, s_, jv i3, s_, jv i4, s_, jv v3, s_, jv v7, s_, jv v11, s_, iv 2, jv v637, s_, jv v638, s_, jv v639, s_, jv v640, s_, rv b641, iv 0, iv 1, iv 0, u_, u_, u_, u_, u_, u_, u_, u_, u_, u_, u_, u_]) rfl ?_
      refine key746 T1226 _ _ _ (0 : Int32) (1 : Int32) (0 : Int32) X1226 N1226' (Z1246) (by decide) (by decide) ?_
      have q1352 : 1 <= v7.toInt := kL_ge hp747 (by decide)
      have q1353 := kL_p hc751
      have q1354 : 1 <= v11.toInt := kL_ge hp798 (by decide)
      have q1356 : v876.toInt = v638.toInt := (by rw [hr1224])
      have B1355 : (-2305843009213693952 : Int) <= v876.toInt /\ v876.toInt <= 2305843009213693951 := (by rw [q1356]; exact B738)
      have B1357 : (1 : Int) <= v876.toInt /\ v876.toInt <= 2305843009213693951 := ⟨kL_gt hc884 (by decide), B1355.2⟩
      have q1358 := kL_m hc885
      have q1360 : v877.toInt = v3.toInt := k_l2ix h883 B708 (by decide) (by decide)
      have B1359 : (1 : Int) <= v877.toInt /\ v877.toInt <= 8 := (by rw [q1360]; exact B708)
      have q1362 : v1227.toInt = v640.toInt - v638.toInt := k_lsubx hr1351 B741 B738 (by decide) (by decide)
      have B1361 : (-6917529027641081855 : Int) <= v1227.toInt /\ v1227.toInt <= 6917529027641081854 := k_subB' q1362 B741 B738
      have B1363 : (-6917529027641081855 : Int) <= v1227.toInt /\ v1227.toInt <= 0 := ⟨B1361.1, kL_le hc1229 (by decide)⟩
      have B1364 : (0 : Int) <= (0 : Int64).toInt /\ (0 : Int64).toInt <= 0 := (by decide)
      have q1365 : ¬ v11.toInt = (0 : Int64).toInt := fun q => hc1230 (Int64.toInt_inj.mp q)
      refine ⟨?_, ?_, ?_⟩ <;> omega
     ·
      have hr1366 : v1247 = v640 - v638 := by rw [h1248, hv1225, hv797]; exact k_s2 _ _ _
      refine k_n1 ?_
      exact absurd hc1250 (k_dL_ne_nxlt hp798 (by decide))
     ·
      have hr1367 : v1267 = v640 - v638 := by rw [h1268, hv1225, hv797]; exact k_s2 _ _ _
      refine k_n1 ?_
      refine k_istore X1226 hx 137 (D at_135) (Ls' := #[iv i0, jv i1, s_, jv i2, s_, jv i3, s_, jv i4, s_, jv v3, s_, jv v7, s_, jv v11, s_, iv 2, jv v637, s_, jv v638, s_, jv v639, s_, jv v640, s_, rv b641, iv 0, iv 1, iv 0, u_, u_, u_, u_, u_, u_, u_, u_, u_, u_, u_, u_]) rfl ?_
      refine key746 T1226 _ _ _ (0 : Int32) (1 : Int32) (0 : Int32) X1226 N1226' (Z1287) (by decide) (by decide) ?_
      have q1368 : 1 <= v7.toInt := kL_ge hp747 (by decide)
      have q1369 := kL_p hc751
      have q1370 : 1 <= v11.toInt := kL_ge hp798 (by decide)
      have q1372 : v876.toInt = v638.toInt := (by rw [hr1224])
      have B1371 : (-2305843009213693952 : Int) <= v876.toInt /\ v876.toInt <= 2305843009213693951 := (by rw [q1372]; exact B738)
      have B1373 : (1 : Int) <= v876.toInt /\ v876.toInt <= 2305843009213693951 := ⟨kL_gt hc884 (by decide), B1371.2⟩
      have q1374 := kL_m hc885
      have q1376 : v877.toInt = v3.toInt := k_l2ix h883 B708 (by decide) (by decide)
      have B1375 : (1 : Int) <= v877.toInt /\ v877.toInt <= 8 := (by rw [q1376]; exact B708)
      have q1378 : v1267.toInt = v640.toInt - v638.toInt := k_lsubx hr1367 B741 B738 (by decide) (by decide)
      have B1377 : (-6917529027641081855 : Int) <= v1267.toInt /\ v1267.toInt <= 6917529027641081854 := k_subB' q1378 B741 B738
      have B1379 : (1 : Int) <= v1267.toInt /\ v1267.toInt <= 6917529027641081854 := ⟨kL_gt hc1269 (by decide), B1377.2⟩
      have q1380 := kL_p hc1270
      have B1381 : (0 : Int) <= (0 : Int64).toInt /\ (0 : Int64).toInt <= 0 := (by decide)
      have q1382 : ¬ v11.toInt = (0 : Int64).toInt := fun q => hc1271 (Int64.toInt_inj.mp q)
      refine ⟨?_, ?_, ?_⟩ <;> omega
     ·
      have hr1383 : v1288 = v640 - v638 := by rw [h1289, hv1225, hv797]; exact k_s2 _ _ _
      refine k_n1 ?_
      exact absurd hc1292 (k_dL_ne_nxlt hp798 (by decide))
     ·
      have hr1384 : v1309 = v640 - v638 := by rw [h1310, hv1225, hv797]; exact k_s2 _ _ _
      refine k_n1 ?_
      refine k_istore X1226 hx 137 (D at_135) (Ls' := #[iv i0, jv i1, s_, jv i2, s_, jv i3, s_, jv i4, s_, jv v3, s_, jv v7, s_, jv v11, s_, iv 2, jv v637, s_, jv v638, s_, jv v639, s_, jv v640, s_, rv b641, iv 0, iv 1, iv 1, u_, u_, u_, u_, u_, u_, u_, u_, u_, u_, u_, u_]) rfl ?_
      refine key746 T1226 _ _ _ (0 : Int32) (1 : Int32) (1 : Int32) X1226 N1226' (Z1329) (by decide) (by decide) ?_
      have q1385 : 1 <= v7.toInt := kL_ge hp747 (by decide)
      have q1386 := kL_p hc751
      have q1387 : 1 <= v11.toInt := kL_ge hp798 (by decide)
      have q1389 : v876.toInt = v638.toInt := (by rw [hr1224])
      have B1388 : (-2305843009213693952 : Int) <= v876.toInt /\ v876.toInt <= 2305843009213693951 := (by rw [q1389]; exact B738)
      have B1390 : (1 : Int) <= v876.toInt /\ v876.toInt <= 2305843009213693951 := ⟨kL_gt hc884 (by decide), B1388.2⟩
      have q1391 := kL_m hc885
      have q1393 : v877.toInt = v3.toInt := k_l2ix h883 B708 (by decide) (by decide)
      have B1392 : (1 : Int) <= v877.toInt /\ v877.toInt <= 8 := (by rw [q1393]; exact B708)
      have B1394 : (1 : Int) <= v877.toInt /\ v877.toInt <= 1 := ⟨B1392.1, k_le hc1313 (by decide)⟩
      have q1396 : v1309.toInt = v640.toInt - v638.toInt := k_lsubx hr1384 B741 B738 (by decide) (by decide)
      have B1395 : (-6917529027641081855 : Int) <= v1309.toInt /\ v1309.toInt <= 6917529027641081854 := k_subB' q1396 B741 B738
      have B1397 : (1 : Int) <= v1309.toInt /\ v1309.toInt <= 6917529027641081854 := ⟨kL_gt hc1311 (by decide), B1395.2⟩
      have q1398 := kL_m hc1312
      refine ⟨?_, ?_, ?_⟩ <;> omega
     ·
      have hr1399 : v1330 = v640 - v638 := by rw [h1331, hv1225, hv797]; exact k_s2 _ _ _
      refine k_n1 ?_
      refine k_istore X1226 hx 137 (D at_135) (Ls' := #[iv i0, jv i1, s_, jv i2, s_, jv i3, s_, jv i4, s_, jv v3, s_, jv v7, s_, jv v11, s_, iv 2, jv v637, s_, jv v638, s_, jv v639, s_, jv v640, s_, rv b641, iv 0, iv 1, iv 1, u_, u_, u_, u_, u_, u_, u_, u_, u_, u_, u_, u_]) rfl ?_
      refine key746 T1226 _ _ _ (0 : Int32) (1 : Int32) (1 : Int32) X1226 N1226' (Z1350) (by decide) (by decide) ?_
      have q1400 : 1 <= v7.toInt := kL_ge hp747 (by decide)
      have q1401 := kL_p hc751
      have q1402 : 1 <= v11.toInt := kL_ge hp798 (by decide)
      have q1404 : v876.toInt = v638.toInt := (by rw [hr1224])
      have B1403 : (-2305843009213693952 : Int) <= v876.toInt /\ v876.toInt <= 2305843009213693951 := (by rw [q1404]; exact B738)
      have B1405 : (1 : Int) <= v876.toInt /\ v876.toInt <= 2305843009213693951 := ⟨kL_gt hc884 (by decide), B1403.2⟩
      have q1406 := kL_m hc885
      have q1408 : v877.toInt = v3.toInt := k_l2ix h883 B708 (by decide) (by decide)
      have B1407 : (1 : Int) <= v877.toInt /\ v877.toInt <= 8 := (by rw [q1408]; exact B708)
      have B1409 : (2 : Int) <= v877.toInt /\ v877.toInt <= 8 := ⟨k_gt hc1334 (by decide), B1407.2⟩
      have q1411 : v1330.toInt = v640.toInt - v638.toInt := k_lsubx hr1399 B741 B738 (by decide) (by decide)
      have B1410 : (-6917529027641081855 : Int) <= v1330.toInt /\ v1330.toInt <= 6917529027641081854 := k_subB' q1411 B741 B738
      have B1412 : (1 : Int) <= v1330.toInt /\ v1330.toInt <= 6917529027641081854 := ⟨kL_gt hc1332 (by decide), B1410.2⟩
      have q1413 := kL_m hc1333
      refine ⟨?_, ?_, ?_⟩ <;> omega
   ·
    refine k_n1 ?_
    refine k_istore X750 hx 107 (D at_105) (Ls' := #[iv i0, jv i1, s_, jv i2, s_, jv i3, s_, jv i4, s_, jv v3, s_, jv v7, s_, jv v11, s_, iv 2, jv v637, s_, jv v638, s_, jv v639, s_, jv v640, s_, rv b641, iv 1, iv 0, u_, u_, u_, u_, u_, u_, u_, u_, u_, u_, u_, u_, u_]) rfl ?_
    refine k_iload X750 hx 109 (D at_107) rfl ?_
    refine k_iconst X750 hx 110 (D at_109) (z := (2 : Int32)) rfl ?_
    refine k_icmp_lt X750 hx 113 126 (D at_110) (fun hc => absurd hc (by decide)) (fun _ => ?_)
    refine k_aload X750 hx 115 (D at_113) rfl rfl ?_
    refine k_lload X750 hx 117 (D at_115) rfl ?_
    refine k_lloadN X750 hx 118 (D at_117) rfl ?_
    refine k_lload X750 hx 120 (D at_118) rfl ?_
    refine k_ladd X750 hx 121 (D at_120) (fun v1414 hv1414 => ?_)
    have hp1415 : ¬ v11 < (1 : Int64) := by
     intro hq1416
     have q1417 : 1 <= v7.toInt := kL_ge hp747 (by decide)
     have q1418 := kL_m hc774
     have q1420 : v768.toInt = v3.toInt := k_l2ix h773 B708 (by decide) (by decide)
     have B1419 : (1 : Int) <= v768.toInt /\ v768.toInt <= 8 := (by rw [q1420]; exact B708)
     have q1421 : v11.toInt <= 0 := kL_lt hq1416 (by decide)
     omega
    refine k_callV X750 hx hZ hown 124 (a := b641) (k_w hw 65 rfl) (k_w hw 66 rfl) (k_w hw 68 rfl) (k_w hw 67 rfl) (k_w hw 7 rfl) (k_w hw 69 rfl) (by decide) F777 (rm10_33 l Z a0 hw [] b641 b684 b769 b771 v11 v1414 v3 v637 i2 v7 k770 k772 v768 T750.heap n0 Z796 ⟨F777, F778, F779⟩ g_b641 ⟨F780, F781, F782, F783, F784, F785, F786, F787, F788, F789⟩ g_b684 F792 g_b769 F793 g_b771 lt704 (Nat.lt_trans (Nat.lt_trans lt705 lt706) lt794) lt795 hp644 hp655 hp666 hc775 hc776 hp1415 hp747 h773) (by decide) (by decide) rfl (by rw [hml]; rfl) (argsL := [(.long v11), (.long v1414)]) (rest := []) (lenOf pd_8 rfl) rfl (W := 0) (Nat.le_refl _) rfl (D at_121) (by decide) (by decide) (fun T1422 L1422 r1422 X1422 q1422 => ?_)
    obtain ⟨N1422, q1422⟩ := q1422
    have N1422' := Fr.app N750' N1422
    rcases q1422 with ⟨v1423, v1424, h1425, h1426, hc1427, hc1428, rfl, ⟨F1429, F1430, F1431⟩, ⟨F1432, F1433, F1434, F1435, F1436, F1437, F1438, F1439, F1440, F1441⟩, F1442, F1443, Z1444⟩ | ⟨v1445, v1446, v1447, h1448, h1449, h1450, hc1451, hc1452, hc1453, rfl, ⟨F1454, F1455, F1456⟩, ⟨F1457, F1458, F1459, F1460, F1461, F1462, F1463, F1464, F1465, F1466⟩, F1467, F1468, Z1469⟩ | ⟨v1470, v1471, h1472, h1473, hc1474, hc1475, hc1476, rfl, ⟨F1477, F1478, F1479⟩, ⟨F1480, F1481, F1482, F1483, F1484, F1485, F1486, F1487, F1488, F1489⟩, F1490, F1491, Z1492⟩ | ⟨v1493, v1494, v1495, h1496, h1497, h1498, hc1499, hc1500, hc1501, hc1502, hc1503, hc1504, rfl, ⟨F1505, F1506, F1507⟩, ⟨F1508, F1509, F1510, F1511, F1512, F1513, F1514, F1515, F1516, F1517⟩, F1518, F1519, Z1520⟩ | ⟨v1521, v1522, v1523, h1524, h1525, h1526, hc1527, hc1528, hc1529, hc1530, hc1531, rfl, ⟨F1532, F1533, F1534⟩, ⟨F1535, F1536, F1537, F1538, F1539, F1540, F1541, F1542, F1543, F1544⟩, F1545, F1546, Z1547⟩ | ⟨v1548, h1549, hc1550, hc1551, hc1552, hc1553, rfl, ⟨F1554, F1555, F1556⟩, ⟨F1557, F1558, F1559, F1560, F1561, F1562, F1563, F1564, F1565, F1566⟩, F1567, F1568, Z1569⟩ | ⟨v1570, h1571, hc1572, hc1573, hc1574, hc1575, rfl, ⟨F1576, F1577, F1578⟩, ⟨F1579, F1580, F1581, F1582, F1583, F1584, F1585, F1586, F1587, F1588⟩, F1589, F1590, Z1591⟩ | ⟨v1592, h1593, hc1594, hc1595, hc1596, hc1597, rfl, ⟨F1598, F1599, F1600⟩, ⟨F1601, F1602, F1603, F1604, F1605, F1606, F1607, F1608, F1609, F1610⟩, F1611, F1612, Z1613⟩ | ⟨v1614, h1615, hc1616, hc1617, hc1618, hc1619, hc1620, rfl, ⟨F1621, F1622, F1623⟩, ⟨F1624, F1625, F1626, F1627, F1628, F1629, F1630, F1631, F1632, F1633⟩, F1634, F1635, Z1636⟩
    ·
     have hr1637 : v1423 = v638 := by rw [h1425, hv1414]; exact k_s1 _ _
     refine k_n1 ?_
     refine k_istore X1422 hx 126 (D at_124) (Ls' := #[iv i0, jv i1, s_, jv i2, s_, jv i3, s_, jv i4, s_, jv v3, s_, jv v7, s_, jv v11, s_, iv 2, jv v637, s_, jv v638, s_, jv v639, s_, jv v640, s_, rv b641, iv 1, iv 0, u_, u_, u_, u_, u_, u_, u_, u_, u_, u_, u_, u_, u_]) rfl ?_
     refine k_aload X1422 hx 128 (D at_126) rfl rfl ?_
     refine k_lloadN X1422 hx 129 (D at_128) rfl ?_
     refine k_lload X1422 hx 131 (D at_129) rfl ?_
     refine k_ladd X1422 hx 132 (D at_131) (fun v1638 hv1638 => ?_)
     refine k_callV X1422 hx hZ hown 135 (a := b641) (k_w hw 39 rfl) (k_w hw 40 rfl) (k_w hw 42 rfl) (k_w hw 41 rfl) (k_w hw 7 rfl) (k_w hw 43 rfl) (by decide) F1429 (rm6_24 l Z a0 hw [] b641 b684 b769 b771 v1638 v3 v637 i2 v7 k770 k772 v768 T1422.heap n0 Z1444 ⟨F1429, F1430, F1431⟩ g_b641 ⟨F1432, F1433, F1434, F1435, F1436, F1437, F1438, F1439, F1440, F1441⟩ g_b684 F1442 g_b769 F1443 g_b771 lt704 (Nat.lt_trans (Nat.lt_trans lt705 lt706) lt794) lt795 hp644 hp655 hp666 hc775 hc776 h773) (by decide) (by decide) rfl (by rw [hml]; rfl) (argsL := [(.long v1638)]) (rest := []) (lenOf pd_5 rfl) rfl (W := 0) (Nat.le_refl _) rfl (D at_132) (by decide) (by decide) (fun T1639 L1639 r1639 X1639 q1639 => ?_)
     obtain ⟨N1639, q1639⟩ := q1639
     have N1639' := Fr.app N1422' N1639
     rcases q1639 with ⟨v1640, h1641, hc1642, hc1643, rfl, ⟨F1644, F1645, F1646⟩, ⟨F1647, F1648, F1649, F1650, F1651, F1652, F1653, F1654, F1655, F1656⟩, F1657, F1658, Z1659⟩ | ⟨v1660, h1661, hc1662, hc1663, rfl, ⟨F1664, F1665, F1666⟩, ⟨F1667, F1668, F1669, F1670, F1671, F1672, F1673, F1674, F1675, F1676⟩, F1677, F1678, Z1679⟩ | ⟨v1680, h1681, hc1682, hc1683, hc1684, rfl, ⟨F1685, F1686, F1687⟩, ⟨F1688, F1689, F1690, F1691, F1692, F1693, F1694, F1695, F1696, F1697⟩, F1698, F1699, Z1700⟩ | ⟨v1701, h1702, hc1703, hc1704, hc1705, rfl, ⟨F1706, F1707, F1708⟩, ⟨F1709, F1710, F1711, F1712, F1713, F1714, F1715, F1716, F1717, F1718⟩, F1719, F1720, Z1721⟩ | ⟨v1722, h1723, hc1724, hc1725, hc1726, rfl, ⟨F1727, F1728, F1729⟩, ⟨F1730, F1731, F1732, F1733, F1734, F1735, F1736, F1737, F1738, F1739⟩, F1740, F1741, Z1742⟩ | ⟨v1743, h1744, hc1745, hc1746, hc1747, rfl, ⟨F1748, F1749, F1750⟩, ⟨F1751, F1752, F1753, F1754, F1755, F1756, F1757, F1758, F1759, F1760⟩, F1761, F1762, Z1763⟩
     ·
      have hr1764 : v1640 = v640 := by rw [h1641, hv1638]; exact k_s1 _ _
      refine k_n1 ?_
      refine k_istore X1639 hx 137 (D at_135) (Ls' := #[iv i0, jv i1, s_, jv i2, s_, jv i3, s_, jv i4, s_, jv v3, s_, jv v7, s_, jv v11, s_, iv 2, jv v637, s_, jv v638, s_, jv v639, s_, jv v640, s_, rv b641, iv 1, iv 0, iv 0, u_, u_, u_, u_, u_, u_, u_, u_, u_, u_, u_, u_]) rfl ?_
      refine key746 T1639 _ _ _ (1 : Int32) (0 : Int32) (0 : Int32) X1639 N1639' (Z1659) (by decide) (by decide) ?_
      have q1765 : 1 <= v7.toInt := kL_ge hp747 (by decide)
      have q1766 := kL_m hc774
      have q1768 : v768.toInt = v3.toInt := k_l2ix h773 B708 (by decide) (by decide)
      have B1767 : (1 : Int) <= v768.toInt /\ v768.toInt <= 8 := (by rw [q1768]; exact B708)
      have q1769 : 1 <= v11.toInt := kL_ge hp1415 (by decide)
      have q1771 : v1423.toInt = v638.toInt := (by rw [hr1637])
      have B1770 : (-2305843009213693952 : Int) <= v1423.toInt /\ v1423.toInt <= 2305843009213693951 := (by rw [q1771]; exact B738)
      have B1772 : (-2305843009213693952 : Int) <= v1423.toInt /\ v1423.toInt <= 0 := ⟨B1770.1, kL_le hc1427 (by decide)⟩
      have q1774 : v1424.toInt = v3.toInt - v7.toInt := k_lsubx h1426 B708 B722 (by decide) (by decide)
      have B1773 : (-7 : Int) <= v1424.toInt /\ v1424.toInt <= 7 := k_subB' q1774 B708 B722
      have q1775 := kL_p hc1428
      have q1777 : v1640.toInt = v640.toInt := (by rw [hr1764])
      have B1776 : (-4611686018427387904 : Int) <= v1640.toInt /\ v1640.toInt <= 4611686018427387902 := (by rw [q1777]; exact B741)
      have B1778 : (-4611686018427387904 : Int) <= v1640.toInt /\ v1640.toInt <= 0 := ⟨B1776.1, kL_le hc1642 (by decide)⟩
      have B1779 : (0 : Int) <= (0 : Int64).toInt /\ (0 : Int64).toInt <= 0 := (by decide)
      have q1780 : ¬ v7.toInt = (0 : Int64).toInt := fun q => hc1643 (Int64.toInt_inj.mp q)
      refine ⟨?_, ?_, ?_⟩ <;> omega
     ·
      have hr1781 : v1660 = v640 := by rw [h1661, hv1638]; exact k_s1 _ _
      refine k_n1 ?_
      exact absurd hc1663 (k_dL_ne_nxlt hp747 (by decide))
     ·
      have hr1782 : v1680 = v640 := by rw [h1681, hv1638]; exact k_s1 _ _
      refine k_n1 ?_
      refine k_istore X1639 hx 137 (D at_135) (Ls' := #[iv i0, jv i1, s_, jv i2, s_, jv i3, s_, jv i4, s_, jv v3, s_, jv v7, s_, jv v11, s_, iv 2, jv v637, s_, jv v638, s_, jv v639, s_, jv v640, s_, rv b641, iv 1, iv 0, iv 0, u_, u_, u_, u_, u_, u_, u_, u_, u_, u_, u_, u_]) rfl ?_
      refine key746 T1639 _ _ _ (1 : Int32) (0 : Int32) (0 : Int32) X1639 N1639' (Z1700) (by decide) (by decide) ?_
      have q1783 : 1 <= v7.toInt := kL_ge hp747 (by decide)
      have q1784 := kL_m hc774
      have q1786 : v768.toInt = v3.toInt := k_l2ix h773 B708 (by decide) (by decide)
      have B1785 : (1 : Int) <= v768.toInt /\ v768.toInt <= 8 := (by rw [q1786]; exact B708)
      have q1787 : 1 <= v11.toInt := kL_ge hp1415 (by decide)
      have q1789 : v1423.toInt = v638.toInt := (by rw [hr1637])
      have B1788 : (-2305843009213693952 : Int) <= v1423.toInt /\ v1423.toInt <= 2305843009213693951 := (by rw [q1789]; exact B738)
      have B1790 : (-2305843009213693952 : Int) <= v1423.toInt /\ v1423.toInt <= 0 := ⟨B1788.1, kL_le hc1427 (by decide)⟩
      have q1792 : v1424.toInt = v3.toInt - v7.toInt := k_lsubx h1426 B708 B722 (by decide) (by decide)
      have B1791 : (-7 : Int) <= v1424.toInt /\ v1424.toInt <= 7 := k_subB' q1792 B708 B722
      have q1793 := kL_p hc1428
      have q1795 : v1680.toInt = v640.toInt := (by rw [hr1782])
      have B1794 : (-4611686018427387904 : Int) <= v1680.toInt /\ v1680.toInt <= 4611686018427387902 := (by rw [q1795]; exact B741)
      have B1796 : (1 : Int) <= v1680.toInt /\ v1680.toInt <= 4611686018427387902 := ⟨kL_gt hc1682 (by decide), B1794.2⟩
      have q1797 := kL_p hc1683
      have B1798 : (0 : Int) <= (0 : Int64).toInt /\ (0 : Int64).toInt <= 0 := (by decide)
      have q1799 : ¬ v7.toInt = (0 : Int64).toInt := fun q => hc1684 (Int64.toInt_inj.mp q)
      refine ⟨?_, ?_, ?_⟩ <;> omega
     ·
      have hr1800 : v1701 = v640 := by rw [h1702, hv1638]; exact k_s1 _ _
      refine k_n1 ?_
      exact absurd hc1705 (k_dL_ne_nxlt hp747 (by decide))
     ·
      have hr1801 : v1722 = v640 := by rw [h1723, hv1638]; exact k_s1 _ _
      refine k_n1 ?_
      refine k_istore X1639 hx 137 (D at_135) (Ls' := #[iv i0, jv i1, s_, jv i2, s_, jv i3, s_, jv i4, s_, jv v3, s_, jv v7, s_, jv v11, s_, iv 2, jv v637, s_, jv v638, s_, jv v639, s_, jv v640, s_, rv b641, iv 1, iv 0, iv 1, u_, u_, u_, u_, u_, u_, u_, u_, u_, u_, u_, u_]) rfl ?_
      refine key746 T1639 _ _ _ (1 : Int32) (0 : Int32) (1 : Int32) X1639 N1639' (Z1742) (by decide) (by decide) ?_
      have q1802 : 1 <= v7.toInt := kL_ge hp747 (by decide)
      have q1803 := kL_m hc774
      have q1805 : v768.toInt = v3.toInt := k_l2ix h773 B708 (by decide) (by decide)
      have B1804 : (1 : Int) <= v768.toInt /\ v768.toInt <= 8 := (by rw [q1805]; exact B708)
      have B1806 : (1 : Int) <= v768.toInt /\ v768.toInt <= 1 := ⟨B1804.1, k_le hc1726 (by decide)⟩
      have q1807 : 1 <= v11.toInt := kL_ge hp1415 (by decide)
      have q1809 : v1423.toInt = v638.toInt := (by rw [hr1637])
      have B1808 : (-2305843009213693952 : Int) <= v1423.toInt /\ v1423.toInt <= 2305843009213693951 := (by rw [q1809]; exact B738)
      have B1810 : (-2305843009213693952 : Int) <= v1423.toInt /\ v1423.toInt <= 0 := ⟨B1808.1, kL_le hc1427 (by decide)⟩
      have q1812 : v1424.toInt = v3.toInt - v7.toInt := k_lsubx h1426 B708 B722 (by decide) (by decide)
      have B1811 : (-7 : Int) <= v1424.toInt /\ v1424.toInt <= 7 := k_subB' q1812 B708 B722
      have q1813 := kL_p hc1428
      have q1815 : v1722.toInt = v640.toInt := (by rw [hr1801])
      have B1814 : (-4611686018427387904 : Int) <= v1722.toInt /\ v1722.toInt <= 4611686018427387902 := (by rw [q1815]; exact B741)
      have B1816 : (1 : Int) <= v1722.toInt /\ v1722.toInt <= 4611686018427387902 := ⟨kL_gt hc1724 (by decide), B1814.2⟩
      have q1817 := kL_m hc1725
      refine ⟨?_, ?_, ?_⟩ <;> omega
     ·
      have hr1818 : v1743 = v640 := by rw [h1744, hv1638]; exact k_s1 _ _
      refine k_n1 ?_
      refine k_istore X1639 hx 137 (D at_135) (Ls' := #[iv i0, jv i1, s_, jv i2, s_, jv i3, s_, jv i4, s_, jv v3, s_, jv v7, s_, jv v11, s_, iv 2, jv v637, s_, jv v638, s_, jv v639, s_, jv v640, s_, rv b641, iv 1, iv 0, iv 1, u_, u_, u_, u_, u_, u_, u_, u_, u_, u_, u_, u_]) rfl ?_
      refine key746 T1639 _ _ _ (1 : Int32) (0 : Int32) (1 : Int32) X1639 N1639' (Z1763) (by decide) (by decide) ?_
      have q1819 : 1 <= v7.toInt := kL_ge hp747 (by decide)
      have q1820 := kL_m hc774
      have q1822 : v768.toInt = v3.toInt := k_l2ix h773 B708 (by decide) (by decide)
      have B1821 : (1 : Int) <= v768.toInt /\ v768.toInt <= 8 := (by rw [q1822]; exact B708)
      have B1823 : (2 : Int) <= v768.toInt /\ v768.toInt <= 8 := ⟨k_gt hc1747 (by decide), B1821.2⟩
      have q1824 : 1 <= v11.toInt := kL_ge hp1415 (by decide)
      have q1826 : v1423.toInt = v638.toInt := (by rw [hr1637])
      have B1825 : (-2305843009213693952 : Int) <= v1423.toInt /\ v1423.toInt <= 2305843009213693951 := (by rw [q1826]; exact B738)
      have B1827 : (-2305843009213693952 : Int) <= v1423.toInt /\ v1423.toInt <= 0 := ⟨B1825.1, kL_le hc1427 (by decide)⟩
      have q1829 : v1424.toInt = v3.toInt - v7.toInt := k_lsubx h1426 B708 B722 (by decide) (by decide)
      have B1828 : (-7 : Int) <= v1424.toInt /\ v1424.toInt <= 7 := k_subB' q1829 B708 B722
      have q1830 := kL_p hc1428
      have q1832 : v1743.toInt = v640.toInt := (by rw [hr1818])
      have B1831 : (-4611686018427387904 : Int) <= v1743.toInt /\ v1743.toInt <= 4611686018427387902 := (by rw [q1832]; exact B741)
      have B1833 : (1 : Int) <= v1743.toInt /\ v1743.toInt <= 4611686018427387902 := ⟨kL_gt hc1745 (by decide), B1831.2⟩
      have q1834 := kL_m hc1746
      refine ⟨?_, ?_, ?_⟩ <;> omega
    ·
     have hr1835 : v1445 = v638 := by rw [h1448, hv1414]; exact k_s1 _ _
     refine k_n1 ?_
     refine k_istore X1422 hx 126 (D at_124) (Ls' := #[iv i0, jv i1, s_, jv i2, s_, jv i3, s_, jv i4, s_, jv v3, s_, jv v7, s_, jv v11, s_, iv 2, jv v637, s_, jv v638, s_, jv v639, s_, jv v640, s_, rv b641, iv 1, iv 1, u_, u_, u_, u_, u_, u_, u_, u_, u_, u_, u_, u_, u_]) rfl ?_
     refine k_aload X1422 hx 128 (D at_126) rfl rfl ?_
     refine k_lloadN X1422 hx 129 (D at_128) rfl ?_
     refine k_lload X1422 hx 131 (D at_129) rfl ?_
     refine k_ladd X1422 hx 132 (D at_131) (fun v1836 hv1836 => ?_)
     refine k_callV X1422 hx hZ hown 135 (a := b641) (k_w hw 39 rfl) (k_w hw 40 rfl) (k_w hw 42 rfl) (k_w hw 41 rfl) (k_w hw 7 rfl) (k_w hw 43 rfl) (by decide) F1454 (rm6_24 l Z a0 hw [] b641 b684 b769 b771 v1836 v3 v637 i2 v1447 k770 k772 v768 T1422.heap n0 Z1469 ⟨F1454, F1455, F1456⟩ g_b641 ⟨F1457, F1458, F1459, F1460, F1461, F1462, F1463, F1464, F1465, F1466⟩ g_b684 F1467 g_b769 F1468 g_b771 lt704 (Nat.lt_trans (Nat.lt_trans lt705 lt706) lt794) lt795 hp644 hp655 hp666 hc775 hc776 h773) (by decide) (by decide) rfl (by rw [hml]; rfl) (argsL := [(.long v1836)]) (rest := []) (lenOf pd_5 rfl) rfl (W := 0) (Nat.le_refl _) rfl (D at_132) (by decide) (by decide) (fun T1837 L1837 r1837 X1837 q1837 => ?_)
     obtain ⟨N1837, q1837⟩ := q1837
     have N1837' := Fr.app N1422' N1837
     rcases q1837 with ⟨v1838, h1839, hc1840, hc1841, rfl, ⟨F1842, F1843, F1844⟩, ⟨F1845, F1846, F1847, F1848, F1849, F1850, F1851, F1852, F1853, F1854⟩, F1855, F1856, Z1857⟩ | ⟨v1858, h1859, hc1860, hc1861, rfl, ⟨F1862, F1863, F1864⟩, ⟨F1865, F1866, F1867, F1868, F1869, F1870, F1871, F1872, F1873, F1874⟩, F1875, F1876, Z1877⟩ | ⟨v1878, h1879, hc1880, hc1881, hc1882, rfl, ⟨F1883, F1884, F1885⟩, ⟨F1886, F1887, F1888, F1889, F1890, F1891, F1892, F1893, F1894, F1895⟩, F1896, F1897, Z1898⟩ | ⟨v1899, h1900, hc1901, hc1902, hc1903, rfl, ⟨F1904, F1905, F1906⟩, ⟨F1907, F1908, F1909, F1910, F1911, F1912, F1913, F1914, F1915, F1916⟩, F1917, F1918, Z1919⟩ | ⟨v1920, h1921, hc1922, hc1923, hc1924, rfl, ⟨F1925, F1926, F1927⟩, ⟨F1928, F1929, F1930, F1931, F1932, F1933, F1934, F1935, F1936, F1937⟩, F1938, F1939, Z1940⟩ | ⟨v1941, h1942, hc1943, hc1944, hc1945, rfl, ⟨F1946, F1947, F1948⟩, ⟨F1949, F1950, F1951, F1952, F1953, F1954, F1955, F1956, F1957, F1958⟩, F1959, F1960, Z1961⟩
     ·
      have hr1962 : v1838 = v640 := by rw [h1839, hv1836]; exact k_s1 _ _
      refine k_n1 ?_
      refine k_istore X1837 hx 137 (D at_135) (Ls' := #[iv i0, jv i1, s_, jv i2, s_, jv i3, s_, jv i4, s_, jv v3, s_, jv v7, s_, jv v11, s_, iv 2, jv v637, s_, jv v638, s_, jv v639, s_, jv v640, s_, rv b641, iv 1, iv 1, iv 0, u_, u_, u_, u_, u_, u_, u_, u_, u_, u_, u_, u_]) rfl ?_
      refine key746 T1837 _ _ _ (1 : Int32) (1 : Int32) (0 : Int32) X1837 N1837' (Z1857) (by decide) (by decide) ?_
      have q1963 : 1 <= v7.toInt := kL_ge hp747 (by decide)
      have q1964 := kL_m hc774
      have q1966 : v768.toInt = v3.toInt := k_l2ix h773 B708 (by decide) (by decide)
      have B1965 : (1 : Int) <= v768.toInt /\ v768.toInt <= 8 := (by rw [q1966]; exact B708)
      have B1967 : (2 : Int) <= v768.toInt /\ v768.toInt <= 8 := ⟨k_ge hc1453 (by decide), B1965.2⟩
      have q1968 : 1 <= v11.toInt := kL_ge hp1415 (by decide)
      have q1970 : v1445.toInt = v638.toInt := (by rw [hr1835])
      have B1969 : (-2305843009213693952 : Int) <= v1445.toInt /\ v1445.toInt <= 2305843009213693951 := (by rw [q1970]; exact B738)
      have B1971 : (-2305843009213693952 : Int) <= v1445.toInt /\ v1445.toInt <= 0 := ⟨B1969.1, kL_le hc1451 (by decide)⟩
      have q1973 : v1446.toInt = v3.toInt - v7.toInt := k_lsubx h1449 B708 B722 (by decide) (by decide)
      have B1972 : (-7 : Int) <= v1446.toInt /\ v1446.toInt <= 7 := k_subB' q1973 B708 B722
      have q1974 := kL_m hc1452
      have q1976 : v1838.toInt = v640.toInt := (by rw [hr1962])
      have B1975 : (-4611686018427387904 : Int) <= v1838.toInt /\ v1838.toInt <= 4611686018427387902 := (by rw [q1976]; exact B741)
      have B1977 : (-4611686018427387904 : Int) <= v1838.toInt /\ v1838.toInt <= 0 := ⟨B1975.1, kL_le hc1840 (by decide)⟩
      have q1979 : v1447.toInt = v7.toInt + v11.toInt := k_laddx h1450 B722 B730 (by decide) (by decide)
      have B1978 : (2 : Int) <= v1447.toInt /\ v1447.toInt <= 16 := k_addB q1979 B722 B730
      have B1980 : (0 : Int) <= (0 : Int64).toInt /\ (0 : Int64).toInt <= 0 := (by decide)
      have q1981 : ¬ v1447.toInt = (0 : Int64).toInt := fun q => hc1841 (Int64.toInt_inj.mp q)
      refine ⟨?_, ?_, ?_⟩ <;> omega
     ·
      have hr1982 : v1858 = v640 := by rw [h1859, hv1836]; exact k_s1 _ _
      refine k_n1 ?_
      exfalso
      have q1983 : 1 <= v7.toInt := kL_ge hp747 (by decide)
      have q1984 : 1 <= v11.toInt := kL_ge hp1415 (by decide)
      have q1986 : v1447.toInt = v7.toInt + v11.toInt := k_laddx h1450 B722 B730 (by decide) (by decide)
      have B1985 : (2 : Int) <= v1447.toInt /\ v1447.toInt <= 16 := k_addB q1986 B722 B730
      have B1987 : (0 : Int) <= (0 : Int64).toInt /\ (0 : Int64).toInt <= 0 := (by decide)
      have q1988 := congrArg Int64.toInt hc1861
      omega
     ·
      have hr1989 : v1878 = v640 := by rw [h1879, hv1836]; exact k_s1 _ _
      refine k_n1 ?_
      refine k_istore X1837 hx 137 (D at_135) (Ls' := #[iv i0, jv i1, s_, jv i2, s_, jv i3, s_, jv i4, s_, jv v3, s_, jv v7, s_, jv v11, s_, iv 2, jv v637, s_, jv v638, s_, jv v639, s_, jv v640, s_, rv b641, iv 1, iv 1, iv 0, u_, u_, u_, u_, u_, u_, u_, u_, u_, u_, u_, u_]) rfl ?_
      refine key746 T1837 _ _ _ (1 : Int32) (1 : Int32) (0 : Int32) X1837 N1837' (Z1898) (by decide) (by decide) ?_
      have q1990 : 1 <= v7.toInt := kL_ge hp747 (by decide)
      have q1991 := kL_m hc774
      have q1993 : v768.toInt = v3.toInt := k_l2ix h773 B708 (by decide) (by decide)
      have B1992 : (1 : Int) <= v768.toInt /\ v768.toInt <= 8 := (by rw [q1993]; exact B708)
      have B1994 : (2 : Int) <= v768.toInt /\ v768.toInt <= 8 := ⟨k_ge hc1453 (by decide), B1992.2⟩
      have q1995 : 1 <= v11.toInt := kL_ge hp1415 (by decide)
      have q1997 : v1445.toInt = v638.toInt := (by rw [hr1835])
      have B1996 : (-2305843009213693952 : Int) <= v1445.toInt /\ v1445.toInt <= 2305843009213693951 := (by rw [q1997]; exact B738)
      have B1998 : (-2305843009213693952 : Int) <= v1445.toInt /\ v1445.toInt <= 0 := ⟨B1996.1, kL_le hc1451 (by decide)⟩
      have q2000 : v1446.toInt = v3.toInt - v7.toInt := k_lsubx h1449 B708 B722 (by decide) (by decide)
      have B1999 : (-7 : Int) <= v1446.toInt /\ v1446.toInt <= 7 := k_subB' q2000 B708 B722
      have q2001 := kL_m hc1452
      have q2003 : v1878.toInt = v640.toInt := (by rw [hr1989])
      have B2002 : (-4611686018427387904 : Int) <= v1878.toInt /\ v1878.toInt <= 4611686018427387902 := (by rw [q2003]; exact B741)
      have B2004 : (1 : Int) <= v1878.toInt /\ v1878.toInt <= 4611686018427387902 := ⟨kL_gt hc1880 (by decide), B2002.2⟩
      have q2005 := kL_p hc1881
      have q2007 : v1447.toInt = v7.toInt + v11.toInt := k_laddx h1450 B722 B730 (by decide) (by decide)
      have B2006 : (2 : Int) <= v1447.toInt /\ v1447.toInt <= 16 := k_addB q2007 B722 B730
      have B2008 : (0 : Int) <= (0 : Int64).toInt /\ (0 : Int64).toInt <= 0 := (by decide)
      have q2009 : ¬ v1447.toInt = (0 : Int64).toInt := fun q => hc1882 (Int64.toInt_inj.mp q)
      refine ⟨?_, ?_, ?_⟩ <;> omega
     ·
      have hr2010 : v1899 = v640 := by rw [h1900, hv1836]; exact k_s1 _ _
      refine k_n1 ?_
      exfalso
      have q2011 : 1 <= v7.toInt := kL_ge hp747 (by decide)
      have q2012 : 1 <= v11.toInt := kL_ge hp1415 (by decide)
      have q2014 : v1447.toInt = v7.toInt + v11.toInt := k_laddx h1450 B722 B730 (by decide) (by decide)
      have B2013 : (2 : Int) <= v1447.toInt /\ v1447.toInt <= 16 := k_addB q2014 B722 B730
      have B2015 : (0 : Int) <= (0 : Int64).toInt /\ (0 : Int64).toInt <= 0 := (by decide)
      have q2016 := congrArg Int64.toInt hc1903
      omega
     ·
      have hr2017 : v1920 = v640 := by rw [h1921, hv1836]; exact k_s1 _ _
      refine k_n1 ?_
      exact absurd (k_d_alt_nxlt hc1453 (by decide)) hc1924
     ·
      have hr2018 : v1941 = v640 := by rw [h1942, hv1836]; exact k_s1 _ _
      refine k_n1 ?_
      refine k_istore X1837 hx 137 (D at_135) (Ls' := #[iv i0, jv i1, s_, jv i2, s_, jv i3, s_, jv i4, s_, jv v3, s_, jv v7, s_, jv v11, s_, iv 2, jv v637, s_, jv v638, s_, jv v639, s_, jv v640, s_, rv b641, iv 1, iv 1, iv 1, u_, u_, u_, u_, u_, u_, u_, u_, u_, u_, u_, u_]) rfl ?_
      refine key746 T1837 _ _ _ (1 : Int32) (1 : Int32) (1 : Int32) X1837 N1837' (Z1961) (by decide) (by decide) ?_
      have q2019 : 1 <= v7.toInt := kL_ge hp747 (by decide)
      have q2020 := kL_m hc774
      have q2022 : v768.toInt = v3.toInt := k_l2ix h773 B708 (by decide) (by decide)
      have B2021 : (1 : Int) <= v768.toInt /\ v768.toInt <= 8 := (by rw [q2022]; exact B708)
      have B2023 : (2 : Int) <= v768.toInt /\ v768.toInt <= 8 := ⟨k_ge hc1453 (by decide), B2021.2⟩
      have q2024 : 1 <= v11.toInt := kL_ge hp1415 (by decide)
      have q2026 : v1445.toInt = v638.toInt := (by rw [hr1835])
      have B2025 : (-2305843009213693952 : Int) <= v1445.toInt /\ v1445.toInt <= 2305843009213693951 := (by rw [q2026]; exact B738)
      have B2027 : (-2305843009213693952 : Int) <= v1445.toInt /\ v1445.toInt <= 0 := ⟨B2025.1, kL_le hc1451 (by decide)⟩
      have q2029 : v1446.toInt = v3.toInt - v7.toInt := k_lsubx h1449 B708 B722 (by decide) (by decide)
      have B2028 : (-7 : Int) <= v1446.toInt /\ v1446.toInt <= 7 := k_subB' q2029 B708 B722
      have q2030 := kL_m hc1452
      have q2032 : v1941.toInt = v640.toInt := (by rw [hr2018])
      have B2031 : (-4611686018427387904 : Int) <= v1941.toInt /\ v1941.toInt <= 4611686018427387902 := (by rw [q2032]; exact B741)
      have B2033 : (1 : Int) <= v1941.toInt /\ v1941.toInt <= 4611686018427387902 := ⟨kL_gt hc1943 (by decide), B2031.2⟩
      have q2034 := kL_m hc1944
      refine ⟨?_, ?_, ?_⟩ <;> omega
    ·
     have hr2035 : v1470 = v638 := by rw [h1472, hv1414]; exact k_s1 _ _
     refine k_n1 ?_
     refine k_istore X1422 hx 126 (D at_124) (Ls' := #[iv i0, jv i1, s_, jv i2, s_, jv i3, s_, jv i4, s_, jv v3, s_, jv v7, s_, jv v11, s_, iv 2, jv v637, s_, jv v638, s_, jv v639, s_, jv v640, s_, rv b641, iv 1, iv 0, u_, u_, u_, u_, u_, u_, u_, u_, u_, u_, u_, u_, u_]) rfl ?_
     refine k_aload X1422 hx 128 (D at_126) rfl rfl ?_
     refine k_lloadN X1422 hx 129 (D at_128) rfl ?_
     refine k_lload X1422 hx 131 (D at_129) rfl ?_
     refine k_ladd X1422 hx 132 (D at_131) (fun v2036 hv2036 => ?_)
     refine k_callV X1422 hx hZ hown 135 (a := b641) (k_w hw 39 rfl) (k_w hw 40 rfl) (k_w hw 42 rfl) (k_w hw 41 rfl) (k_w hw 7 rfl) (k_w hw 43 rfl) (by decide) F1477 (rm6_55 l Z a0 hw [] b641 b684 b769 b771 v2036 v3 v637 v1414 v7 i2 k770 k772 v768 T1422.heap n0 Z1492 ⟨F1477, F1478, F1479⟩ g_b641 ⟨F1480, F1481, F1482, F1483, F1484, F1485, F1486, F1487, F1488, F1489⟩ g_b684 F1490 g_b769 F1491 g_b771 lt704 (Nat.lt_trans (Nat.lt_trans lt705 lt706) lt794) lt795 hp644 hp655 hp666 hc775 hc776 h773) (by decide) (by decide) rfl (by rw [hml]; rfl) (argsL := [(.long v2036)]) (rest := []) (lenOf pd_5 rfl) rfl (W := 0) (Nat.le_refl _) rfl (D at_132) (by decide) (by decide) (fun T2037 L2037 r2037 X2037 q2037 => ?_)
     obtain ⟨N2037, q2037⟩ := q2037
     have N2037' := Fr.app N1422' N2037
     rcases q2037 with ⟨v2038, v2039, h2040, h2041, hc2042, hc2043, hc2044, rfl, ⟨F2045, F2046, F2047⟩, ⟨F2048, F2049, F2050, F2051, F2052, F2053, F2054, F2055, F2056, F2057⟩, F2058, F2059, Z2060⟩ | ⟨v2061, v2062, h2063, h2064, hc2065, hc2066, hc2067, rfl, ⟨F2068, F2069, F2070⟩, ⟨F2071, F2072, F2073, F2074, F2075, F2076, F2077, F2078, F2079, F2080⟩, F2081, F2082, Z2083⟩ | ⟨v2084, v2085, h2086, h2087, hc2088, hc2089, hc2090, rfl, ⟨F2091, F2092, F2093⟩, ⟨F2094, F2095, F2096, F2097, F2098, F2099, F2100, F2101, F2102, F2103⟩, F2104, F2105, Z2106⟩ | ⟨v2107, v2108, h2109, h2110, hc2111, hc2112, hc2113, rfl, ⟨F2114, F2115, F2116⟩, ⟨F2117, F2118, F2119, F2120, F2121, F2122, F2123, F2124, F2125, F2126⟩, F2127, F2128, Z2129⟩ | ⟨v2130, v2131, h2132, h2133, hc2134, hc2135, hc2136, rfl, ⟨F2137, F2138, F2139⟩, ⟨F2140, F2141, F2142, F2143, F2144, F2145, F2146, F2147, F2148, F2149⟩, F2150, F2151, Z2152⟩ | ⟨v2153, v2154, h2155, h2156, hc2157, hc2158, hc2159, rfl, ⟨F2160, F2161, F2162⟩, ⟨F2163, F2164, F2165, F2166, F2167, F2168, F2169, F2170, F2171, F2172⟩, F2173, F2174, Z2175⟩ | ⟨v2176, v2177, h2178, h2179, hc2180, hc2181, hc2182, rfl, ⟨F2183, F2184, F2185⟩, ⟨F2186, F2187, F2188, F2189, F2190, F2191, F2192, F2193, F2194, F2195⟩, F2196, F2197, Z2198⟩ | ⟨v2199, v2200, h2201, h2202, hc2203, hc2204, hc2205, rfl, ⟨F2206, F2207, F2208⟩, ⟨F2209, F2210, F2211, F2212, F2213, F2214, F2215, F2216, F2217, F2218⟩, F2219, F2220, Z2221⟩
     ·
      have hr2222 : v2038 = v640 - v638 := by rw [h2040, hv2036, hv1414]; exact k_s2 _ _ _
      have hr2223 : v2039 = v638 := by rw [h2041, hv1414]; exact k_s1 _ _
      refine k_n1 ?_
      refine k_istore X2037 hx 137 (D at_135) (Ls' := #[iv i0, jv i1, s_, jv i2, s_, jv i3, s_, jv i4, s_, jv v3, s_, jv v7, s_, jv v11, s_, iv 2, jv v637, s_, jv v638, s_, jv v639, s_, jv v640, s_, rv b641, iv 1, iv 0, iv 0, u_, u_, u_, u_, u_, u_, u_, u_, u_, u_, u_, u_]) rfl ?_
      refine key746 T2037 _ _ _ (1 : Int32) (0 : Int32) (0 : Int32) X2037 N2037' (Z2060) (by decide) (by decide) ?_
      have q2224 : 1 <= v7.toInt := kL_ge hp747 (by decide)
      have q2225 := kL_m hc774
      have q2227 : v768.toInt = v3.toInt := k_l2ix h773 B708 (by decide) (by decide)
      have B2226 : (1 : Int) <= v768.toInt /\ v768.toInt <= 8 := (by rw [q2227]; exact B708)
      have q2228 : 1 <= v11.toInt := kL_ge hp1415 (by decide)
      have q2230 : v1470.toInt = v638.toInt := (by rw [hr2035])
      have B2229 : (-2305843009213693952 : Int) <= v1470.toInt /\ v1470.toInt <= 2305843009213693951 := (by rw [q2230]; exact B738)
      have B2231 : (1 : Int) <= v1470.toInt /\ v1470.toInt <= 2305843009213693951 := ⟨kL_gt hc1474 (by decide), B2229.2⟩
      have q2232 := kL_p hc1475
      have q2234 : v1471.toInt = v3.toInt - v7.toInt := k_lsubx h1473 B708 B722 (by decide) (by decide)
      have B2233 : (-7 : Int) <= v1471.toInt /\ v1471.toInt <= 7 := k_subB' q2234 B708 B722
      have q2235 := kL_p hc1476
      have q2237 : v2038.toInt = v640.toInt - v638.toInt := k_lsubx hr2222 B741 B738 (by decide) (by decide)
      have B2236 : (-6917529027641081855 : Int) <= v2038.toInt /\ v2038.toInt <= 6917529027641081854 := k_subB' q2237 B741 B738
      have B2238 : (-6917529027641081855 : Int) <= v2038.toInt /\ v2038.toInt <= 0 := ⟨B2236.1, kL_le hc2042 (by decide)⟩
      have q2240 : v2039.toInt = v638.toInt := (by rw [hr2223])
      have B2239 : (-2305843009213693952 : Int) <= v2039.toInt /\ v2039.toInt <= 2305843009213693951 := (by rw [q2240]; exact B738)
      have q2241 := kL_p hc2043
      have B2242 : (0 : Int) <= (0 : Int64).toInt /\ (0 : Int64).toInt <= 0 := (by decide)
      have q2243 : ¬ v7.toInt = (0 : Int64).toInt := fun q => hc2044 (Int64.toInt_inj.mp q)
      refine ⟨?_, ?_, ?_⟩ <;> omega
     ·
      have hr2244 : v2061 = v640 - v638 := by rw [h2063, hv2036, hv1414]; exact k_s2 _ _ _
      have hr2245 : v2062 = v638 := by rw [h2064, hv1414]; exact k_s1 _ _
      refine k_n1 ?_
      exact absurd hc2067 (k_dL_ne_nxlt hp747 (by decide))
     ·
      have hr2246 : v2084 = v640 - v638 := by rw [h2086, hv2036, hv1414]; exact k_s2 _ _ _
      have hr2247 : v2085 = v638 := by rw [h2087, hv1414]; exact k_s1 _ _
      refine k_n1 ?_
      exfalso
      have q2249 : v1470.toInt = v638.toInt := (by rw [hr2035])
      have B2248 : (-2305843009213693952 : Int) <= v1470.toInt /\ v1470.toInt <= 2305843009213693951 := (by rw [q2249]; exact B738)
      have B2250 : (1 : Int) <= v1470.toInt /\ v1470.toInt <= 2305843009213693951 := ⟨kL_gt hc1474 (by decide), B2248.2⟩
      have q2251 := kL_p hc1475
      have q2253 : v2085.toInt = v638.toInt := (by rw [hr2247])
      have B2252 : (-2305843009213693952 : Int) <= v2085.toInt /\ v2085.toInt <= 2305843009213693951 := (by rw [q2253]; exact B738)
      have q2254 := kL_m hc2089
      omega
     ·
      have hr2255 : v2107 = v640 - v638 := by rw [h2109, hv2036, hv1414]; exact k_s2 _ _ _
      have hr2256 : v2108 = v638 := by rw [h2110, hv1414]; exact k_s1 _ _
      refine k_n1 ?_
      exfalso
      have q2258 : v1470.toInt = v638.toInt := (by rw [hr2035])
      have B2257 : (-2305843009213693952 : Int) <= v1470.toInt /\ v1470.toInt <= 2305843009213693951 := (by rw [q2258]; exact B738)
      have B2259 : (1 : Int) <= v1470.toInt /\ v1470.toInt <= 2305843009213693951 := ⟨kL_gt hc1474 (by decide), B2257.2⟩
      have q2260 := kL_p hc1475
      have q2262 : v2108.toInt = v638.toInt := (by rw [hr2256])
      have B2261 : (-2305843009213693952 : Int) <= v2108.toInt /\ v2108.toInt <= 2305843009213693951 := (by rw [q2262]; exact B738)
      have q2263 := kL_m hc2112
      omega
     ·
      have hr2264 : v2130 = v640 - v638 := by rw [h2132, hv2036, hv1414]; exact k_s2 _ _ _
      have hr2265 : v2131 = v640 := by rw [h2133, hv2036]; exact k_s1 _ _
      refine k_n1 ?_
      refine k_istore X2037 hx 137 (D at_135) (Ls' := #[iv i0, jv i1, s_, jv i2, s_, jv i3, s_, jv i4, s_, jv v3, s_, jv v7, s_, jv v11, s_, iv 2, jv v637, s_, jv v638, s_, jv v639, s_, jv v640, s_, rv b641, iv 1, iv 0, iv 0, u_, u_, u_, u_, u_, u_, u_, u_, u_, u_, u_, u_]) rfl ?_
      refine key746 T2037 _ _ _ (1 : Int32) (0 : Int32) (0 : Int32) X2037 N2037' (Z2152) (by decide) (by decide) ?_
      have q2266 : 1 <= v7.toInt := kL_ge hp747 (by decide)
      have q2267 := kL_m hc774
      have q2269 : v768.toInt = v3.toInt := k_l2ix h773 B708 (by decide) (by decide)
      have B2268 : (1 : Int) <= v768.toInt /\ v768.toInt <= 8 := (by rw [q2269]; exact B708)
      have q2270 : 1 <= v11.toInt := kL_ge hp1415 (by decide)
      have q2272 : v1470.toInt = v638.toInt := (by rw [hr2035])
      have B2271 : (-2305843009213693952 : Int) <= v1470.toInt /\ v1470.toInt <= 2305843009213693951 := (by rw [q2272]; exact B738)
      have B2273 : (1 : Int) <= v1470.toInt /\ v1470.toInt <= 2305843009213693951 := ⟨kL_gt hc1474 (by decide), B2271.2⟩
      have q2274 := kL_p hc1475
      have q2276 : v1471.toInt = v3.toInt - v7.toInt := k_lsubx h1473 B708 B722 (by decide) (by decide)
      have B2275 : (-7 : Int) <= v1471.toInt /\ v1471.toInt <= 7 := k_subB' q2276 B708 B722
      have q2277 := kL_p hc1476
      have q2279 : v2130.toInt = v640.toInt - v638.toInt := k_lsubx hr2264 B741 B738 (by decide) (by decide)
      have B2278 : (-6917529027641081855 : Int) <= v2130.toInt /\ v2130.toInt <= 6917529027641081854 := k_subB' q2279 B741 B738
      have B2280 : (1 : Int) <= v2130.toInt /\ v2130.toInt <= 6917529027641081854 := ⟨kL_gt hc2134 (by decide), B2278.2⟩
      have q2282 : v2131.toInt = v640.toInt := (by rw [hr2265])
      have B2281 : (-4611686018427387904 : Int) <= v2131.toInt /\ v2131.toInt <= 4611686018427387902 := (by rw [q2282]; exact B741)
      have q2283 := kL_p hc2135
      have B2284 : (0 : Int) <= (0 : Int64).toInt /\ (0 : Int64).toInt <= 0 := (by decide)
      have q2285 : ¬ v7.toInt = (0 : Int64).toInt := fun q => hc2136 (Int64.toInt_inj.mp q)
      refine ⟨?_, ?_, ?_⟩ <;> omega
     ·
      have hr2286 : v2153 = v640 - v638 := by rw [h2155, hv2036, hv1414]; exact k_s2 _ _ _
      have hr2287 : v2154 = v640 := by rw [h2156, hv2036]; exact k_s1 _ _
      refine k_n1 ?_
      exact absurd hc2159 (k_dL_ne_nxlt hp747 (by decide))
     ·
      have hr2288 : v2176 = v640 - v638 := by rw [h2178, hv2036, hv1414]; exact k_s2 _ _ _
      have hr2289 : v2177 = v640 := by rw [h2179, hv2036]; exact k_s1 _ _
      refine k_n1 ?_
      refine k_istore X2037 hx 137 (D at_135) (Ls' := #[iv i0, jv i1, s_, jv i2, s_, jv i3, s_, jv i4, s_, jv v3, s_, jv v7, s_, jv v11, s_, iv 2, jv v637, s_, jv v638, s_, jv v639, s_, jv v640, s_, rv b641, iv 1, iv 0, iv 1, u_, u_, u_, u_, u_, u_, u_, u_, u_, u_, u_, u_]) rfl ?_
      refine key746 T2037 _ _ _ (1 : Int32) (0 : Int32) (1 : Int32) X2037 N2037' (Z2198) (by decide) (by decide) ?_
      have q2290 : 1 <= v7.toInt := kL_ge hp747 (by decide)
      have q2291 := kL_m hc774
      have q2293 : v768.toInt = v3.toInt := k_l2ix h773 B708 (by decide) (by decide)
      have B2292 : (1 : Int) <= v768.toInt /\ v768.toInt <= 8 := (by rw [q2293]; exact B708)
      have B2294 : (1 : Int) <= v768.toInt /\ v768.toInt <= 1 := ⟨B2292.1, k_le hc2182 (by decide)⟩
      have q2295 : 1 <= v11.toInt := kL_ge hp1415 (by decide)
      have q2297 : v1470.toInt = v638.toInt := (by rw [hr2035])
      have B2296 : (-2305843009213693952 : Int) <= v1470.toInt /\ v1470.toInt <= 2305843009213693951 := (by rw [q2297]; exact B738)
      have B2298 : (1 : Int) <= v1470.toInt /\ v1470.toInt <= 2305843009213693951 := ⟨kL_gt hc1474 (by decide), B2296.2⟩
      have q2299 := kL_p hc1475
      have q2301 : v1471.toInt = v3.toInt - v7.toInt := k_lsubx h1473 B708 B722 (by decide) (by decide)
      have B2300 : (-7 : Int) <= v1471.toInt /\ v1471.toInt <= 7 := k_subB' q2301 B708 B722
      have q2302 := kL_p hc1476
      have q2304 : v2176.toInt = v640.toInt - v638.toInt := k_lsubx hr2288 B741 B738 (by decide) (by decide)
      have B2303 : (-6917529027641081855 : Int) <= v2176.toInt /\ v2176.toInt <= 6917529027641081854 := k_subB' q2304 B741 B738
      have B2305 : (1 : Int) <= v2176.toInt /\ v2176.toInt <= 6917529027641081854 := ⟨kL_gt hc2180 (by decide), B2303.2⟩
      have q2307 : v2177.toInt = v640.toInt := (by rw [hr2289])
      have B2306 : (-4611686018427387904 : Int) <= v2177.toInt /\ v2177.toInt <= 4611686018427387902 := (by rw [q2307]; exact B741)
      have q2308 := kL_m hc2181
      refine ⟨?_, ?_, ?_⟩ <;> omega
     ·
      have hr2309 : v2199 = v640 - v638 := by rw [h2201, hv2036, hv1414]; exact k_s2 _ _ _
      have hr2310 : v2200 = v640 := by rw [h2202, hv2036]; exact k_s1 _ _
      refine k_n1 ?_
      refine k_istore X2037 hx 137 (D at_135) (Ls' := #[iv i0, jv i1, s_, jv i2, s_, jv i3, s_, jv i4, s_, jv v3, s_, jv v7, s_, jv v11, s_, iv 2, jv v637, s_, jv v638, s_, jv v639, s_, jv v640, s_, rv b641, iv 1, iv 0, iv 1, u_, u_, u_, u_, u_, u_, u_, u_, u_, u_, u_, u_]) rfl ?_
      refine key746 T2037 _ _ _ (1 : Int32) (0 : Int32) (1 : Int32) X2037 N2037' (Z2221) (by decide) (by decide) ?_
      have q2311 : 1 <= v7.toInt := kL_ge hp747 (by decide)
      have q2312 := kL_m hc774
      have q2314 : v768.toInt = v3.toInt := k_l2ix h773 B708 (by decide) (by decide)
      have B2313 : (1 : Int) <= v768.toInt /\ v768.toInt <= 8 := (by rw [q2314]; exact B708)
      have B2315 : (2 : Int) <= v768.toInt /\ v768.toInt <= 8 := ⟨k_gt hc2205 (by decide), B2313.2⟩
      have q2316 : 1 <= v11.toInt := kL_ge hp1415 (by decide)
      have q2318 : v1470.toInt = v638.toInt := (by rw [hr2035])
      have B2317 : (-2305843009213693952 : Int) <= v1470.toInt /\ v1470.toInt <= 2305843009213693951 := (by rw [q2318]; exact B738)
      have B2319 : (1 : Int) <= v1470.toInt /\ v1470.toInt <= 2305843009213693951 := ⟨kL_gt hc1474 (by decide), B2317.2⟩
      have q2320 := kL_p hc1475
      have q2322 : v1471.toInt = v3.toInt - v7.toInt := k_lsubx h1473 B708 B722 (by decide) (by decide)
      have B2321 : (-7 : Int) <= v1471.toInt /\ v1471.toInt <= 7 := k_subB' q2322 B708 B722
      have q2323 := kL_p hc1476
      have q2325 : v2199.toInt = v640.toInt - v638.toInt := k_lsubx hr2309 B741 B738 (by decide) (by decide)
      have B2324 : (-6917529027641081855 : Int) <= v2199.toInt /\ v2199.toInt <= 6917529027641081854 := k_subB' q2325 B741 B738
      have B2326 : (1 : Int) <= v2199.toInt /\ v2199.toInt <= 6917529027641081854 := ⟨kL_gt hc2203 (by decide), B2324.2⟩
      have q2328 : v2200.toInt = v640.toInt := (by rw [hr2310])
      have B2327 : (-4611686018427387904 : Int) <= v2200.toInt /\ v2200.toInt <= 4611686018427387902 := (by rw [q2328]; exact B741)
      have q2329 := kL_m hc2204
      refine ⟨?_, ?_, ?_⟩ <;> omega
    ·
     have hr2330 : v1493 = v638 := by rw [h1496, hv1414]; exact k_s1 _ _
     refine k_n1 ?_
     refine k_istore X1422 hx 126 (D at_124) (Ls' := #[iv i0, jv i1, s_, jv i2, s_, jv i3, s_, jv i4, s_, jv v3, s_, jv v7, s_, jv v11, s_, iv 2, jv v637, s_, jv v638, s_, jv v639, s_, jv v640, s_, rv b641, iv 1, iv 1, u_, u_, u_, u_, u_, u_, u_, u_, u_, u_, u_, u_, u_]) rfl ?_
     refine k_aload X1422 hx 128 (D at_126) rfl rfl ?_
     refine k_lloadN X1422 hx 129 (D at_128) rfl ?_
     refine k_lload X1422 hx 131 (D at_129) rfl ?_
     refine k_ladd X1422 hx 132 (D at_131) (fun v2331 hv2331 => ?_)
     refine k_callV X1422 hx hZ hown 135 (a := b641) (k_w hw 39 rfl) (k_w hw 40 rfl) (k_w hw 42 rfl) (k_w hw 41 rfl) (k_w hw 7 rfl) (k_w hw 43 rfl) (by decide) F1505 (rm6_59 l Z a0 hw [] b641 b684 b769 b771 v2331 v3 v637 v1414 v1495 i2 v7 v11 k770 k772 v768 T1422.heap n0 Z1520 ⟨F1505, F1506, F1507⟩ g_b641 ⟨F1508, F1509, F1510, F1511, F1512, F1513, F1514, F1515, F1516, F1517⟩ g_b684 F1518 g_b769 F1519 g_b771 lt704 (Nat.lt_trans (Nat.lt_trans lt705 lt706) lt794) lt795 hp644 hp655 hp666 hc1502 hc776 h773) (by decide) (by decide) rfl (by rw [hml]; rfl) (argsL := [(.long v2331)]) (rest := []) (lenOf pd_5 rfl) rfl (W := 0) (Nat.le_refl _) rfl (D at_132) (by decide) (by decide) (fun T2332 L2332 r2332 X2332 q2332 => ?_)
     obtain ⟨N2332, q2332⟩ := q2332
     have N2332' := Fr.app N1422' N2332
     rcases q2332 with ⟨v2333, v2334, h2335, h2336, hc2337, hc2338, hc2339, rfl, ⟨F2340, F2341, F2342⟩, ⟨F2343, F2344, F2345, F2346, F2347, F2348, F2349, F2350, F2351, F2352⟩, F2353, F2354, Z2355⟩ | ⟨v2356, v2357, h2358, h2359, hc2360, hc2361, hc2362, rfl, ⟨F2363, F2364, F2365⟩, ⟨F2366, F2367, F2368, F2369, F2370, F2371, F2372, F2373, F2374, F2375⟩, F2376, F2377, Z2378⟩ | ⟨v2379, v2380, v2381, h2382, h2383, h2384, hc2385, hc2386, hc2387, rfl, ⟨F2388, F2389, F2390⟩, ⟨F2391, F2392, F2393, F2394, F2395, F2396, F2397, F2398, F2399, F2400⟩, F2401, F2402, Z2403⟩ | ⟨v2404, v2405, v2406, h2407, h2408, h2409, hc2410, hc2411, hc2412, rfl, ⟨F2413, F2414, F2415⟩, ⟨F2416, F2417, F2418, F2419, F2420, F2421, F2422, F2423, F2424, F2425⟩, F2426, F2427, Z2428⟩ | ⟨v2429, v2430, h2431, h2432, hc2433, hc2434, hc2435, rfl, ⟨F2436, F2437, F2438⟩, ⟨F2439, F2440, F2441, F2442, F2443, F2444, F2445, F2446, F2447, F2448⟩, F2449, F2450, Z2451⟩ | ⟨v2452, v2453, h2454, h2455, hc2456, hc2457, hc2458, rfl, ⟨F2459, F2460, F2461⟩, ⟨F2462, F2463, F2464, F2465, F2466, F2467, F2468, F2469, F2470, F2471⟩, F2472, F2473, Z2474⟩ | ⟨v2475, v2476, v2477, h2478, h2479, h2480, hc2481, hc2482, hc2483, hc2484, rfl, ⟨F2485, F2486, F2487⟩, ⟨F2488, F2489, F2490, F2491, F2492, F2493, F2494, F2495, F2496, F2497⟩, F2498, F2499, Z2500⟩ | ⟨v2501, v2502, v2503, h2504, h2505, h2506, hc2507, hc2508, hc2509, hc2510, rfl, ⟨F2511, F2512, F2513⟩, ⟨F2514, F2515, F2516, F2517, F2518, F2519, F2520, F2521, F2522, F2523⟩, F2524, F2525, Z2526⟩ | ⟨v2527, v2528, v2529, v2530, h2531, h2532, h2533, h2534, hc2535, hc2536, hc2537, hc2538, hc2539, rfl, ⟨F2540, F2541, F2542⟩, ⟨F2543, F2544, F2545, F2546, F2547, F2548, F2549, F2550, F2551, F2552⟩, F2553, F2554, Z2555⟩ | ⟨v2556, v2557, v2558, v2559, h2560, h2561, h2562, h2563, hc2564, hc2565, hc2566, hc2567, hc2568, rfl, ⟨F2569, F2570, F2571⟩, ⟨F2572, F2573, F2574, F2575, F2576, F2577, F2578, F2579, F2580, F2581⟩, F2582, F2583, Z2584⟩ | ⟨v2585, v2586, v2587, v2588, h2589, h2590, h2591, h2592, hc2593, hc2594, hc2595, hc2596, hc2597, rfl, ⟨F2598, F2599, F2600⟩, ⟨F2601, F2602, F2603, F2604, F2605, F2606, F2607, F2608, F2609, F2610⟩, F2611, F2612, Z2613⟩ | ⟨v2614, v2615, v2616, v2617, h2618, h2619, h2620, h2621, hc2622, hc2623, hc2624, hc2625, hc2626, rfl, ⟨F2627, F2628, F2629⟩, ⟨F2630, F2631, F2632, F2633, F2634, F2635, F2636, F2637, F2638, F2639⟩, F2640, F2641, Z2642⟩
     ·
      have hr2643 : v2333 = v640 - v638 := by rw [h2335, hv2331, hv1414]; exact k_s2 _ _ _
      have hr2644 : v2334 = v638 := by rw [h2336, hv1414]; exact k_s1 _ _
      refine k_n1 ?_
      refine k_istore X2332 hx 137 (D at_135) (Ls' := #[iv i0, jv i1, s_, jv i2, s_, jv i3, s_, jv i4, s_, jv v3, s_, jv v7, s_, jv v11, s_, iv 2, jv v637, s_, jv v638, s_, jv v639, s_, jv v640, s_, rv b641, iv 1, iv 1, iv 0, u_, u_, u_, u_, u_, u_, u_, u_, u_, u_, u_, u_]) rfl ?_
      refine key746 T2332 _ _ _ (1 : Int32) (1 : Int32) (0 : Int32) X2332 N2332' (Z2355) (by decide) (by decide) ?_
      have q2645 : 1 <= v7.toInt := kL_ge hp747 (by decide)
      have q2646 := kL_m hc774
      have q2648 : v768.toInt = v3.toInt := k_l2ix h773 B708 (by decide) (by decide)
      have B2647 : (1 : Int) <= v768.toInt /\ v768.toInt <= 8 := (by rw [q2648]; exact B708)
      have B2649 : (2 : Int) <= v768.toInt /\ v768.toInt <= 8 := ⟨k_ge hc1502 (by decide), B2647.2⟩
      have q2650 : 1 <= v11.toInt := kL_ge hp1415 (by decide)
      have q2652 : v1493.toInt = v638.toInt := (by rw [hr2330])
      have B2651 : (-2305843009213693952 : Int) <= v1493.toInt /\ v1493.toInt <= 2305843009213693951 := (by rw [q2652]; exact B738)
      have B2653 : (1 : Int) <= v1493.toInt /\ v1493.toInt <= 2305843009213693951 := ⟨kL_gt hc1499 (by decide), B2651.2⟩
      have q2654 := kL_p hc1500
      have q2656 : v1494.toInt = v3.toInt - v7.toInt := k_lsubx h1497 B708 B722 (by decide) (by decide)
      have B2655 : (-7 : Int) <= v1494.toInt /\ v1494.toInt <= 7 := k_subB' q2656 B708 B722
      have q2657 := kL_m hc1501
      have B2658 : (-9223372036854775808 : Int) <= i2.toInt /\ i2.toInt <= 9223372036854775807 := ⟨(rng64 i2).1, Int.le_of_lt_add_one (rng64 i2).2⟩
      have q2661 : (v1414.toInt - (i2.toInt + v638.toInt)) % 18446744073709551616 = 0 := (by rw [hv1414]; exact c_ladd _ _)
      have B2659 : (-9223372036854775808 : Int) <= v1414.toInt /\ v1414.toInt <= 9223372036854775807 := ⟨(rng64 v1414).1, Int.le_of_lt_add_one (rng64 v1414).2⟩
      have q2662 : ¬ i2.toInt = v1414.toInt := fun q => hc1503 (Int64.toInt_inj.mp q)
      have q2664 : v2333.toInt = v640.toInt - v638.toInt := k_lsubx hr2643 B741 B738 (by decide) (by decide)
      have B2663 : (-6917529027641081855 : Int) <= v2333.toInt /\ v2333.toInt <= 6917529027641081854 := k_subB' q2664 B741 B738
      have B2665 : (-6917529027641081855 : Int) <= v2333.toInt /\ v2333.toInt <= 0 := ⟨B2663.1, kL_le hc2337 (by decide)⟩
      have q2667 : v2334.toInt = v638.toInt := (by rw [hr2644])
      have B2666 : (-2305843009213693952 : Int) <= v2334.toInt /\ v2334.toInt <= 2305843009213693951 := (by rw [q2667]; exact B738)
      have q2668 := kL_p hc2338
      have q2670 : v1495.toInt = v7.toInt + v11.toInt := k_laddx h1498 B722 B730 (by decide) (by decide)
      have B2669 : (2 : Int) <= v1495.toInt /\ v1495.toInt <= 16 := k_addB q2670 B722 B730
      have B2671 : (0 : Int) <= (0 : Int64).toInt /\ (0 : Int64).toInt <= 0 := (by decide)
      have q2672 : ¬ v1495.toInt = (0 : Int64).toInt := fun q => hc2339 (Int64.toInt_inj.mp q)
      refine ⟨?_, ?_, ?_⟩ <;> omega
     ·
      have hr2673 : v2356 = v640 - v638 := by rw [h2358, hv2331, hv1414]; exact k_s2 _ _ _
      have hr2674 : v2357 = v638 := by rw [h2359, hv1414]; exact k_s1 _ _
      refine k_n1 ?_
      exfalso
      have q2675 : 1 <= v7.toInt := kL_ge hp747 (by decide)
      have q2676 : 1 <= v11.toInt := kL_ge hp1415 (by decide)
      have q2678 : v1495.toInt = v7.toInt + v11.toInt := k_laddx h1498 B722 B730 (by decide) (by decide)
      have B2677 : (2 : Int) <= v1495.toInt /\ v1495.toInt <= 16 := k_addB q2678 B722 B730
      have B2679 : (0 : Int) <= (0 : Int64).toInt /\ (0 : Int64).toInt <= 0 := (by decide)
      have q2680 := congrArg Int64.toInt hc2362
      omega
     ·
      have hr2681 : v2379 = v640 - v638 := by rw [h2382, hv2331, hv1414]; exact k_s2 _ _ _
      have hr2682 : v2380 = v638 := by rw [h2383, hv1414]; exact k_s1 _ _
      have hr2683 : v2381 = v11 := by rw [h2384, h1498]; exact k_s1 _ _
      refine k_n1 ?_
      exfalso
      have q2685 : v1493.toInt = v638.toInt := (by rw [hr2330])
      have B2684 : (-2305843009213693952 : Int) <= v1493.toInt /\ v1493.toInt <= 2305843009213693951 := (by rw [q2685]; exact B738)
      have B2686 : (1 : Int) <= v1493.toInt /\ v1493.toInt <= 2305843009213693951 := ⟨kL_gt hc1499 (by decide), B2684.2⟩
      have q2687 := kL_p hc1500
      have q2689 : v2380.toInt = v638.toInt := (by rw [hr2682])
      have B2688 : (-2305843009213693952 : Int) <= v2380.toInt /\ v2380.toInt <= 2305843009213693951 := (by rw [q2689]; exact B738)
      have q2690 := kL_m hc2386
      omega
     ·
      have hr2691 : v2404 = v640 - v638 := by rw [h2407, hv2331, hv1414]; exact k_s2 _ _ _
      have hr2692 : v2405 = v638 := by rw [h2408, hv1414]; exact k_s1 _ _
      have hr2693 : v2406 = v11 := by rw [h2409, h1498]; exact k_s1 _ _
      refine k_n1 ?_
      exfalso
      have q2695 : v1493.toInt = v638.toInt := (by rw [hr2330])
      have B2694 : (-2305843009213693952 : Int) <= v1493.toInt /\ v1493.toInt <= 2305843009213693951 := (by rw [q2695]; exact B738)
      have B2696 : (1 : Int) <= v1493.toInt /\ v1493.toInt <= 2305843009213693951 := ⟨kL_gt hc1499 (by decide), B2694.2⟩
      have q2697 := kL_p hc1500
      have q2699 : v2405.toInt = v638.toInt := (by rw [hr2692])
      have B2698 : (-2305843009213693952 : Int) <= v2405.toInt /\ v2405.toInt <= 2305843009213693951 := (by rw [q2699]; exact B738)
      have q2700 := kL_m hc2411
      omega
     ·
      have hr2701 : v2429 = v640 - v638 := by rw [h2431, hv2331, hv1414]; exact k_s2 _ _ _
      have hr2702 : v2430 = v640 := by rw [h2432, hv2331]; exact k_s1 _ _
      refine k_n1 ?_
      refine k_istore X2332 hx 137 (D at_135) (Ls' := #[iv i0, jv i1, s_, jv i2, s_, jv i3, s_, jv i4, s_, jv v3, s_, jv v7, s_, jv v11, s_, iv 2, jv v637, s_, jv v638, s_, jv v639, s_, jv v640, s_, rv b641, iv 1, iv 1, iv 0, u_, u_, u_, u_, u_, u_, u_, u_, u_, u_, u_, u_]) rfl ?_
      refine key746 T2332 _ _ _ (1 : Int32) (1 : Int32) (0 : Int32) X2332 N2332' (Z2451) (by decide) (by decide) ?_
      have q2703 : 1 <= v7.toInt := kL_ge hp747 (by decide)
      have q2704 := kL_m hc774
      have q2706 : v768.toInt = v3.toInt := k_l2ix h773 B708 (by decide) (by decide)
      have B2705 : (1 : Int) <= v768.toInt /\ v768.toInt <= 8 := (by rw [q2706]; exact B708)
      have B2707 : (2 : Int) <= v768.toInt /\ v768.toInt <= 8 := ⟨k_ge hc1502 (by decide), B2705.2⟩
      have q2708 : 1 <= v11.toInt := kL_ge hp1415 (by decide)
      have q2710 : v1493.toInt = v638.toInt := (by rw [hr2330])
      have B2709 : (-2305843009213693952 : Int) <= v1493.toInt /\ v1493.toInt <= 2305843009213693951 := (by rw [q2710]; exact B738)
      have B2711 : (1 : Int) <= v1493.toInt /\ v1493.toInt <= 2305843009213693951 := ⟨kL_gt hc1499 (by decide), B2709.2⟩
      have q2712 := kL_p hc1500
      have q2714 : v1494.toInt = v3.toInt - v7.toInt := k_lsubx h1497 B708 B722 (by decide) (by decide)
      have B2713 : (-7 : Int) <= v1494.toInt /\ v1494.toInt <= 7 := k_subB' q2714 B708 B722
      have q2715 := kL_m hc1501
      have B2716 : (-9223372036854775808 : Int) <= i2.toInt /\ i2.toInt <= 9223372036854775807 := ⟨(rng64 i2).1, Int.le_of_lt_add_one (rng64 i2).2⟩
      have q2719 : (v1414.toInt - (i2.toInt + v638.toInt)) % 18446744073709551616 = 0 := (by rw [hv1414]; exact c_ladd _ _)
      have B2717 : (-9223372036854775808 : Int) <= v1414.toInt /\ v1414.toInt <= 9223372036854775807 := ⟨(rng64 v1414).1, Int.le_of_lt_add_one (rng64 v1414).2⟩
      have q2720 : ¬ i2.toInt = v1414.toInt := fun q => hc1503 (Int64.toInt_inj.mp q)
      have q2722 : v2429.toInt = v640.toInt - v638.toInt := k_lsubx hr2701 B741 B738 (by decide) (by decide)
      have B2721 : (-6917529027641081855 : Int) <= v2429.toInt /\ v2429.toInt <= 6917529027641081854 := k_subB' q2722 B741 B738
      have B2723 : (1 : Int) <= v2429.toInt /\ v2429.toInt <= 6917529027641081854 := ⟨kL_gt hc2433 (by decide), B2721.2⟩
      have q2725 : v2430.toInt = v640.toInt := (by rw [hr2702])
      have B2724 : (-4611686018427387904 : Int) <= v2430.toInt /\ v2430.toInt <= 4611686018427387902 := (by rw [q2725]; exact B741)
      have q2726 := kL_p hc2434
      have q2728 : v1495.toInt = v7.toInt + v11.toInt := k_laddx h1498 B722 B730 (by decide) (by decide)
      have B2727 : (2 : Int) <= v1495.toInt /\ v1495.toInt <= 16 := k_addB q2728 B722 B730
      have B2729 : (0 : Int) <= (0 : Int64).toInt /\ (0 : Int64).toInt <= 0 := (by decide)
      have q2730 : ¬ v1495.toInt = (0 : Int64).toInt := fun q => hc2435 (Int64.toInt_inj.mp q)
      refine ⟨?_, ?_, ?_⟩ <;> omega
     ·
      have hr2731 : v2452 = v640 - v638 := by rw [h2454, hv2331, hv1414]; exact k_s2 _ _ _
      have hr2732 : v2453 = v640 := by rw [h2455, hv2331]; exact k_s1 _ _
      refine k_n1 ?_
      exfalso
      have q2733 : 1 <= v7.toInt := kL_ge hp747 (by decide)
      have q2734 : 1 <= v11.toInt := kL_ge hp1415 (by decide)
      have q2736 : v1495.toInt = v7.toInt + v11.toInt := k_laddx h1498 B722 B730 (by decide) (by decide)
      have B2735 : (2 : Int) <= v1495.toInt /\ v1495.toInt <= 16 := k_addB q2736 B722 B730
      have B2737 : (0 : Int) <= (0 : Int64).toInt /\ (0 : Int64).toInt <= 0 := (by decide)
      have q2738 := congrArg Int64.toInt hc2458
      omega
     ·
      have hr2739 : v2475 = v640 - v638 := by rw [h2478, hv2331, hv1414]; exact k_s2 _ _ _
      have hr2740 : v2476 = v640 := by rw [h2479, hv2331]; exact k_s1 _ _
      have hr2741 : v2477 = v11 := by rw [h2480, h1498]; exact k_s1 _ _
      refine k_n1 ?_
      refine k_istore X2332 hx 137 (D at_135) (Ls' := #[iv i0, jv i1, s_, jv i2, s_, jv i3, s_, jv i4, s_, jv v3, s_, jv v7, s_, jv v11, s_, iv 2, jv v637, s_, jv v638, s_, jv v639, s_, jv v640, s_, rv b641, iv 1, iv 1, iv 0, u_, u_, u_, u_, u_, u_, u_, u_, u_, u_, u_, u_]) rfl ?_
      refine key746 T2332 _ _ _ (1 : Int32) (1 : Int32) (0 : Int32) X2332 N2332' (Z2500) (by decide) (by decide) ?_
      have q2742 : 1 <= v7.toInt := kL_ge hp747 (by decide)
      have q2743 := kL_m hc774
      have q2745 : v768.toInt = v3.toInt := k_l2ix h773 B708 (by decide) (by decide)
      have B2744 : (1 : Int) <= v768.toInt /\ v768.toInt <= 8 := (by rw [q2745]; exact B708)
      have B2746 : (2 : Int) <= v768.toInt /\ v768.toInt <= 8 := ⟨k_ge hc1502 (by decide), B2744.2⟩
      have q2747 : 1 <= v11.toInt := kL_ge hp1415 (by decide)
      have q2749 : v1493.toInt = v638.toInt := (by rw [hr2330])
      have B2748 : (-2305843009213693952 : Int) <= v1493.toInt /\ v1493.toInt <= 2305843009213693951 := (by rw [q2749]; exact B738)
      have B2750 : (1 : Int) <= v1493.toInt /\ v1493.toInt <= 2305843009213693951 := ⟨kL_gt hc1499 (by decide), B2748.2⟩
      have q2751 := kL_p hc1500
      have q2753 : v1494.toInt = v3.toInt - v7.toInt := k_lsubx h1497 B708 B722 (by decide) (by decide)
      have B2752 : (-7 : Int) <= v1494.toInt /\ v1494.toInt <= 7 := k_subB' q2753 B708 B722
      have q2754 := kL_m hc1501
      have B2755 : (-9223372036854775808 : Int) <= i2.toInt /\ i2.toInt <= 9223372036854775807 := ⟨(rng64 i2).1, Int.le_of_lt_add_one (rng64 i2).2⟩
      have q2758 : (v1414.toInt - (i2.toInt + v638.toInt)) % 18446744073709551616 = 0 := (by rw [hv1414]; exact c_ladd _ _)
      have B2756 : (-9223372036854775808 : Int) <= v1414.toInt /\ v1414.toInt <= 9223372036854775807 := ⟨(rng64 v1414).1, Int.le_of_lt_add_one (rng64 v1414).2⟩
      have q2759 : ¬ i2.toInt = v1414.toInt := fun q => hc1503 (Int64.toInt_inj.mp q)
      have q2761 : v2475.toInt = v640.toInt - v638.toInt := k_lsubx hr2739 B741 B738 (by decide) (by decide)
      have B2760 : (-6917529027641081855 : Int) <= v2475.toInt /\ v2475.toInt <= 6917529027641081854 := k_subB' q2761 B741 B738
      have B2762 : (1 : Int) <= v2475.toInt /\ v2475.toInt <= 6917529027641081854 := ⟨kL_gt hc2481 (by decide), B2760.2⟩
      have q2764 : v2476.toInt = v640.toInt := (by rw [hr2740])
      have B2763 : (-4611686018427387904 : Int) <= v2476.toInt /\ v2476.toInt <= 4611686018427387902 := (by rw [q2764]; exact B741)
      have q2765 := kL_m hc2482
      have q2766 := kL_p hc2483
      have q2768 : v2477.toInt = v11.toInt := (by rw [hr2741])
      have B2767 : (1 : Int) <= v2477.toInt /\ v2477.toInt <= 8 := (by rw [q2768]; exact B730)
      have B2769 : (0 : Int) <= (0 : Int64).toInt /\ (0 : Int64).toInt <= 0 := (by decide)
      have q2770 : ¬ v2477.toInt = (0 : Int64).toInt := fun q => hc2484 (Int64.toInt_inj.mp q)
      refine ⟨?_, ?_, ?_⟩ <;> omega
     ·
      have hr2771 : v2501 = v640 - v638 := by rw [h2504, hv2331, hv1414]; exact k_s2 _ _ _
      have hr2772 : v2502 = v640 := by rw [h2505, hv2331]; exact k_s1 _ _
      have hr2773 : v2503 = v11 := by rw [h2506, h1498]; exact k_s1 _ _
      refine k_n1 ?_
      exfalso
      have q2774 : 1 <= v11.toInt := kL_ge hp1415 (by decide)
      have q2776 : v2503.toInt = v11.toInt := (by rw [hr2773])
      have B2775 : (1 : Int) <= v2503.toInt /\ v2503.toInt <= 8 := (by rw [q2776]; exact B730)
      have B2777 : (0 : Int) <= (0 : Int64).toInt /\ (0 : Int64).toInt <= 0 := (by decide)
      have q2778 := congrArg Int64.toInt hc2510
      omega
     ·
      have hr2779 : v2527 = v640 - v638 := by rw [h2531, hv2331, hv1414]; exact k_s2 _ _ _
      have hr2780 : v2528 = v640 := by rw [h2532, hv2331]; exact k_s1 _ _
      have hr2781 : v2529 = v11 := by rw [h2533, h1498]; exact k_s1 _ _
      refine k_n1 ?_
      exfalso
      have q2785 : v2529.toInt = v11.toInt := (by rw [hr2781])
      have B2784 : (1 : Int) <= v2529.toInt /\ v2529.toInt <= 8 := (by rw [q2785]; exact B730)
      have q2783 : v2530.toInt = v2529.toInt - v11.toInt := k_lsubx h2534 B2784 B730 (by decide) (by decide)
      have B2782 : (-7 : Int) <= v2530.toInt /\ v2530.toInt <= 7 := k_subB' q2783 B2784 B730
      have B2786 : (0 : Int) <= (0 : Int64).toInt /\ (0 : Int64).toInt <= 0 := (by decide)
      have q2787 : ¬ v2530.toInt = (0 : Int64).toInt := fun q => hc2539 (Int64.toInt_inj.mp q)
      omega
     ·
      have hr2788 : v2556 = v640 - v638 := by rw [h2560, hv2331, hv1414]; exact k_s2 _ _ _
      have hr2789 : v2557 = v640 := by rw [h2561, hv2331]; exact k_s1 _ _
      have hr2790 : v2558 = v11 := by rw [h2562, h1498]; exact k_s1 _ _
      refine k_n1 ?_
      refine k_istore X2332 hx 137 (D at_135) (Ls' := #[iv i0, jv i1, s_, jv i2, s_, jv i3, s_, jv i4, s_, jv v3, s_, jv v7, s_, jv v11, s_, iv 2, jv v637, s_, jv v638, s_, jv v639, s_, jv v640, s_, rv b641, iv 1, iv 1, iv 1, u_, u_, u_, u_, u_, u_, u_, u_, u_, u_, u_, u_]) rfl ?_
      refine key746 T2332 _ _ _ (1 : Int32) (1 : Int32) (1 : Int32) X2332 N2332' (Z2584) (by decide) (by decide) ?_
      have q2791 : 1 <= v7.toInt := kL_ge hp747 (by decide)
      have q2792 := kL_m hc774
      have q2794 : v768.toInt = v3.toInt := k_l2ix h773 B708 (by decide) (by decide)
      have B2793 : (2 : Int) <= v768.toInt /\ v768.toInt <= 2 := ⟨k_ge hc1502 (by decide), k_le hc2567 (by decide)⟩
      have q2795 : 1 <= v11.toInt := kL_ge hp1415 (by decide)
      have q2797 : v1493.toInt = v638.toInt := (by rw [hr2330])
      have B2796 : (-2305843009213693952 : Int) <= v1493.toInt /\ v1493.toInt <= 2305843009213693951 := (by rw [q2797]; exact B738)
      have B2798 : (1 : Int) <= v1493.toInt /\ v1493.toInt <= 2305843009213693951 := ⟨kL_gt hc1499 (by decide), B2796.2⟩
      have q2799 := kL_p hc1500
      have q2801 : v1494.toInt = v3.toInt - v7.toInt := k_lsubx h1497 B708 B722 (by decide) (by decide)
      have B2800 : (-7 : Int) <= v1494.toInt /\ v1494.toInt <= 7 := k_subB' q2801 B708 B722
      have q2802 := kL_m hc1501
      have B2803 : (-9223372036854775808 : Int) <= i2.toInt /\ i2.toInt <= 9223372036854775807 := ⟨(rng64 i2).1, Int.le_of_lt_add_one (rng64 i2).2⟩
      have q2806 : (v1414.toInt - (i2.toInt + v638.toInt)) % 18446744073709551616 = 0 := (by rw [hv1414]; exact c_ladd _ _)
      have B2804 : (-9223372036854775808 : Int) <= v1414.toInt /\ v1414.toInt <= 9223372036854775807 := ⟨(rng64 v1414).1, Int.le_of_lt_add_one (rng64 v1414).2⟩
      have q2807 : ¬ i2.toInt = v1414.toInt := fun q => hc1503 (Int64.toInt_inj.mp q)
      have q2809 : v2556.toInt = v640.toInt - v638.toInt := k_lsubx hr2788 B741 B738 (by decide) (by decide)
      have B2808 : (-6917529027641081855 : Int) <= v2556.toInt /\ v2556.toInt <= 6917529027641081854 := k_subB' q2809 B741 B738
      have B2810 : (1 : Int) <= v2556.toInt /\ v2556.toInt <= 6917529027641081854 := ⟨kL_gt hc2564 (by decide), B2808.2⟩
      have q2812 : v2557.toInt = v640.toInt := (by rw [hr2789])
      have B2811 : (-4611686018427387904 : Int) <= v2557.toInt /\ v2557.toInt <= 4611686018427387902 := (by rw [q2812]; exact B741)
      have q2813 := kL_m hc2565
      have q2814 := kL_m hc2566
      have q2818 : v2558.toInt = v11.toInt := (by rw [hr2790])
      have B2817 : (1 : Int) <= v2558.toInt /\ v2558.toInt <= 8 := (by rw [q2818]; exact B730)
      have q2816 : v2559.toInt = v2558.toInt - v11.toInt := k_lsubx h2563 B2817 B730 (by decide) (by decide)
      have B2815 : (-7 : Int) <= v2559.toInt /\ v2559.toInt <= 7 := k_subB' q2816 B2817 B730
      have B2819 : (0 : Int) <= (0 : Int64).toInt /\ (0 : Int64).toInt <= 0 := (by decide)
      have q2820 := congrArg Int64.toInt hc2568
      refine ⟨?_, ?_, ?_⟩ <;> omega
     ·
      have hr2821 : v2585 = v640 - v638 := by rw [h2589, hv2331, hv1414]; exact k_s2 _ _ _
      have hr2822 : v2586 = v640 := by rw [h2590, hv2331]; exact k_s1 _ _
      have hr2823 : v2587 = v11 := by rw [h2591, h1498]; exact k_s1 _ _
      refine k_n1 ?_
      exfalso
      have q2827 : v2587.toInt = v11.toInt := (by rw [hr2823])
      have B2826 : (1 : Int) <= v2587.toInt /\ v2587.toInt <= 8 := (by rw [q2827]; exact B730)
      have q2825 : v2588.toInt = v2587.toInt - v11.toInt := k_lsubx h2592 B2826 B730 (by decide) (by decide)
      have B2824 : (-7 : Int) <= v2588.toInt /\ v2588.toInt <= 7 := k_subB' q2825 B2826 B730
      have B2828 : (0 : Int) <= (0 : Int64).toInt /\ (0 : Int64).toInt <= 0 := (by decide)
      have q2829 : ¬ v2588.toInt = (0 : Int64).toInt := fun q => hc2597 (Int64.toInt_inj.mp q)
      omega
     ·
      have hr2830 : v2614 = v640 - v638 := by rw [h2618, hv2331, hv1414]; exact k_s2 _ _ _
      have hr2831 : v2615 = v640 := by rw [h2619, hv2331]; exact k_s1 _ _
      have hr2832 : v2616 = v11 := by rw [h2620, h1498]; exact k_s1 _ _
      refine k_n1 ?_
      refine k_istore X2332 hx 137 (D at_135) (Ls' := #[iv i0, jv i1, s_, jv i2, s_, jv i3, s_, jv i4, s_, jv v3, s_, jv v7, s_, jv v11, s_, iv 2, jv v637, s_, jv v638, s_, jv v639, s_, jv v640, s_, rv b641, iv 1, iv 1, iv 1, u_, u_, u_, u_, u_, u_, u_, u_, u_, u_, u_, u_]) rfl ?_
      refine key746 T2332 _ _ _ (1 : Int32) (1 : Int32) (1 : Int32) X2332 N2332' (Z2642) (by decide) (by decide) ?_
      have q2833 : 1 <= v7.toInt := kL_ge hp747 (by decide)
      have q2834 := kL_m hc774
      have q2836 : v768.toInt = v3.toInt := k_l2ix h773 B708 (by decide) (by decide)
      have B2835 : (1 : Int) <= v768.toInt /\ v768.toInt <= 8 := (by rw [q2836]; exact B708)
      have B2837 : (3 : Int) <= v768.toInt /\ v768.toInt <= 8 := ⟨k_gt hc2625 (by decide), B2835.2⟩
      have q2838 : 1 <= v11.toInt := kL_ge hp1415 (by decide)
      have q2840 : v1493.toInt = v638.toInt := (by rw [hr2330])
      have B2839 : (-2305843009213693952 : Int) <= v1493.toInt /\ v1493.toInt <= 2305843009213693951 := (by rw [q2840]; exact B738)
      have B2841 : (1 : Int) <= v1493.toInt /\ v1493.toInt <= 2305843009213693951 := ⟨kL_gt hc1499 (by decide), B2839.2⟩
      have q2842 := kL_p hc1500
      have q2844 : v1494.toInt = v3.toInt - v7.toInt := k_lsubx h1497 B708 B722 (by decide) (by decide)
      have B2843 : (-7 : Int) <= v1494.toInt /\ v1494.toInt <= 7 := k_subB' q2844 B708 B722
      have q2845 := kL_m hc1501
      have B2846 : (-9223372036854775808 : Int) <= i2.toInt /\ i2.toInt <= 9223372036854775807 := ⟨(rng64 i2).1, Int.le_of_lt_add_one (rng64 i2).2⟩
      have q2849 : (v1414.toInt - (i2.toInt + v638.toInt)) % 18446744073709551616 = 0 := (by rw [hv1414]; exact c_ladd _ _)
      have B2847 : (-9223372036854775808 : Int) <= v1414.toInt /\ v1414.toInt <= 9223372036854775807 := ⟨(rng64 v1414).1, Int.le_of_lt_add_one (rng64 v1414).2⟩
      have q2850 : ¬ i2.toInt = v1414.toInt := fun q => hc1503 (Int64.toInt_inj.mp q)
      have q2852 : v2614.toInt = v640.toInt - v638.toInt := k_lsubx hr2830 B741 B738 (by decide) (by decide)
      have B2851 : (-6917529027641081855 : Int) <= v2614.toInt /\ v2614.toInt <= 6917529027641081854 := k_subB' q2852 B741 B738
      have B2853 : (1 : Int) <= v2614.toInt /\ v2614.toInt <= 6917529027641081854 := ⟨kL_gt hc2622 (by decide), B2851.2⟩
      have q2855 : v2615.toInt = v640.toInt := (by rw [hr2831])
      have B2854 : (-4611686018427387904 : Int) <= v2615.toInt /\ v2615.toInt <= 4611686018427387902 := (by rw [q2855]; exact B741)
      have q2856 := kL_m hc2623
      have q2857 := kL_m hc2624
      have q2861 : v2616.toInt = v11.toInt := (by rw [hr2832])
      have B2860 : (1 : Int) <= v2616.toInt /\ v2616.toInt <= 8 := (by rw [q2861]; exact B730)
      have q2859 : v2617.toInt = v2616.toInt - v11.toInt := k_lsubx h2621 B2860 B730 (by decide) (by decide)
      have B2858 : (-7 : Int) <= v2617.toInt /\ v2617.toInt <= 7 := k_subB' q2859 B2860 B730
      have B2862 : (0 : Int) <= (0 : Int64).toInt /\ (0 : Int64).toInt <= 0 := (by decide)
      have q2863 := congrArg Int64.toInt hc2626
      refine ⟨?_, ?_, ?_⟩ <;> omega
    ·
     have hr2864 : v1521 = v638 := by rw [h1524, hv1414]; exact k_s1 _ _
     refine k_n1 ?_
     exfalso
     have q2866 : v1521.toInt = v638.toInt := (by rw [hr2864])
     have B2865 : (-2305843009213693952 : Int) <= v1521.toInt /\ v1521.toInt <= 2305843009213693951 := (by rw [q2866]; exact B738)
     have B2867 : (1 : Int) <= v1521.toInt /\ v1521.toInt <= 2305843009213693951 := ⟨kL_gt hc1527 (by decide), B2865.2⟩
     have B2868 : (-9223372036854775808 : Int) <= i2.toInt /\ i2.toInt <= 9223372036854775807 := ⟨(rng64 i2).1, Int.le_of_lt_add_one (rng64 i2).2⟩
     have q2871 : (v1414.toInt - (i2.toInt + v638.toInt)) % 18446744073709551616 = 0 := (by rw [hv1414]; exact c_ladd _ _)
     have B2869 : (-9223372036854775808 : Int) <= v1414.toInt /\ v1414.toInt <= 9223372036854775807 := ⟨(rng64 v1414).1, Int.le_of_lt_add_one (rng64 v1414).2⟩
     have q2872 := congrArg Int64.toInt hc1531
     omega
    ·
     have hr2873 : v1548 = v638 := by rw [h1549, hv1414]; exact k_s1 _ _
     refine k_n1 ?_
     refine k_istore X1422 hx 126 (D at_124) (Ls' := #[iv i0, jv i1, s_, jv i2, s_, jv i3, s_, jv i4, s_, jv v3, s_, jv v7, s_, jv v11, s_, iv 2, jv v637, s_, jv v638, s_, jv v639, s_, jv v640, s_, rv b641, iv 1, iv 0, u_, u_, u_, u_, u_, u_, u_, u_, u_, u_, u_, u_, u_]) rfl ?_
     refine k_aload X1422 hx 128 (D at_126) rfl rfl ?_
     refine k_lloadN X1422 hx 129 (D at_128) rfl ?_
     refine k_lload X1422 hx 131 (D at_129) rfl ?_
     refine k_ladd X1422 hx 132 (D at_131) (fun v2874 hv2874 => ?_)
     refine k_callV X1422 hx hZ hown 135 (a := b641) (k_w hw 39 rfl) (k_w hw 40 rfl) (k_w hw 42 rfl) (k_w hw 41 rfl) (k_w hw 7 rfl) (k_w hw 43 rfl) (by decide) F1554 (rm6_67 l Z a0 hw [] b641 b684 b769 b771 v2874 v3 v637 v1414 i2 v7 k770 k772 v768 T1422.heap n0 Z1569 ⟨F1554, F1555, F1556⟩ g_b641 ⟨F1557, F1558, F1559, F1560, F1561, F1562, F1563, F1564, F1565, F1566⟩ g_b684 F1567 g_b769 F1568 g_b771 lt704 (Nat.lt_trans (Nat.lt_trans lt705 lt706) lt794) lt795 hp644 hp655 hp666 hc775 hc776 h773) (by decide) (by decide) rfl (by rw [hml]; rfl) (argsL := [(.long v2874)]) (rest := []) (lenOf pd_5 rfl) rfl (W := 0) (Nat.le_refl _) rfl (D at_132) (by decide) (by decide) (fun T2875 L2875 r2875 X2875 q2875 => ?_)
     obtain ⟨N2875, q2875⟩ := q2875
     have N2875' := Fr.app N1422' N2875
     rcases q2875 with ⟨v2876, h2877, hc2878, rfl, ⟨F2879, F2880, F2881⟩, ⟨F2882, F2883, F2884, F2885, F2886, F2887, F2888, F2889, F2890, F2891⟩, F2892, F2893, Z2894⟩ | ⟨v2895, h2896, hc2897, rfl, ⟨F2898, F2899, F2900⟩, ⟨F2901, F2902, F2903, F2904, F2905, F2906, F2907, F2908, F2909, F2910⟩, F2911, F2912, Z2913⟩
     ·
      have hr2914 : v2876 = v640 - v638 := by rw [h2877, hv2874, hv1414]; exact k_s2 _ _ _
      refine k_n1 ?_
      refine k_istore X2875 hx 137 (D at_135) (Ls' := #[iv i0, jv i1, s_, jv i2, s_, jv i3, s_, jv i4, s_, jv v3, s_, jv v7, s_, jv v11, s_, iv 2, jv v637, s_, jv v638, s_, jv v639, s_, jv v640, s_, rv b641, iv 1, iv 0, iv 1, u_, u_, u_, u_, u_, u_, u_, u_, u_, u_, u_, u_]) rfl ?_
      refine key746 T2875 _ _ _ (1 : Int32) (0 : Int32) (1 : Int32) X2875 N2875' (Z2894) (by decide) (by decide) ?_
      have q2915 : 1 <= v7.toInt := kL_ge hp747 (by decide)
      have q2916 := kL_m hc774
      have q2918 : v768.toInt = v3.toInt := k_l2ix h773 B708 (by decide) (by decide)
      have B2917 : (1 : Int) <= v768.toInt /\ v768.toInt <= 8 := (by rw [q2918]; exact B708)
      have B2919 : (1 : Int) <= v768.toInt /\ v768.toInt <= 1 := ⟨B2917.1, k_le hc1552 (by decide)⟩
      have q2920 : 1 <= v11.toInt := kL_ge hp1415 (by decide)
      have q2922 : v1548.toInt = v638.toInt := (by rw [hr2873])
      have B2921 : (-2305843009213693952 : Int) <= v1548.toInt /\ v1548.toInt <= 2305843009213693951 := (by rw [q2922]; exact B738)
      have B2923 : (1 : Int) <= v1548.toInt /\ v1548.toInt <= 2305843009213693951 := ⟨kL_gt hc1550 (by decide), B2921.2⟩
      have q2924 := kL_m hc1551
      have q2925 := kL_p hc1553
      have q2927 : v2876.toInt = v640.toInt - v638.toInt := k_lsubx hr2914 B741 B738 (by decide) (by decide)
      have B2926 : (-6917529027641081855 : Int) <= v2876.toInt /\ v2876.toInt <= 6917529027641081854 := k_subB' q2927 B741 B738
      have B2928 : (-6917529027641081855 : Int) <= v2876.toInt /\ v2876.toInt <= 0 := ⟨B2926.1, kL_le hc2878 (by decide)⟩
      refine ⟨?_, ?_, ?_⟩ <;> omega
     ·
      have hr2929 : v2895 = v640 - v638 := by rw [h2896, hv2874, hv1414]; exact k_s2 _ _ _
      refine k_n1 ?_
      refine k_istore X2875 hx 137 (D at_135) (Ls' := #[iv i0, jv i1, s_, jv i2, s_, jv i3, s_, jv i4, s_, jv v3, s_, jv v7, s_, jv v11, s_, iv 2, jv v637, s_, jv v638, s_, jv v639, s_, jv v640, s_, rv b641, iv 1, iv 0, iv 1, u_, u_, u_, u_, u_, u_, u_, u_, u_, u_, u_, u_]) rfl ?_
      refine key746 T2875 _ _ _ (1 : Int32) (0 : Int32) (1 : Int32) X2875 N2875' (Z2913) (by decide) (by decide) ?_
      have q2930 : 1 <= v7.toInt := kL_ge hp747 (by decide)
      have q2931 := kL_m hc774
      have q2933 : v768.toInt = v3.toInt := k_l2ix h773 B708 (by decide) (by decide)
      have B2932 : (1 : Int) <= v768.toInt /\ v768.toInt <= 8 := (by rw [q2933]; exact B708)
      have B2934 : (1 : Int) <= v768.toInt /\ v768.toInt <= 1 := ⟨B2932.1, k_le hc1552 (by decide)⟩
      have q2935 : 1 <= v11.toInt := kL_ge hp1415 (by decide)
      have q2937 : v1548.toInt = v638.toInt := (by rw [hr2873])
      have B2936 : (-2305843009213693952 : Int) <= v1548.toInt /\ v1548.toInt <= 2305843009213693951 := (by rw [q2937]; exact B738)
      have B2938 : (1 : Int) <= v1548.toInt /\ v1548.toInt <= 2305843009213693951 := ⟨kL_gt hc1550 (by decide), B2936.2⟩
      have q2939 := kL_m hc1551
      have q2940 := kL_p hc1553
      have q2942 : v2895.toInt = v640.toInt - v638.toInt := k_lsubx hr2929 B741 B738 (by decide) (by decide)
      have B2941 : (-6917529027641081855 : Int) <= v2895.toInt /\ v2895.toInt <= 6917529027641081854 := k_subB' q2942 B741 B738
      have B2943 : (1 : Int) <= v2895.toInt /\ v2895.toInt <= 6917529027641081854 := ⟨kL_gt hc2897 (by decide), B2941.2⟩
      refine ⟨?_, ?_, ?_⟩ <;> omega
    ·
     have hr2944 : v1570 = v638 := by rw [h1571, hv1414]; exact k_s1 _ _
     refine k_n1 ?_
     refine k_istore X1422 hx 126 (D at_124) (Ls' := #[iv i0, jv i1, s_, jv i2, s_, jv i3, s_, jv i4, s_, jv v3, s_, jv v7, s_, jv v11, s_, iv 2, jv v637, s_, jv v638, s_, jv v639, s_, jv v640, s_, rv b641, iv 1, iv 1, u_, u_, u_, u_, u_, u_, u_, u_, u_, u_, u_, u_, u_]) rfl ?_
     refine k_aload X1422 hx 128 (D at_126) rfl rfl ?_
     refine k_lloadN X1422 hx 129 (D at_128) rfl ?_
     refine k_lload X1422 hx 131 (D at_129) rfl ?_
     refine k_ladd X1422 hx 132 (D at_131) (fun v2945 hv2945 => ?_)
     refine k_callV X1422 hx hZ hown 135 (a := b641) (k_w hw 39 rfl) (k_w hw 40 rfl) (k_w hw 42 rfl) (k_w hw 41 rfl) (k_w hw 7 rfl) (k_w hw 43 rfl) (by decide) F1576 (rm6_24 l Z a0 hw [] b641 b684 b769 b771 v2945 v3 v637 v1414 v11 k770 k772 v768 T1422.heap n0 Z1591 ⟨F1576, F1577, F1578⟩ g_b641 ⟨F1579, F1580, F1581, F1582, F1583, F1584, F1585, F1586, F1587, F1588⟩ g_b684 F1589 g_b769 F1590 g_b771 lt704 (Nat.lt_trans (Nat.lt_trans lt705 lt706) lt794) lt795 hp644 hp655 hp666 hc775 hc776 h773) (by decide) (by decide) rfl (by rw [hml]; rfl) (argsL := [(.long v2945)]) (rest := []) (lenOf pd_5 rfl) rfl (W := 0) (Nat.le_refl _) rfl (D at_132) (by decide) (by decide) (fun T2946 L2946 r2946 X2946 q2946 => ?_)
     obtain ⟨N2946, q2946⟩ := q2946
     have N2946' := Fr.app N1422' N2946
     rcases q2946 with ⟨v2947, h2948, hc2949, hc2950, rfl, ⟨F2951, F2952, F2953⟩, ⟨F2954, F2955, F2956, F2957, F2958, F2959, F2960, F2961, F2962, F2963⟩, F2964, F2965, Z2966⟩ | ⟨v2967, h2968, hc2969, hc2970, rfl, ⟨F2971, F2972, F2973⟩, ⟨F2974, F2975, F2976, F2977, F2978, F2979, F2980, F2981, F2982, F2983⟩, F2984, F2985, Z2986⟩ | ⟨v2987, h2988, hc2989, hc2990, hc2991, rfl, ⟨F2992, F2993, F2994⟩, ⟨F2995, F2996, F2997, F2998, F2999, F3000, F3001, F3002, F3003, F3004⟩, F3005, F3006, Z3007⟩ | ⟨v3008, h3009, hc3010, hc3011, hc3012, rfl, ⟨F3013, F3014, F3015⟩, ⟨F3016, F3017, F3018, F3019, F3020, F3021, F3022, F3023, F3024, F3025⟩, F3026, F3027, Z3028⟩ | ⟨v3029, h3030, hc3031, hc3032, hc3033, rfl, ⟨F3034, F3035, F3036⟩, ⟨F3037, F3038, F3039, F3040, F3041, F3042, F3043, F3044, F3045, F3046⟩, F3047, F3048, Z3049⟩ | ⟨v3050, h3051, hc3052, hc3053, hc3054, rfl, ⟨F3055, F3056, F3057⟩, ⟨F3058, F3059, F3060, F3061, F3062, F3063, F3064, F3065, F3066, F3067⟩, F3068, F3069, Z3070⟩
     ·
      have hr3071 : v2947 = v640 - v638 := by rw [h2948, hv2945, hv1414]; exact k_s2 _ _ _
      refine k_n1 ?_
      refine k_istore X2946 hx 137 (D at_135) (Ls' := #[iv i0, jv i1, s_, jv i2, s_, jv i3, s_, jv i4, s_, jv v3, s_, jv v7, s_, jv v11, s_, iv 2, jv v637, s_, jv v638, s_, jv v639, s_, jv v640, s_, rv b641, iv 1, iv 1, iv 0, u_, u_, u_, u_, u_, u_, u_, u_, u_, u_, u_, u_]) rfl ?_
      refine key746 T2946 _ _ _ (1 : Int32) (1 : Int32) (0 : Int32) X2946 N2946' (Z2966) (by decide) (by decide) ?_
      have q3072 : 1 <= v7.toInt := kL_ge hp747 (by decide)
      have q3073 := kL_m hc774
      have q3075 : v768.toInt = v3.toInt := k_l2ix h773 B708 (by decide) (by decide)
      have B3074 : (1 : Int) <= v768.toInt /\ v768.toInt <= 8 := (by rw [q3075]; exact B708)
      have B3076 : (1 : Int) <= v768.toInt /\ v768.toInt <= 1 := ⟨B3074.1, k_le hc1574 (by decide)⟩
      have q3077 : 1 <= v11.toInt := kL_ge hp1415 (by decide)
      have q3079 : v1570.toInt = v638.toInt := (by rw [hr2944])
      have B3078 : (-2305843009213693952 : Int) <= v1570.toInt /\ v1570.toInt <= 2305843009213693951 := (by rw [q3079]; exact B738)
      have B3080 : (1 : Int) <= v1570.toInt /\ v1570.toInt <= 2305843009213693951 := ⟨kL_gt hc1572 (by decide), B3078.2⟩
      have q3081 := kL_m hc1573
      have q3082 := kL_m hc1575
      have q3084 : v2947.toInt = v640.toInt - v638.toInt := k_lsubx hr3071 B741 B738 (by decide) (by decide)
      have B3083 : (-6917529027641081855 : Int) <= v2947.toInt /\ v2947.toInt <= 6917529027641081854 := k_subB' q3084 B741 B738
      have B3085 : (-6917529027641081855 : Int) <= v2947.toInt /\ v2947.toInt <= 0 := ⟨B3083.1, kL_le hc2949 (by decide)⟩
      have B3086 : (0 : Int) <= (0 : Int64).toInt /\ (0 : Int64).toInt <= 0 := (by decide)
      have q3087 : ¬ v11.toInt = (0 : Int64).toInt := fun q => hc2950 (Int64.toInt_inj.mp q)
      refine ⟨?_, ?_, ?_⟩ <;> omega
     ·
      have hr3088 : v2967 = v640 - v638 := by rw [h2968, hv2945, hv1414]; exact k_s2 _ _ _
      refine k_n1 ?_
      exact absurd hc2970 (k_dL_ne_nxlt hp1415 (by decide))
     ·
      have hr3089 : v2987 = v640 - v638 := by rw [h2988, hv2945, hv1414]; exact k_s2 _ _ _
      refine k_n1 ?_
      refine k_istore X2946 hx 137 (D at_135) (Ls' := #[iv i0, jv i1, s_, jv i2, s_, jv i3, s_, jv i4, s_, jv v3, s_, jv v7, s_, jv v11, s_, iv 2, jv v637, s_, jv v638, s_, jv v639, s_, jv v640, s_, rv b641, iv 1, iv 1, iv 0, u_, u_, u_, u_, u_, u_, u_, u_, u_, u_, u_, u_]) rfl ?_
      refine key746 T2946 _ _ _ (1 : Int32) (1 : Int32) (0 : Int32) X2946 N2946' (Z3007) (by decide) (by decide) ?_
      have q3090 : 1 <= v7.toInt := kL_ge hp747 (by decide)
      have q3091 := kL_m hc774
      have q3093 : v768.toInt = v3.toInt := k_l2ix h773 B708 (by decide) (by decide)
      have B3092 : (1 : Int) <= v768.toInt /\ v768.toInt <= 8 := (by rw [q3093]; exact B708)
      have B3094 : (1 : Int) <= v768.toInt /\ v768.toInt <= 1 := ⟨B3092.1, k_le hc1574 (by decide)⟩
      have q3095 : 1 <= v11.toInt := kL_ge hp1415 (by decide)
      have q3097 : v1570.toInt = v638.toInt := (by rw [hr2944])
      have B3096 : (-2305843009213693952 : Int) <= v1570.toInt /\ v1570.toInt <= 2305843009213693951 := (by rw [q3097]; exact B738)
      have B3098 : (1 : Int) <= v1570.toInt /\ v1570.toInt <= 2305843009213693951 := ⟨kL_gt hc1572 (by decide), B3096.2⟩
      have q3099 := kL_m hc1573
      have q3100 := kL_m hc1575
      have q3102 : v2987.toInt = v640.toInt - v638.toInt := k_lsubx hr3089 B741 B738 (by decide) (by decide)
      have B3101 : (-6917529027641081855 : Int) <= v2987.toInt /\ v2987.toInt <= 6917529027641081854 := k_subB' q3102 B741 B738
      have B3103 : (1 : Int) <= v2987.toInt /\ v2987.toInt <= 6917529027641081854 := ⟨kL_gt hc2989 (by decide), B3101.2⟩
      have q3104 := kL_p hc2990
      have B3105 : (0 : Int) <= (0 : Int64).toInt /\ (0 : Int64).toInt <= 0 := (by decide)
      have q3106 : ¬ v11.toInt = (0 : Int64).toInt := fun q => hc2991 (Int64.toInt_inj.mp q)
      refine ⟨?_, ?_, ?_⟩ <;> omega
     ·
      have hr3107 : v3008 = v640 - v638 := by rw [h3009, hv2945, hv1414]; exact k_s2 _ _ _
      refine k_n1 ?_
      exact absurd hc3012 (k_dL_ne_nxlt hp1415 (by decide))
     ·
      have hr3108 : v3029 = v640 - v638 := by rw [h3030, hv2945, hv1414]; exact k_s2 _ _ _
      refine k_n1 ?_
      refine k_istore X2946 hx 137 (D at_135) (Ls' := #[iv i0, jv i1, s_, jv i2, s_, jv i3, s_, jv i4, s_, jv v3, s_, jv v7, s_, jv v11, s_, iv 2, jv v637, s_, jv v638, s_, jv v639, s_, jv v640, s_, rv b641, iv 1, iv 1, iv 1, u_, u_, u_, u_, u_, u_, u_, u_, u_, u_, u_, u_]) rfl ?_
      refine key746 T2946 _ _ _ (1 : Int32) (1 : Int32) (1 : Int32) X2946 N2946' (Z3049) (by decide) (by decide) ?_
      have q3109 : 1 <= v7.toInt := kL_ge hp747 (by decide)
      have q3110 := kL_m hc774
      have q3112 : v768.toInt = v3.toInt := k_l2ix h773 B708 (by decide) (by decide)
      have B3111 : (1 : Int) <= v768.toInt /\ v768.toInt <= 8 := (by rw [q3112]; exact B708)
      have B3113 : (1 : Int) <= v768.toInt /\ v768.toInt <= 1 := ⟨B3111.1, k_le hc1574 (by decide)⟩
      have q3114 : 1 <= v11.toInt := kL_ge hp1415 (by decide)
      have q3116 : v1570.toInt = v638.toInt := (by rw [hr2944])
      have B3115 : (-2305843009213693952 : Int) <= v1570.toInt /\ v1570.toInt <= 2305843009213693951 := (by rw [q3116]; exact B738)
      have B3117 : (1 : Int) <= v1570.toInt /\ v1570.toInt <= 2305843009213693951 := ⟨kL_gt hc1572 (by decide), B3115.2⟩
      have q3118 := kL_m hc1573
      have q3119 := kL_m hc1575
      have q3121 : v3029.toInt = v640.toInt - v638.toInt := k_lsubx hr3108 B741 B738 (by decide) (by decide)
      have B3120 : (-6917529027641081855 : Int) <= v3029.toInt /\ v3029.toInt <= 6917529027641081854 := k_subB' q3121 B741 B738
      have B3122 : (1 : Int) <= v3029.toInt /\ v3029.toInt <= 6917529027641081854 := ⟨kL_gt hc3031 (by decide), B3120.2⟩
      have q3123 := kL_m hc3032
      refine ⟨?_, ?_, ?_⟩ <;> omega
     ·
      have hr3124 : v3050 = v640 - v638 := by rw [h3051, hv2945, hv1414]; exact k_s2 _ _ _
      refine k_n1 ?_
      exact absurd hc3054 hc1574
    ·
     have hr3125 : v1592 = v638 := by rw [h1593, hv1414]; exact k_s1 _ _
     refine k_n1 ?_
     refine k_istore X1422 hx 126 (D at_124) (Ls' := #[iv i0, jv i1, s_, jv i2, s_, jv i3, s_, jv i4, s_, jv v3, s_, jv v7, s_, jv v11, s_, iv 2, jv v637, s_, jv v638, s_, jv v639, s_, jv v640, s_, rv b641, iv 1, iv 0, u_, u_, u_, u_, u_, u_, u_, u_, u_, u_, u_, u_, u_]) rfl ?_
     refine k_aload X1422 hx 128 (D at_126) rfl rfl ?_
     refine k_lloadN X1422 hx 129 (D at_128) rfl ?_
     refine k_lload X1422 hx 131 (D at_129) rfl ?_
     refine k_ladd X1422 hx 132 (D at_131) (fun v3126 hv3126 => ?_)
     have hp3127 : ¬ v768 < (2 : Int32) := by
      intro hq3128
      have q3129 : 1 <= v7.toInt := kL_ge hp747 (by decide)
      have q3130 := kL_m hc774
      have q3132 : v768.toInt = v3.toInt := k_l2ix h773 B708 (by decide) (by decide)
      have B3131 : (2 : Int) <= v768.toInt /\ v768.toInt <= 1 := ⟨k_gt hc1596 (by decide), k_lt hq3128 (by decide)⟩
      have q3133 : 1 <= v11.toInt := kL_ge hp1415 (by decide)
      have q3135 : v1592.toInt = v638.toInt := (by rw [hr3125])
      have B3134 : (-2305843009213693952 : Int) <= v1592.toInt /\ v1592.toInt <= 2305843009213693951 := (by rw [q3135]; exact B738)
      have B3136 : (1 : Int) <= v1592.toInt /\ v1592.toInt <= 2305843009213693951 := ⟨kL_gt hc1594 (by decide), B3134.2⟩
      have q3137 := kL_m hc1595
      have q3138 := kL_p hc1597
      omega
     refine k_callV X1422 hx hZ hown 135 (a := b641) (k_w hw 39 rfl) (k_w hw 40 rfl) (k_w hw 42 rfl) (k_w hw 41 rfl) (k_w hw 7 rfl) (k_w hw 43 rfl) (by decide) F1598 (rm6_71 l Z a0 hw [] b641 b684 b769 b771 v3126 v3 v637 v1414 i2 v7 k770 k772 v768 T1422.heap n0 Z1613 ⟨F1598, F1599, F1600⟩ g_b641 ⟨F1601, F1602, F1603, F1604, F1605, F1606, F1607, F1608, F1609, F1610⟩ g_b684 F1611 g_b769 F1612 g_b771 lt704 (Nat.lt_trans (Nat.lt_trans lt705 lt706) lt794) lt795 hp644 hp655 hp666 hp3127 hc776 h773) (by decide) (by decide) rfl (by rw [hml]; rfl) (argsL := [(.long v3126)]) (rest := []) (lenOf pd_5 rfl) rfl (W := 0) (Nat.le_refl _) rfl (D at_132) (by decide) (by decide) (fun T3139 L3139 r3139 X3139 q3139 => ?_)
     obtain ⟨N3139, q3139⟩ := q3139
     have N3139' := Fr.app N1422' N3139
     rcases q3139 with ⟨v3140, h3141, hc3142, rfl, ⟨F3143, F3144, F3145⟩, ⟨F3146, F3147, F3148, F3149, F3150, F3151, F3152, F3153, F3154, F3155⟩, F3156, F3157, Z3158⟩ | ⟨v3159, h3160, hc3161, rfl, ⟨F3162, F3163, F3164⟩, ⟨F3165, F3166, F3167, F3168, F3169, F3170, F3171, F3172, F3173, F3174⟩, F3175, F3176, Z3177⟩
     ·
      have hr3178 : v3140 = v640 - v638 := by rw [h3141, hv3126, hv1414]; exact k_s2 _ _ _
      refine k_n1 ?_
      refine k_istore X3139 hx 137 (D at_135) (Ls' := #[iv i0, jv i1, s_, jv i2, s_, jv i3, s_, jv i4, s_, jv v3, s_, jv v7, s_, jv v11, s_, iv 2, jv v637, s_, jv v638, s_, jv v639, s_, jv v640, s_, rv b641, iv 1, iv 0, iv 1, u_, u_, u_, u_, u_, u_, u_, u_, u_, u_, u_, u_]) rfl ?_
      refine key746 T3139 _ _ _ (1 : Int32) (0 : Int32) (1 : Int32) X3139 N3139' (Z3158) (by decide) (by decide) ?_
      have q3179 : 1 <= v7.toInt := kL_ge hp747 (by decide)
      have q3180 := kL_m hc774
      have q3182 : v768.toInt = v3.toInt := k_l2ix h773 B708 (by decide) (by decide)
      have B3181 : (1 : Int) <= v768.toInt /\ v768.toInt <= 8 := (by rw [q3182]; exact B708)
      have B3183 : (2 : Int) <= v768.toInt /\ v768.toInt <= 8 := ⟨k_gt hc1596 (by decide), B3181.2⟩
      have q3184 : 1 <= v11.toInt := kL_ge hp1415 (by decide)
      have q3186 : v1592.toInt = v638.toInt := (by rw [hr3125])
      have B3185 : (-2305843009213693952 : Int) <= v1592.toInt /\ v1592.toInt <= 2305843009213693951 := (by rw [q3186]; exact B738)
      have B3187 : (1 : Int) <= v1592.toInt /\ v1592.toInt <= 2305843009213693951 := ⟨kL_gt hc1594 (by decide), B3185.2⟩
      have q3188 := kL_m hc1595
      have q3189 := kL_p hc1597
      have q3191 : v3140.toInt = v640.toInt - v638.toInt := k_lsubx hr3178 B741 B738 (by decide) (by decide)
      have B3190 : (-6917529027641081855 : Int) <= v3140.toInt /\ v3140.toInt <= 6917529027641081854 := k_subB' q3191 B741 B738
      have B3192 : (-6917529027641081855 : Int) <= v3140.toInt /\ v3140.toInt <= 0 := ⟨B3190.1, kL_le hc3142 (by decide)⟩
      refine ⟨?_, ?_, ?_⟩ <;> omega
     ·
      have hr3193 : v3159 = v640 - v638 := by rw [h3160, hv3126, hv1414]; exact k_s2 _ _ _
      refine k_n1 ?_
      refine k_istore X3139 hx 137 (D at_135) (Ls' := #[iv i0, jv i1, s_, jv i2, s_, jv i3, s_, jv i4, s_, jv v3, s_, jv v7, s_, jv v11, s_, iv 2, jv v637, s_, jv v638, s_, jv v639, s_, jv v640, s_, rv b641, iv 1, iv 0, iv 1, u_, u_, u_, u_, u_, u_, u_, u_, u_, u_, u_, u_]) rfl ?_
      refine key746 T3139 _ _ _ (1 : Int32) (0 : Int32) (1 : Int32) X3139 N3139' (Z3177) (by decide) (by decide) ?_
      have q3194 : 1 <= v7.toInt := kL_ge hp747 (by decide)
      have q3195 := kL_m hc774
      have q3197 : v768.toInt = v3.toInt := k_l2ix h773 B708 (by decide) (by decide)
      have B3196 : (1 : Int) <= v768.toInt /\ v768.toInt <= 8 := (by rw [q3197]; exact B708)
      have B3198 : (2 : Int) <= v768.toInt /\ v768.toInt <= 8 := ⟨k_gt hc1596 (by decide), B3196.2⟩
      have q3199 : 1 <= v11.toInt := kL_ge hp1415 (by decide)
      have q3201 : v1592.toInt = v638.toInt := (by rw [hr3125])
      have B3200 : (-2305843009213693952 : Int) <= v1592.toInt /\ v1592.toInt <= 2305843009213693951 := (by rw [q3201]; exact B738)
      have B3202 : (1 : Int) <= v1592.toInt /\ v1592.toInt <= 2305843009213693951 := ⟨kL_gt hc1594 (by decide), B3200.2⟩
      have q3203 := kL_m hc1595
      have q3204 := kL_p hc1597
      have q3206 : v3159.toInt = v640.toInt - v638.toInt := k_lsubx hr3193 B741 B738 (by decide) (by decide)
      have B3205 : (-6917529027641081855 : Int) <= v3159.toInt /\ v3159.toInt <= 6917529027641081854 := k_subB' q3206 B741 B738
      have B3207 : (1 : Int) <= v3159.toInt /\ v3159.toInt <= 6917529027641081854 := ⟨kL_gt hc3161 (by decide), B3205.2⟩
      refine ⟨?_, ?_, ?_⟩ <;> omega
    ·
     have hr3208 : v1614 = v638 := by rw [h1615, hv1414]; exact k_s1 _ _
     refine k_n1 ?_
     refine k_istore X1422 hx 126 (D at_124) (Ls' := #[iv i0, jv i1, s_, jv i2, s_, jv i3, s_, jv i4, s_, jv v3, s_, jv v7, s_, jv v11, s_, iv 2, jv v637, s_, jv v638, s_, jv v639, s_, jv v640, s_, rv b641, iv 1, iv 1, u_, u_, u_, u_, u_, u_, u_, u_, u_, u_, u_, u_, u_]) rfl ?_
     refine k_aload X1422 hx 128 (D at_126) rfl rfl ?_
     refine k_lloadN X1422 hx 129 (D at_128) rfl ?_
     refine k_lload X1422 hx 131 (D at_129) rfl ?_
     refine k_ladd X1422 hx 132 (D at_131) (fun v3209 hv3209 => ?_)
     refine k_callV X1422 hx hZ hown 135 (a := b641) (k_w hw 39 rfl) (k_w hw 40 rfl) (k_w hw 42 rfl) (k_w hw 41 rfl) (k_w hw 7 rfl) (k_w hw 43 rfl) (by decide) F1621 (rm6_75 l Z a0 hw [] b641 b684 b769 b771 v3209 v3 v637 v1414 v11 i2 v7 k770 k772 v768 T1422.heap n0 Z1636 ⟨F1621, F1622, F1623⟩ g_b641 ⟨F1624, F1625, F1626, F1627, F1628, F1629, F1630, F1631, F1632, F1633⟩ g_b684 F1634 g_b769 F1635 g_b771 lt704 (Nat.lt_trans (Nat.lt_trans lt705 lt706) lt794) lt795 hp644 hp655 hp666 hc1620 hc776 h773) (by decide) (by decide) rfl (by rw [hml]; rfl) (argsL := [(.long v3209)]) (rest := []) (lenOf pd_5 rfl) rfl (W := 0) (Nat.le_refl _) rfl (D at_132) (by decide) (by decide) (fun T3210 L3210 r3210 X3210 q3210 => ?_)
     obtain ⟨N3210, q3210⟩ := q3210
     have N3210' := Fr.app N1422' N3210
     rcases q3210 with ⟨v3211, h3212, hc3213, hc3214, rfl, ⟨F3215, F3216, F3217⟩, ⟨F3218, F3219, F3220, F3221, F3222, F3223, F3224, F3225, F3226, F3227⟩, F3228, F3229, Z3230⟩ | ⟨v3231, h3232, hc3233, hc3234, rfl, ⟨F3235, F3236, F3237⟩, ⟨F3238, F3239, F3240, F3241, F3242, F3243, F3244, F3245, F3246, F3247⟩, F3248, F3249, Z3250⟩ | ⟨v3251, h3252, hc3253, hc3254, hc3255, rfl, ⟨F3256, F3257, F3258⟩, ⟨F3259, F3260, F3261, F3262, F3263, F3264, F3265, F3266, F3267, F3268⟩, F3269, F3270, Z3271⟩ | ⟨v3272, h3273, hc3274, hc3275, hc3276, rfl, ⟨F3277, F3278, F3279⟩, ⟨F3280, F3281, F3282, F3283, F3284, F3285, F3286, F3287, F3288, F3289⟩, F3290, F3291, Z3292⟩ | ⟨v3293, h3294, hc3295, hc3296, hc3297, rfl, ⟨F3298, F3299, F3300⟩, ⟨F3301, F3302, F3303, F3304, F3305, F3306, F3307, F3308, F3309, F3310⟩, F3311, F3312, Z3313⟩ | ⟨v3314, h3315, hc3316, hc3317, hc3318, rfl, ⟨F3319, F3320, F3321⟩, ⟨F3322, F3323, F3324, F3325, F3326, F3327, F3328, F3329, F3330, F3331⟩, F3332, F3333, Z3334⟩
     ·
      have hr3335 : v3211 = v640 - v638 := by rw [h3212, hv3209, hv1414]; exact k_s2 _ _ _
      refine k_n1 ?_
      refine k_istore X3210 hx 137 (D at_135) (Ls' := #[iv i0, jv i1, s_, jv i2, s_, jv i3, s_, jv i4, s_, jv v3, s_, jv v7, s_, jv v11, s_, iv 2, jv v637, s_, jv v638, s_, jv v639, s_, jv v640, s_, rv b641, iv 1, iv 1, iv 0, u_, u_, u_, u_, u_, u_, u_, u_, u_, u_, u_, u_]) rfl ?_
      refine key746 T3210 _ _ _ (1 : Int32) (1 : Int32) (0 : Int32) X3210 N3210' (Z3230) (by decide) (by decide) ?_
      have q3336 : 1 <= v7.toInt := kL_ge hp747 (by decide)
      have q3337 := kL_m hc774
      have q3339 : v768.toInt = v3.toInt := k_l2ix h773 B708 (by decide) (by decide)
      have B3338 : (1 : Int) <= v768.toInt /\ v768.toInt <= 8 := (by rw [q3339]; exact B708)
      have B3340 : (2 : Int) <= v768.toInt /\ v768.toInt <= 8 := ⟨k_gt hc1618 (by decide), B3338.2⟩
      have q3341 : 1 <= v11.toInt := kL_ge hp1415 (by decide)
      have q3343 : v1614.toInt = v638.toInt := (by rw [hr3208])
      have B3342 : (-2305843009213693952 : Int) <= v1614.toInt /\ v1614.toInt <= 2305843009213693951 := (by rw [q3343]; exact B738)
      have B3344 : (1 : Int) <= v1614.toInt /\ v1614.toInt <= 2305843009213693951 := ⟨kL_gt hc1616 (by decide), B3342.2⟩
      have q3345 := kL_m hc1617
      have q3346 := kL_m hc1619
      have q3348 : v3211.toInt = v640.toInt - v638.toInt := k_lsubx hr3335 B741 B738 (by decide) (by decide)
      have B3347 : (-6917529027641081855 : Int) <= v3211.toInt /\ v3211.toInt <= 6917529027641081854 := k_subB' q3348 B741 B738
      have B3349 : (-6917529027641081855 : Int) <= v3211.toInt /\ v3211.toInt <= 0 := ⟨B3347.1, kL_le hc3213 (by decide)⟩
      have B3350 : (0 : Int) <= (0 : Int64).toInt /\ (0 : Int64).toInt <= 0 := (by decide)
      have q3351 : ¬ v11.toInt = (0 : Int64).toInt := fun q => hc3214 (Int64.toInt_inj.mp q)
      refine ⟨?_, ?_, ?_⟩ <;> omega
     ·
      have hr3352 : v3231 = v640 - v638 := by rw [h3232, hv3209, hv1414]; exact k_s2 _ _ _
      refine k_n1 ?_
      exact absurd hc3234 (k_dL_ne_nxlt hp1415 (by decide))
     ·
      have hr3353 : v3251 = v640 - v638 := by rw [h3252, hv3209, hv1414]; exact k_s2 _ _ _
      refine k_n1 ?_
      refine k_istore X3210 hx 137 (D at_135) (Ls' := #[iv i0, jv i1, s_, jv i2, s_, jv i3, s_, jv i4, s_, jv v3, s_, jv v7, s_, jv v11, s_, iv 2, jv v637, s_, jv v638, s_, jv v639, s_, jv v640, s_, rv b641, iv 1, iv 1, iv 0, u_, u_, u_, u_, u_, u_, u_, u_, u_, u_, u_, u_]) rfl ?_
      refine key746 T3210 _ _ _ (1 : Int32) (1 : Int32) (0 : Int32) X3210 N3210' (Z3271) (by decide) (by decide) ?_
      have q3354 : 1 <= v7.toInt := kL_ge hp747 (by decide)
      have q3355 := kL_m hc774
      have q3357 : v768.toInt = v3.toInt := k_l2ix h773 B708 (by decide) (by decide)
      have B3356 : (1 : Int) <= v768.toInt /\ v768.toInt <= 8 := (by rw [q3357]; exact B708)
      have B3358 : (2 : Int) <= v768.toInt /\ v768.toInt <= 8 := ⟨k_gt hc1618 (by decide), B3356.2⟩
      have q3359 : 1 <= v11.toInt := kL_ge hp1415 (by decide)
      have q3361 : v1614.toInt = v638.toInt := (by rw [hr3208])
      have B3360 : (-2305843009213693952 : Int) <= v1614.toInt /\ v1614.toInt <= 2305843009213693951 := (by rw [q3361]; exact B738)
      have B3362 : (1 : Int) <= v1614.toInt /\ v1614.toInt <= 2305843009213693951 := ⟨kL_gt hc1616 (by decide), B3360.2⟩
      have q3363 := kL_m hc1617
      have q3364 := kL_m hc1619
      have q3366 : v3251.toInt = v640.toInt - v638.toInt := k_lsubx hr3353 B741 B738 (by decide) (by decide)
      have B3365 : (-6917529027641081855 : Int) <= v3251.toInt /\ v3251.toInt <= 6917529027641081854 := k_subB' q3366 B741 B738
      have B3367 : (1 : Int) <= v3251.toInt /\ v3251.toInt <= 6917529027641081854 := ⟨kL_gt hc3253 (by decide), B3365.2⟩
      have q3368 := kL_p hc3254
      have B3369 : (0 : Int) <= (0 : Int64).toInt /\ (0 : Int64).toInt <= 0 := (by decide)
      have q3370 : ¬ v11.toInt = (0 : Int64).toInt := fun q => hc3255 (Int64.toInt_inj.mp q)
      refine ⟨?_, ?_, ?_⟩ <;> omega
     ·
      have hr3371 : v3272 = v640 - v638 := by rw [h3273, hv3209, hv1414]; exact k_s2 _ _ _
      refine k_n1 ?_
      exact absurd hc3276 (k_dL_ne_nxlt hp1415 (by decide))
     ·
      have hr3372 : v3293 = v640 - v638 := by rw [h3294, hv3209, hv1414]; exact k_s2 _ _ _
      refine k_n1 ?_
      refine k_istore X3210 hx 137 (D at_135) (Ls' := #[iv i0, jv i1, s_, jv i2, s_, jv i3, s_, jv i4, s_, jv v3, s_, jv v7, s_, jv v11, s_, iv 2, jv v637, s_, jv v638, s_, jv v639, s_, jv v640, s_, rv b641, iv 1, iv 1, iv 1, u_, u_, u_, u_, u_, u_, u_, u_, u_, u_, u_, u_]) rfl ?_
      refine key746 T3210 _ _ _ (1 : Int32) (1 : Int32) (1 : Int32) X3210 N3210' (Z3313) (by decide) (by decide) ?_
      have q3373 : 1 <= v7.toInt := kL_ge hp747 (by decide)
      have q3374 := kL_m hc774
      have q3376 : v768.toInt = v3.toInt := k_l2ix h773 B708 (by decide) (by decide)
      have B3375 : (2 : Int) <= v768.toInt /\ v768.toInt <= 2 := ⟨k_gt hc1618 (by decide), k_le hc3297 (by decide)⟩
      have q3377 : 1 <= v11.toInt := kL_ge hp1415 (by decide)
      have q3379 : v1614.toInt = v638.toInt := (by rw [hr3208])
      have B3378 : (-2305843009213693952 : Int) <= v1614.toInt /\ v1614.toInt <= 2305843009213693951 := (by rw [q3379]; exact B738)
      have B3380 : (1 : Int) <= v1614.toInt /\ v1614.toInt <= 2305843009213693951 := ⟨kL_gt hc1616 (by decide), B3378.2⟩
      have q3381 := kL_m hc1617
      have q3382 := kL_m hc1619
      have q3384 : v3293.toInt = v640.toInt - v638.toInt := k_lsubx hr3372 B741 B738 (by decide) (by decide)
      have B3383 : (-6917529027641081855 : Int) <= v3293.toInt /\ v3293.toInt <= 6917529027641081854 := k_subB' q3384 B741 B738
      have B3385 : (1 : Int) <= v3293.toInt /\ v3293.toInt <= 6917529027641081854 := ⟨kL_gt hc3295 (by decide), B3383.2⟩
      have q3386 := kL_m hc3296
      refine ⟨?_, ?_, ?_⟩ <;> omega
     ·
      have hr3387 : v3314 = v640 - v638 := by rw [h3315, hv3209, hv1414]; exact k_s2 _ _ _
      refine k_n1 ?_
      refine k_istore X3210 hx 137 (D at_135) (Ls' := #[iv i0, jv i1, s_, jv i2, s_, jv i3, s_, jv i4, s_, jv v3, s_, jv v7, s_, jv v11, s_, iv 2, jv v637, s_, jv v638, s_, jv v639, s_, jv v640, s_, rv b641, iv 1, iv 1, iv 1, u_, u_, u_, u_, u_, u_, u_, u_, u_, u_, u_, u_]) rfl ?_
      refine key746 T3210 _ _ _ (1 : Int32) (1 : Int32) (1 : Int32) X3210 N3210' (Z3334) (by decide) (by decide) ?_
      have q3388 : 1 <= v7.toInt := kL_ge hp747 (by decide)
      have q3389 := kL_m hc774
      have q3391 : v768.toInt = v3.toInt := k_l2ix h773 B708 (by decide) (by decide)
      have B3390 : (1 : Int) <= v768.toInt /\ v768.toInt <= 8 := (by rw [q3391]; exact B708)
      have B3392 : (3 : Int) <= v768.toInt /\ v768.toInt <= 8 := ⟨k_gt hc3318 (by decide), B3390.2⟩
      have q3393 : 1 <= v11.toInt := kL_ge hp1415 (by decide)
      have q3395 : v1614.toInt = v638.toInt := (by rw [hr3208])
      have B3394 : (-2305843009213693952 : Int) <= v1614.toInt /\ v1614.toInt <= 2305843009213693951 := (by rw [q3395]; exact B738)
      have B3396 : (1 : Int) <= v1614.toInt /\ v1614.toInt <= 2305843009213693951 := ⟨kL_gt hc1616 (by decide), B3394.2⟩
      have q3397 := kL_m hc1617
      have q3398 := kL_m hc1619
      have q3400 : v3314.toInt = v640.toInt - v638.toInt := k_lsubx hr3387 B741 B738 (by decide) (by decide)
      have B3399 : (-6917529027641081855 : Int) <= v3314.toInt /\ v3314.toInt <= 6917529027641081854 := k_subB' q3400 B741 B738
      have B3401 : (1 : Int) <= v3314.toInt /\ v3314.toInt <= 6917529027641081854 := ⟨kL_gt hc3316 (by decide), B3399.2⟩
      have q3402 := kL_m hc3317
      refine ⟨?_, ?_, ?_⟩ <;> omega
  intro T3403 lo3403 ce3403 sl3403 v3404 v3405 v3406 X3403 N3403 Z3403 hce3403 hsl3403 hP3407
  refine k_iload X3403 hx 139 (D at_137) rfl ?_
  refine k_iconst X3403 hx 140 (D at_139) (z := (1 : Int32)) rfl ?_
  refine k_icmp_lt X3403 hx 143 155 (D at_140) (fun hc => absurd hc (by decide)) (fun _ => ?_)
  refine k_lload X3403 hx 145 (D at_143) rfl ?_
  refine k_lload X3403 hx 147 (D at_145) rfl ?_
  refine k_lcif_gt X3403 hx 151 155 148 (D at_147) (D at_148) (fun hc3408 => ?_) (fun hc3408 => ?_)
  ·
   refine k_iconst X3403 hx 156 (D at_155) (z := (0 : Int32)) rfl ?_
   refine k_istore X3403 hx 158 (D at_156) (Ls' := #[iv i0, jv i1, s_, jv i2, s_, jv i3, s_, jv i4, s_, jv v3, s_, jv v7, s_, jv v11, s_, iv 2, jv v637, s_, jv v638, s_, jv v639, s_, jv v640, s_, rv b641, iv v3404, iv v3405, iv v3406, iv 0, u_, u_, u_, u_, u_, u_, u_, u_, u_, u_, u_]) rfl ?_
   refine k_iload X3403 hx 160 (D at_158) rfl ?_
   refine k_iconst X3403 hx 161 (D at_160) (z := (2 : Int32)) rfl ?_
   refine k_icmp_lt X3403 hx 164 173 (D at_161) (fun hc => absurd hc (by decide)) (fun _ => ?_)
   refine k_lconst X3403 hx 165 (D at_164) (z := (0 : Int64)) rfl ?_
   refine k_lload X3403 hx 167 (D at_165) rfl ?_
   refine k_callS X3403 hx hZ hown 170 (k_w hw 1 rfl) (k_w hw 2 rfl) (k_w hw 3 rfl) (k_w hw 4 rfl) (by decide) (rm1_9 l Z a0 hw [] v638 T3403.heap n0 Z3403 ) (by decide) (by decide) rfl (by rw [hml]; rfl) (argsL := [(.long 0), (.long v638)]) (rest := []) (lenOf pd_0 rfl) rfl (W := 0) (Nat.le_refl _) rfl (D at_167) (by show _ + 0 <= _; exact Nat.le_trans hce3403 (by decide)) (by show _ + 0 <= _; exact Nat.le_trans hsl3403 (by decide)) (fun T3409 L3409 r3409 X3409 q3409 => ?_)
   obtain ⟨N3409, e3409, rfl⟩ := q3409
   have N3409' := Fr.app N3403 N3409
   show KEnds p e below s _ _ _ T3409 (mkF m 170 #[iv i0, jv i1, s_, jv i2, s_, jv i3, s_, jv i4, s_, jv v3, s_, jv v7, s_, jv v11, s_, iv 2, jv v637, s_, jv v638, s_, jv v639, s_, jv v640, s_, rv b641, iv v3404, iv v3405, iv v3406, iv 0, u_, u_, u_, u_, u_, u_, u_, u_, u_, u_, u_] ((.long (f1_9 v638)) :: []))
   obtain ⟨v3410, hv3410⟩ : ∃ z, z = f1_9 v638 := ⟨_, rfl⟩
   rw [← hv3410]
   refine k_goto X3409 hx 174 (D at_170) ?_
   refine k_lstore X3409 hx 176 (D at_174) (Ls' := #[iv i0, jv i1, s_, jv i2, s_, jv i3, s_, jv i4, s_, jv v3, s_, jv v7, s_, jv v11, s_, iv 2, jv v637, s_, jv v638, s_, jv v639, s_, jv v640, s_, rv b641, iv v3404, iv v3405, iv v3406, iv 0, jv v3410, s_, u_, u_, u_, u_, u_, u_, u_, u_, u_]) rfl ?_
   refine k_iload X3409 hx 178 (D at_176) rfl ?_
   refine k_if_eq X3409 hx 181 193 (D at_178) (fun _ => ?_) (fun hc => absurd (by decide) hc)
   refine k_iconst X3409 hx 194 (D at_193) (z := (0 : Int32)) rfl ?_
   refine k_istore X3409 hx 196 (D at_194) (Ls' := #[iv i0, jv i1, s_, jv i2, s_, jv i3, s_, jv i4, s_, jv v3, s_, jv v7, s_, jv v11, s_, iv 2, jv v637, s_, jv v638, s_, jv v639, s_, jv v640, s_, rv b641, iv v3404, iv v3405, iv v3406, iv 0, jv v3410, s_, iv 0, u_, u_, u_, u_, u_, u_, u_, u_]) rfl ?_
   refine k_iload X3409 hx 198 (D at_196) rfl ?_
   refine k_if_eq X3409 hx 201 206 (D at_198) (fun _ => ?_) (fun hc => absurd (by decide) hc)
   refine k_lconst X3409 hx 207 (D at_206) (z := (0 : Int64)) rfl ?_
   refine k_lstore X3409 hx 209 (D at_207) (Ls' := #[iv i0, jv i1, s_, jv i2, s_, jv i3, s_, jv i4, s_, jv v3, s_, jv v7, s_, jv v11, s_, iv 2, jv v637, s_, jv v638, s_, jv v639, s_, jv v640, s_, rv b641, iv v3404, iv v3405, iv v3406, iv 0, jv v3410, s_, iv 0, jv 0, s_, u_, u_, u_, u_, u_, u_]) rfl ?_
   refine k_iload X3409 hx 211 (D at_209) rfl ?_
   refine k_iconst X3409 hx 212 (D at_211) (z := (2 : Int32)) rfl ?_
   refine k_icmp_lt X3409 hx 215 230 (D at_212) (fun hc => absurd hc (by decide)) (fun _ => ?_)
   refine k_lload X3409 hx 217 (D at_215) rfl ?_
   refine k_lload X3409 hx 219 (D at_217) rfl ?_
   refine k_lload X3409 hx 221 (D at_219) rfl ?_
   refine k_lsubL X3409 hx 222 (D at_221) (z := v3) (Int64.sub_zero _) ?_
   refine k_lcif_gt X3409 hx 226 230 223 (D at_222) (D at_223) (fun hc3411 => ?_) (fun hc3411 => ?_)
   ·
    refine k_iconst X3409 hx 231 (D at_230) (z := (0 : Int32)) rfl ?_
    refine k_istore X3409 hx 233 (D at_231) (Ls' := #[iv i0, jv i1, s_, jv i2, s_, jv i3, s_, jv i4, s_, jv v3, s_, jv v7, s_, jv v11, s_, iv 2, jv v637, s_, jv v638, s_, jv v639, s_, jv v640, s_, rv b641, iv v3404, iv v3405, iv v3406, iv 0, jv v3410, s_, iv 0, jv 0, s_, iv 0, u_, u_, u_, u_, u_]) rfl ?_
    refine k_lload X3409 hx 235 (D at_233) rfl ?_
    refine k_lload X3409 hx 237 (D at_235) rfl ?_
    refine k_callS X3409 hx hZ hown 240 (k_w hw 1 rfl) (k_w hw 2 rfl) (k_w hw 3 rfl) (k_w hw 4 rfl) (by decide) (rm1_81 l Z a0 hw [] v3410 v640 T3403.heap n0 Z3403 ) (by decide) (by decide) e3409 (by rw [hml]; rfl) (argsL := [(.long v3410), (.long v640)]) (rest := []) (lenOf pd_0 rfl) rfl (W := 0) (Nat.le_refl _) rfl (D at_237) (by show _ + 0 <= _; exact Nat.le_trans hce3403 (by decide)) (by show _ + 0 <= _; exact Nat.le_trans hsl3403 (by decide)) (fun T3412 L3412 r3412 X3412 q3412 => ?_)
    obtain ⟨N3412, e3412, rfl⟩ := q3412
    have N3412' := Fr.app N3409' N3412
    show KEnds p e below s _ _ _ T3412 (mkF m 240 #[iv i0, jv i1, s_, jv i2, s_, jv i3, s_, jv i4, s_, jv v3, s_, jv v7, s_, jv v11, s_, iv 2, jv v637, s_, jv v638, s_, jv v639, s_, jv v640, s_, rv b641, iv v3404, iv v3405, iv v3406, iv 0, jv v3410, s_, iv 0, jv 0, s_, iv 0, u_, u_, u_, u_, u_] ((.long (f1_81 v3410 v640)) :: []))
    obtain ⟨v3413, hv3413⟩ : ∃ z, z = f1_81 v3410 v640 := ⟨_, rfl⟩
    rw [← hv3413]
    refine k_lstore X3412 hx 242 (D at_240) (Ls' := #[iv i0, jv i1, s_, jv i2, s_, jv i3, s_, jv i4, s_, jv v3, s_, jv v7, s_, jv v11, s_, iv 2, jv v637, s_, jv v638, s_, jv v639, s_, jv v640, s_, rv b641, iv v3404, iv v3405, iv v3406, iv 0, jv v3410, s_, iv 0, jv 0, s_, iv 0, jv v3413, s_, u_, u_, u_]) rfl ?_
    refine k_iload X3412 hx 244 (D at_242) rfl ?_
    refine k_if_eq X3412 hx 247 259 (D at_244) (fun _ => ?_) (fun hc => absurd (by decide) hc)
    refine k_iconst X3412 hx 260 (D at_259) (z := (0 : Int32)) rfl ?_
    refine k_istore X3412 hx 262 (D at_260) (Ls' := #[iv i0, jv i1, s_, jv i2, s_, jv i3, s_, jv i4, s_, jv v3, s_, jv v7, s_, jv v11, s_, iv 2, jv v637, s_, jv v638, s_, jv v639, s_, jv v640, s_, rv b641, iv v3404, iv v3405, iv v3406, iv 0, jv v3410, s_, iv 0, jv 0, s_, iv 0, jv v3413, s_, iv 0, u_, u_]) rfl ?_
    refine k_iload X3412 hx 264 (D at_262) rfl ?_
    refine k_if_eq X3412 hx 267 282 (D at_264) (fun _ => ?_) (fun hc => absurd (by decide) hc)
    refine k_iconst X3412 hx 283 (D at_282) (z := (0 : Int32)) rfl ?_
    refine k_istore X3412 hx 285 (D at_283) (Ls' := #[iv i0, jv i1, s_, jv i2, s_, jv i3, s_, jv i4, s_, jv v3, s_, jv v7, s_, jv v11, s_, iv 2, jv v637, s_, jv v638, s_, jv v639, s_, jv v640, s_, rv b641, iv v3404, iv v3405, iv v3406, iv 0, jv v3410, s_, iv 0, jv 0, s_, iv 0, jv v3413, s_, iv 0, iv 0, u_]) rfl ?_
    refine k_iload X3412 hx 287 (D at_285) rfl ?_
    refine k_if_ne X3412 hx 290 299 (D at_287) (fun hc => absurd (by decide) hc) (fun _ => ?_)
    refine k_iload X3412 hx 292 (D at_290) rfl ?_
    refine k_if_ne X3412 hx 295 299 (D at_292) (fun hc => absurd (by decide) hc) (fun _ => ?_)
    refine k_iconst X3412 hx 296 (D at_295) (z := (1 : Int32)) rfl ?_
    refine k_goto X3412 hx 300 (D at_296) ?_
    refine k_istore X3412 hx 302 (D at_300) (Ls' := #[iv i0, jv i1, s_, jv i2, s_, jv i3, s_, jv i4, s_, jv v3, s_, jv v7, s_, jv v11, s_, iv 2, jv v637, s_, jv v638, s_, jv v639, s_, jv v640, s_, rv b641, iv v3404, iv v3405, iv v3406, iv 0, jv v3410, s_, iv 0, jv 0, s_, iv 0, jv v3413, s_, iv 0, iv 0, iv 1]) rfl ?_
    refine k_iload X3412 hx 304 (D at_302) rfl ?_
    refine k_iload X3412 hx 306 (D at_304) rfl ?_
    have q3414 := kL_p hc3408
    have q3415 := kL_p hc3411
    refine k_icmp_ne X3412 hx 309 327 (D at_306) (fun hc => absurd (Classical.byContradiction (fun hq3416 => by have B3417 : (-2147483648 : Int) <= v3404.toInt /\ v3404.toInt <= 2147483647 := ⟨(rng32 v3404).1, Int.le_of_lt_add_one (rng32 v3404).2⟩; have B3420 : (0 : Int) <= (0 : Int32).toInt /\ (0 : Int32).toInt <= 0 := (by decide); have q3421 : ¬ v3404.toInt = (0 : Int32).toInt := fun q => hq3416 (Int32.toInt_inj.mp q); omega)) hc) (fun _ => ?_)
    refine k_iload X3412 hx 311 (D at_309) rfl ?_
    refine k_iload X3412 hx 313 (D at_311) rfl ?_
    refine k_icmp_ne X3412 hx 316 327 (D at_313) (fun hc => absurd (Classical.byContradiction (fun hq3422 => by have B3423 : (-2147483648 : Int) <= v3405.toInt /\ v3405.toInt <= 2147483647 := ⟨(rng32 v3405).1, Int.le_of_lt_add_one (rng32 v3405).2⟩; have B3426 : (0 : Int) <= (0 : Int32).toInt /\ (0 : Int32).toInt <= 0 := (by decide); have q3427 : ¬ v3405.toInt = (0 : Int32).toInt := fun q => hq3422 (Int32.toInt_inj.mp q); omega)) hc) (fun _ => ?_)
    refine k_iload X3412 hx 318 (D at_316) rfl ?_
    refine k_iload X3412 hx 320 (D at_318) rfl ?_
    refine k_icmp_ne X3412 hx 323 327 (D at_320) (fun hc => absurd (Classical.byContradiction (fun hq3428 => by have B3429 : (-2147483648 : Int) <= v3406.toInt /\ v3406.toInt <= 2147483647 := ⟨(rng32 v3406).1, Int.le_of_lt_add_one (rng32 v3406).2⟩; have q3432 : ¬ v3406.toInt = (1 : Int32).toInt := fun q => hq3428 (Int32.toInt_inj.mp q); omega)) hc) (fun _ => ?_)
    refine k_iconst X3412 hx 324 (D at_323) (z := (1 : Int32)) rfl ?_
    refine k_goto X3412 hx 328 (D at_324) ?_
    exact k_retN X3412 hx (t := .boolean) hret (by simp) (D at_328) hlk (by first | exact hce3403 | exact Nat.le_trans (Nat.le_refl _) hce3403) (by first | exact hsl3403 | exact Nat.le_trans (Nat.le_refl _) hsl3403) (z' := (1 : Int32)) rfl ⟨rfl, N3412'⟩
   ·
    refine k_iconst X3409 hx 227 (D at_226) (z := (1 : Int32)) rfl ?_
    refine k_goto X3409 hx 231 (D at_227) ?_
    refine k_istore X3409 hx 233 (D at_231) (Ls' := #[iv i0, jv i1, s_, jv i2, s_, jv i3, s_, jv i4, s_, jv v3, s_, jv v7, s_, jv v11, s_, iv 2, jv v637, s_, jv v638, s_, jv v639, s_, jv v640, s_, rv b641, iv v3404, iv v3405, iv v3406, iv 0, jv v3410, s_, iv 0, jv 0, s_, iv 1, u_, u_, u_, u_, u_]) rfl ?_
    refine k_lload X3409 hx 235 (D at_233) rfl ?_
    refine k_lload X3409 hx 237 (D at_235) rfl ?_
    refine k_callS X3409 hx hZ hown 240 (k_w hw 1 rfl) (k_w hw 2 rfl) (k_w hw 3 rfl) (k_w hw 4 rfl) (by decide) (rm1_81 l Z a0 hw [] v3410 v640 T3403.heap n0 Z3403 ) (by decide) (by decide) e3409 (by rw [hml]; rfl) (argsL := [(.long v3410), (.long v640)]) (rest := []) (lenOf pd_0 rfl) rfl (W := 0) (Nat.le_refl _) rfl (D at_237) (by show _ + 0 <= _; exact Nat.le_trans hce3403 (by decide)) (by show _ + 0 <= _; exact Nat.le_trans hsl3403 (by decide)) (fun T3433 L3433 r3433 X3433 q3433 => ?_)
    obtain ⟨N3433, e3433, rfl⟩ := q3433
    have N3433' := Fr.app N3409' N3433
    show KEnds p e below s _ _ _ T3433 (mkF m 240 #[iv i0, jv i1, s_, jv i2, s_, jv i3, s_, jv i4, s_, jv v3, s_, jv v7, s_, jv v11, s_, iv 2, jv v637, s_, jv v638, s_, jv v639, s_, jv v640, s_, rv b641, iv v3404, iv v3405, iv v3406, iv 0, jv v3410, s_, iv 0, jv 0, s_, iv 1, u_, u_, u_, u_, u_] ((.long (f1_81 v3410 v640)) :: []))
    obtain ⟨v3434, hv3434⟩ : ∃ z, z = f1_81 v3410 v640 := ⟨_, rfl⟩
    rw [← hv3434]
    refine k_lstore X3433 hx 242 (D at_240) (Ls' := #[iv i0, jv i1, s_, jv i2, s_, jv i3, s_, jv i4, s_, jv v3, s_, jv v7, s_, jv v11, s_, iv 2, jv v637, s_, jv v638, s_, jv v639, s_, jv v640, s_, rv b641, iv v3404, iv v3405, iv v3406, iv 0, jv v3410, s_, iv 0, jv 0, s_, iv 1, jv v3434, s_, u_, u_, u_]) rfl ?_
    refine k_iload X3433 hx 244 (D at_242) rfl ?_
    refine k_if_eq X3433 hx 247 259 (D at_244) (fun _ => ?_) (fun hc => absurd (by decide) hc)
    refine k_iconst X3433 hx 260 (D at_259) (z := (0 : Int32)) rfl ?_
    refine k_istore X3433 hx 262 (D at_260) (Ls' := #[iv i0, jv i1, s_, jv i2, s_, jv i3, s_, jv i4, s_, jv v3, s_, jv v7, s_, jv v11, s_, iv 2, jv v637, s_, jv v638, s_, jv v639, s_, jv v640, s_, rv b641, iv v3404, iv v3405, iv v3406, iv 0, jv v3410, s_, iv 0, jv 0, s_, iv 1, jv v3434, s_, iv 0, u_, u_]) rfl ?_
    refine k_iload X3433 hx 264 (D at_262) rfl ?_
    refine k_if_eq X3433 hx 267 282 (D at_264) (fun hc => absurd hc (by decide)) (fun _ => ?_)
    refine k_lload X3433 hx 269 (D at_267) rfl ?_
    refine k_lload X3433 hx 271 (D at_269) rfl ?_
    refine k_lsub X3433 hx 272 (D at_271) (fun v3435 hv3435 => ?_)
    refine k_lload X3433 hx 274 (D at_272) rfl ?_
    refine k_lcif_ge X3433 hx 278 282 275 (D at_274) (D at_275) (fun hc3436 => ?_) (fun hc3436 => ?_)
    ·
     refine k_iconst X3433 hx 283 (D at_282) (z := (0 : Int32)) rfl ?_
     refine k_istore X3433 hx 285 (D at_283) (Ls' := #[iv i0, jv i1, s_, jv i2, s_, jv i3, s_, jv i4, s_, jv v3, s_, jv v7, s_, jv v11, s_, iv 2, jv v637, s_, jv v638, s_, jv v639, s_, jv v640, s_, rv b641, iv v3404, iv v3405, iv v3406, iv 0, jv v3410, s_, iv 0, jv 0, s_, iv 1, jv v3434, s_, iv 0, iv 0, u_]) rfl ?_
     refine k_iload X3433 hx 287 (D at_285) rfl ?_
     refine k_if_ne X3433 hx 290 299 (D at_287) (fun hc => absurd (by decide) hc) (fun _ => ?_)
     refine k_iload X3433 hx 292 (D at_290) rfl ?_
     refine k_if_ne X3433 hx 295 299 (D at_292) (fun hc => absurd (by decide) hc) (fun _ => ?_)
     refine k_iconst X3433 hx 296 (D at_295) (z := (1 : Int32)) rfl ?_
     refine k_goto X3433 hx 300 (D at_296) ?_
     refine k_istore X3433 hx 302 (D at_300) (Ls' := #[iv i0, jv i1, s_, jv i2, s_, jv i3, s_, jv i4, s_, jv v3, s_, jv v7, s_, jv v11, s_, iv 2, jv v637, s_, jv v638, s_, jv v639, s_, jv v640, s_, rv b641, iv v3404, iv v3405, iv v3406, iv 0, jv v3410, s_, iv 0, jv 0, s_, iv 1, jv v3434, s_, iv 0, iv 0, iv 1]) rfl ?_
     refine k_iload X3433 hx 304 (D at_302) rfl ?_
     refine k_iload X3433 hx 306 (D at_304) rfl ?_
     have q3437 := kL_p hc3408
     have q3438 := kL_m hc3411
     have B3445 : (0 : Int) <= (0 : Int64).toInt /\ (0 : Int64).toInt <= 0 := (by decide)
     have q3444 := own_mx_f1_9 v638; rw [← hv3410] at q3444
     have B3443 : (0 : Int) <= v3410.toInt /\ v3410.toInt <= 2305843009213693951 := (by omega)
     have q3442 := own_mx_f1_81 v3410 v640; rw [← hv3434] at q3442
     have B3441 : (0 : Int) <= v3434.toInt /\ v3434.toInt <= 4611686018427387902 := (by omega)
     have q3440 : v3435.toInt = v3434.toInt - v3410.toInt := k_lsubx hv3435 B3441 B3443 (by decide) (by decide)
     have B3439 : (-2305843009213693951 : Int) <= v3435.toInt /\ v3435.toInt <= 4611686018427387902 := k_subB' q3440 B3441 B3443
     have q3446 := kL_m hc3436
     refine k_icmp_ne X3433 hx 309 327 (D at_306) (fun hc => absurd (Classical.byContradiction (fun hq3447 => by have B3448 : (-2147483648 : Int) <= v3404.toInt /\ v3404.toInt <= 2147483647 := ⟨(rng32 v3404).1, Int.le_of_lt_add_one (rng32 v3404).2⟩; have B3451 : (0 : Int) <= (0 : Int32).toInt /\ (0 : Int32).toInt <= 0 := (by decide); have q3452 : ¬ v3404.toInt = (0 : Int32).toInt := fun q => hq3447 (Int32.toInt_inj.mp q); omega)) hc) (fun _ => ?_)
     refine k_iload X3433 hx 311 (D at_309) rfl ?_
     refine k_iload X3433 hx 313 (D at_311) rfl ?_
     refine k_icmp_ne X3433 hx 316 327 (D at_313) (fun hc => absurd (Classical.byContradiction (fun hq3453 => by have B3454 : (-2147483648 : Int) <= v3405.toInt /\ v3405.toInt <= 2147483647 := ⟨(rng32 v3405).1, Int.le_of_lt_add_one (rng32 v3405).2⟩; have q3457 : ¬ v3405.toInt = (1 : Int32).toInt := fun q => hq3453 (Int32.toInt_inj.mp q); omega)) hc) (fun _ => ?_)
     refine k_iload X3433 hx 318 (D at_316) rfl ?_
     refine k_iload X3433 hx 320 (D at_318) rfl ?_
     refine k_icmp_ne X3433 hx 323 327 (D at_320) (fun hc => absurd (Classical.byContradiction (fun hq3458 => by have B3459 : (-2147483648 : Int) <= v3406.toInt /\ v3406.toInt <= 2147483647 := ⟨(rng32 v3406).1, Int.le_of_lt_add_one (rng32 v3406).2⟩; have q3462 : ¬ v3406.toInt = (1 : Int32).toInt := fun q => hq3458 (Int32.toInt_inj.mp q); omega)) hc) (fun _ => ?_)
     refine k_iconst X3433 hx 324 (D at_323) (z := (1 : Int32)) rfl ?_
     refine k_goto X3433 hx 328 (D at_324) ?_
     exact k_retN X3433 hx (t := .boolean) hret (by simp) (D at_328) hlk (by first | exact hce3403 | exact Nat.le_trans (Nat.le_refl _) hce3403) (by first | exact hsl3403 | exact Nat.le_trans (Nat.le_refl _) hsl3403) (z' := (1 : Int32)) rfl ⟨rfl, N3433'⟩
    ·
     refine k_iconst X3433 hx 279 (D at_278) (z := (1 : Int32)) rfl ?_
     refine k_goto X3433 hx 283 (D at_279) ?_
     refine k_istore X3433 hx 285 (D at_283) (Ls' := #[iv i0, jv i1, s_, jv i2, s_, jv i3, s_, jv i4, s_, jv v3, s_, jv v7, s_, jv v11, s_, iv 2, jv v637, s_, jv v638, s_, jv v639, s_, jv v640, s_, rv b641, iv v3404, iv v3405, iv v3406, iv 0, jv v3410, s_, iv 0, jv 0, s_, iv 1, jv v3434, s_, iv 0, iv 1, u_]) rfl ?_
     refine k_iload X3433 hx 287 (D at_285) rfl ?_
     refine k_if_ne X3433 hx 290 299 (D at_287) (fun hc => absurd (by decide) hc) (fun _ => ?_)
     refine k_iload X3433 hx 292 (D at_290) rfl ?_
     refine k_if_ne X3433 hx 295 299 (D at_292) (fun _ => ?_) (fun hc => absurd hc (by decide))
     refine k_iconst X3433 hx 300 (D at_299) (z := (0 : Int32)) rfl ?_
     refine k_istore X3433 hx 302 (D at_300) (Ls' := #[iv i0, jv i1, s_, jv i2, s_, jv i3, s_, jv i4, s_, jv v3, s_, jv v7, s_, jv v11, s_, iv 2, jv v637, s_, jv v638, s_, jv v639, s_, jv v640, s_, rv b641, iv v3404, iv v3405, iv v3406, iv 0, jv v3410, s_, iv 0, jv 0, s_, iv 1, jv v3434, s_, iv 0, iv 1, iv 0]) rfl ?_
     refine k_iload X3433 hx 304 (D at_302) rfl ?_
     refine k_iload X3433 hx 306 (D at_304) rfl ?_
     have q3463 := kL_p hc3408
     have q3464 := kL_m hc3411
     have B3471 : (0 : Int) <= (0 : Int64).toInt /\ (0 : Int64).toInt <= 0 := (by decide)
     have q3470 := own_mx_f1_9 v638; rw [← hv3410] at q3470
     have B3469 : (0 : Int) <= v3410.toInt /\ v3410.toInt <= 2305843009213693951 := (by omega)
     have q3468 := own_mx_f1_81 v3410 v640; rw [← hv3434] at q3468
     have B3467 : (0 : Int) <= v3434.toInt /\ v3434.toInt <= 4611686018427387902 := (by omega)
     have q3466 : v3435.toInt = v3434.toInt - v3410.toInt := k_lsubx hv3435 B3467 B3469 (by decide) (by decide)
     have B3465 : (-2305843009213693951 : Int) <= v3435.toInt /\ v3435.toInt <= 4611686018427387902 := k_subB' q3466 B3467 B3469
     have q3472 := kL_p hc3436
     refine k_icmp_ne X3433 hx 309 327 (D at_306) (fun hc => absurd (Classical.byContradiction (fun hq3473 => by have B3474 : (-2147483648 : Int) <= v3404.toInt /\ v3404.toInt <= 2147483647 := ⟨(rng32 v3404).1, Int.le_of_lt_add_one (rng32 v3404).2⟩; have B3477 : (0 : Int) <= (0 : Int32).toInt /\ (0 : Int32).toInt <= 0 := (by decide); have q3478 : ¬ v3404.toInt = (0 : Int32).toInt := fun q => hq3473 (Int32.toInt_inj.mp q); omega)) hc) (fun _ => ?_)
     refine k_iload X3433 hx 311 (D at_309) rfl ?_
     refine k_iload X3433 hx 313 (D at_311) rfl ?_
     refine k_icmp_ne X3433 hx 316 327 (D at_313) (fun hc => absurd (Classical.byContradiction (fun hq3479 => by have B3480 : (-2147483648 : Int) <= v3405.toInt /\ v3405.toInt <= 2147483647 := ⟨(rng32 v3405).1, Int.le_of_lt_add_one (rng32 v3405).2⟩; have q3483 : ¬ v3405.toInt = (1 : Int32).toInt := fun q => hq3479 (Int32.toInt_inj.mp q); omega)) hc) (fun _ => ?_)
     refine k_iload X3433 hx 318 (D at_316) rfl ?_
     refine k_iload X3433 hx 320 (D at_318) rfl ?_
     refine k_icmp_ne X3433 hx 323 327 (D at_320) (fun hc => absurd (Classical.byContradiction (fun hq3484 => by have B3485 : (-2147483648 : Int) <= v3406.toInt /\ v3406.toInt <= 2147483647 := ⟨(rng32 v3406).1, Int.le_of_lt_add_one (rng32 v3406).2⟩; have B3488 : (0 : Int) <= (0 : Int32).toInt /\ (0 : Int32).toInt <= 0 := (by decide); have q3489 : ¬ v3406.toInt = (0 : Int32).toInt := fun q => hq3484 (Int32.toInt_inj.mp q); omega)) hc) (fun _ => ?_)
     refine k_iconst X3433 hx 324 (D at_323) (z := (1 : Int32)) rfl ?_
     refine k_goto X3433 hx 328 (D at_324) ?_
     exact k_retN X3433 hx (t := .boolean) hret (by simp) (D at_328) hlk (by first | exact hce3403 | exact Nat.le_trans (Nat.le_refl _) hce3403) (by first | exact hsl3403 | exact Nat.le_trans (Nat.le_refl _) hsl3403) (z' := (1 : Int32)) rfl ⟨rfl, N3433'⟩
  ·
   refine k_iconst X3403 hx 152 (D at_151) (z := (1 : Int32)) rfl ?_
   refine k_goto X3403 hx 156 (D at_152) ?_
   refine k_istore X3403 hx 158 (D at_156) (Ls' := #[iv i0, jv i1, s_, jv i2, s_, jv i3, s_, jv i4, s_, jv v3, s_, jv v7, s_, jv v11, s_, iv 2, jv v637, s_, jv v638, s_, jv v639, s_, jv v640, s_, rv b641, iv v3404, iv v3405, iv v3406, iv 1, u_, u_, u_, u_, u_, u_, u_, u_, u_, u_, u_]) rfl ?_
   refine k_iload X3403 hx 160 (D at_158) rfl ?_
   refine k_iconst X3403 hx 161 (D at_160) (z := (2 : Int32)) rfl ?_
   refine k_icmp_lt X3403 hx 164 173 (D at_161) (fun hc => absurd hc (by decide)) (fun _ => ?_)
   refine k_lconst X3403 hx 165 (D at_164) (z := (0 : Int64)) rfl ?_
   refine k_lload X3403 hx 167 (D at_165) rfl ?_
   refine k_callS X3403 hx hZ hown 170 (k_w hw 1 rfl) (k_w hw 2 rfl) (k_w hw 3 rfl) (k_w hw 4 rfl) (by decide) (rm1_9 l Z a0 hw [] v638 T3403.heap n0 Z3403 ) (by decide) (by decide) rfl (by rw [hml]; rfl) (argsL := [(.long 0), (.long v638)]) (rest := []) (lenOf pd_0 rfl) rfl (W := 0) (Nat.le_refl _) rfl (D at_167) (by show _ + 0 <= _; exact Nat.le_trans hce3403 (by decide)) (by show _ + 0 <= _; exact Nat.le_trans hsl3403 (by decide)) (fun T3490 L3490 r3490 X3490 q3490 => ?_)
   obtain ⟨N3490, e3490, rfl⟩ := q3490
   have N3490' := Fr.app N3403 N3490
   show KEnds p e below s _ _ _ T3490 (mkF m 170 #[iv i0, jv i1, s_, jv i2, s_, jv i3, s_, jv i4, s_, jv v3, s_, jv v7, s_, jv v11, s_, iv 2, jv v637, s_, jv v638, s_, jv v639, s_, jv v640, s_, rv b641, iv v3404, iv v3405, iv v3406, iv 1, u_, u_, u_, u_, u_, u_, u_, u_, u_, u_, u_] ((.long (f1_9 v638)) :: []))
   obtain ⟨v3491, hv3491⟩ : ∃ z, z = f1_9 v638 := ⟨_, rfl⟩
   rw [← hv3491]
   refine k_goto X3490 hx 174 (D at_170) ?_
   refine k_lstore X3490 hx 176 (D at_174) (Ls' := #[iv i0, jv i1, s_, jv i2, s_, jv i3, s_, jv i4, s_, jv v3, s_, jv v7, s_, jv v11, s_, iv 2, jv v637, s_, jv v638, s_, jv v639, s_, jv v640, s_, rv b641, iv v3404, iv v3405, iv v3406, iv 1, jv v3491, s_, u_, u_, u_, u_, u_, u_, u_, u_, u_]) rfl ?_
   refine k_iload X3490 hx 178 (D at_176) rfl ?_
   refine k_if_eq X3490 hx 181 193 (D at_178) (fun hc => absurd hc (by decide)) (fun _ => ?_)
   refine k_lload X3490 hx 183 (D at_181) rfl ?_
   refine k_lload X3490 hx 185 (D at_183) rfl ?_
   refine k_lcif_ge X3490 hx 189 193 186 (D at_185) (D at_186) (fun hc3492 => ?_) (fun hc3492 => ?_)
   ·
    refine k_iconst X3490 hx 194 (D at_193) (z := (0 : Int32)) rfl ?_
    refine k_istore X3490 hx 196 (D at_194) (Ls' := #[iv i0, jv i1, s_, jv i2, s_, jv i3, s_, jv i4, s_, jv v3, s_, jv v7, s_, jv v11, s_, iv 2, jv v637, s_, jv v638, s_, jv v639, s_, jv v640, s_, rv b641, iv v3404, iv v3405, iv v3406, iv 1, jv v3491, s_, iv 0, u_, u_, u_, u_, u_, u_, u_, u_]) rfl ?_
    refine k_iload X3490 hx 198 (D at_196) rfl ?_
    refine k_if_eq X3490 hx 201 206 (D at_198) (fun _ => ?_) (fun hc => absurd (by decide) hc)
    refine k_lconst X3490 hx 207 (D at_206) (z := (0 : Int64)) rfl ?_
    refine k_lstore X3490 hx 209 (D at_207) (Ls' := #[iv i0, jv i1, s_, jv i2, s_, jv i3, s_, jv i4, s_, jv v3, s_, jv v7, s_, jv v11, s_, iv 2, jv v637, s_, jv v638, s_, jv v639, s_, jv v640, s_, rv b641, iv v3404, iv v3405, iv v3406, iv 1, jv v3491, s_, iv 0, jv 0, s_, u_, u_, u_, u_, u_, u_]) rfl ?_
    refine k_iload X3490 hx 211 (D at_209) rfl ?_
    refine k_iconst X3490 hx 212 (D at_211) (z := (2 : Int32)) rfl ?_
    refine k_icmp_lt X3490 hx 215 230 (D at_212) (fun hc => absurd hc (by decide)) (fun _ => ?_)
    refine k_lload X3490 hx 217 (D at_215) rfl ?_
    refine k_lload X3490 hx 219 (D at_217) rfl ?_
    refine k_lload X3490 hx 221 (D at_219) rfl ?_
    refine k_lsubL X3490 hx 222 (D at_221) (z := v3) (Int64.sub_zero _) ?_
    refine k_lcif_gt X3490 hx 226 230 223 (D at_222) (D at_223) (fun hc3493 => ?_) (fun hc3493 => ?_)
    ·
     refine k_iconst X3490 hx 231 (D at_230) (z := (0 : Int32)) rfl ?_
     refine k_istore X3490 hx 233 (D at_231) (Ls' := #[iv i0, jv i1, s_, jv i2, s_, jv i3, s_, jv i4, s_, jv v3, s_, jv v7, s_, jv v11, s_, iv 2, jv v637, s_, jv v638, s_, jv v639, s_, jv v640, s_, rv b641, iv v3404, iv v3405, iv v3406, iv 1, jv v3491, s_, iv 0, jv 0, s_, iv 0, u_, u_, u_, u_, u_]) rfl ?_
     refine k_lload X3490 hx 235 (D at_233) rfl ?_
     refine k_lload X3490 hx 237 (D at_235) rfl ?_
     refine k_callS X3490 hx hZ hown 240 (k_w hw 1 rfl) (k_w hw 2 rfl) (k_w hw 3 rfl) (k_w hw 4 rfl) (by decide) (rm1_81 l Z a0 hw [] v3491 v640 T3403.heap n0 Z3403 ) (by decide) (by decide) e3490 (by rw [hml]; rfl) (argsL := [(.long v3491), (.long v640)]) (rest := []) (lenOf pd_0 rfl) rfl (W := 0) (Nat.le_refl _) rfl (D at_237) (by show _ + 0 <= _; exact Nat.le_trans hce3403 (by decide)) (by show _ + 0 <= _; exact Nat.le_trans hsl3403 (by decide)) (fun T3494 L3494 r3494 X3494 q3494 => ?_)
     obtain ⟨N3494, e3494, rfl⟩ := q3494
     have N3494' := Fr.app N3490' N3494
     show KEnds p e below s _ _ _ T3494 (mkF m 240 #[iv i0, jv i1, s_, jv i2, s_, jv i3, s_, jv i4, s_, jv v3, s_, jv v7, s_, jv v11, s_, iv 2, jv v637, s_, jv v638, s_, jv v639, s_, jv v640, s_, rv b641, iv v3404, iv v3405, iv v3406, iv 1, jv v3491, s_, iv 0, jv 0, s_, iv 0, u_, u_, u_, u_, u_] ((.long (f1_81 v3491 v640)) :: []))
     obtain ⟨v3495, hv3495⟩ : ∃ z, z = f1_81 v3491 v640 := ⟨_, rfl⟩
     rw [← hv3495]
     refine k_lstore X3494 hx 242 (D at_240) (Ls' := #[iv i0, jv i1, s_, jv i2, s_, jv i3, s_, jv i4, s_, jv v3, s_, jv v7, s_, jv v11, s_, iv 2, jv v637, s_, jv v638, s_, jv v639, s_, jv v640, s_, rv b641, iv v3404, iv v3405, iv v3406, iv 1, jv v3491, s_, iv 0, jv 0, s_, iv 0, jv v3495, s_, u_, u_, u_]) rfl ?_
     refine k_iload X3494 hx 244 (D at_242) rfl ?_
     refine k_if_eq X3494 hx 247 259 (D at_244) (fun hc => absurd hc (by decide)) (fun _ => ?_)
     refine k_lload X3494 hx 249 (D at_247) rfl ?_
     refine k_lload X3494 hx 251 (D at_249) rfl ?_
     refine k_lcif_ge X3494 hx 255 259 252 (D at_251) (D at_252) (fun hc3496 => ?_) (fun hc3496 => ?_)
     ·
      refine k_iconst X3494 hx 260 (D at_259) (z := (0 : Int32)) rfl ?_
      refine k_istore X3494 hx 262 (D at_260) (Ls' := #[iv i0, jv i1, s_, jv i2, s_, jv i3, s_, jv i4, s_, jv v3, s_, jv v7, s_, jv v11, s_, iv 2, jv v637, s_, jv v638, s_, jv v639, s_, jv v640, s_, rv b641, iv v3404, iv v3405, iv v3406, iv 1, jv v3491, s_, iv 0, jv 0, s_, iv 0, jv v3495, s_, iv 0, u_, u_]) rfl ?_
      refine k_iload X3494 hx 264 (D at_262) rfl ?_
      refine k_if_eq X3494 hx 267 282 (D at_264) (fun _ => ?_) (fun hc => absurd (by decide) hc)
      refine k_iconst X3494 hx 283 (D at_282) (z := (0 : Int32)) rfl ?_
      refine k_istore X3494 hx 285 (D at_283) (Ls' := #[iv i0, jv i1, s_, jv i2, s_, jv i3, s_, jv i4, s_, jv v3, s_, jv v7, s_, jv v11, s_, iv 2, jv v637, s_, jv v638, s_, jv v639, s_, jv v640, s_, rv b641, iv v3404, iv v3405, iv v3406, iv 1, jv v3491, s_, iv 0, jv 0, s_, iv 0, jv v3495, s_, iv 0, iv 0, u_]) rfl ?_
      refine k_iload X3494 hx 287 (D at_285) rfl ?_
      refine k_if_ne X3494 hx 290 299 (D at_287) (fun hc => absurd (by decide) hc) (fun _ => ?_)
      refine k_iload X3494 hx 292 (D at_290) rfl ?_
      refine k_if_ne X3494 hx 295 299 (D at_292) (fun hc => absurd (by decide) hc) (fun _ => ?_)
      refine k_iconst X3494 hx 296 (D at_295) (z := (1 : Int32)) rfl ?_
      refine k_goto X3494 hx 300 (D at_296) ?_
      refine k_istore X3494 hx 302 (D at_300) (Ls' := #[iv i0, jv i1, s_, jv i2, s_, jv i3, s_, jv i4, s_, jv v3, s_, jv v7, s_, jv v11, s_, iv 2, jv v637, s_, jv v638, s_, jv v639, s_, jv v640, s_, rv b641, iv v3404, iv v3405, iv v3406, iv 1, jv v3491, s_, iv 0, jv 0, s_, iv 0, jv v3495, s_, iv 0, iv 0, iv 1]) rfl ?_
      refine k_iload X3494 hx 304 (D at_302) rfl ?_
      refine k_iload X3494 hx 306 (D at_304) rfl ?_
      have q3497 := kL_m hc3408
      have B3500 : (0 : Int) <= (0 : Int64).toInt /\ (0 : Int64).toInt <= 0 := (by decide)
      have q3499 := own_mx_f1_9 v638; rw [← hv3491] at q3499
      have B3498 : (0 : Int) <= v3491.toInt /\ v3491.toInt <= 2305843009213693951 := (by omega)
      have q3501 := kL_m hc3492
      have q3502 := kL_p hc3493
      have q3504 := own_mx_f1_81 v3491 v640; rw [← hv3495] at q3504
      have B3503 : (0 : Int) <= v3495.toInt /\ v3495.toInt <= 4611686018427387902 := (by omega)
      have q3505 := kL_m hc3496
      refine k_icmp_ne X3494 hx 309 327 (D at_306) (fun hc => absurd (Classical.byContradiction (fun hq3506 => by have B3507 : (-2147483648 : Int) <= v3404.toInt /\ v3404.toInt <= 2147483647 := ⟨(rng32 v3404).1, Int.le_of_lt_add_one (rng32 v3404).2⟩; have q3510 : ¬ v3404.toInt = (1 : Int32).toInt := fun q => hq3506 (Int32.toInt_inj.mp q); omega)) hc) (fun _ => ?_)
      refine k_iload X3494 hx 311 (D at_309) rfl ?_
      refine k_iload X3494 hx 313 (D at_311) rfl ?_
      refine k_icmp_ne X3494 hx 316 327 (D at_313) (fun hc => absurd (Classical.byContradiction (fun hq3511 => by have B3512 : (-2147483648 : Int) <= v3405.toInt /\ v3405.toInt <= 2147483647 := ⟨(rng32 v3405).1, Int.le_of_lt_add_one (rng32 v3405).2⟩; have B3515 : (0 : Int) <= (0 : Int32).toInt /\ (0 : Int32).toInt <= 0 := (by decide); have q3516 : ¬ v3405.toInt = (0 : Int32).toInt := fun q => hq3511 (Int32.toInt_inj.mp q); omega)) hc) (fun _ => ?_)
      refine k_iload X3494 hx 318 (D at_316) rfl ?_
      refine k_iload X3494 hx 320 (D at_318) rfl ?_
      refine k_icmp_ne X3494 hx 323 327 (D at_320) (fun hc => absurd (Classical.byContradiction (fun hq3517 => by have B3518 : (-2147483648 : Int) <= v3406.toInt /\ v3406.toInt <= 2147483647 := ⟨(rng32 v3406).1, Int.le_of_lt_add_one (rng32 v3406).2⟩; have q3521 : ¬ v3406.toInt = (1 : Int32).toInt := fun q => hq3517 (Int32.toInt_inj.mp q); omega)) hc) (fun _ => ?_)
      refine k_iconst X3494 hx 324 (D at_323) (z := (1 : Int32)) rfl ?_
      refine k_goto X3494 hx 328 (D at_324) ?_
      exact k_retN X3494 hx (t := .boolean) hret (by simp) (D at_328) hlk (by first | exact hce3403 | exact Nat.le_trans (Nat.le_refl _) hce3403) (by first | exact hsl3403 | exact Nat.le_trans (Nat.le_refl _) hsl3403) (z' := (1 : Int32)) rfl ⟨rfl, N3494'⟩
     ·
      refine k_iconst X3494 hx 256 (D at_255) (z := (1 : Int32)) rfl ?_
      refine k_goto X3494 hx 260 (D at_256) ?_
      refine k_istore X3494 hx 262 (D at_260) (Ls' := #[iv i0, jv i1, s_, jv i2, s_, jv i3, s_, jv i4, s_, jv v3, s_, jv v7, s_, jv v11, s_, iv 2, jv v637, s_, jv v638, s_, jv v639, s_, jv v640, s_, rv b641, iv v3404, iv v3405, iv v3406, iv 1, jv v3491, s_, iv 0, jv 0, s_, iv 0, jv v3495, s_, iv 1, u_, u_]) rfl ?_
      refine k_iload X3494 hx 264 (D at_262) rfl ?_
      refine k_if_eq X3494 hx 267 282 (D at_264) (fun _ => ?_) (fun hc => absurd (by decide) hc)
      refine k_iconst X3494 hx 283 (D at_282) (z := (0 : Int32)) rfl ?_
      refine k_istore X3494 hx 285 (D at_283) (Ls' := #[iv i0, jv i1, s_, jv i2, s_, jv i3, s_, jv i4, s_, jv v3, s_, jv v7, s_, jv v11, s_, iv 2, jv v637, s_, jv v638, s_, jv v639, s_, jv v640, s_, rv b641, iv v3404, iv v3405, iv v3406, iv 1, jv v3491, s_, iv 0, jv 0, s_, iv 0, jv v3495, s_, iv 1, iv 0, u_]) rfl ?_
      refine k_iload X3494 hx 287 (D at_285) rfl ?_
      refine k_if_ne X3494 hx 290 299 (D at_287) (fun _ => ?_) (fun hc => absurd hc (by decide))
      refine k_iconst X3494 hx 300 (D at_299) (z := (0 : Int32)) rfl ?_
      refine k_istore X3494 hx 302 (D at_300) (Ls' := #[iv i0, jv i1, s_, jv i2, s_, jv i3, s_, jv i4, s_, jv v3, s_, jv v7, s_, jv v11, s_, iv 2, jv v637, s_, jv v638, s_, jv v639, s_, jv v640, s_, rv b641, iv v3404, iv v3405, iv v3406, iv 1, jv v3491, s_, iv 0, jv 0, s_, iv 0, jv v3495, s_, iv 1, iv 0, iv 0]) rfl ?_
      refine k_iload X3494 hx 304 (D at_302) rfl ?_
      refine k_iload X3494 hx 306 (D at_304) rfl ?_
      have q3522 := kL_m hc3408
      have B3525 : (0 : Int) <= (0 : Int64).toInt /\ (0 : Int64).toInt <= 0 := (by decide)
      have q3524 := own_mx_f1_9 v638; rw [← hv3491] at q3524
      have B3523 : (0 : Int) <= v3491.toInt /\ v3491.toInt <= 2305843009213693951 := (by omega)
      have q3526 := kL_m hc3492
      have q3527 := kL_p hc3493
      have q3529 := own_mx_f1_81 v3491 v640; rw [← hv3495] at q3529
      have B3528 : (0 : Int) <= v3495.toInt /\ v3495.toInt <= 4611686018427387902 := (by omega)
      have q3530 := kL_p hc3496
      refine k_icmp_ne X3494 hx 309 327 (D at_306) (fun hc => absurd (Classical.byContradiction (fun hq3531 => by have B3532 : (-2147483648 : Int) <= v3404.toInt /\ v3404.toInt <= 2147483647 := ⟨(rng32 v3404).1, Int.le_of_lt_add_one (rng32 v3404).2⟩; have q3535 : ¬ v3404.toInt = (1 : Int32).toInt := fun q => hq3531 (Int32.toInt_inj.mp q); omega)) hc) (fun _ => ?_)
      refine k_iload X3494 hx 311 (D at_309) rfl ?_
      refine k_iload X3494 hx 313 (D at_311) rfl ?_
      refine k_icmp_ne X3494 hx 316 327 (D at_313) (fun hc => absurd (Classical.byContradiction (fun hq3536 => by have B3537 : (-2147483648 : Int) <= v3405.toInt /\ v3405.toInt <= 2147483647 := ⟨(rng32 v3405).1, Int.le_of_lt_add_one (rng32 v3405).2⟩; have B3540 : (0 : Int) <= (0 : Int32).toInt /\ (0 : Int32).toInt <= 0 := (by decide); have q3541 : ¬ v3405.toInt = (0 : Int32).toInt := fun q => hq3536 (Int32.toInt_inj.mp q); omega)) hc) (fun _ => ?_)
      refine k_iload X3494 hx 318 (D at_316) rfl ?_
      refine k_iload X3494 hx 320 (D at_318) rfl ?_
      refine k_icmp_ne X3494 hx 323 327 (D at_320) (fun hc => absurd (Classical.byContradiction (fun hq3542 => by have B3543 : (-2147483648 : Int) <= v3406.toInt /\ v3406.toInt <= 2147483647 := ⟨(rng32 v3406).1, Int.le_of_lt_add_one (rng32 v3406).2⟩; have B3546 : (0 : Int) <= (0 : Int32).toInt /\ (0 : Int32).toInt <= 0 := (by decide); have q3547 : ¬ v3406.toInt = (0 : Int32).toInt := fun q => hq3542 (Int32.toInt_inj.mp q); omega)) hc) (fun _ => ?_)
      refine k_iconst X3494 hx 324 (D at_323) (z := (1 : Int32)) rfl ?_
      refine k_goto X3494 hx 328 (D at_324) ?_
      exact k_retN X3494 hx (t := .boolean) hret (by simp) (D at_328) hlk (by first | exact hce3403 | exact Nat.le_trans (Nat.le_refl _) hce3403) (by first | exact hsl3403 | exact Nat.le_trans (Nat.le_refl _) hsl3403) (z' := (1 : Int32)) rfl ⟨rfl, N3494'⟩
    ·
     refine k_iconst X3490 hx 227 (D at_226) (z := (1 : Int32)) rfl ?_
     refine k_goto X3490 hx 231 (D at_227) ?_
     refine k_istore X3490 hx 233 (D at_231) (Ls' := #[iv i0, jv i1, s_, jv i2, s_, jv i3, s_, jv i4, s_, jv v3, s_, jv v7, s_, jv v11, s_, iv 2, jv v637, s_, jv v638, s_, jv v639, s_, jv v640, s_, rv b641, iv v3404, iv v3405, iv v3406, iv 1, jv v3491, s_, iv 0, jv 0, s_, iv 1, u_, u_, u_, u_, u_]) rfl ?_
     refine k_lload X3490 hx 235 (D at_233) rfl ?_
     refine k_lload X3490 hx 237 (D at_235) rfl ?_
     refine k_callS X3490 hx hZ hown 240 (k_w hw 1 rfl) (k_w hw 2 rfl) (k_w hw 3 rfl) (k_w hw 4 rfl) (by decide) (rm1_81 l Z a0 hw [] v3491 v640 T3403.heap n0 Z3403 ) (by decide) (by decide) e3490 (by rw [hml]; rfl) (argsL := [(.long v3491), (.long v640)]) (rest := []) (lenOf pd_0 rfl) rfl (W := 0) (Nat.le_refl _) rfl (D at_237) (by show _ + 0 <= _; exact Nat.le_trans hce3403 (by decide)) (by show _ + 0 <= _; exact Nat.le_trans hsl3403 (by decide)) (fun T3548 L3548 r3548 X3548 q3548 => ?_)
     obtain ⟨N3548, e3548, rfl⟩ := q3548
     have N3548' := Fr.app N3490' N3548
     show KEnds p e below s _ _ _ T3548 (mkF m 240 #[iv i0, jv i1, s_, jv i2, s_, jv i3, s_, jv i4, s_, jv v3, s_, jv v7, s_, jv v11, s_, iv 2, jv v637, s_, jv v638, s_, jv v639, s_, jv v640, s_, rv b641, iv v3404, iv v3405, iv v3406, iv 1, jv v3491, s_, iv 0, jv 0, s_, iv 1, u_, u_, u_, u_, u_] ((.long (f1_81 v3491 v640)) :: []))
     obtain ⟨v3549, hv3549⟩ : ∃ z, z = f1_81 v3491 v640 := ⟨_, rfl⟩
     rw [← hv3549]
     refine k_lstore X3548 hx 242 (D at_240) (Ls' := #[iv i0, jv i1, s_, jv i2, s_, jv i3, s_, jv i4, s_, jv v3, s_, jv v7, s_, jv v11, s_, iv 2, jv v637, s_, jv v638, s_, jv v639, s_, jv v640, s_, rv b641, iv v3404, iv v3405, iv v3406, iv 1, jv v3491, s_, iv 0, jv 0, s_, iv 1, jv v3549, s_, u_, u_, u_]) rfl ?_
     refine k_iload X3548 hx 244 (D at_242) rfl ?_
     refine k_if_eq X3548 hx 247 259 (D at_244) (fun hc => absurd hc (by decide)) (fun _ => ?_)
     refine k_lload X3548 hx 249 (D at_247) rfl ?_
     refine k_lload X3548 hx 251 (D at_249) rfl ?_
     refine k_lcif_ge X3548 hx 255 259 252 (D at_251) (D at_252) (fun hc3550 => ?_) (fun hc3550 => ?_)
     ·
      refine k_iconst X3548 hx 260 (D at_259) (z := (0 : Int32)) rfl ?_
      refine k_istore X3548 hx 262 (D at_260) (Ls' := #[iv i0, jv i1, s_, jv i2, s_, jv i3, s_, jv i4, s_, jv v3, s_, jv v7, s_, jv v11, s_, iv 2, jv v637, s_, jv v638, s_, jv v639, s_, jv v640, s_, rv b641, iv v3404, iv v3405, iv v3406, iv 1, jv v3491, s_, iv 0, jv 0, s_, iv 1, jv v3549, s_, iv 0, u_, u_]) rfl ?_
      refine k_iload X3548 hx 264 (D at_262) rfl ?_
      refine k_if_eq X3548 hx 267 282 (D at_264) (fun hc => absurd hc (by decide)) (fun _ => ?_)
      refine k_lload X3548 hx 269 (D at_267) rfl ?_
      refine k_lload X3548 hx 271 (D at_269) rfl ?_
      refine k_lsub X3548 hx 272 (D at_271) (fun v3551 hv3551 => ?_)
      refine k_lload X3548 hx 274 (D at_272) rfl ?_
      refine k_lcif_ge X3548 hx 278 282 275 (D at_274) (D at_275) (fun hc3552 => ?_) (fun hc3552 => ?_)
      ·
       refine k_iconst X3548 hx 283 (D at_282) (z := (0 : Int32)) rfl ?_
       refine k_istore X3548 hx 285 (D at_283) (Ls' := #[iv i0, jv i1, s_, jv i2, s_, jv i3, s_, jv i4, s_, jv v3, s_, jv v7, s_, jv v11, s_, iv 2, jv v637, s_, jv v638, s_, jv v639, s_, jv v640, s_, rv b641, iv v3404, iv v3405, iv v3406, iv 1, jv v3491, s_, iv 0, jv 0, s_, iv 1, jv v3549, s_, iv 0, iv 0, u_]) rfl ?_
       refine k_iload X3548 hx 287 (D at_285) rfl ?_
       refine k_if_ne X3548 hx 290 299 (D at_287) (fun hc => absurd (by decide) hc) (fun _ => ?_)
       refine k_iload X3548 hx 292 (D at_290) rfl ?_
       refine k_if_ne X3548 hx 295 299 (D at_292) (fun hc => absurd (by decide) hc) (fun _ => ?_)
       refine k_iconst X3548 hx 296 (D at_295) (z := (1 : Int32)) rfl ?_
       refine k_goto X3548 hx 300 (D at_296) ?_
       refine k_istore X3548 hx 302 (D at_300) (Ls' := #[iv i0, jv i1, s_, jv i2, s_, jv i3, s_, jv i4, s_, jv v3, s_, jv v7, s_, jv v11, s_, iv 2, jv v637, s_, jv v638, s_, jv v639, s_, jv v640, s_, rv b641, iv v3404, iv v3405, iv v3406, iv 1, jv v3491, s_, iv 0, jv 0, s_, iv 1, jv v3549, s_, iv 0, iv 0, iv 1]) rfl ?_
       refine k_iload X3548 hx 304 (D at_302) rfl ?_
       refine k_iload X3548 hx 306 (D at_304) rfl ?_
       have q3553 := kL_m hc3408
       have B3556 : (0 : Int) <= (0 : Int64).toInt /\ (0 : Int64).toInt <= 0 := (by decide)
       have q3555 := own_mx_f1_9 v638; rw [← hv3491] at q3555
       have B3554 : (0 : Int) <= v3491.toInt /\ v3491.toInt <= 2305843009213693951 := (by omega)
       have q3557 := kL_m hc3492
       have q3558 := kL_m hc3493
       have q3560 := own_mx_f1_81 v3491 v640; rw [← hv3549] at q3560
       have B3559 : (0 : Int) <= v3549.toInt /\ v3549.toInt <= 4611686018427387902 := (by omega)
       have q3561 := kL_m hc3550
       have q3563 : v3551.toInt = v3549.toInt - v3491.toInt := k_lsubx hv3551 B3559 B3554 (by decide) (by decide)
       have B3562 : (-2305843009213693951 : Int) <= v3551.toInt /\ v3551.toInt <= 4611686018427387902 := k_subB' q3563 B3559 B3554
       have q3564 := kL_m hc3552
       refine k_icmp_ne X3548 hx 309 327 (D at_306) (fun hc => absurd (Classical.byContradiction (fun hq3565 => by have B3566 : (-2147483648 : Int) <= v3404.toInt /\ v3404.toInt <= 2147483647 := ⟨(rng32 v3404).1, Int.le_of_lt_add_one (rng32 v3404).2⟩; have q3569 : ¬ v3404.toInt = (1 : Int32).toInt := fun q => hq3565 (Int32.toInt_inj.mp q); omega)) hc) (fun _ => ?_)
       refine k_iload X3548 hx 311 (D at_309) rfl ?_
       refine k_iload X3548 hx 313 (D at_311) rfl ?_
       refine k_icmp_ne X3548 hx 316 327 (D at_313) (fun hc => absurd (Classical.byContradiction (fun hq3570 => by have B3571 : (-2147483648 : Int) <= v3405.toInt /\ v3405.toInt <= 2147483647 := ⟨(rng32 v3405).1, Int.le_of_lt_add_one (rng32 v3405).2⟩; have q3574 : ¬ v3405.toInt = (1 : Int32).toInt := fun q => hq3570 (Int32.toInt_inj.mp q); omega)) hc) (fun _ => ?_)
       refine k_iload X3548 hx 318 (D at_316) rfl ?_
       refine k_iload X3548 hx 320 (D at_318) rfl ?_
       refine k_icmp_ne X3548 hx 323 327 (D at_320) (fun hc => absurd (Classical.byContradiction (fun hq3575 => by have B3576 : (-2147483648 : Int) <= v3406.toInt /\ v3406.toInt <= 2147483647 := ⟨(rng32 v3406).1, Int.le_of_lt_add_one (rng32 v3406).2⟩; have q3579 : ¬ v3406.toInt = (1 : Int32).toInt := fun q => hq3575 (Int32.toInt_inj.mp q); omega)) hc) (fun _ => ?_)
       refine k_iconst X3548 hx 324 (D at_323) (z := (1 : Int32)) rfl ?_
       refine k_goto X3548 hx 328 (D at_324) ?_
       exact k_retN X3548 hx (t := .boolean) hret (by simp) (D at_328) hlk (by first | exact hce3403 | exact Nat.le_trans (Nat.le_refl _) hce3403) (by first | exact hsl3403 | exact Nat.le_trans (Nat.le_refl _) hsl3403) (z' := (1 : Int32)) rfl ⟨rfl, N3548'⟩
      ·
       refine k_iconst X3548 hx 279 (D at_278) (z := (1 : Int32)) rfl ?_
       refine k_goto X3548 hx 283 (D at_279) ?_
       refine k_istore X3548 hx 285 (D at_283) (Ls' := #[iv i0, jv i1, s_, jv i2, s_, jv i3, s_, jv i4, s_, jv v3, s_, jv v7, s_, jv v11, s_, iv 2, jv v637, s_, jv v638, s_, jv v639, s_, jv v640, s_, rv b641, iv v3404, iv v3405, iv v3406, iv 1, jv v3491, s_, iv 0, jv 0, s_, iv 1, jv v3549, s_, iv 0, iv 1, u_]) rfl ?_
       refine k_iload X3548 hx 287 (D at_285) rfl ?_
       refine k_if_ne X3548 hx 290 299 (D at_287) (fun hc => absurd (by decide) hc) (fun _ => ?_)
       refine k_iload X3548 hx 292 (D at_290) rfl ?_
       refine k_if_ne X3548 hx 295 299 (D at_292) (fun _ => ?_) (fun hc => absurd hc (by decide))
       refine k_iconst X3548 hx 300 (D at_299) (z := (0 : Int32)) rfl ?_
       refine k_istore X3548 hx 302 (D at_300) (Ls' := #[iv i0, jv i1, s_, jv i2, s_, jv i3, s_, jv i4, s_, jv v3, s_, jv v7, s_, jv v11, s_, iv 2, jv v637, s_, jv v638, s_, jv v639, s_, jv v640, s_, rv b641, iv v3404, iv v3405, iv v3406, iv 1, jv v3491, s_, iv 0, jv 0, s_, iv 1, jv v3549, s_, iv 0, iv 1, iv 0]) rfl ?_
       refine k_iload X3548 hx 304 (D at_302) rfl ?_
       refine k_iload X3548 hx 306 (D at_304) rfl ?_
       have q3580 := kL_m hc3408
       have B3583 : (0 : Int) <= (0 : Int64).toInt /\ (0 : Int64).toInt <= 0 := (by decide)
       have q3582 := own_mx_f1_9 v638; rw [← hv3491] at q3582
       have B3581 : (0 : Int) <= v3491.toInt /\ v3491.toInt <= 2305843009213693951 := (by omega)
       have q3584 := kL_m hc3492
       have q3585 := kL_m hc3493
       have q3587 := own_mx_f1_81 v3491 v640; rw [← hv3549] at q3587
       have B3586 : (0 : Int) <= v3549.toInt /\ v3549.toInt <= 4611686018427387902 := (by omega)
       have q3588 := kL_m hc3550
       have q3590 : v3551.toInt = v3549.toInt - v3491.toInt := k_lsubx hv3551 B3586 B3581 (by decide) (by decide)
       have B3589 : (-2305843009213693951 : Int) <= v3551.toInt /\ v3551.toInt <= 4611686018427387902 := k_subB' q3590 B3586 B3581
       have q3591 := kL_p hc3552
       refine k_icmp_ne X3548 hx 309 327 (D at_306) (fun hc => absurd (Classical.byContradiction (fun hq3592 => by have B3593 : (-2147483648 : Int) <= v3404.toInt /\ v3404.toInt <= 2147483647 := ⟨(rng32 v3404).1, Int.le_of_lt_add_one (rng32 v3404).2⟩; have q3596 : ¬ v3404.toInt = (1 : Int32).toInt := fun q => hq3592 (Int32.toInt_inj.mp q); omega)) hc) (fun _ => ?_)
       refine k_iload X3548 hx 311 (D at_309) rfl ?_
       refine k_iload X3548 hx 313 (D at_311) rfl ?_
       refine k_icmp_ne X3548 hx 316 327 (D at_313) (fun hc => absurd (Classical.byContradiction (fun hq3597 => by have B3598 : (-2147483648 : Int) <= v3405.toInt /\ v3405.toInt <= 2147483647 := ⟨(rng32 v3405).1, Int.le_of_lt_add_one (rng32 v3405).2⟩; have q3601 : ¬ v3405.toInt = (1 : Int32).toInt := fun q => hq3597 (Int32.toInt_inj.mp q); omega)) hc) (fun _ => ?_)
       refine k_iload X3548 hx 318 (D at_316) rfl ?_
       refine k_iload X3548 hx 320 (D at_318) rfl ?_
       refine k_icmp_ne X3548 hx 323 327 (D at_320) (fun hc => absurd (Classical.byContradiction (fun hq3602 => by have B3603 : (-2147483648 : Int) <= v3406.toInt /\ v3406.toInt <= 2147483647 := ⟨(rng32 v3406).1, Int.le_of_lt_add_one (rng32 v3406).2⟩; have B3606 : (0 : Int) <= (0 : Int32).toInt /\ (0 : Int32).toInt <= 0 := (by decide); have q3607 : ¬ v3406.toInt = (0 : Int32).toInt := fun q => hq3602 (Int32.toInt_inj.mp q); omega)) hc) (fun _ => ?_)
       refine k_iconst X3548 hx 324 (D at_323) (z := (1 : Int32)) rfl ?_
       refine k_goto X3548 hx 328 (D at_324) ?_
       exact k_retN X3548 hx (t := .boolean) hret (by simp) (D at_328) hlk (by first | exact hce3403 | exact Nat.le_trans (Nat.le_refl _) hce3403) (by first | exact hsl3403 | exact Nat.le_trans (Nat.le_refl _) hsl3403) (z' := (1 : Int32)) rfl ⟨rfl, N3548'⟩
     ·
      refine k_iconst X3548 hx 256 (D at_255) (z := (1 : Int32)) rfl ?_
      refine k_goto X3548 hx 260 (D at_256) ?_
      refine k_istore X3548 hx 262 (D at_260) (Ls' := #[iv i0, jv i1, s_, jv i2, s_, jv i3, s_, jv i4, s_, jv v3, s_, jv v7, s_, jv v11, s_, iv 2, jv v637, s_, jv v638, s_, jv v639, s_, jv v640, s_, rv b641, iv v3404, iv v3405, iv v3406, iv 1, jv v3491, s_, iv 0, jv 0, s_, iv 1, jv v3549, s_, iv 1, u_, u_]) rfl ?_
      refine k_iload X3548 hx 264 (D at_262) rfl ?_
      refine k_if_eq X3548 hx 267 282 (D at_264) (fun hc => absurd hc (by decide)) (fun _ => ?_)
      refine k_lload X3548 hx 269 (D at_267) rfl ?_
      refine k_lload X3548 hx 271 (D at_269) rfl ?_
      refine k_lsub X3548 hx 272 (D at_271) (fun v3608 hv3608 => ?_)
      refine k_lload X3548 hx 274 (D at_272) rfl ?_
      refine k_lcif_ge X3548 hx 278 282 275 (D at_274) (D at_275) (fun hc => absurd (Classical.byContradiction (fun hq3609 => by have B3612 : (0 : Int) <= (0 : Int64).toInt /\ (0 : Int64).toInt <= 0 := (by decide); have q3611 := own_mx_f1_9 v638; rw [← hv3491] at q3611; have B3610 : (0 : Int) <= v3491.toInt /\ v3491.toInt <= 2305843009213693951 := (by omega); have q3613 := kL_m hc3492; have q3615 := own_mx_f1_81 v3491 v640; rw [← hv3549] at q3615; have B3614 : (0 : Int) <= v3549.toInt /\ v3549.toInt <= 4611686018427387902 := (by omega); have q3616 := kL_p hc3550; have q3618 : v3608.toInt = v3549.toInt - v3491.toInt := k_lsubx hv3608 B3614 B3610 (by decide) (by decide); have B3617 : (-2305843009213693951 : Int) <= v3608.toInt /\ v3608.toInt <= 4611686018427387902 := k_subB' q3618 B3614 B3610; have q3619 := kL_m hq3609; omega)) hc) (fun _ => ?_)
      refine k_iconst X3548 hx 279 (D at_278) (z := (1 : Int32)) rfl ?_
      refine k_goto X3548 hx 283 (D at_279) ?_
      refine k_istore X3548 hx 285 (D at_283) (Ls' := #[iv i0, jv i1, s_, jv i2, s_, jv i3, s_, jv i4, s_, jv v3, s_, jv v7, s_, jv v11, s_, iv 2, jv v637, s_, jv v638, s_, jv v639, s_, jv v640, s_, rv b641, iv v3404, iv v3405, iv v3406, iv 1, jv v3491, s_, iv 0, jv 0, s_, iv 1, jv v3549, s_, iv 1, iv 1, u_]) rfl ?_
      refine k_iload X3548 hx 287 (D at_285) rfl ?_
      refine k_if_ne X3548 hx 290 299 (D at_287) (fun _ => ?_) (fun hc => absurd hc (by decide))
      refine k_iconst X3548 hx 300 (D at_299) (z := (0 : Int32)) rfl ?_
      refine k_istore X3548 hx 302 (D at_300) (Ls' := #[iv i0, jv i1, s_, jv i2, s_, jv i3, s_, jv i4, s_, jv v3, s_, jv v7, s_, jv v11, s_, iv 2, jv v637, s_, jv v638, s_, jv v639, s_, jv v640, s_, rv b641, iv v3404, iv v3405, iv v3406, iv 1, jv v3491, s_, iv 0, jv 0, s_, iv 1, jv v3549, s_, iv 1, iv 1, iv 0]) rfl ?_
      refine k_iload X3548 hx 304 (D at_302) rfl ?_
      refine k_iload X3548 hx 306 (D at_304) rfl ?_
      have q3620 := kL_m hc3408
      have B3623 : (0 : Int) <= (0 : Int64).toInt /\ (0 : Int64).toInt <= 0 := (by decide)
      have q3622 := own_mx_f1_9 v638; rw [← hv3491] at q3622
      have B3621 : (0 : Int) <= v3491.toInt /\ v3491.toInt <= 2305843009213693951 := (by omega)
      have q3624 := kL_m hc3492
      have q3625 := kL_m hc3493
      have q3627 := own_mx_f1_81 v3491 v640; rw [← hv3549] at q3627
      have B3626 : (0 : Int) <= v3549.toInt /\ v3549.toInt <= 4611686018427387902 := (by omega)
      have q3628 := kL_p hc3550
      refine k_icmp_ne X3548 hx 309 327 (D at_306) (fun hc => absurd (Classical.byContradiction (fun hq3629 => by have B3630 : (-2147483648 : Int) <= v3404.toInt /\ v3404.toInt <= 2147483647 := ⟨(rng32 v3404).1, Int.le_of_lt_add_one (rng32 v3404).2⟩; have q3633 : ¬ v3404.toInt = (1 : Int32).toInt := fun q => hq3629 (Int32.toInt_inj.mp q); omega)) hc) (fun _ => ?_)
      refine k_iload X3548 hx 311 (D at_309) rfl ?_
      refine k_iload X3548 hx 313 (D at_311) rfl ?_
      refine k_icmp_ne X3548 hx 316 327 (D at_313) (fun hc => absurd (Classical.byContradiction (fun hq3634 => by have B3635 : (-2147483648 : Int) <= v3405.toInt /\ v3405.toInt <= 2147483647 := ⟨(rng32 v3405).1, Int.le_of_lt_add_one (rng32 v3405).2⟩; have q3638 : ¬ v3405.toInt = (1 : Int32).toInt := fun q => hq3634 (Int32.toInt_inj.mp q); omega)) hc) (fun _ => ?_)
      refine k_iload X3548 hx 318 (D at_316) rfl ?_
      refine k_iload X3548 hx 320 (D at_318) rfl ?_
      refine k_icmp_ne X3548 hx 323 327 (D at_320) (fun hc => absurd (Classical.byContradiction (fun hq3639 => by have B3640 : (-2147483648 : Int) <= v3406.toInt /\ v3406.toInt <= 2147483647 := ⟨(rng32 v3406).1, Int.le_of_lt_add_one (rng32 v3406).2⟩; have B3643 : (0 : Int) <= (0 : Int32).toInt /\ (0 : Int32).toInt <= 0 := (by decide); have q3644 : ¬ v3406.toInt = (0 : Int32).toInt := fun q => hq3639 (Int32.toInt_inj.mp q); omega)) hc) (fun _ => ?_)
      refine k_iconst X3548 hx 324 (D at_323) (z := (1 : Int32)) rfl ?_
      refine k_goto X3548 hx 328 (D at_324) ?_
      exact k_retN X3548 hx (t := .boolean) hret (by simp) (D at_328) hlk (by first | exact hce3403 | exact Nat.le_trans (Nat.le_refl _) hce3403) (by first | exact hsl3403 | exact Nat.le_trans (Nat.le_refl _) hsl3403) (z' := (1 : Int32)) rfl ⟨rfl, N3548'⟩
   ·
    refine k_iconst X3490 hx 190 (D at_189) (z := (1 : Int32)) rfl ?_
    refine k_goto X3490 hx 194 (D at_190) ?_
    refine k_istore X3490 hx 196 (D at_194) (Ls' := #[iv i0, jv i1, s_, jv i2, s_, jv i3, s_, jv i4, s_, jv v3, s_, jv v7, s_, jv v11, s_, iv 2, jv v637, s_, jv v638, s_, jv v639, s_, jv v640, s_, rv b641, iv v3404, iv v3405, iv v3406, iv 1, jv v3491, s_, iv 1, u_, u_, u_, u_, u_, u_, u_, u_]) rfl ?_
    refine k_iload X3490 hx 198 (D at_196) rfl ?_
    refine k_if_eq X3490 hx 201 206 (D at_198) (fun hc => absurd hc (by decide)) (fun _ => ?_)
    refine k_lload X3490 hx 203 (D at_201) rfl ?_
    refine k_goto X3490 hx 207 (D at_203) ?_
    refine k_lstore X3490 hx 209 (D at_207) (Ls' := #[iv i0, jv i1, s_, jv i2, s_, jv i3, s_, jv i4, s_, jv v3, s_, jv v7, s_, jv v11, s_, iv 2, jv v637, s_, jv v638, s_, jv v639, s_, jv v640, s_, rv b641, iv v3404, iv v3405, iv v3406, iv 1, jv v3491, s_, iv 1, jv v7, s_, u_, u_, u_, u_, u_, u_]) rfl ?_
    refine k_iload X3490 hx 211 (D at_209) rfl ?_
    refine k_iconst X3490 hx 212 (D at_211) (z := (2 : Int32)) rfl ?_
    refine k_icmp_lt X3490 hx 215 230 (D at_212) (fun hc => absurd hc (by decide)) (fun _ => ?_)
    refine k_lload X3490 hx 217 (D at_215) rfl ?_
    refine k_lload X3490 hx 219 (D at_217) rfl ?_
    refine k_lload X3490 hx 221 (D at_219) rfl ?_
    refine k_lsub X3490 hx 222 (D at_221) (fun v3645 hv3645 => ?_)
    refine k_lcif_gt X3490 hx 226 230 223 (D at_222) (D at_223) (fun hc3646 => ?_) (fun hc3646 => ?_)
    ·
     refine k_iconst X3490 hx 231 (D at_230) (z := (0 : Int32)) rfl ?_
     refine k_istore X3490 hx 233 (D at_231) (Ls' := #[iv i0, jv i1, s_, jv i2, s_, jv i3, s_, jv i4, s_, jv v3, s_, jv v7, s_, jv v11, s_, iv 2, jv v637, s_, jv v638, s_, jv v639, s_, jv v640, s_, rv b641, iv v3404, iv v3405, iv v3406, iv 1, jv v3491, s_, iv 1, jv v7, s_, iv 0, u_, u_, u_, u_, u_]) rfl ?_
     refine k_lload X3490 hx 235 (D at_233) rfl ?_
     refine k_lload X3490 hx 237 (D at_235) rfl ?_
     refine k_callS X3490 hx hZ hown 240 (k_w hw 1 rfl) (k_w hw 2 rfl) (k_w hw 3 rfl) (k_w hw 4 rfl) (by decide) (rm1_81 l Z a0 hw [] v3491 v640 T3403.heap n0 Z3403 ) (by decide) (by decide) e3490 (by rw [hml]; rfl) (argsL := [(.long v3491), (.long v640)]) (rest := []) (lenOf pd_0 rfl) rfl (W := 0) (Nat.le_refl _) rfl (D at_237) (by show _ + 0 <= _; exact Nat.le_trans hce3403 (by decide)) (by show _ + 0 <= _; exact Nat.le_trans hsl3403 (by decide)) (fun T3647 L3647 r3647 X3647 q3647 => ?_)
     obtain ⟨N3647, e3647, rfl⟩ := q3647
     have N3647' := Fr.app N3490' N3647
     show KEnds p e below s _ _ _ T3647 (mkF m 240 #[iv i0, jv i1, s_, jv i2, s_, jv i3, s_, jv i4, s_, jv v3, s_, jv v7, s_, jv v11, s_, iv 2, jv v637, s_, jv v638, s_, jv v639, s_, jv v640, s_, rv b641, iv v3404, iv v3405, iv v3406, iv 1, jv v3491, s_, iv 1, jv v7, s_, iv 0, u_, u_, u_, u_, u_] ((.long (f1_81 v3491 v640)) :: []))
     obtain ⟨v3648, hv3648⟩ : ∃ z, z = f1_81 v3491 v640 := ⟨_, rfl⟩
     rw [← hv3648]
     refine k_lstore X3647 hx 242 (D at_240) (Ls' := #[iv i0, jv i1, s_, jv i2, s_, jv i3, s_, jv i4, s_, jv v3, s_, jv v7, s_, jv v11, s_, iv 2, jv v637, s_, jv v638, s_, jv v639, s_, jv v640, s_, rv b641, iv v3404, iv v3405, iv v3406, iv 1, jv v3491, s_, iv 1, jv v7, s_, iv 0, jv v3648, s_, u_, u_, u_]) rfl ?_
     refine k_iload X3647 hx 244 (D at_242) rfl ?_
     refine k_if_eq X3647 hx 247 259 (D at_244) (fun hc => absurd hc (by decide)) (fun _ => ?_)
     refine k_lload X3647 hx 249 (D at_247) rfl ?_
     refine k_lload X3647 hx 251 (D at_249) rfl ?_
     refine k_lcif_ge X3647 hx 255 259 252 (D at_251) (D at_252) (fun hc3649 => ?_) (fun hc3649 => ?_)
     ·
      refine k_iconst X3647 hx 260 (D at_259) (z := (0 : Int32)) rfl ?_
      refine k_istore X3647 hx 262 (D at_260) (Ls' := #[iv i0, jv i1, s_, jv i2, s_, jv i3, s_, jv i4, s_, jv v3, s_, jv v7, s_, jv v11, s_, iv 2, jv v637, s_, jv v638, s_, jv v639, s_, jv v640, s_, rv b641, iv v3404, iv v3405, iv v3406, iv 1, jv v3491, s_, iv 1, jv v7, s_, iv 0, jv v3648, s_, iv 0, u_, u_]) rfl ?_
      refine k_iload X3647 hx 264 (D at_262) rfl ?_
      refine k_if_eq X3647 hx 267 282 (D at_264) (fun _ => ?_) (fun hc => absurd (by decide) hc)
      refine k_iconst X3647 hx 283 (D at_282) (z := (0 : Int32)) rfl ?_
      refine k_istore X3647 hx 285 (D at_283) (Ls' := #[iv i0, jv i1, s_, jv i2, s_, jv i3, s_, jv i4, s_, jv v3, s_, jv v7, s_, jv v11, s_, iv 2, jv v637, s_, jv v638, s_, jv v639, s_, jv v640, s_, rv b641, iv v3404, iv v3405, iv v3406, iv 1, jv v3491, s_, iv 1, jv v7, s_, iv 0, jv v3648, s_, iv 0, iv 0, u_]) rfl ?_
      refine k_iload X3647 hx 287 (D at_285) rfl ?_
      refine k_if_ne X3647 hx 290 299 (D at_287) (fun hc => absurd (by decide) hc) (fun _ => ?_)
      refine k_iload X3647 hx 292 (D at_290) rfl ?_
      refine k_if_ne X3647 hx 295 299 (D at_292) (fun hc => absurd (by decide) hc) (fun _ => ?_)
      refine k_iconst X3647 hx 296 (D at_295) (z := (1 : Int32)) rfl ?_
      refine k_goto X3647 hx 300 (D at_296) ?_
      refine k_istore X3647 hx 302 (D at_300) (Ls' := #[iv i0, jv i1, s_, jv i2, s_, jv i3, s_, jv i4, s_, jv v3, s_, jv v7, s_, jv v11, s_, iv 2, jv v637, s_, jv v638, s_, jv v639, s_, jv v640, s_, rv b641, iv v3404, iv v3405, iv v3406, iv 1, jv v3491, s_, iv 1, jv v7, s_, iv 0, jv v3648, s_, iv 0, iv 0, iv 1]) rfl ?_
      refine k_iload X3647 hx 304 (D at_302) rfl ?_
      refine k_iload X3647 hx 306 (D at_304) rfl ?_
      have q3650 := kL_m hc3408
      have B3653 : (0 : Int) <= (0 : Int64).toInt /\ (0 : Int64).toInt <= 0 := (by decide)
      have q3652 := own_mx_f1_9 v638; rw [← hv3491] at q3652
      have B3651 : (0 : Int) <= v3491.toInt /\ v3491.toInt <= 2305843009213693951 := (by omega)
      have q3654 := kL_p hc3492
      have q3656 : v3645.toInt = v3.toInt - v7.toInt := k_lsubx hv3645 B708 B722 (by decide) (by decide)
      have B3655 : (-7 : Int) <= v3645.toInt /\ v3645.toInt <= 7 := k_subB' q3656 B708 B722
      have q3657 := kL_p hc3646
      have q3659 := own_mx_f1_81 v3491 v640; rw [← hv3648] at q3659
      have B3658 : (0 : Int) <= v3648.toInt /\ v3648.toInt <= 4611686018427387902 := (by omega)
      have q3660 := kL_m hc3649
      refine k_icmp_ne X3647 hx 309 327 (D at_306) (fun hc => absurd (Classical.byContradiction (fun hq3661 => by have B3662 : (-2147483648 : Int) <= v3404.toInt /\ v3404.toInt <= 2147483647 := ⟨(rng32 v3404).1, Int.le_of_lt_add_one (rng32 v3404).2⟩; have q3665 : ¬ v3404.toInt = (1 : Int32).toInt := fun q => hq3661 (Int32.toInt_inj.mp q); omega)) hc) (fun _ => ?_)
      refine k_iload X3647 hx 311 (D at_309) rfl ?_
      refine k_iload X3647 hx 313 (D at_311) rfl ?_
      refine k_icmp_ne X3647 hx 316 327 (D at_313) (fun hc => absurd (Classical.byContradiction (fun hq3666 => by have B3667 : (-2147483648 : Int) <= v3405.toInt /\ v3405.toInt <= 2147483647 := ⟨(rng32 v3405).1, Int.le_of_lt_add_one (rng32 v3405).2⟩; have B3670 : (0 : Int) <= (0 : Int32).toInt /\ (0 : Int32).toInt <= 0 := (by decide); have q3671 : ¬ v3405.toInt = (0 : Int32).toInt := fun q => hq3666 (Int32.toInt_inj.mp q); omega)) hc) (fun _ => ?_)
      refine k_iload X3647 hx 318 (D at_316) rfl ?_
      refine k_iload X3647 hx 320 (D at_318) rfl ?_
      refine k_icmp_ne X3647 hx 323 327 (D at_320) (fun hc => absurd (Classical.byContradiction (fun hq3672 => by have B3673 : (-2147483648 : Int) <= v3406.toInt /\ v3406.toInt <= 2147483647 := ⟨(rng32 v3406).1, Int.le_of_lt_add_one (rng32 v3406).2⟩; have q3676 : ¬ v3406.toInt = (1 : Int32).toInt := fun q => hq3672 (Int32.toInt_inj.mp q); omega)) hc) (fun _ => ?_)
      refine k_iconst X3647 hx 324 (D at_323) (z := (1 : Int32)) rfl ?_
      refine k_goto X3647 hx 328 (D at_324) ?_
      exact k_retN X3647 hx (t := .boolean) hret (by simp) (D at_328) hlk (by first | exact hce3403 | exact Nat.le_trans (Nat.le_refl _) hce3403) (by first | exact hsl3403 | exact Nat.le_trans (Nat.le_refl _) hsl3403) (z' := (1 : Int32)) rfl ⟨rfl, N3647'⟩
     ·
      refine k_iconst X3647 hx 256 (D at_255) (z := (1 : Int32)) rfl ?_
      refine k_goto X3647 hx 260 (D at_256) ?_
      refine k_istore X3647 hx 262 (D at_260) (Ls' := #[iv i0, jv i1, s_, jv i2, s_, jv i3, s_, jv i4, s_, jv v3, s_, jv v7, s_, jv v11, s_, iv 2, jv v637, s_, jv v638, s_, jv v639, s_, jv v640, s_, rv b641, iv v3404, iv v3405, iv v3406, iv 1, jv v3491, s_, iv 1, jv v7, s_, iv 0, jv v3648, s_, iv 1, u_, u_]) rfl ?_
      refine k_iload X3647 hx 264 (D at_262) rfl ?_
      refine k_if_eq X3647 hx 267 282 (D at_264) (fun _ => ?_) (fun hc => absurd (by decide) hc)
      refine k_iconst X3647 hx 283 (D at_282) (z := (0 : Int32)) rfl ?_
      refine k_istore X3647 hx 285 (D at_283) (Ls' := #[iv i0, jv i1, s_, jv i2, s_, jv i3, s_, jv i4, s_, jv v3, s_, jv v7, s_, jv v11, s_, iv 2, jv v637, s_, jv v638, s_, jv v639, s_, jv v640, s_, rv b641, iv v3404, iv v3405, iv v3406, iv 1, jv v3491, s_, iv 1, jv v7, s_, iv 0, jv v3648, s_, iv 1, iv 0, u_]) rfl ?_
      refine k_iload X3647 hx 287 (D at_285) rfl ?_
      refine k_if_ne X3647 hx 290 299 (D at_287) (fun _ => ?_) (fun hc => absurd hc (by decide))
      refine k_iconst X3647 hx 300 (D at_299) (z := (0 : Int32)) rfl ?_
      refine k_istore X3647 hx 302 (D at_300) (Ls' := #[iv i0, jv i1, s_, jv i2, s_, jv i3, s_, jv i4, s_, jv v3, s_, jv v7, s_, jv v11, s_, iv 2, jv v637, s_, jv v638, s_, jv v639, s_, jv v640, s_, rv b641, iv v3404, iv v3405, iv v3406, iv 1, jv v3491, s_, iv 1, jv v7, s_, iv 0, jv v3648, s_, iv 1, iv 0, iv 0]) rfl ?_
      refine k_iload X3647 hx 304 (D at_302) rfl ?_
      refine k_iload X3647 hx 306 (D at_304) rfl ?_
      have q3677 := kL_m hc3408
      have B3680 : (0 : Int) <= (0 : Int64).toInt /\ (0 : Int64).toInt <= 0 := (by decide)
      have q3679 := own_mx_f1_9 v638; rw [← hv3491] at q3679
      have B3678 : (0 : Int) <= v3491.toInt /\ v3491.toInt <= 2305843009213693951 := (by omega)
      have q3681 := kL_p hc3492
      have q3683 : v3645.toInt = v3.toInt - v7.toInt := k_lsubx hv3645 B708 B722 (by decide) (by decide)
      have B3682 : (-7 : Int) <= v3645.toInt /\ v3645.toInt <= 7 := k_subB' q3683 B708 B722
      have q3684 := kL_p hc3646
      have q3686 := own_mx_f1_81 v3491 v640; rw [← hv3648] at q3686
      have B3685 : (0 : Int) <= v3648.toInt /\ v3648.toInt <= 4611686018427387902 := (by omega)
      have q3687 := kL_p hc3649
      refine k_icmp_ne X3647 hx 309 327 (D at_306) (fun hc => absurd (Classical.byContradiction (fun hq3688 => by have B3689 : (-2147483648 : Int) <= v3404.toInt /\ v3404.toInt <= 2147483647 := ⟨(rng32 v3404).1, Int.le_of_lt_add_one (rng32 v3404).2⟩; have q3692 : ¬ v3404.toInt = (1 : Int32).toInt := fun q => hq3688 (Int32.toInt_inj.mp q); omega)) hc) (fun _ => ?_)
      refine k_iload X3647 hx 311 (D at_309) rfl ?_
      refine k_iload X3647 hx 313 (D at_311) rfl ?_
      refine k_icmp_ne X3647 hx 316 327 (D at_313) (fun hc => absurd (Classical.byContradiction (fun hq3693 => by have B3694 : (-2147483648 : Int) <= v3405.toInt /\ v3405.toInt <= 2147483647 := ⟨(rng32 v3405).1, Int.le_of_lt_add_one (rng32 v3405).2⟩; have B3697 : (0 : Int) <= (0 : Int32).toInt /\ (0 : Int32).toInt <= 0 := (by decide); have q3698 : ¬ v3405.toInt = (0 : Int32).toInt := fun q => hq3693 (Int32.toInt_inj.mp q); omega)) hc) (fun _ => ?_)
      refine k_iload X3647 hx 318 (D at_316) rfl ?_
      refine k_iload X3647 hx 320 (D at_318) rfl ?_
      refine k_icmp_ne X3647 hx 323 327 (D at_320) (fun hc => absurd (Classical.byContradiction (fun hq3699 => by have B3700 : (-2147483648 : Int) <= v3406.toInt /\ v3406.toInt <= 2147483647 := ⟨(rng32 v3406).1, Int.le_of_lt_add_one (rng32 v3406).2⟩; have B3703 : (0 : Int) <= (0 : Int32).toInt /\ (0 : Int32).toInt <= 0 := (by decide); have q3704 : ¬ v3406.toInt = (0 : Int32).toInt := fun q => hq3699 (Int32.toInt_inj.mp q); omega)) hc) (fun _ => ?_)
      refine k_iconst X3647 hx 324 (D at_323) (z := (1 : Int32)) rfl ?_
      refine k_goto X3647 hx 328 (D at_324) ?_
      exact k_retN X3647 hx (t := .boolean) hret (by simp) (D at_328) hlk (by first | exact hce3403 | exact Nat.le_trans (Nat.le_refl _) hce3403) (by first | exact hsl3403 | exact Nat.le_trans (Nat.le_refl _) hsl3403) (z' := (1 : Int32)) rfl ⟨rfl, N3647'⟩
    ·
     refine k_iconst X3490 hx 227 (D at_226) (z := (1 : Int32)) rfl ?_
     refine k_goto X3490 hx 231 (D at_227) ?_
     refine k_istore X3490 hx 233 (D at_231) (Ls' := #[iv i0, jv i1, s_, jv i2, s_, jv i3, s_, jv i4, s_, jv v3, s_, jv v7, s_, jv v11, s_, iv 2, jv v637, s_, jv v638, s_, jv v639, s_, jv v640, s_, rv b641, iv v3404, iv v3405, iv v3406, iv 1, jv v3491, s_, iv 1, jv v7, s_, iv 1, u_, u_, u_, u_, u_]) rfl ?_
     refine k_lload X3490 hx 235 (D at_233) rfl ?_
     refine k_lload X3490 hx 237 (D at_235) rfl ?_
     refine k_callS X3490 hx hZ hown 240 (k_w hw 1 rfl) (k_w hw 2 rfl) (k_w hw 3 rfl) (k_w hw 4 rfl) (by decide) (rm1_81 l Z a0 hw [] v3491 v640 T3403.heap n0 Z3403 ) (by decide) (by decide) e3490 (by rw [hml]; rfl) (argsL := [(.long v3491), (.long v640)]) (rest := []) (lenOf pd_0 rfl) rfl (W := 0) (Nat.le_refl _) rfl (D at_237) (by show _ + 0 <= _; exact Nat.le_trans hce3403 (by decide)) (by show _ + 0 <= _; exact Nat.le_trans hsl3403 (by decide)) (fun T3705 L3705 r3705 X3705 q3705 => ?_)
     obtain ⟨N3705, e3705, rfl⟩ := q3705
     have N3705' := Fr.app N3490' N3705
     show KEnds p e below s _ _ _ T3705 (mkF m 240 #[iv i0, jv i1, s_, jv i2, s_, jv i3, s_, jv i4, s_, jv v3, s_, jv v7, s_, jv v11, s_, iv 2, jv v637, s_, jv v638, s_, jv v639, s_, jv v640, s_, rv b641, iv v3404, iv v3405, iv v3406, iv 1, jv v3491, s_, iv 1, jv v7, s_, iv 1, u_, u_, u_, u_, u_] ((.long (f1_81 v3491 v640)) :: []))
     obtain ⟨v3706, hv3706⟩ : ∃ z, z = f1_81 v3491 v640 := ⟨_, rfl⟩
     rw [← hv3706]
     refine k_lstore X3705 hx 242 (D at_240) (Ls' := #[iv i0, jv i1, s_, jv i2, s_, jv i3, s_, jv i4, s_, jv v3, s_, jv v7, s_, jv v11, s_, iv 2, jv v637, s_, jv v638, s_, jv v639, s_, jv v640, s_, rv b641, iv v3404, iv v3405, iv v3406, iv 1, jv v3491, s_, iv 1, jv v7, s_, iv 1, jv v3706, s_, u_, u_, u_]) rfl ?_
     refine k_iload X3705 hx 244 (D at_242) rfl ?_
     refine k_if_eq X3705 hx 247 259 (D at_244) (fun hc => absurd hc (by decide)) (fun _ => ?_)
     refine k_lload X3705 hx 249 (D at_247) rfl ?_
     refine k_lload X3705 hx 251 (D at_249) rfl ?_
     refine k_lcif_ge X3705 hx 255 259 252 (D at_251) (D at_252) (fun hc3707 => ?_) (fun hc3707 => ?_)
     ·
      refine k_iconst X3705 hx 260 (D at_259) (z := (0 : Int32)) rfl ?_
      refine k_istore X3705 hx 262 (D at_260) (Ls' := #[iv i0, jv i1, s_, jv i2, s_, jv i3, s_, jv i4, s_, jv v3, s_, jv v7, s_, jv v11, s_, iv 2, jv v637, s_, jv v638, s_, jv v639, s_, jv v640, s_, rv b641, iv v3404, iv v3405, iv v3406, iv 1, jv v3491, s_, iv 1, jv v7, s_, iv 1, jv v3706, s_, iv 0, u_, u_]) rfl ?_
      refine k_iload X3705 hx 264 (D at_262) rfl ?_
      refine k_if_eq X3705 hx 267 282 (D at_264) (fun hc => absurd hc (by decide)) (fun _ => ?_)
      refine k_lload X3705 hx 269 (D at_267) rfl ?_
      refine k_lload X3705 hx 271 (D at_269) rfl ?_
      refine k_lsub X3705 hx 272 (D at_271) (fun v3708 hv3708 => ?_)
      refine k_lload X3705 hx 274 (D at_272) rfl ?_
      refine k_lcif_ge X3705 hx 278 282 275 (D at_274) (D at_275) (fun hc3709 => ?_) (fun hc3709 => ?_)
      ·
       refine k_iconst X3705 hx 283 (D at_282) (z := (0 : Int32)) rfl ?_
       refine k_istore X3705 hx 285 (D at_283) (Ls' := #[iv i0, jv i1, s_, jv i2, s_, jv i3, s_, jv i4, s_, jv v3, s_, jv v7, s_, jv v11, s_, iv 2, jv v637, s_, jv v638, s_, jv v639, s_, jv v640, s_, rv b641, iv v3404, iv v3405, iv v3406, iv 1, jv v3491, s_, iv 1, jv v7, s_, iv 1, jv v3706, s_, iv 0, iv 0, u_]) rfl ?_
       refine k_iload X3705 hx 287 (D at_285) rfl ?_
       refine k_if_ne X3705 hx 290 299 (D at_287) (fun hc => absurd (by decide) hc) (fun _ => ?_)
       refine k_iload X3705 hx 292 (D at_290) rfl ?_
       refine k_if_ne X3705 hx 295 299 (D at_292) (fun hc => absurd (by decide) hc) (fun _ => ?_)
       refine k_iconst X3705 hx 296 (D at_295) (z := (1 : Int32)) rfl ?_
       refine k_goto X3705 hx 300 (D at_296) ?_
       refine k_istore X3705 hx 302 (D at_300) (Ls' := #[iv i0, jv i1, s_, jv i2, s_, jv i3, s_, jv i4, s_, jv v3, s_, jv v7, s_, jv v11, s_, iv 2, jv v637, s_, jv v638, s_, jv v639, s_, jv v640, s_, rv b641, iv v3404, iv v3405, iv v3406, iv 1, jv v3491, s_, iv 1, jv v7, s_, iv 1, jv v3706, s_, iv 0, iv 0, iv 1]) rfl ?_
       refine k_iload X3705 hx 304 (D at_302) rfl ?_
       refine k_iload X3705 hx 306 (D at_304) rfl ?_
       have q3710 := kL_m hc3408
       have B3713 : (0 : Int) <= (0 : Int64).toInt /\ (0 : Int64).toInt <= 0 := (by decide)
       have q3712 := own_mx_f1_9 v638; rw [← hv3491] at q3712
       have B3711 : (0 : Int) <= v3491.toInt /\ v3491.toInt <= 2305843009213693951 := (by omega)
       have q3714 := kL_p hc3492
       have q3716 : v3645.toInt = v3.toInt - v7.toInt := k_lsubx hv3645 B708 B722 (by decide) (by decide)
       have B3715 : (-7 : Int) <= v3645.toInt /\ v3645.toInt <= 7 := k_subB' q3716 B708 B722
       have q3717 := kL_m hc3646
       have q3719 := own_mx_f1_81 v3491 v640; rw [← hv3706] at q3719
       have B3718 : (0 : Int) <= v3706.toInt /\ v3706.toInt <= 4611686018427387902 := (by omega)
       have q3720 := kL_m hc3707
       have q3722 : v3708.toInt = v3706.toInt - v3491.toInt := k_lsubx hv3708 B3718 B3711 (by decide) (by decide)
       have B3721 : (-2305843009213693951 : Int) <= v3708.toInt /\ v3708.toInt <= 4611686018427387902 := k_subB' q3722 B3718 B3711
       have q3723 := kL_m hc3709
       refine k_icmp_ne X3705 hx 309 327 (D at_306) (fun hc => absurd (Classical.byContradiction (fun hq3724 => by have B3725 : (-2147483648 : Int) <= v3404.toInt /\ v3404.toInt <= 2147483647 := ⟨(rng32 v3404).1, Int.le_of_lt_add_one (rng32 v3404).2⟩; have q3728 : ¬ v3404.toInt = (1 : Int32).toInt := fun q => hq3724 (Int32.toInt_inj.mp q); omega)) hc) (fun _ => ?_)
       refine k_iload X3705 hx 311 (D at_309) rfl ?_
       refine k_iload X3705 hx 313 (D at_311) rfl ?_
       refine k_icmp_ne X3705 hx 316 327 (D at_313) (fun hc => absurd (Classical.byContradiction (fun hq3729 => by have B3730 : (-2147483648 : Int) <= v3405.toInt /\ v3405.toInt <= 2147483647 := ⟨(rng32 v3405).1, Int.le_of_lt_add_one (rng32 v3405).2⟩; have q3733 : ¬ v3405.toInt = (1 : Int32).toInt := fun q => hq3729 (Int32.toInt_inj.mp q); omega)) hc) (fun _ => ?_)
       refine k_iload X3705 hx 318 (D at_316) rfl ?_
       refine k_iload X3705 hx 320 (D at_318) rfl ?_
       refine k_icmp_ne X3705 hx 323 327 (D at_320) (fun hc => absurd (Classical.byContradiction (fun hq3734 => by have B3735 : (-2147483648 : Int) <= v3406.toInt /\ v3406.toInt <= 2147483647 := ⟨(rng32 v3406).1, Int.le_of_lt_add_one (rng32 v3406).2⟩; have q3738 : ¬ v3406.toInt = (1 : Int32).toInt := fun q => hq3734 (Int32.toInt_inj.mp q); omega)) hc) (fun _ => ?_)
       refine k_iconst X3705 hx 324 (D at_323) (z := (1 : Int32)) rfl ?_
       refine k_goto X3705 hx 328 (D at_324) ?_
       exact k_retN X3705 hx (t := .boolean) hret (by simp) (D at_328) hlk (by first | exact hce3403 | exact Nat.le_trans (Nat.le_refl _) hce3403) (by first | exact hsl3403 | exact Nat.le_trans (Nat.le_refl _) hsl3403) (z' := (1 : Int32)) rfl ⟨rfl, N3705'⟩
      ·
       refine k_iconst X3705 hx 279 (D at_278) (z := (1 : Int32)) rfl ?_
       refine k_goto X3705 hx 283 (D at_279) ?_
       refine k_istore X3705 hx 285 (D at_283) (Ls' := #[iv i0, jv i1, s_, jv i2, s_, jv i3, s_, jv i4, s_, jv v3, s_, jv v7, s_, jv v11, s_, iv 2, jv v637, s_, jv v638, s_, jv v639, s_, jv v640, s_, rv b641, iv v3404, iv v3405, iv v3406, iv 1, jv v3491, s_, iv 1, jv v7, s_, iv 1, jv v3706, s_, iv 0, iv 1, u_]) rfl ?_
       refine k_iload X3705 hx 287 (D at_285) rfl ?_
       refine k_if_ne X3705 hx 290 299 (D at_287) (fun hc => absurd (by decide) hc) (fun _ => ?_)
       refine k_iload X3705 hx 292 (D at_290) rfl ?_
       refine k_if_ne X3705 hx 295 299 (D at_292) (fun _ => ?_) (fun hc => absurd hc (by decide))
       refine k_iconst X3705 hx 300 (D at_299) (z := (0 : Int32)) rfl ?_
       refine k_istore X3705 hx 302 (D at_300) (Ls' := #[iv i0, jv i1, s_, jv i2, s_, jv i3, s_, jv i4, s_, jv v3, s_, jv v7, s_, jv v11, s_, iv 2, jv v637, s_, jv v638, s_, jv v639, s_, jv v640, s_, rv b641, iv v3404, iv v3405, iv v3406, iv 1, jv v3491, s_, iv 1, jv v7, s_, iv 1, jv v3706, s_, iv 0, iv 1, iv 0]) rfl ?_
       refine k_iload X3705 hx 304 (D at_302) rfl ?_
       refine k_iload X3705 hx 306 (D at_304) rfl ?_
       have q3739 := kL_m hc3408
       have B3742 : (0 : Int) <= (0 : Int64).toInt /\ (0 : Int64).toInt <= 0 := (by decide)
       have q3741 := own_mx_f1_9 v638; rw [← hv3491] at q3741
       have B3740 : (0 : Int) <= v3491.toInt /\ v3491.toInt <= 2305843009213693951 := (by omega)
       have q3743 := kL_p hc3492
       have q3745 : v3645.toInt = v3.toInt - v7.toInt := k_lsubx hv3645 B708 B722 (by decide) (by decide)
       have B3744 : (-7 : Int) <= v3645.toInt /\ v3645.toInt <= 7 := k_subB' q3745 B708 B722
       have q3746 := kL_m hc3646
       have q3748 := own_mx_f1_81 v3491 v640; rw [← hv3706] at q3748
       have B3747 : (0 : Int) <= v3706.toInt /\ v3706.toInt <= 4611686018427387902 := (by omega)
       have q3749 := kL_m hc3707
       have q3751 : v3708.toInt = v3706.toInt - v3491.toInt := k_lsubx hv3708 B3747 B3740 (by decide) (by decide)
       have B3750 : (-2305843009213693951 : Int) <= v3708.toInt /\ v3708.toInt <= 4611686018427387902 := k_subB' q3751 B3747 B3740
       have q3752 := kL_p hc3709
       refine k_icmp_ne X3705 hx 309 327 (D at_306) (fun hc => absurd (Classical.byContradiction (fun hq3753 => by have B3754 : (-2147483648 : Int) <= v3404.toInt /\ v3404.toInt <= 2147483647 := ⟨(rng32 v3404).1, Int.le_of_lt_add_one (rng32 v3404).2⟩; have q3757 : ¬ v3404.toInt = (1 : Int32).toInt := fun q => hq3753 (Int32.toInt_inj.mp q); omega)) hc) (fun _ => ?_)
       refine k_iload X3705 hx 311 (D at_309) rfl ?_
       refine k_iload X3705 hx 313 (D at_311) rfl ?_
       refine k_icmp_ne X3705 hx 316 327 (D at_313) (fun hc => absurd (Classical.byContradiction (fun hq3758 => by have B3759 : (-2147483648 : Int) <= v3405.toInt /\ v3405.toInt <= 2147483647 := ⟨(rng32 v3405).1, Int.le_of_lt_add_one (rng32 v3405).2⟩; have q3762 : ¬ v3405.toInt = (1 : Int32).toInt := fun q => hq3758 (Int32.toInt_inj.mp q); omega)) hc) (fun _ => ?_)
       refine k_iload X3705 hx 318 (D at_316) rfl ?_
       refine k_iload X3705 hx 320 (D at_318) rfl ?_
       refine k_icmp_ne X3705 hx 323 327 (D at_320) (fun hc => absurd (Classical.byContradiction (fun hq3763 => by have B3764 : (-2147483648 : Int) <= v3406.toInt /\ v3406.toInt <= 2147483647 := ⟨(rng32 v3406).1, Int.le_of_lt_add_one (rng32 v3406).2⟩; have B3767 : (0 : Int) <= (0 : Int32).toInt /\ (0 : Int32).toInt <= 0 := (by decide); have q3768 : ¬ v3406.toInt = (0 : Int32).toInt := fun q => hq3763 (Int32.toInt_inj.mp q); omega)) hc) (fun _ => ?_)
       refine k_iconst X3705 hx 324 (D at_323) (z := (1 : Int32)) rfl ?_
       refine k_goto X3705 hx 328 (D at_324) ?_
       exact k_retN X3705 hx (t := .boolean) hret (by simp) (D at_328) hlk (by first | exact hce3403 | exact Nat.le_trans (Nat.le_refl _) hce3403) (by first | exact hsl3403 | exact Nat.le_trans (Nat.le_refl _) hsl3403) (z' := (1 : Int32)) rfl ⟨rfl, N3705'⟩
     ·
      refine k_iconst X3705 hx 256 (D at_255) (z := (1 : Int32)) rfl ?_
      refine k_goto X3705 hx 260 (D at_256) ?_
      refine k_istore X3705 hx 262 (D at_260) (Ls' := #[iv i0, jv i1, s_, jv i2, s_, jv i3, s_, jv i4, s_, jv v3, s_, jv v7, s_, jv v11, s_, iv 2, jv v637, s_, jv v638, s_, jv v639, s_, jv v640, s_, rv b641, iv v3404, iv v3405, iv v3406, iv 1, jv v3491, s_, iv 1, jv v7, s_, iv 1, jv v3706, s_, iv 1, u_, u_]) rfl ?_
      refine k_iload X3705 hx 264 (D at_262) rfl ?_
      refine k_if_eq X3705 hx 267 282 (D at_264) (fun hc => absurd hc (by decide)) (fun _ => ?_)
      refine k_lload X3705 hx 269 (D at_267) rfl ?_
      refine k_lload X3705 hx 271 (D at_269) rfl ?_
      refine k_lsub X3705 hx 272 (D at_271) (fun v3769 hv3769 => ?_)
      refine k_lload X3705 hx 274 (D at_272) rfl ?_
      refine k_lcif_ge X3705 hx 278 282 275 (D at_274) (D at_275) (fun hc3770 => ?_) (fun hc3770 => ?_)
      ·
       refine k_iconst X3705 hx 283 (D at_282) (z := (0 : Int32)) rfl ?_
       refine k_istore X3705 hx 285 (D at_283) (Ls' := #[iv i0, jv i1, s_, jv i2, s_, jv i3, s_, jv i4, s_, jv v3, s_, jv v7, s_, jv v11, s_, iv 2, jv v637, s_, jv v638, s_, jv v639, s_, jv v640, s_, rv b641, iv v3404, iv v3405, iv v3406, iv 1, jv v3491, s_, iv 1, jv v7, s_, iv 1, jv v3706, s_, iv 1, iv 0, u_]) rfl ?_
       refine k_iload X3705 hx 287 (D at_285) rfl ?_
       refine k_if_ne X3705 hx 290 299 (D at_287) (fun _ => ?_) (fun hc => absurd hc (by decide))
       refine k_iconst X3705 hx 300 (D at_299) (z := (0 : Int32)) rfl ?_
       refine k_istore X3705 hx 302 (D at_300) (Ls' := #[iv i0, jv i1, s_, jv i2, s_, jv i3, s_, jv i4, s_, jv v3, s_, jv v7, s_, jv v11, s_, iv 2, jv v637, s_, jv v638, s_, jv v639, s_, jv v640, s_, rv b641, iv v3404, iv v3405, iv v3406, iv 1, jv v3491, s_, iv 1, jv v7, s_, iv 1, jv v3706, s_, iv 1, iv 0, iv 0]) rfl ?_
       refine k_iload X3705 hx 304 (D at_302) rfl ?_
       refine k_iload X3705 hx 306 (D at_304) rfl ?_
       have q3771 := kL_m hc3408
       have B3774 : (0 : Int) <= (0 : Int64).toInt /\ (0 : Int64).toInt <= 0 := (by decide)
       have q3773 := own_mx_f1_9 v638; rw [← hv3491] at q3773
       have B3772 : (0 : Int) <= v3491.toInt /\ v3491.toInt <= 2305843009213693951 := (by omega)
       have q3775 := kL_p hc3492
       have q3777 : v3645.toInt = v3.toInt - v7.toInt := k_lsubx hv3645 B708 B722 (by decide) (by decide)
       have B3776 : (-7 : Int) <= v3645.toInt /\ v3645.toInt <= 7 := k_subB' q3777 B708 B722
       have q3778 := kL_m hc3646
       have q3780 := own_mx_f1_81 v3491 v640; rw [← hv3706] at q3780
       have B3779 : (0 : Int) <= v3706.toInt /\ v3706.toInt <= 4611686018427387902 := (by omega)
       have q3781 := kL_p hc3707
       have q3783 : v3769.toInt = v3706.toInt - v3491.toInt := k_lsubx hv3769 B3779 B3772 (by decide) (by decide)
       have B3782 : (-2305843009213693951 : Int) <= v3769.toInt /\ v3769.toInt <= 4611686018427387902 := k_subB' q3783 B3779 B3772
       have q3784 := kL_m hc3770
       refine k_icmp_ne X3705 hx 309 327 (D at_306) (fun hc => absurd (Classical.byContradiction (fun hq3785 => by have B3786 : (-2147483648 : Int) <= v3404.toInt /\ v3404.toInt <= 2147483647 := ⟨(rng32 v3404).1, Int.le_of_lt_add_one (rng32 v3404).2⟩; have q3789 : ¬ v3404.toInt = (1 : Int32).toInt := fun q => hq3785 (Int32.toInt_inj.mp q); omega)) hc) (fun _ => ?_)
       refine k_iload X3705 hx 311 (D at_309) rfl ?_
       refine k_iload X3705 hx 313 (D at_311) rfl ?_
       refine k_icmp_ne X3705 hx 316 327 (D at_313) (fun hc => absurd (Classical.byContradiction (fun hq3790 => by have B3791 : (-2147483648 : Int) <= v3405.toInt /\ v3405.toInt <= 2147483647 := ⟨(rng32 v3405).1, Int.le_of_lt_add_one (rng32 v3405).2⟩; have q3794 : ¬ v3405.toInt = (1 : Int32).toInt := fun q => hq3790 (Int32.toInt_inj.mp q); omega)) hc) (fun _ => ?_)
       refine k_iload X3705 hx 318 (D at_316) rfl ?_
       refine k_iload X3705 hx 320 (D at_318) rfl ?_
       refine k_icmp_ne X3705 hx 323 327 (D at_320) (fun hc => absurd (Classical.byContradiction (fun hq3795 => by have B3796 : (-2147483648 : Int) <= v3406.toInt /\ v3406.toInt <= 2147483647 := ⟨(rng32 v3406).1, Int.le_of_lt_add_one (rng32 v3406).2⟩; have B3799 : (0 : Int) <= (0 : Int32).toInt /\ (0 : Int32).toInt <= 0 := (by decide); have q3800 : ¬ v3406.toInt = (0 : Int32).toInt := fun q => hq3795 (Int32.toInt_inj.mp q); omega)) hc) (fun _ => ?_)
       refine k_iconst X3705 hx 324 (D at_323) (z := (1 : Int32)) rfl ?_
       refine k_goto X3705 hx 328 (D at_324) ?_
       exact k_retN X3705 hx (t := .boolean) hret (by simp) (D at_328) hlk (by first | exact hce3403 | exact Nat.le_trans (Nat.le_refl _) hce3403) (by first | exact hsl3403 | exact Nat.le_trans (Nat.le_refl _) hsl3403) (z' := (1 : Int32)) rfl ⟨rfl, N3705'⟩
      ·
       refine k_iconst X3705 hx 279 (D at_278) (z := (1 : Int32)) rfl ?_
       refine k_goto X3705 hx 283 (D at_279) ?_
       refine k_istore X3705 hx 285 (D at_283) (Ls' := #[iv i0, jv i1, s_, jv i2, s_, jv i3, s_, jv i4, s_, jv v3, s_, jv v7, s_, jv v11, s_, iv 2, jv v637, s_, jv v638, s_, jv v639, s_, jv v640, s_, rv b641, iv v3404, iv v3405, iv v3406, iv 1, jv v3491, s_, iv 1, jv v7, s_, iv 1, jv v3706, s_, iv 1, iv 1, u_]) rfl ?_
       refine k_iload X3705 hx 287 (D at_285) rfl ?_
       refine k_if_ne X3705 hx 290 299 (D at_287) (fun _ => ?_) (fun hc => absurd hc (by decide))
       refine k_iconst X3705 hx 300 (D at_299) (z := (0 : Int32)) rfl ?_
       refine k_istore X3705 hx 302 (D at_300) (Ls' := #[iv i0, jv i1, s_, jv i2, s_, jv i3, s_, jv i4, s_, jv v3, s_, jv v7, s_, jv v11, s_, iv 2, jv v637, s_, jv v638, s_, jv v639, s_, jv v640, s_, rv b641, iv v3404, iv v3405, iv v3406, iv 1, jv v3491, s_, iv 1, jv v7, s_, iv 1, jv v3706, s_, iv 1, iv 1, iv 0]) rfl ?_
       refine k_iload X3705 hx 304 (D at_302) rfl ?_
       refine k_iload X3705 hx 306 (D at_304) rfl ?_
       have q3801 := kL_m hc3408
       have B3804 : (0 : Int) <= (0 : Int64).toInt /\ (0 : Int64).toInt <= 0 := (by decide)
       have q3803 := own_mx_f1_9 v638; rw [← hv3491] at q3803
       have B3802 : (0 : Int) <= v3491.toInt /\ v3491.toInt <= 2305843009213693951 := (by omega)
       have q3805 := kL_p hc3492
       have q3807 : v3645.toInt = v3.toInt - v7.toInt := k_lsubx hv3645 B708 B722 (by decide) (by decide)
       have B3806 : (-7 : Int) <= v3645.toInt /\ v3645.toInt <= 7 := k_subB' q3807 B708 B722
       have q3808 := kL_m hc3646
       have q3810 := own_mx_f1_81 v3491 v640; rw [← hv3706] at q3810
       have B3809 : (0 : Int) <= v3706.toInt /\ v3706.toInt <= 4611686018427387902 := (by omega)
       have q3811 := kL_p hc3707
       have q3813 : v3769.toInt = v3706.toInt - v3491.toInt := k_lsubx hv3769 B3809 B3802 (by decide) (by decide)
       have B3812 : (-2305843009213693951 : Int) <= v3769.toInt /\ v3769.toInt <= 4611686018427387902 := k_subB' q3813 B3809 B3802
       have q3814 := kL_p hc3770
       refine k_icmp_ne X3705 hx 309 327 (D at_306) (fun hc => absurd (Classical.byContradiction (fun hq3815 => by have B3816 : (-2147483648 : Int) <= v3404.toInt /\ v3404.toInt <= 2147483647 := ⟨(rng32 v3404).1, Int.le_of_lt_add_one (rng32 v3404).2⟩; have q3819 : ¬ v3404.toInt = (1 : Int32).toInt := fun q => hq3815 (Int32.toInt_inj.mp q); omega)) hc) (fun _ => ?_)
       refine k_iload X3705 hx 311 (D at_309) rfl ?_
       refine k_iload X3705 hx 313 (D at_311) rfl ?_
       refine k_icmp_ne X3705 hx 316 327 (D at_313) (fun hc => absurd (Classical.byContradiction (fun hq3820 => by have B3821 : (-2147483648 : Int) <= v3405.toInt /\ v3405.toInt <= 2147483647 := ⟨(rng32 v3405).1, Int.le_of_lt_add_one (rng32 v3405).2⟩; have q3824 : ¬ v3405.toInt = (1 : Int32).toInt := fun q => hq3820 (Int32.toInt_inj.mp q); omega)) hc) (fun _ => ?_)
       refine k_iload X3705 hx 318 (D at_316) rfl ?_
       refine k_iload X3705 hx 320 (D at_318) rfl ?_
       refine k_icmp_ne X3705 hx 323 327 (D at_320) (fun hc => absurd (Classical.byContradiction (fun hq3825 => by have B3826 : (-2147483648 : Int) <= v3406.toInt /\ v3406.toInt <= 2147483647 := ⟨(rng32 v3406).1, Int.le_of_lt_add_one (rng32 v3406).2⟩; have B3829 : (0 : Int) <= (0 : Int32).toInt /\ (0 : Int32).toInt <= 0 := (by decide); have q3830 : ¬ v3406.toInt = (0 : Int32).toInt := fun q => hq3825 (Int32.toInt_inj.mp q); omega)) hc) (fun _ => ?_)
       refine k_iconst X3705 hx 324 (D at_323) (z := (1 : Int32)) rfl ?_
       refine k_goto X3705 hx 328 (D at_324) ?_
       exact k_retN X3705 hx (t := .boolean) hret (by simp) (D at_328) hlk (by first | exact hce3403 | exact Nat.le_trans (Nat.le_refl _) hce3403) (by first | exact hsl3403 | exact Nat.le_trans (Nat.le_refl _) hsl3403) (z' := (1 : Int32)) rfl ⟨rfl, N3705'⟩
theorem comes_1 {Post : Tables -> Env -> Array Value -> State -> Outcome -> State -> Prop} (hpost : ∀ tb e args s v u, (limb_1_1.after args s (.returned v) u = true /\ limb_1_2.after args s (.returned v) u = true /\ True) -> FrameEnd s (.returned v) u (Jvm.fieldLocs frame_1_writes args s ++ Jvm.arrayLocs frame_1_arrays args s ++ Jvm.staticLocs frame_1_statics s) 24 128 -> Post tb e args s (.returned v) u) :
    ArmFor flags0 classFile x code maxLocals ret World_1 tables_1 room_1 Calls_1 rest_1 Pre_1 Post := by
  intro l hfl _ _ p e ha hc hk s m args below hf hA hF happ hP
  obtain ⟨hcalls, hrest, hpre⟩ := hP
  obtain ⟨-, -, -, hnamed, -, -, -, hat⟩ := (Spec.applies_iff hf).mp happ
  obtain ⟨hg, hn⟩ := and_e (Cond.before_iff.mp (show (Jvm.Cond.and given_1 narrow_1).before args s = true from hpre))
  obtain ⟨g3831, g3832⟩ := and_e hg
  obtain ⟨g3833, g3834⟩ := and_e g3832
  obtain ⟨g3835, g3836⟩ := and_e g3834
  obtain ⟨g3837, g3838⟩ := and_e g3836
  obtain ⟨g3839, g3840⟩ := and_e g3838
  obtain ⟨w0, w1, w2, w3, w4, rfl⟩ : ∃ w0 w1 w2 w3 w4 : Value, args = #[w0, w1, w2, w3, w4] := by
    have hs : args.size = 5 := by simpa [Cond.value, given_1] using g3831
    obtain ⟨L⟩ := args
    match L, hs with
    | [w0, w1, w2, w3, w4], _ => exact ⟨w0, w1, w2, w3, w4, rfl⟩
  have hw := fun d (hd : d ∈ tables_1) => atoms_spec (ws := Jvm.Cond.code x code maxLocals ret :: tables_1) hat d (List.mem_cons_of_mem _ hd)
  obtain ⟨i0, ei0⟩ := is_v g3833
  obtain rfl : w0 = (.int i0) := Option.some.inj ei0
  obtain ⟨i1, ei1⟩ := isL_v g3835
  obtain rfl : w1 = (.long i1) := Option.some.inj ei1
  obtain ⟨i2, ei2⟩ := isL_v g3837
  obtain rfl : w2 = (.long i2) := Option.some.inj ei2
  obtain ⟨i3, ei3⟩ := isL_v g3839
  obtain rfl : w3 = (.long i3) := Option.some.inj ei3
  obtain ⟨i4, ei4⟩ := isL_v g3840
  obtain rfl : w4 = (.long i4) := Option.some.inj ei4
  obtain ⟨n, o, h1, h2, h3, _, L, rfl, ⟨rfl, N⟩, hq⟩ := rm0 l s _ hw tables_1 i0 i1 i2 i3 i4 s.heap s.heap.size (Nat.le_refl _) p e ha hc hk s m _ below hf ((Spec.applies_iff_loose hf).mp happ).1 ⟨rfl, State.Warmed39.refl s, rfl⟩ trivial
  refine ⟨n, _, h1, h2, h3, hpost _ _ _ _ _ _ ⟨Cond.after_iff.mpr rfl, Cond.after_iff.mpr (eq_i res_at (Term.int_eval (1)) rfl), trivial⟩ ⟨hq.1, hq.2.1, (hq.2.2.sift fun y hy => Or.inr (N y hy)).mono (by decide) (by decide)⟩⟩
theorem main_1_1 : Claimed_1_1 := comes_1 fun _ _ _ _ _ _ h hF => ⟨h.1, hF⟩
theorem main_1_2 : Claimed_1_2 := comes_1 fun _ _ _ _ _ _ h hF => ⟨h.2.1, hF⟩
end Jvm.Pilot.@@N@@
namespace Jvm.Pilot.@@N@@
open Jvm Jvm.ClassFile Sem Op Lib Jvm.Free Jvm.Stand Jvm.Pilot.@@N@@.Jvm.D
/-! MADE BY PROGRAM (witnessworld.py) out of the Statement's table words and the real class files: 16 classes; the members and pool entries that the words name. The judged class is class 1, her method 1. -/
namespace start1
open Jvm.ClassFile
def u (s : String) : CpInfo := .utf8 (stringToUtf16 s)
/-- a pool by its gaps: so many unusable entries, then the entry; so many at the end -/
def gap : Nat → List CpInfo → List CpInfo
  | 0, r => r
  | n + 1, r => .unusable :: gap n r
def poolList (es : List (Nat × CpInfo)) (last : Nat) : List CpInfo := es.foldr (fun e r => gap e.1 (e.2 :: r)) (gap last [])
def pool (es : List (Nat × CpInfo)) (last : Nat) : Array CpInfo := ⟨poolList es last⟩
def fileOf (pool : Array CpInfo) (this : Nat) (attrs : Array Attribute := #[]) (ms : Array MethodInfo := #[]) (fl : Nat := 33) (sup : Nat := 0) (ifs : Array Nat := #[]) (fds : Array FieldInfo := #[]) : ClassFile where
  minorVersion := 0
  majorVersion := 65
  constantPool := pool
  accessFlags := fl
  thisClass := this
  superClass := sup
  interfaces := ifs
  fields := fds
  methods := ms
  attributes := attrs
def plain (name : String) (sup : Option ClassId) : Class where
  name := name
  kind := .ordinary
  loader := none
  accessFlags := 33
  super := sup
  interfaces := #[]
  cf := none
  fields := #[]
  methods := #[]
  instanceTypes := #[]
  staticTypes := #[]
  resolved := #[]
  callSites := []
  init := .initialized
  statics := none
  mirror := none

def pool0 : Array CpInfo := pool [(5, u "<init>"), (0, u "()V"), (1, .class_ 10), (1, u "java/lang/Object")] 113

def k0c0 : Code := { maxStack := 0, maxLocals := 1, code := object_method_1_code, exceptionTable := #[], attributes := #[] }
def k0m0 : Method := { name := "<init>", desc := "()V", sig := { parameters := [], returnType := none }, accessFlags := 1, code := some k0c0 }
/-- java/lang/Object -/
def k0 : Class := { plain "java/lang/Object" none with
  accessFlags := 33
  interfaces := #[]
  cf := some (fileOf pool0 8 #[] #[{ accessFlags := 1, nameIndex := 5, descriptorIndex := 6, attributes := #[] }] 33 0 #[] #[])
  fields := #[]
  methods := #[k0m0]
  instanceTypes := #[]
  staticTypes := #[]
  resolved := Array.replicate 124 none
  statics := none }

def pool1 : Array CpInfo := pool [(2, .class_ 4), (1, u "java/lang/Object"), (0, u "<init>"), (0, u "()V"), (2, .long 9223372036854775807), (1, .methodref 12 13), (0, .class_ 14), (0, .nameAndType 15 16), (0, u "java/lang/Math"), (0, u "max"), (0, u "(JJ)J"), (0, .class_ 18), (0, u "com/example/halter/halter/SlidingLogLimiter$Log"), (0, .methodref 17 20), (0, .nameAndType 5 21), (0, u "(JJ)V"), (0, .methodref 17 23), (0, .nameAndType 24 25), (0, u "tryAcquire"), (0, u "(JJ)Z"), (0, .methodref 17 27), (0, .nameAndType 28 29), (0, u "idleAt"), (0, u "(J)Z"), (0, .class_ 31), (0, u "com/example/halter/halter/SlidingLogLimiterIdleAtPinLaw"), (2, u "law"), (0, u "(IJJJJ)Z")] 7

def k1m0 : Method := { name := "<init>", desc := "()V", sig := { parameters := [], returnType := none }, accessFlags := 1, code := none }
def k1c1 : Code := { maxStack := 7, maxLocals := 40, code := code, exceptionTable := #[], attributes := #[] }
def k1m1 : Method := { name := "law", desc := "(IJJJJ)Z", sig := { parameters := [.int, .long, .long, .long, .long], returnType := some .boolean }, accessFlags := 9, code := some k1c1 }
/-- com/example/halter/halter/SlidingLogLimiterIdleAtPinLaw -/
def k1 : Class := { plain "com/example/halter/halter/SlidingLogLimiterIdleAtPinLaw" (some 0) with
  accessFlags := 49
  interfaces := #[]
  cf := some (fileOf pool1 30 #[] #[{ accessFlags := 1, nameIndex := 5, descriptorIndex := 6, attributes := #[] }, { accessFlags := 9, nameIndex := 34, descriptorIndex := 35, attributes := #[] }] 49 2 #[] #[])
  fields := #[]
  methods := #[k1m0, k1m1]
  instanceTypes := #[]
  staticTypes := #[]
  resolved := Array.replicate 43 none
  statics := none }

def pool2 : Array CpInfo := pool [(1, .class_ 2), (0, u "java/lang/Math"), (1, .class_ 6), (1, u "java/lang/Object"), (0, u "<init>"), (0, u "()V"), (89, .class_ 100), (1, u "java/lang/Math$RandomNumberGeneratorHolder"), (20, u "(JJ)J"), (50, u "negativeZeroFloatBits"), (0, u "J"), (2, u "negativeZeroDoubleBits"), (21, u "max"), (2, u "min"), (43, u "$assertionsDisabled"), (0, u "Z"), (91, u "twoToTheDoubleScaleDown"), (0, u "D"), (4, u "twoToTheDoubleScaleUp"), (9, u "E"), (3, u "PI"), (2, u "TAU"), (2, u "DEGREES_TO_RADIANS"), (0, u "RADIANS_TO_DEGREES")] 94

def k2m0 : Method := { name := "<init>", desc := "()V", sig := { parameters := [], returnType := none }, accessFlags := 2, code := none }
def k2c1 : Code := { maxStack := 4, maxLocals := 4, code := jdk_29_method_66_code, exceptionTable := #[], attributes := #[] }
def k2m1 : Method := { name := "max", desc := "(JJ)J", sig := { parameters := [.long, .long], returnType := some .long }, accessFlags := 9, code := some k2c1 }
def k2c2 : Code := { maxStack := 4, maxLocals := 4, code := jdk_29_method_70_code, exceptionTable := #[], attributes := #[] }
def k2m2 : Method := { name := "min", desc := "(JJ)J", sig := { parameters := [.long, .long], returnType := some .long }, accessFlags := 9, code := some k2c2 }
/-- java/lang/Math -/
def k2 : Class := { plain "java/lang/Math" (some 0) with
  accessFlags := 49
  interfaces := #[]
  cf := some (fileOf pool2 1 #[.nestMembers #[98]] #[{ accessFlags := 2, nameIndex := 7, descriptorIndex := 8, attributes := #[] }, { accessFlags := 9, nameIndex := 198, descriptorIndex := 121, attributes := #[] }, { accessFlags := 9, nameIndex := 201, descriptorIndex := 121, attributes := #[] }] 49 4 #[] #[{ accessFlags := 25, nameIndex := 354, descriptorIndex := 339, attributes := #[] }, { accessFlags := 25, nameIndex := 358, descriptorIndex := 339, attributes := #[] }, { accessFlags := 25, nameIndex := 361, descriptorIndex := 339, attributes := #[] }, { accessFlags := 26, nameIndex := 364, descriptorIndex := 339, attributes := #[] }, { accessFlags := 26, nameIndex := 365, descriptorIndex := 339, attributes := #[] }, { accessFlags := 26, nameIndex := 172, descriptorIndex := 173, attributes := #[] }, { accessFlags := 26, nameIndex := 176, descriptorIndex := 173, attributes := #[] }, { accessFlags := 8, nameIndex := 344, descriptorIndex := 339, attributes := #[] }, { accessFlags := 8, nameIndex := 338, descriptorIndex := 339, attributes := #[] }, { accessFlags := 4120, nameIndex := 245, descriptorIndex := 246, attributes := #[] }])
  fields := #[{ name := "E", type := .double, accessFlags := 25, slot := 0, constantValue := 0 }, { name := "PI", type := .double, accessFlags := 25, slot := 1, constantValue := 0 }, { name := "TAU", type := .double, accessFlags := 25, slot := 2, constantValue := 0 }, { name := "DEGREES_TO_RADIANS", type := .double, accessFlags := 26, slot := 3, constantValue := 0 }, { name := "RADIANS_TO_DEGREES", type := .double, accessFlags := 26, slot := 4, constantValue := 0 }, { name := "negativeZeroFloatBits", type := .long, accessFlags := 26, slot := 5, constantValue := 0 }, { name := "negativeZeroDoubleBits", type := .long, accessFlags := 26, slot := 6, constantValue := 0 }, { name := "twoToTheDoubleScaleUp", type := .double, accessFlags := 8, slot := 7, constantValue := 0 }, { name := "twoToTheDoubleScaleDown", type := .double, accessFlags := 8, slot := 8, constantValue := 0 }, { name := "$assertionsDisabled", type := .boolean, accessFlags := 4120, slot := 9, constantValue := 0 }]
  methods := #[k2m0, k2m1, k2m2]
  instanceTypes := #[]
  staticTypes := #[.double, .double, .double, .double, .double, .long, .long, .double, .double, .boolean]
  resolved := Array.replicate 460 none
  statics := none }

def pool3 : Array CpInfo := pool [(36, .class_ 37), (0, u "com/example/halter/halter/KeyLimit"), (0, .class_ 39), (0, u "java/lang/Object"), (14, .class_ 55), (0, u "com/example/halter/halter/KeyLimit$Outcome")] 16

/-- com/example/halter/halter/KeyLimit -/
def k3 : Class := { plain "com/example/halter/halter/KeyLimit" (some 0) with
  accessFlags := 1536
  interfaces := #[]
  cf := some (fileOf pool3 36 #[.nestMembers #[54]] #[] 1536 38 #[] #[])
  fields := #[]
  methods := #[]
  instanceTypes := #[]
  staticTypes := #[]
  resolved := Array.replicate 72 none
  statics := none }

def pool4 : Array CpInfo := pool [(1, .methodref 2 3), (0, .class_ 4), (0, .nameAndType 5 6), (0, u "java/lang/Object"), (0, u "<init>"), (0, u "()V"), (1, .class_ 10), (1, u "com/example/halter/halter/LockedLimit"), (0, u "dropped"), (0, u "Z"), (29, .class_ 43), (0, u "com/example/halter/halter/KeyLimit")] 10

def k4c0 : Code := { maxStack := 1, maxLocals := 1, code := prog_13_method_1_code, exceptionTable := #[], attributes := #[] }
def k4m0 : Method := { name := "<init>", desc := "()V", sig := { parameters := [], returnType := none }, accessFlags := 0, code := some k4c0 }
/-- com/example/halter/halter/LockedLimit -/
def k4 : Class := { plain "com/example/halter/halter/LockedLimit" (some 0) with
  accessFlags := 1056
  interfaces := #[3]
  cf := some (fileOf pool4 8 #[] #[{ accessFlags := 0, nameIndex := 5, descriptorIndex := 6, attributes := #[] }] 1056 2 #[42] #[{ accessFlags := 2, nameIndex := 11, descriptorIndex := 12, attributes := #[] }])
  fields := #[{ name := "dropped", type := .boolean, accessFlags := 2, slot := 0, constantValue := 0 }]
  methods := #[k4m0]
  instanceTypes := #[.boolean]
  staticTypes := #[]
  resolved := Array.replicate 54 none
  statics := none }

def pool5 : Array CpInfo := pool [(1, .methodref 2 3), (0, .class_ 4), (0, .nameAndType 5 6), (0, u "com/example/halter/halter/LockedLimit"), (0, u "<init>"), (0, u "()V"), (0, .fieldref 8 9), (0, .class_ 10), (0, .nameAndType 11 12), (0, u "com/example/halter/halter/SlidingLogLimiter$Log"), (0, u "limit"), (0, u "J"), (0, .class_ 14), (0, u "com/example/halter/halter/SlidingSum"), (0, .methodref 13 16), (0, .nameAndType 5 17), (0, u "(JJ)V"), (0, .fieldref 8 19), (0, .nameAndType 20 21), (0, u "admitted"), (0, u "Lcom/example/halter/halter/SlidingSum;"), (0, .interfaceMethodref 23 24), (0, .class_ 25), (0, .nameAndType 26 27), (0, u "com/example/halter/halter/Limiter"), (0, u "checkCost"), (0, u "(J)V"), (0, .methodref 13 29), (0, .nameAndType 30 31), (0, u "at"), (0, u "(J)J"), (0, .methodref 13 33), (0, .nameAndType 34 17), (0, u "add"), (3, u "(J)Z"), (9, u "tryAcquire"), (0, u "(JJ)Z"), (1, u "idleAt"), (4, .class_ 57), (0, u "com/example/halter/halter/SlidingLogLimiter")] 2

def k5c0 : Code := { maxStack := 7, maxLocals := 5, code := prog_18_method_1_code, exceptionTable := #[], attributes := #[] }
def k5m0 : Method := { name := "<init>", desc := "(JJ)V", sig := { parameters := [.long, .long], returnType := none }, accessFlags := 0, code := some k5c0 }
def k5c1 : Code := { maxStack := 7, maxLocals := 6, code := prog_18_method_2_code, exceptionTable := #[], attributes := #[] }
def k5m1 : Method := { name := "tryAcquire", desc := "(JJ)Z", sig := { parameters := [.long, .long], returnType := some .boolean }, accessFlags := 1, code := some k5c1 }
def k5c2 : Code := { maxStack := 4, maxLocals := 3, code := prog_18_method_3_code, exceptionTable := #[], attributes := #[] }
def k5m2 : Method := { name := "idleAt", desc := "(J)Z", sig := { parameters := [.long], returnType := some .boolean }, accessFlags := 0, code := some k5c2 }
/-- com/example/halter/halter/SlidingLogLimiter$Log -/
def k5 : Class := { plain "com/example/halter/halter/SlidingLogLimiter$Log" (some 4) with
  accessFlags := 32
  interfaces := #[]
  cf := some (fileOf pool5 8 #[.nestHost 56] #[{ accessFlags := 0, nameIndex := 5, descriptorIndex := 17, attributes := #[] }, { accessFlags := 1, nameIndex := 48, descriptorIndex := 49, attributes := #[] }, { accessFlags := 0, nameIndex := 51, descriptorIndex := 38, attributes := #[] }] 32 2 #[] #[{ accessFlags := 18, nameIndex := 11, descriptorIndex := 12, attributes := #[] }, { accessFlags := 18, nameIndex := 20, descriptorIndex := 21, attributes := #[] }])
  fields := #[{ name := "limit", type := .long, accessFlags := 18, slot := 1, constantValue := 0 }, { name := "admitted", type := (.object "com/example/halter/halter/SlidingSum"), accessFlags := 18, slot := 2, constantValue := 0 }]
  methods := #[k5m0, k5m1, k5m2]
  instanceTypes := #[.boolean, .long, (.object "com/example/halter/halter/SlidingSum")]
  staticTypes := #[]
  resolved := Array.replicate 60 none
  statics := none }

def pool6 : Array CpInfo := pool [(1, .methodref 2 3), (0, .class_ 4), (0, .nameAndType 5 6), (0, u "java/lang/Object"), (0, u "<init>"), (0, u "()V"), (0, .fieldref 8 9), (0, .class_ 10), (0, .nameAndType 11 12), (0, u "com/example/halter/halter/SlidingSum"), (0, u "times"), (0, u "[J"), (0, .fieldref 8 14), (0, .nameAndType 15 12), (0, u "costs"), (9, .fieldref 8 26), (0, .nameAndType 27 28), (0, u "most"), (0, u "J"), (0, .fieldref 8 30), (0, .nameAndType 31 28), (0, u "length"), (0, .methodref 8 33), (0, .nameAndType 34 35), (0, u "catchUp"), (0, u "(J)V"), (0, .fieldref 8 37), (0, .nameAndType 38 28), (0, u "sum"), (3, .methodref 8 43), (0, .nameAndType 44 35), (0, u "remember"), (0, .fieldref 8 46), (0, .nameAndType 47 48), (0, u "size"), (0, u "I"), (0, .fieldref 8 50), (0, .nameAndType 51 52), (0, u "started"), (0, u "Z"), (0, .fieldref 8 54), (0, .nameAndType 55 28), (0, u "latest"), (0, .methodref 8 57), (0, .nameAndType 58 6), (0, u "forgetWhatLeftTheWindow"), (0, .fieldref 8 60), (0, .nameAndType 61 48), (0, u "head"), (0, .methodref 8 63), (0, .nameAndType 64 65), (0, u "place"), (0, u "(I)I"), (0, .methodref 8 67), (0, .nameAndType 68 69), (0, u "moveTo"), (0, u "(I)V"), (0, .methodref 8 71), (0, .nameAndType 72 6), (0, u "grow"), (0, .integer 1073741824), (5, .long 8), (1, .long 2), (1, .methodref 84 85), (0, .class_ 86), (0, .nameAndType 87 88), (0, u "java/lang/Math"), (0, u "max"), (0, u "(JJ)J"), (0, .long 1073741824), (1, .methodref 84 92), (0, .nameAndType 93 88), (0, u "min"), (0, u "SMALLEST"), (2, u "LARGEST"), (0, u "(JJ)V"), (3, u "at"), (0, u "(J)J"), (0, u "add")] 25

def k6c0 : Code := { maxStack := 6, maxLocals := 5, code := prog_20_method_1_code, exceptionTable := #[], attributes := #[] }
def k6m0 : Method := { name := "<init>", desc := "(JJ)V", sig := { parameters := [.long, .long], returnType := none }, accessFlags := 1, code := some k6c0 }
def k6c1 : Code := { maxStack := 3, maxLocals := 3, code := prog_20_method_2_code, exceptionTable := #[], attributes := #[] }
def k6m1 : Method := { name := "at", desc := "(J)J", sig := { parameters := [.long], returnType := some .long }, accessFlags := 1, code := some k6c1 }
def k6c2 : Code := { maxStack := 8, maxLocals := 5, code := prog_20_method_3_code, exceptionTable := #[], attributes := #[] }
def k6m2 : Method := { name := "add", desc := "(JJ)V", sig := { parameters := [.long, .long], returnType := none }, accessFlags := 1, code := some k6c2 }
def k6c3 : Code := { maxStack := 4, maxLocals := 3, code := prog_20_method_7_code, exceptionTable := #[], attributes := #[] }
def k6m3 : Method := { name := "catchUp", desc := "(J)V", sig := { parameters := [.long], returnType := none }, accessFlags := 2, code := some k6c3 }
def k6c4 : Code := { maxStack := 5, maxLocals := 2, code := prog_20_method_8_code, exceptionTable := #[], attributes := #[] }
def k6m4 : Method := { name := "forgetWhatLeftTheWindow", desc := "()V", sig := { parameters := [], returnType := none }, accessFlags := 2, code := some k6c4 }
def k6c5 : Code := { maxStack := 6, maxLocals := 4, code := prog_20_method_9_code, exceptionTable := #[], attributes := #[] }
def k6m5 : Method := { name := "remember", desc := "(J)V", sig := { parameters := [.long], returnType := none }, accessFlags := 2, code := some k6c5 }
def k6c6 : Code := { maxStack := 7, maxLocals := 3, code := prog_20_method_10_code, exceptionTable := #[], attributes := #[] }
def k6m6 : Method := { name := "grow", desc := "()V", sig := { parameters := [], returnType := none }, accessFlags := 2, code := some k6c6 }
def k6c7 : Code := { maxStack := 5, maxLocals := 5, code := prog_20_method_11_code, exceptionTable := #[], attributes := #[] }
def k6m7 : Method := { name := "moveTo", desc := "(I)V", sig := { parameters := [.int], returnType := none }, accessFlags := 2, code := some k6c7 }
def k6c8 : Code := { maxStack := 2, maxLocals := 3, code := prog_20_method_12_code, exceptionTable := #[], attributes := #[] }
def k6m8 : Method := { name := "place", desc := "(I)I", sig := { parameters := [.int], returnType := some .int }, accessFlags := 2, code := some k6c8 }
/-- com/example/halter/halter/SlidingSum -/
def k6 : Class := { plain "com/example/halter/halter/SlidingSum" (some 0) with
  accessFlags := 33
  interfaces := #[]
  cf := some (fileOf pool6 8 #[] #[{ accessFlags := 1, nameIndex := 5, descriptorIndex := 98, attributes := #[] }, { accessFlags := 1, nameIndex := 102, descriptorIndex := 103, attributes := #[] }, { accessFlags := 1, nameIndex := 104, descriptorIndex := 98, attributes := #[] }, { accessFlags := 2, nameIndex := 34, descriptorIndex := 35, attributes := #[] }, { accessFlags := 2, nameIndex := 58, descriptorIndex := 6, attributes := #[] }, { accessFlags := 2, nameIndex := 44, descriptorIndex := 35, attributes := #[] }, { accessFlags := 2, nameIndex := 72, descriptorIndex := 6, attributes := #[] }, { accessFlags := 2, nameIndex := 68, descriptorIndex := 69, attributes := #[] }, { accessFlags := 2, nameIndex := 64, descriptorIndex := 65, attributes := #[] }] 33 2 #[] #[{ accessFlags := 26, nameIndex := 94, descriptorIndex := 48, attributes := #[] }, { accessFlags := 26, nameIndex := 97, descriptorIndex := 48, attributes := #[] }, { accessFlags := 18, nameIndex := 27, descriptorIndex := 28, attributes := #[] }, { accessFlags := 18, nameIndex := 31, descriptorIndex := 28, attributes := #[] }, { accessFlags := 2, nameIndex := 11, descriptorIndex := 12, attributes := #[] }, { accessFlags := 2, nameIndex := 15, descriptorIndex := 12, attributes := #[] }, { accessFlags := 2, nameIndex := 61, descriptorIndex := 48, attributes := #[] }, { accessFlags := 2, nameIndex := 47, descriptorIndex := 48, attributes := #[] }, { accessFlags := 2, nameIndex := 38, descriptorIndex := 28, attributes := #[] }, { accessFlags := 2, nameIndex := 55, descriptorIndex := 28, attributes := #[] }, { accessFlags := 2, nameIndex := 51, descriptorIndex := 52, attributes := #[] }])
  fields := #[{ name := "SMALLEST", type := .int, accessFlags := 26, slot := 0, constantValue := 0 }, { name := "LARGEST", type := .int, accessFlags := 26, slot := 1, constantValue := 0 }, { name := "most", type := .long, accessFlags := 18, slot := 0, constantValue := 0 }, { name := "length", type := .long, accessFlags := 18, slot := 1, constantValue := 0 }, { name := "times", type := (.array .long), accessFlags := 2, slot := 2, constantValue := 0 }, { name := "costs", type := (.array .long), accessFlags := 2, slot := 3, constantValue := 0 }, { name := "head", type := .int, accessFlags := 2, slot := 4, constantValue := 0 }, { name := "size", type := .int, accessFlags := 2, slot := 5, constantValue := 0 }, { name := "sum", type := .long, accessFlags := 2, slot := 6, constantValue := 0 }, { name := "latest", type := .long, accessFlags := 2, slot := 7, constantValue := 0 }, { name := "started", type := .boolean, accessFlags := 2, slot := 8, constantValue := 0 }]
  methods := #[k6m0, k6m1, k6m2, k6m3, k6m4, k6m5, k6m6, k6m7, k6m8]
  instanceTypes := #[.long, .long, (.array .long), (.array .long), .int, .int, .long, .long, .boolean]
  staticTypes := #[.int, .int]
  resolved := Array.replicate 130 none
  statics := none }

def pool7 : Array CpInfo := pool [(11, .class_ 12), (0, u "com/example/halter/halter/Limiter"), (0, .class_ 14), (0, u "java/lang/Object"), (2, u "checkCost"), (0, u "(J)V")] 20

def k7c0 : Code := { maxStack := 4, maxLocals := 2, code := prog_12_method_2_code, exceptionTable := #[], attributes := #[] }
def k7m0 : Method := { name := "checkCost", desc := "(J)V", sig := { parameters := [.long], returnType := none }, accessFlags := 9, code := some k7c0 }
/-- com/example/halter/halter/Limiter -/
def k7 : Class := { plain "com/example/halter/halter/Limiter" (some 0) with
  accessFlags := 1537
  interfaces := #[]
  cf := some (fileOf pool7 11 #[] #[{ accessFlags := 9, nameIndex := 17, descriptorIndex := 18, attributes := #[] }] 1537 13 #[] #[])
  fields := #[]
  methods := #[k7m0]
  instanceTypes := #[]
  staticTypes := #[]
  resolved := Array.replicate 39 none
  statics := none }

def pool8 : Array CpInfo := pool [(1, u "java/lang/Cloneable"), (0, .class_ 1), (0, u "java/lang/Object"), (0, .class_ 3)] 3

/-- java/lang/Cloneable -/
def k8 : Class := { plain "java/lang/Cloneable" (some 0) with
  accessFlags := 1537
  interfaces := #[]
  cf := some (fileOf pool8 2 #[] #[] 1537 4 #[] #[])
  fields := #[]
  methods := #[]
  instanceTypes := #[]
  staticTypes := #[]
  resolved := Array.replicate 8 none
  statics := none }

def pool9 : Array CpInfo := pool [(1, u "java/io/Serializable"), (0, .class_ 1), (0, u "java/lang/Object"), (0, .class_ 3)] 3

/-- java/io/Serializable -/
def k9 : Class := { plain "java/io/Serializable" (some 0) with
  accessFlags := 1537
  interfaces := #[]
  cf := some (fileOf pool9 2 #[] #[] 1537 4 #[] #[])
  fields := #[]
  methods := #[]
  instanceTypes := #[]
  staticTypes := #[]
  resolved := Array.replicate 8 none
  statics := none }

/-- the primitive byte -/
def k10 : Class := { plain "byte" none with kind := .primitive 'B', accessFlags := 0x411 }
/-- [B -/
def k11 : Class := { plain "[B" (some 0) with kind := .array 10 .byte, interfaces := #[8, 9], accessFlags := 1041 }

/-- the primitive int -/
def k12 : Class := { plain "int" none with kind := .primitive 'I', accessFlags := 0x411 }
/-- [I -/
def k13 : Class := { plain "[I" (some 0) with kind := .array 12 .int, interfaces := #[8, 9], accessFlags := 1041 }

/-- the primitive long -/
def k14 : Class := { plain "long" none with kind := .primitive 'J', accessFlags := 0x411 }
/-- [J -/
def k15 : Class := { plain "[J" (some 0) with kind := .array 14 .long, interfaces := #[8, 9], accessFlags := 1041 }

def heap : Heap := #[]
def classes : Array Class := #[k0, k1, k2, k3, k4, k5, k6, k7, k8, k9, k10, k11, k12, k13, k14, k15]
def interned : List (Array UInt16 × Addr) := []
def slotsUsed : Nat := 0
def theMethod : MethodId := ⟨1, 1⟩
def args0 : Array Value := #[.int 5, .long 7, .long 1, .long 3, .long 2]
def aboutOver (below : List Frame) : State where
  vm := { classes := classes, interned := interned.toArray }
  heap := heap
  slotsUsed := slotsUsed
  threads := #[{ frames := .invoking theMethod args0 :: below }]
def below0 : List Frame := [.native { method := ⟨0, 0⟩, args := #[] }]
def about1 : State := aboutOver below0
def p0 : Program := .bare "" "" ""
def e0 : Env := launch0.env 0 0 0
theorem w_frames : about1.frames = Frame.invoking theMethod args0 :: below0 := rfl
set_option maxRecDepth 65536 in
theorem w_args : argsFit about1.vm theMethod args0 = true := by decide +kernel
set_option maxRecDepth 65536 in
theorem w_heap : heapFits about1 = true := by decide +kernel
set_option maxRecDepth 65536 in
theorem w_runnable : about1.curStatus? = some .runnable := by decide +kernel
set_option maxRecDepth 65536 in
theorem w_alone : about1.alone = true := by decide +kernel
set_option maxRecDepth 65536 in
theorem w_named : about1.methodNamed? x = some theMethod := by decide +kernel
set_option maxRecDepth 65536 in
theorem w_hears : about1.hears theMethod below0 = true := by decide +kernel
set_option maxRecDepth 65536 in
theorem w_ripe : about1.ripe theMethod args0 below0 = true := by decide +kernel
theorem w_running : about1.status = .running := rfl
set_option maxRecDepth 65536 in
theorem w_room : about1.hasRoom e0.platform room_1 = true :=
  launch0.hasRoom_least _ room_1 (by decide +kernel) (by decide +kernel) (by decide +kernel) (by decide +kernel) (by decide +kernel) (by decide +kernel)
theorem allAtoms_all (ts : List Jvm.Cond) (a : Array Jvm.Value) (st : Jvm.State) : (allAtoms ts).before a st = ts.all (fun c => c.before a st) := by
  induction ts with
  | nil => rfl
  | cons c t ih =>
    show (Jvm.Cond.and c (allAtoms t)).before a st = _
    rw [Jvm.Cond.before_and, ih, List.all_cons]
def words1 : List Jvm.Cond := Jvm.Cond.code x code maxLocals ret :: tables_1
/-- a 'code' word, met by the world's own term for the bytes: nothing is compared byte by byte -/
theorem code_word {y : MethodName} {bytes : ByteArray} {mx : Nat} {rt : Option FieldType} {a : Array Value} {s : State} {m : MethodId} {meth : Method} {c : Code} (h1 : s.methodNamed? y = some m) (h2 : s.vm.method? m = some meth) (h3 : meth.code = some c) (h4 : c.code = bytes)
    (h5 : (c.maxLocals == mx && c.exceptionTable.isEmpty && decide (c.maxStack ≤ mostOperands) && decide (meth.sig.returnType = rt) && !meth.locks && decide (parseMethodDescriptor y.desc = some meth.sig)) = true) : (Jvm.Cond.code y bytes mx rt).before a s = true := by
  simp only [Bool.and_eq_true, beq_iff_eq, Bool.not_eq_true', decide_eq_true_eq] at h5
  obtain ⟨⟨⟨⟨⟨g1, g2⟩, g3⟩, g4⟩, g5⟩, g6⟩ := h5
  simp [Cond.before, Cond.holds, Cond.value, h1, h2, h3, h4, g1, g2, g3, g4, g5, g6]
def isCode : Jvm.Cond → Bool
  | .code _ _ _ _ => true
  | _ => false
theorem all_split {L : List Jvm.Cond} {P : Jvm.Cond → Bool} (h1 : L.all (fun c => isCode c || P c) = true) (h2 : ∀ c ∈ L.filter isCode, P c = true) : L.all P = true := by
  refine List.all_eq_true.mpr fun c hc => ?_
  have h := List.all_eq_true.mp h1 c hc
  rcases Bool.eq_false_or_eq_true (isCode c) with hi | hi
  · exact h2 c (List.mem_filter.mpr ⟨hc, hi⟩)
  · simpa [hi] using h
set_option maxRecDepth 65536 in
theorem w_c0 : (Jvm.Cond.code x code maxLocals ret).before args0 about1 = true := code_word (m := ⟨1, 1⟩) (meth := k1m1) (c := k1c1) (by decide +kernel) rfl rfl rfl (by decide +kernel)
set_option maxRecDepth 65536 in
theorem w_c1 : (Jvm.Cond.code ({ cls := "java/lang/Math", name := "max", desc := "(JJ)J" } : Jvm.MethodName) jdk_29_method_66_code (4 : Nat) (Option.some Jvm.ClassFile.FieldType.long)).before args0 about1 = true := code_word (m := ⟨2, 1⟩) (meth := k2m1) (c := k2c1) (by decide +kernel) rfl rfl rfl (by decide +kernel)
set_option maxRecDepth 65536 in
theorem w_c2 : (Jvm.Cond.code ({ cls := "com/example/halter/halter/SlidingLogLimiter$Log", name := "<init>", desc := "(JJ)V" } : Jvm.MethodName) prog_18_method_1_code (5 : Nat) (Option.none : Option Jvm.ClassFile.FieldType)).before args0 about1 = true := code_word (m := ⟨5, 0⟩) (meth := k5m0) (c := k5c0) (by decide +kernel) rfl rfl rfl (by decide +kernel)
set_option maxRecDepth 65536 in
theorem w_c3 : (Jvm.Cond.code ({ cls := "com/example/halter/halter/LockedLimit", name := "<init>", desc := "()V" } : Jvm.MethodName) prog_13_method_1_code (1 : Nat) (Option.none : Option Jvm.ClassFile.FieldType)).before args0 about1 = true := code_word (m := ⟨4, 0⟩) (meth := k4m0) (c := k4c0) (by decide +kernel) rfl rfl rfl (by decide +kernel)
set_option maxRecDepth 65536 in
theorem w_c4 : (Jvm.Cond.code ({ cls := "java/lang/Object", name := "<init>", desc := "()V" } : Jvm.MethodName) object_method_1_code (1 : Nat) (Option.none : Option Jvm.ClassFile.FieldType)).before args0 about1 = true := code_word (m := ⟨0, 0⟩) (meth := k0m0) (c := k0c0) (by decide +kernel) rfl rfl rfl (by decide +kernel)
set_option maxRecDepth 65536 in
theorem w_c5 : (Jvm.Cond.code ({ cls := "com/example/halter/halter/SlidingSum", name := "<init>", desc := "(JJ)V" } : Jvm.MethodName) prog_20_method_1_code (5 : Nat) (Option.none : Option Jvm.ClassFile.FieldType)).before args0 about1 = true := code_word (m := ⟨6, 0⟩) (meth := k6m0) (c := k6c0) (by decide +kernel) rfl rfl rfl (by decide +kernel)
set_option maxRecDepth 65536 in
theorem w_c6 : (Jvm.Cond.code ({ cls := "com/example/halter/halter/SlidingLogLimiter$Log", name := "idleAt", desc := "(J)Z" } : Jvm.MethodName) prog_18_method_3_code (3 : Nat) (Option.some Jvm.ClassFile.FieldType.boolean)).before args0 about1 = true := code_word (m := ⟨5, 2⟩) (meth := k5m2) (c := k5c2) (by decide +kernel) rfl rfl rfl (by decide +kernel)
set_option maxRecDepth 65536 in
theorem w_c7 : (Jvm.Cond.code ({ cls := "com/example/halter/halter/SlidingSum", name := "at", desc := "(J)J" } : Jvm.MethodName) prog_20_method_2_code (3 : Nat) (Option.some Jvm.ClassFile.FieldType.long)).before args0 about1 = true := code_word (m := ⟨6, 1⟩) (meth := k6m1) (c := k6c1) (by decide +kernel) rfl rfl rfl (by decide +kernel)
set_option maxRecDepth 65536 in
theorem w_c8 : (Jvm.Cond.code ({ cls := "com/example/halter/halter/SlidingSum", name := "catchUp", desc := "(J)V" } : Jvm.MethodName) prog_20_method_7_code (3 : Nat) (Option.none : Option Jvm.ClassFile.FieldType)).before args0 about1 = true := code_word (m := ⟨6, 3⟩) (meth := k6m3) (c := k6c3) (by decide +kernel) rfl rfl rfl (by decide +kernel)
set_option maxRecDepth 65536 in
theorem w_c9 : (Jvm.Cond.code ({ cls := "com/example/halter/halter/SlidingSum", name := "forgetWhatLeftTheWindow", desc := "()V" } : Jvm.MethodName) prog_20_method_8_code (2 : Nat) (Option.none : Option Jvm.ClassFile.FieldType)).before args0 about1 = true := code_word (m := ⟨6, 4⟩) (meth := k6m4) (c := k6c4) (by decide +kernel) rfl rfl rfl (by decide +kernel)
set_option maxRecDepth 65536 in
theorem w_c10 : (Jvm.Cond.code ({ cls := "com/example/halter/halter/SlidingLogLimiter$Log", name := "tryAcquire", desc := "(JJ)Z" } : Jvm.MethodName) prog_18_method_2_code (6 : Nat) (Option.some Jvm.ClassFile.FieldType.boolean)).before args0 about1 = true := code_word (m := ⟨5, 1⟩) (meth := k5m1) (c := k5c1) (by decide +kernel) rfl rfl rfl (by decide +kernel)
set_option maxRecDepth 65536 in
theorem w_c11 : (Jvm.Cond.code ({ cls := "com/example/halter/halter/Limiter", name := "checkCost", desc := "(J)V" } : Jvm.MethodName) prog_12_method_2_code (2 : Nat) (Option.none : Option Jvm.ClassFile.FieldType)).before args0 about1 = true := code_word (m := ⟨7, 0⟩) (meth := k7m0) (c := k7c0) (by decide +kernel) rfl rfl rfl (by decide +kernel)
set_option maxRecDepth 65536 in
theorem w_c12 : (Jvm.Cond.code ({ cls := "com/example/halter/halter/SlidingSum", name := "add", desc := "(JJ)V" } : Jvm.MethodName) prog_20_method_3_code (5 : Nat) (Option.none : Option Jvm.ClassFile.FieldType)).before args0 about1 = true := code_word (m := ⟨6, 2⟩) (meth := k6m2) (c := k6c2) (by decide +kernel) rfl rfl rfl (by decide +kernel)
set_option maxRecDepth 65536 in
theorem w_c13 : (Jvm.Cond.code ({ cls := "com/example/halter/halter/SlidingSum", name := "remember", desc := "(J)V" } : Jvm.MethodName) prog_20_method_9_code (4 : Nat) (Option.none : Option Jvm.ClassFile.FieldType)).before args0 about1 = true := code_word (m := ⟨6, 5⟩) (meth := k6m5) (c := k6c5) (by decide +kernel) rfl rfl rfl (by decide +kernel)
set_option maxRecDepth 65536 in
theorem w_c14 : (Jvm.Cond.code ({ cls := "com/example/halter/halter/SlidingSum", name := "grow", desc := "()V" } : Jvm.MethodName) prog_20_method_10_code (3 : Nat) (Option.none : Option Jvm.ClassFile.FieldType)).before args0 about1 = true := code_word (m := ⟨6, 6⟩) (meth := k6m6) (c := k6c6) (by decide +kernel) rfl rfl rfl (by decide +kernel)
set_option maxRecDepth 65536 in
theorem w_c15 : (Jvm.Cond.code ({ cls := "java/lang/Math", name := "min", desc := "(JJ)J" } : Jvm.MethodName) jdk_29_method_70_code (4 : Nat) (Option.some Jvm.ClassFile.FieldType.long)).before args0 about1 = true := code_word (m := ⟨2, 2⟩) (meth := k2m2) (c := k2c2) (by decide +kernel) rfl rfl rfl (by decide +kernel)
set_option maxRecDepth 65536 in
theorem w_c16 : (Jvm.Cond.code ({ cls := "com/example/halter/halter/SlidingSum", name := "moveTo", desc := "(I)V" } : Jvm.MethodName) prog_20_method_11_code (5 : Nat) (Option.none : Option Jvm.ClassFile.FieldType)).before args0 about1 = true := code_word (m := ⟨6, 7⟩) (meth := k6m7) (c := k6c7) (by decide +kernel) rfl rfl rfl (by decide +kernel)
set_option maxRecDepth 65536 in
theorem w_c17 : (Jvm.Cond.code ({ cls := "com/example/halter/halter/SlidingSum", name := "place", desc := "(I)I" } : Jvm.MethodName) prog_20_method_12_code (3 : Nat) (Option.some Jvm.ClassFile.FieldType.int)).before args0 about1 = true := code_word (m := ⟨6, 8⟩) (meth := k6m8) (c := k6c8) (by decide +kernel) rfl rfl rfl (by decide +kernel)
def codes1 : List Jvm.Cond := [Jvm.Cond.code x code maxLocals ret, Jvm.Cond.code ({ cls := "java/lang/Math", name := "max", desc := "(JJ)J" } : Jvm.MethodName) jdk_29_method_66_code (4 : Nat) (Option.some Jvm.ClassFile.FieldType.long), Jvm.Cond.code ({ cls := "com/example/halter/halter/SlidingLogLimiter$Log", name := "<init>", desc := "(JJ)V" } : Jvm.MethodName) prog_18_method_1_code (5 : Nat) (Option.none : Option Jvm.ClassFile.FieldType), Jvm.Cond.code ({ cls := "com/example/halter/halter/LockedLimit", name := "<init>", desc := "()V" } : Jvm.MethodName) prog_13_method_1_code (1 : Nat) (Option.none : Option Jvm.ClassFile.FieldType), Jvm.Cond.code ({ cls := "java/lang/Object", name := "<init>", desc := "()V" } : Jvm.MethodName) object_method_1_code (1 : Nat) (Option.none : Option Jvm.ClassFile.FieldType), Jvm.Cond.code ({ cls := "com/example/halter/halter/SlidingSum", name := "<init>", desc := "(JJ)V" } : Jvm.MethodName) prog_20_method_1_code (5 : Nat) (Option.none : Option Jvm.ClassFile.FieldType), Jvm.Cond.code ({ cls := "com/example/halter/halter/SlidingLogLimiter$Log", name := "idleAt", desc := "(J)Z" } : Jvm.MethodName) prog_18_method_3_code (3 : Nat) (Option.some Jvm.ClassFile.FieldType.boolean), Jvm.Cond.code ({ cls := "com/example/halter/halter/SlidingSum", name := "at", desc := "(J)J" } : Jvm.MethodName) prog_20_method_2_code (3 : Nat) (Option.some Jvm.ClassFile.FieldType.long), Jvm.Cond.code ({ cls := "com/example/halter/halter/SlidingSum", name := "catchUp", desc := "(J)V" } : Jvm.MethodName) prog_20_method_7_code (3 : Nat) (Option.none : Option Jvm.ClassFile.FieldType), Jvm.Cond.code ({ cls := "com/example/halter/halter/SlidingSum", name := "forgetWhatLeftTheWindow", desc := "()V" } : Jvm.MethodName) prog_20_method_8_code (2 : Nat) (Option.none : Option Jvm.ClassFile.FieldType), Jvm.Cond.code ({ cls := "com/example/halter/halter/SlidingLogLimiter$Log", name := "tryAcquire", desc := "(JJ)Z" } : Jvm.MethodName) prog_18_method_2_code (6 : Nat) (Option.some Jvm.ClassFile.FieldType.boolean), Jvm.Cond.code ({ cls := "com/example/halter/halter/Limiter", name := "checkCost", desc := "(J)V" } : Jvm.MethodName) prog_12_method_2_code (2 : Nat) (Option.none : Option Jvm.ClassFile.FieldType), Jvm.Cond.code ({ cls := "com/example/halter/halter/SlidingSum", name := "add", desc := "(JJ)V" } : Jvm.MethodName) prog_20_method_3_code (5 : Nat) (Option.none : Option Jvm.ClassFile.FieldType), Jvm.Cond.code ({ cls := "com/example/halter/halter/SlidingSum", name := "remember", desc := "(J)V" } : Jvm.MethodName) prog_20_method_9_code (4 : Nat) (Option.none : Option Jvm.ClassFile.FieldType), Jvm.Cond.code ({ cls := "com/example/halter/halter/SlidingSum", name := "grow", desc := "()V" } : Jvm.MethodName) prog_20_method_10_code (3 : Nat) (Option.none : Option Jvm.ClassFile.FieldType), Jvm.Cond.code ({ cls := "java/lang/Math", name := "min", desc := "(JJ)J" } : Jvm.MethodName) jdk_29_method_70_code (4 : Nat) (Option.some Jvm.ClassFile.FieldType.long), Jvm.Cond.code ({ cls := "com/example/halter/halter/SlidingSum", name := "moveTo", desc := "(I)V" } : Jvm.MethodName) prog_20_method_11_code (5 : Nat) (Option.none : Option Jvm.ClassFile.FieldType), Jvm.Cond.code ({ cls := "com/example/halter/halter/SlidingSum", name := "place", desc := "(I)I" } : Jvm.MethodName) prog_20_method_12_code (3 : Nat) (Option.some Jvm.ClassFile.FieldType.int)]
set_option maxRecDepth 65536 in
theorem codes_eq : words1.filter isCode = codes1 := rfl
theorem w_codes : ∀ c ∈ words1.filter isCode, c.before args0 about1 = true := by
  rw [codes_eq]
  intro c hc
  simp only [codes1, List.mem_cons, List.not_mem_nil, or_false] at hc
  rcases hc with rfl | rfl | rfl | rfl | rfl | rfl | rfl | rfl | rfl | rfl | rfl | rfl | rfl | rfl | rfl | rfl | rfl | rfl
  · exact w_c0
  · exact w_c1
  · exact w_c2
  · exact w_c3
  · exact w_c4
  · exact w_c5
  · exact w_c6
  · exact w_c7
  · exact w_c8
  · exact w_c9
  · exact w_c10
  · exact w_c11
  · exact w_c12
  · exact w_c13
  · exact w_c14
  · exact w_c15
  · exact w_c16
  · exact w_c17
set_option maxRecDepth 65536 in
theorem w_t1 : (words1.take 24).all (fun c => isCode c || c.before args0 about1) = true := by decide +kernel
set_option maxRecDepth 65536 in
theorem w_t2 : ((words1.drop 24).take 24).all (fun c => isCode c || c.before args0 about1) = true := by decide +kernel
set_option maxRecDepth 65536 in
theorem w_t3 : (((words1.drop 24).drop 24).take 24).all (fun c => isCode c || c.before args0 about1) = true := by decide +kernel
set_option maxRecDepth 65536 in
theorem w_t4 : ((((words1.drop 24).drop 24).drop 24).take 24).all (fun c => isCode c || c.before args0 about1) = true := by decide +kernel
set_option maxRecDepth 65536 in
theorem w_t5 : ((((words1.drop 24).drop 24).drop 24).drop 24).all (fun c => isCode c || c.before args0 about1) = true := by decide +kernel
theorem w_tables : (allAtoms (Jvm.Cond.code x code maxLocals ret :: tables_1)).before args0 about1 = true := by
  rw [allAtoms_all]
  show words1.all (fun c => c.before args0 about1) = true
  refine all_split ?_ w_codes
  rw [← List.take_append_drop 24 words1, List.all_append, w_t1, ← List.take_append_drop 24 (words1.drop 24), List.all_append, w_t2, ← List.take_append_drop 24 ((words1.drop 24).drop 24), List.all_append, w_t3, ← List.take_append_drop 24 (((words1.drop 24).drop 24).drop 24), List.all_append, w_t4, w_t5]
  rfl
set_option maxRecDepth 65536 in
theorem w_case : (Jvm.Cond.and given_1 narrow_1).before args0 about1 = true := by decide +kernel
theorem w_applies : (headSpec (Jvm.Cond.code x code maxLocals ret :: tables_1) room_1).applies x e0.platform about1 = true :=
  (Spec.applies_iff w_frames).mpr ⟨w_running, w_runnable, w_alone, w_named, w_hears, w_ripe, w_room, w_tables⟩
theorem atStart : AtStart classFile x code maxLocals ret World_1 tables_1 room_1 Calls_1 rest_1 Pre_1 launch0 p0 e0 about1 theMethod args0 below0 :=
  ⟨lists_1, trivial, launch0.admits_env _ _ _, launch0.least_env, fairChoices_fair.cas, fairChoices_fair.clock, w_frames, w_args, w_heap, w_applies, trivial, trivial, w_case⟩
end start1
theorem witness_1 : WitnessClaimed_1 := ⟨start1.p0, start1.e0, start1.about1, start1.theMethod, start1.args0, start1.below0, start1.atStart⟩
end Jvm.Pilot.@@N@@
