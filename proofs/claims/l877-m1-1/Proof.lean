import JvmDerived
import JvmDerived.Pilot.@@N@@Statement
import JvmDerived.Pilot.@@N@@Code
set_option linter.unusedVariables false
set_option linter.unusedSimpArgs false
namespace Jvm.OwnK
open Sem ClassFile Op Lib Jvm.Stand Jvm.Free Jvm.LawKit Jvm.RoadKit
section
variable {p : Program} {l : Launch} {e : Env} {R : Room} {s : State} {m : MethodId} {args : Array Value} {below : List Frame} {meth : Method} {c : Code} {T : State} {locs : List Loc} {cells slots : Nat} {Cn Sn : Nat} {Q : Option Value → Heap → List Loc → Prop}
abbrev jv (x : Int64) : Slot := .val (.long x)
abbrev u_ : Slot := .unset
abbrev s_ : Slot := .second
/-- from the frame f the run comes to an end that Q takes -/
def KEnds (p : Program) (e : Env) (below : List Frame) (s : State) (Cn Sn : Nat) (Q : Option Value → Heap → List Loc → Prop) (T : State) (f : JFrame) : Prop :=
  ∃ s₂ o, Steps p.tables e below (T.setTop f) s₂ ∧ s₂.status = .running ∧ Ended s₂ below o ∧ ∃ v L, o = .returned v ∧ Q v s₂.heap L ∧ FrameEnd s o s₂ L Cn Sn
theorem k_via {T' : State} {f f' : JFrame} (st : ∀ t, Steps p.tables e below (T'.setTop f') t → Steps p.tables e below (T.setTop f) t) (k : KEnds p e below s Cn Sn Q T' f') : KEnds p e below s Cn Sn Q T f := by
  obtain ⟨s₂, o, h, r⟩ := k
  exact ⟨s₂, o, st _ h, r⟩
theorem k_i2b2 (x : Int32) : (x.toInt8.toInt32).toInt8.toInt32 = x.toInt8.toInt32 := by rw [Int8.toInt8_toInt32]
theorem k_by1 {x : Int32} (h : x.toInt8.toInt32 = x) : ¬ x < (-128 : Int32) := by
  have q := (c_i2b x).2.1; rw [h] at q; rw [Int32.lt_iff_toInt_lt, show (-128 : Int32).toInt = -128 from by decide]; omega
theorem k_by2 {x : Int32} (h : x.toInt8.toInt32 = x) : ¬ (127 : Int32) < x := by
  have q := (c_i2b x).2.2; rw [h] at q; rw [Int32.lt_iff_toInt_lt, show (127 : Int32).toInt = 127 from by decide]; omega
theorem k_w {ws : List Cond} {a0 : Array Value} {Z : State} (hw : ∀ d ∈ ws, d.before a0 Z = true) {d : Cond} (i : Nat) (h : ws[i]? = some d) : d.before a0 Z = true := hw _ (List.mem_of_getElem? h)
theorem k_iloadN (X : Stand p l e R s m args below meth c T locs cells slots) (hx : p.tables.exec = Jvm.exec) (pc' : Nat) {pc : Nat} {Ls : Array Slot} {St : List Value} {i : Fin 4} {v : Int32} (hd : decode c.code pc = .ok (.iload_n i, 1)) (hl : Ls[i.val]? = some (.val (.int v))) (k : KEnds p e below s Cn Sn Q T (mkF m pc' Ls (.int v :: St))) (hpc : pc + 1 = pc' := by rfl) : KEnds p e below s Cn Sn Q T (mkF m pc Ls (St)) := by
  subst hpc; exact k_via (fun t h => XS.iloadN X.here hx rfl hd hl h) k
theorem k_iload (X : Stand p l e R s m args below meth c T locs cells slots) (hx : p.tables.exec = Jvm.exec) (pc' : Nat) {pc : Nat} {Ls : Array Slot} {St : List Value} {i : Nat} {v : Int32} (hd : decode c.code pc = .ok (.iload i, 2)) (hl : Ls[i]? = some (.val (.int v))) (k : KEnds p e below s Cn Sn Q T (mkF m pc' Ls (.int v :: St))) (hpc : pc + 2 = pc' := by rfl) : KEnds p e below s Cn Sn Q T (mkF m pc Ls (St)) := by
  subst hpc; exact k_via (fun t h => XS.iload X.here hx rfl hd hl h) k
theorem k_istoreN (X : Stand p l e R s m args below meth c T locs cells slots) (hx : p.tables.exec = Jvm.exec) (pc' : Nat) {pc : Nat} {Ls : Array Slot} {St : List Value} {i : Fin 4} {v : Int32} {Ls' : Array Slot} (hd : decode c.code pc = .ok (.istore_n i, 1)) (hl : storeLocals Ls i.val (.int v) = some Ls') (k : KEnds p e below s Cn Sn Q T (mkF m pc' Ls' (St))) (hpc : pc + 1 = pc' := by rfl) : KEnds p e below s Cn Sn Q T (mkF m pc Ls (.int v :: St)) := by
  subst hpc; exact k_via (fun t h => XS.istoreN X.here hx rfl hd rfl hl h) k
theorem k_istore (X : Stand p l e R s m args below meth c T locs cells slots) (hx : p.tables.exec = Jvm.exec) (pc' : Nat) {pc : Nat} {Ls : Array Slot} {St : List Value} {i : Nat} {v : Int32} {Ls' : Array Slot} (hd : decode c.code pc = .ok (.istore i, 2)) (hl : storeLocals Ls i (.int v) = some Ls') (k : KEnds p e below s Cn Sn Q T (mkF m pc' Ls' (St))) (hpc : pc + 2 = pc' := by rfl) : KEnds p e below s Cn Sn Q T (mkF m pc Ls (.int v :: St)) := by
  subst hpc; exact k_via (fun t h => XS.istore X.here hx rfl hd rfl hl h) k
theorem k_lloadN (X : Stand p l e R s m args below meth c T locs cells slots) (hx : p.tables.exec = Jvm.exec) (pc' : Nat) {pc : Nat} {Ls : Array Slot} {St : List Value} {i : Fin 4} {v : Int64} (hd : decode c.code pc = .ok (.lload_n i, 1)) (hl : Ls[i.val]? = some (.val (.long v))) (k : KEnds p e below s Cn Sn Q T (mkF m pc' Ls (.long v :: St))) (hpc : pc + 1 = pc' := by rfl) : KEnds p e below s Cn Sn Q T (mkF m pc Ls (St)) := by
  subst hpc; exact k_via (fun t h => XS.lloadN X.here hx rfl hd hl h) k
theorem k_lload (X : Stand p l e R s m args below meth c T locs cells slots) (hx : p.tables.exec = Jvm.exec) (pc' : Nat) {pc : Nat} {Ls : Array Slot} {St : List Value} {i : Nat} {v : Int64} (hd : decode c.code pc = .ok (.lload i, 2)) (hl : Ls[i]? = some (.val (.long v))) (k : KEnds p e below s Cn Sn Q T (mkF m pc' Ls (.long v :: St))) (hpc : pc + 2 = pc' := by rfl) : KEnds p e below s Cn Sn Q T (mkF m pc Ls (St)) := by
  subst hpc; exact k_via (fun t h => XS.lload X.here hx rfl hd hl h) k
theorem k_lstore (X : Stand p l e R s m args below meth c T locs cells slots) (hx : p.tables.exec = Jvm.exec) (pc' : Nat) {pc : Nat} {Ls : Array Slot} {St : List Value} {i : Nat} {v : Int64} {Ls' : Array Slot} (hd : decode c.code pc = .ok (.lstore i, 2)) (hl : storeLocals Ls i (.long v) = some Ls') (k : KEnds p e below s Cn Sn Q T (mkF m pc' Ls' (St))) (hpc : pc + 2 = pc' := by rfl) : KEnds p e below s Cn Sn Q T (mkF m pc Ls (.long v :: St)) := by
  subst hpc; exact k_via (fun t h => XS.lstore X.here hx rfl hd rfl hl h) k
theorem k_aloadN (X : Stand p l e R s m args below meth c T locs cells slots) (hx : p.tables.exec = Jvm.exec) (pc' : Nat) {pc : Nat} {Ls : Array Slot} {St : List Value} {i : Fin 4} {v : Value} (hd : decode c.code pc = .ok (.aload_n i, 1)) (hl : Ls[i.val]? = some (.val v)) (hv : v.isRef = true) (k : KEnds p e below s Cn Sn Q T (mkF m pc' Ls (v :: St))) (hpc : pc + 1 = pc' := by rfl) : KEnds p e below s Cn Sn Q T (mkF m pc Ls (St)) := by
  subst hpc; exact k_via (fun t h => XS.aloadN X.here hx rfl hd hl hv h) k
theorem k_aload (X : Stand p l e R s m args below meth c T locs cells slots) (hx : p.tables.exec = Jvm.exec) (pc' : Nat) {pc : Nat} {Ls : Array Slot} {St : List Value} {i : Nat} {v : Value} (hd : decode c.code pc = .ok (.aload i, 2)) (hl : Ls[i]? = some (.val v)) (hv : v.isRef = true) (k : KEnds p e below s Cn Sn Q T (mkF m pc' Ls (v :: St))) (hpc : pc + 2 = pc' := by rfl) : KEnds p e below s Cn Sn Q T (mkF m pc Ls (St)) := by
  subst hpc; exact k_via (fun t h => XS.aload X.here hx rfl hd hl hv h) k
theorem k_astore (X : Stand p l e R s m args below meth c T locs cells slots) (hx : p.tables.exec = Jvm.exec) (pc' : Nat) {pc : Nat} {Ls : Array Slot} {St : List Value} {i : Nat} {v : Value} {Ls' : Array Slot} (hd : decode c.code pc = .ok (.astore i, 2)) (hv : v.isRef = true) (hl : storeLocals Ls i v = some Ls') (k : KEnds p e below s Cn Sn Q T (mkF m pc' Ls' (St))) (hpc : pc + 2 = pc' := by rfl) : KEnds p e below s Cn Sn Q T (mkF m pc Ls (v :: St)) := by
  subst hpc; exact k_via (fun t h => XS.astore X.here hx rfl hd rfl hv hl h) k
theorem k_iconst (X : Stand p l e R s m args below meth c T locs cells slots) (hx : p.tables.exec = Jvm.exec) (pc' : Nat) {pc : Nat} {Ls : Array Slot} {St : List Value} {i : Int} {z : Int32} (hd : decode c.code pc = .ok (.iconst i, 1)) (hz : Int32.ofInt i = z) (k : KEnds p e below s Cn Sn Q T (mkF m pc' Ls (.int z :: St))) (hpc : pc + 1 = pc' := by rfl) : KEnds p e below s Cn Sn Q T (mkF m pc Ls St) := by
  subst hpc hz; exact k_via (fun t h => XS.iconst X.here hx rfl hd h) k
theorem k_bipush (X : Stand p l e R s m args below meth c T locs cells slots) (hx : p.tables.exec = Jvm.exec) (pc' : Nat) {pc : Nat} {Ls : Array Slot} {St : List Value} {i : Int} {z : Int32} (hd : decode c.code pc = .ok (.bipush i, 2)) (hz : (Int8.ofInt i).toInt32 = z) (k : KEnds p e below s Cn Sn Q T (mkF m pc' Ls (.int z :: St))) (hpc : pc + 2 = pc' := by rfl) : KEnds p e below s Cn Sn Q T (mkF m pc Ls St) := by
  subst hpc hz; exact k_via (fun t h => XS.bipush X.here hx rfl hd h) k
theorem k_lconst (X : Stand p l e R s m args below meth c T locs cells slots) (hx : p.tables.exec = Jvm.exec) (pc' : Nat) {pc : Nat} {Ls : Array Slot} {St : List Value} {i : Fin 2} {z : Int64} (hd : decode c.code pc = .ok (.lconst i, 1)) (hz : Int64.ofNat i = z) (k : KEnds p e below s Cn Sn Q T (mkF m pc' Ls (.long z :: St))) (hpc : pc + 1 = pc' := by rfl) : KEnds p e below s Cn Sn Q T (mkF m pc Ls St) := by
  subst hpc hz; exact k_via (fun t h => XS.lconst X.here hx rfl hd h) k
theorem k_iaddL (X : Stand p l e R s m args below meth c T locs cells slots) (hx : p.tables.exec = Jvm.exec) (pc' : Nat) {pc : Nat} {Ls : Array Slot} {St : List Value} {x y : Int32} {z : Int32} (hd : decode c.code pc = .ok (.iadd, 1))  (hz : x + y = z) (k : KEnds p e below s Cn Sn Q T (mkF m pc' Ls (.int z :: St))) (hpc : pc + 1 = pc' := by rfl) : KEnds p e below s Cn Sn Q T (mkF m pc Ls (.int y :: .int x :: St)) := by
  subst hpc hz; exact k_via (fun t h => XS.iadd X.here hx rfl hd rfl h) k
theorem k_isubL (X : Stand p l e R s m args below meth c T locs cells slots) (hx : p.tables.exec = Jvm.exec) (pc' : Nat) {pc : Nat} {Ls : Array Slot} {St : List Value} {x y : Int32} {z : Int32} (hd : decode c.code pc = .ok (.isub, 1))  (hz : x - y = z) (k : KEnds p e below s Cn Sn Q T (mkF m pc' Ls (.int z :: St))) (hpc : pc + 1 = pc' := by rfl) : KEnds p e below s Cn Sn Q T (mkF m pc Ls (.int y :: .int x :: St)) := by
  subst hpc hz; exact k_via (fun t h => XS.isub X.here hx rfl hd rfl h) k
theorem k_isub (X : Stand p l e R s m args below meth c T locs cells slots) (hx : p.tables.exec = Jvm.exec) (pc' : Nat) {pc : Nat} {Ls : Array Slot} {St : List Value} {x y : Int32} (hd : decode c.code pc = .ok (.isub, 1))  (k : ∀ z : Int32, z = x - y → KEnds p e below s Cn Sn Q T (mkF m pc' Ls (.int z :: St))) (hpc : pc + 1 = pc' := by rfl) : KEnds p e below s Cn Sn Q T (mkF m pc Ls (.int y :: .int x :: St)) := by
  subst hpc; exact k_via (fun t h => XS.isub X.here hx rfl hd rfl h) (k _ rfl)
theorem k_imulL (X : Stand p l e R s m args below meth c T locs cells slots) (hx : p.tables.exec = Jvm.exec) (pc' : Nat) {pc : Nat} {Ls : Array Slot} {St : List Value} {x y : Int32} {z : Int32} (hd : decode c.code pc = .ok (.imul, 1))  (hz : x * y = z) (k : KEnds p e below s Cn Sn Q T (mkF m pc' Ls (.int z :: St))) (hpc : pc + 1 = pc' := by rfl) : KEnds p e below s Cn Sn Q T (mkF m pc Ls (.int y :: .int x :: St)) := by
  subst hpc hz; exact k_via (fun t h => XS.imul X.here hx rfl hd rfl h) k
theorem k_iandL (X : Stand p l e R s m args below meth c T locs cells slots) (hx : p.tables.exec = Jvm.exec) (pc' : Nat) {pc : Nat} {Ls : Array Slot} {St : List Value} {x y : Int32} {z : Int32} (hd : decode c.code pc = .ok (.iand, 1))  (hz : x &&& y = z) (k : KEnds p e below s Cn Sn Q T (mkF m pc' Ls (.int z :: St))) (hpc : pc + 1 = pc' := by rfl) : KEnds p e below s Cn Sn Q T (mkF m pc Ls (.int y :: .int x :: St)) := by
  subst hpc hz; exact k_via (fun t h => XS.iand X.here hx rfl hd rfl h) k
theorem k_iand (X : Stand p l e R s m args below meth c T locs cells slots) (hx : p.tables.exec = Jvm.exec) (pc' : Nat) {pc : Nat} {Ls : Array Slot} {St : List Value} {x y : Int32} (hd : decode c.code pc = .ok (.iand, 1))  (k : ∀ z : Int32, z = x &&& y → KEnds p e below s Cn Sn Q T (mkF m pc' Ls (.int z :: St))) (hpc : pc + 1 = pc' := by rfl) : KEnds p e below s Cn Sn Q T (mkF m pc Ls (.int y :: .int x :: St)) := by
  subst hpc; exact k_via (fun t h => XS.iand X.here hx rfl hd rfl h) (k _ rfl)
theorem k_laddL (X : Stand p l e R s m args below meth c T locs cells slots) (hx : p.tables.exec = Jvm.exec) (pc' : Nat) {pc : Nat} {Ls : Array Slot} {St : List Value} {x y : Int64} {z : Int64} (hd : decode c.code pc = .ok (.ladd, 1))  (hz : x + y = z) (k : KEnds p e below s Cn Sn Q T (mkF m pc' Ls (.long z :: St))) (hpc : pc + 1 = pc' := by rfl) : KEnds p e below s Cn Sn Q T (mkF m pc Ls (.long y :: .long x :: St)) := by
  subst hpc hz; exact k_via (fun t h => XS.ladd X.here hx rfl hd rfl h) k
theorem k_ladd (X : Stand p l e R s m args below meth c T locs cells slots) (hx : p.tables.exec = Jvm.exec) (pc' : Nat) {pc : Nat} {Ls : Array Slot} {St : List Value} {x y : Int64} (hd : decode c.code pc = .ok (.ladd, 1))  (k : ∀ z : Int64, z = x + y → KEnds p e below s Cn Sn Q T (mkF m pc' Ls (.long z :: St))) (hpc : pc + 1 = pc' := by rfl) : KEnds p e below s Cn Sn Q T (mkF m pc Ls (.long y :: .long x :: St)) := by
  subst hpc; exact k_via (fun t h => XS.ladd X.here hx rfl hd rfl h) (k _ rfl)
theorem k_lsub (X : Stand p l e R s m args below meth c T locs cells slots) (hx : p.tables.exec = Jvm.exec) (pc' : Nat) {pc : Nat} {Ls : Array Slot} {St : List Value} {x y : Int64} (hd : decode c.code pc = .ok (.lsub, 1))  (k : ∀ z : Int64, z = x - y → KEnds p e below s Cn Sn Q T (mkF m pc' Ls (.long z :: St))) (hpc : pc + 1 = pc' := by rfl) : KEnds p e below s Cn Sn Q T (mkF m pc Ls (.long y :: .long x :: St)) := by
  subst hpc; exact k_via (fun t h => XS.lsub X.here hx rfl hd rfl h) (k _ rfl)
theorem k_lmulL (X : Stand p l e R s m args below meth c T locs cells slots) (hx : p.tables.exec = Jvm.exec) (pc' : Nat) {pc : Nat} {Ls : Array Slot} {St : List Value} {x y : Int64} {z : Int64} (hd : decode c.code pc = .ok (.lmul, 1))  (hz : x * y = z) (k : KEnds p e below s Cn Sn Q T (mkF m pc' Ls (.long z :: St))) (hpc : pc + 1 = pc' := by rfl) : KEnds p e below s Cn Sn Q T (mkF m pc Ls (.long y :: .long x :: St)) := by
  subst hpc hz; exact k_via (fun t h => XS.lmul X.here hx rfl hd rfl h) k
theorem k_lmul (X : Stand p l e R s m args below meth c T locs cells slots) (hx : p.tables.exec = Jvm.exec) (pc' : Nat) {pc : Nat} {Ls : Array Slot} {St : List Value} {x y : Int64} (hd : decode c.code pc = .ok (.lmul, 1))  (k : ∀ z : Int64, z = x * y → KEnds p e below s Cn Sn Q T (mkF m pc' Ls (.long z :: St))) (hpc : pc + 1 = pc' := by rfl) : KEnds p e below s Cn Sn Q T (mkF m pc Ls (.long y :: .long x :: St)) := by
  subst hpc; exact k_via (fun t h => XS.lmul X.here hx rfl hd rfl h) (k _ rfl)
theorem k_land (X : Stand p l e R s m args below meth c T locs cells slots) (hx : p.tables.exec = Jvm.exec) (pc' : Nat) {pc : Nat} {Ls : Array Slot} {St : List Value} {x y : Int64} (hd : decode c.code pc = .ok (.land, 1))  (k : ∀ z : Int64, z = x &&& y → KEnds p e below s Cn Sn Q T (mkF m pc' Ls (.long z :: St))) (hpc : pc + 1 = pc' := by rfl) : KEnds p e below s Cn Sn Q T (mkF m pc Ls (.long y :: .long x :: St)) := by
  subst hpc; exact k_via (fun t h => XS.land X.here hx rfl hd rfl h) (k _ rfl)
theorem k_iushrL (X : Stand p l e R s m args below meth c T locs cells slots) (hx : p.tables.exec = Jvm.exec) (pc' : Nat) {pc : Nat} {Ls : Array Slot} {St : List Value} {x y : Int32} {z : Int32} (hd : decode c.code pc = .ok (.iushr, 1))  (hz : ((x.toUInt32 >>> (y &&& 31).toUInt32).toInt32) = z) (k : KEnds p e below s Cn Sn Q T (mkF m pc' Ls (.int z :: St))) (hpc : pc + 1 = pc' := by rfl) : KEnds p e below s Cn Sn Q T (mkF m pc Ls (.int y :: .int x :: St)) := by
  subst hpc hz; exact k_via (fun t h => XS.iushr X.here hx rfl hd rfl h) k
theorem k_iushr (X : Stand p l e R s m args below meth c T locs cells slots) (hx : p.tables.exec = Jvm.exec) (pc' : Nat) {pc : Nat} {Ls : Array Slot} {St : List Value} {x y : Int32} (hd : decode c.code pc = .ok (.iushr, 1))  (k : ∀ z : Int32, z = ((x.toUInt32 >>> (y &&& 31).toUInt32).toInt32) → KEnds p e below s Cn Sn Q T (mkF m pc' Ls (.int z :: St))) (hpc : pc + 1 = pc' := by rfl) : KEnds p e below s Cn Sn Q T (mkF m pc Ls (.int y :: .int x :: St)) := by
  subst hpc; exact k_via (fun t h => XS.iushr X.here hx rfl hd rfl h) (k _ rfl)
theorem k_iremL (X : Stand p l e R s m args below meth c T locs cells slots) (hx : p.tables.exec = Jvm.exec) (pc' : Nat) {pc : Nat} {Ls : Array Slot} {St : List Value} {x y : Int32} {z : Int32} (hd : decode c.code pc = .ok (.irem, 1)) (hy : y ≠ 0) (hz : x % y = z) (k : KEnds p e below s Cn Sn Q T (mkF m pc' Ls (.int z :: St))) (hpc : pc + 1 = pc' := by rfl) : KEnds p e below s Cn Sn Q T (mkF m pc Ls (.int y :: .int x :: St)) := by
  subst hpc hz; exact k_via (fun t h => iremM X hx rfl hd rfl hy h) k
theorem k_irem (X : Stand p l e R s m args below meth c T locs cells slots) (hx : p.tables.exec = Jvm.exec) (pc' : Nat) {pc : Nat} {Ls : Array Slot} {St : List Value} {x y : Int32} (hd : decode c.code pc = .ok (.irem, 1)) (hy : y ≠ 0) (k : ∀ z : Int32, z = x % y → KEnds p e below s Cn Sn Q T (mkF m pc' Ls (.int z :: St))) (hpc : pc + 1 = pc' := by rfl) : KEnds p e below s Cn Sn Q T (mkF m pc Ls (.int y :: .int x :: St)) := by
  subst hpc; exact k_via (fun t h => iremM X hx rfl hd rfl hy h) (k _ rfl)
theorem k_ldiv (X : Stand p l e R s m args below meth c T locs cells slots) (hx : p.tables.exec = Jvm.exec) (pc' : Nat) {pc : Nat} {Ls : Array Slot} {St : List Value} {x y : Int64} (hd : decode c.code pc = .ok (.ldiv, 1)) (hy : y ≠ 0) (k : ∀ z : Int64, z = x / y → KEnds p e below s Cn Sn Q T (mkF m pc' Ls (.long z :: St))) (hpc : pc + 1 = pc' := by rfl) : KEnds p e below s Cn Sn Q T (mkF m pc Ls (.long y :: .long x :: St)) := by
  subst hpc; exact k_via (fun t h => XS.ldiv X.here hx rfl hd rfl hy h) (k _ rfl)
theorem k_i2lL (X : Stand p l e R s m args below meth c T locs cells slots) (hx : p.tables.exec = Jvm.exec) (pc' : Nat) {pc : Nat} {Ls : Array Slot} {St : List Value} {x : Int32} {z : Int64} (hd : decode c.code pc = .ok (.i2l, 1))  (hz : x.toInt64 = z) (k : KEnds p e below s Cn Sn Q T (mkF m pc' Ls (.long z :: St))) (hpc : pc + 1 = pc' := by rfl) : KEnds p e below s Cn Sn Q T (mkF m pc Ls (.int x :: St)) := by
  subst hpc hz; exact k_via (fun t h => XS.i2l X.here hx rfl hd rfl h) k
theorem k_i2l (X : Stand p l e R s m args below meth c T locs cells slots) (hx : p.tables.exec = Jvm.exec) (pc' : Nat) {pc : Nat} {Ls : Array Slot} {St : List Value} {x : Int32} (hd : decode c.code pc = .ok (.i2l, 1))  (k : ∀ z : Int64, z = x.toInt64 → KEnds p e below s Cn Sn Q T (mkF m pc' Ls (.long z :: St))) (hpc : pc + 1 = pc' := by rfl) : KEnds p e below s Cn Sn Q T (mkF m pc Ls (.int x :: St)) := by
  subst hpc; exact k_via (fun t h => XS.i2l X.here hx rfl hd rfl h) (k _ rfl)
theorem k_i2bL (X : Stand p l e R s m args below meth c T locs cells slots) (hx : p.tables.exec = Jvm.exec) (pc' : Nat) {pc : Nat} {Ls : Array Slot} {St : List Value} {x : Int32} {z : Int32} (hd : decode c.code pc = .ok (.i2b, 1))  (hz : x.toInt8.toInt32 = z) (k : KEnds p e below s Cn Sn Q T (mkF m pc' Ls (.int z :: St))) (hpc : pc + 1 = pc' := by rfl) : KEnds p e below s Cn Sn Q T (mkF m pc Ls (.int x :: St)) := by
  subst hpc hz; exact k_via (fun t h => XS.i2b X.here hx rfl hd rfl h) k
theorem k_iinc (X : Stand p l e R s m args below meth c T locs cells slots) (hx : p.tables.exec = Jvm.exec) (pc' : Nat) {pc : Nat} {Ls : Array Slot} {St : List Value} {i : Nat} {cst : Int} {x z : Int32} {Ls' : Array Slot} (hd : decode c.code pc = .ok (.iinc i cst, 3)) (hl : Ls[i]? = some (.val (.int x))) (hz : x + Int32.ofInt cst = z) (hl' : storeLocals Ls i (.int z) = some Ls') (k : KEnds p e below s Cn Sn Q T (mkF m pc' Ls' St)) (hpc : pc + 3 = pc' := by rfl) : KEnds p e below s Cn Sn Q T (mkF m pc Ls St) := by
  subst hpc hz; exact k_via (fun t h => XS.iinc X.here hx rfl hd hl hl' h) k
theorem k_goto (X : Stand p l e R s m args below meth c T locs cells slots) (hx : p.tables.exec = Jvm.exec) (pc' : Nat) {pc : Nat} {Ls : Array Slot} {St : List Value} {o : Int} (hd : decode c.code pc = .ok (.goto o, 3)) (k : KEnds p e below s Cn Sn Q T (mkF m pc' Ls St)) (hp : (pc : Int) + o = (pc' : Int) := by decide) : KEnds p e below s Cn Sn Q T (mkF m pc Ls St) :=
  k_via (fun t h => XS.goto X.here hx rfl (pc0 := pc) rfl hd (by omega) (by omega) h) k
theorem k_icmp_lt (X : Stand p l e R s m args below meth c T locs cells slots) (hx : p.tables.exec = Jvm.exec) (pn py : Nat) {pc : Nat} {Ls : Array Slot} {St : List Value} {x y : Int32} {o : Int} (hd : decode c.code pc = .ok (.if_icmp .lt o, 3)) (ky : x < y → KEnds p e below s Cn Sn Q T (mkF m py Ls St)) (kn : ¬ x < y → KEnds p e below s Cn Sn Q T (mkF m pn Ls St)) (hn : pc + 3 = pn := by rfl) (hp : (pc : Int) + o = (py : Int) := by decide) : KEnds p e below s Cn Sn Q T (mkF m pc Ls (.int y :: .int x :: St)) := by
  subst hn
  by_cases hc : x < y
  · exact k_via (fun t h => XS.icmpYes X.here hx rfl (pc0 := pc) rfl hd rfl (tlt hc).1 (by omega) (by omega) h) (ky hc)
  · exact k_via (fun t h => XS.icmpNo X.here hx rfl hd rfl (flt hc).1 h) (kn hc)
theorem k_if_lt (X : Stand p l e R s m args below meth c T locs cells slots) (hx : p.tables.exec = Jvm.exec) (pn py : Nat) {pc : Nat} {Ls : Array Slot} {St : List Value} {x : Int32} {o : Int} (hd : decode c.code pc = .ok (.ifCond .lt o, 3)) (ky : x < (0 : Int32) → KEnds p e below s Cn Sn Q T (mkF m py Ls St)) (kn : ¬ x < (0 : Int32) → KEnds p e below s Cn Sn Q T (mkF m pn Ls St)) (hn : pc + 3 = pn := by rfl) (hp : (pc : Int) + o = (py : Int) := by decide) : KEnds p e below s Cn Sn Q T (mkF m pc Ls (.int x :: St)) := by
  subst hn
  by_cases hc : x < (0 : Int32)
  · exact k_via (fun t h => XS.ifYes X.here hx rfl (pc0 := pc) rfl hd rfl ((if0 _ _).trans (tlt hc).1) (by omega) (by omega) h) (ky hc)
  · exact k_via (fun t h => XS.ifNo X.here hx rfl hd rfl ((if0 _ _).trans (flt hc).1) h) (kn hc)
theorem k_lcif_lt (X : Stand p l e R s m args below meth c T locs cells slots) (hx : p.tables.exec = Jvm.exec) (pn py pm : Nat) {pc : Nat} {Ls : Array Slot} {St : List Value} {x y : Int64} {o : Int} (hd0 : decode c.code pc = .ok (.lcmp, 1)) (hd : decode c.code pm = .ok (.ifCond .lt o, 3)) (ky : x < y → KEnds p e below s Cn Sn Q T (mkF m py Ls St)) (kn : ¬ x < y → KEnds p e below s Cn Sn Q T (mkF m pn Ls St)) (hm : pc + 1 = pm := by rfl) (hn : pm + 3 = pn := by rfl) (hp : (pm : Int) + o = (py : Int) := by decide) : KEnds p e below s Cn Sn Q T (mkF m pc Ls (.long y :: .long x :: St)) := by
  subst hm
  have F := k_if_lt (Q := Q) (Cn := Cn) (Sn := Sn) (Ls := Ls) (St := St) (x := lcmpW x y) X hx pn py hd (fun hc => ky ((lw_lt x y).mp hc)) (fun hc => kn (fun q => hc ((lw_lt x y).mpr q))) hn hp
  exact k_via (fun t h => XS.lcmp X.here hx rfl hd0 rfl h) F
theorem k_icmp_ge (X : Stand p l e R s m args below meth c T locs cells slots) (hx : p.tables.exec = Jvm.exec) (pn py : Nat) {pc : Nat} {Ls : Array Slot} {St : List Value} {x y : Int32} {o : Int} (hd : decode c.code pc = .ok (.if_icmp .ge o, 3)) (ky : ¬ x < y → KEnds p e below s Cn Sn Q T (mkF m py Ls St)) (kn : x < y → KEnds p e below s Cn Sn Q T (mkF m pn Ls St)) (hn : pc + 3 = pn := by rfl) (hp : (pc : Int) + o = (py : Int) := by decide) : KEnds p e below s Cn Sn Q T (mkF m pc Ls (.int y :: .int x :: St)) := by
  subst hn
  by_cases hc : x < y
  · exact k_via (fun t h => XS.icmpNo X.here hx rfl hd rfl (tlt hc).2.1 h) (kn hc)
  · exact k_via (fun t h => XS.icmpYes X.here hx rfl (pc0 := pc) rfl hd rfl (flt hc).2.1 (by omega) (by omega) h) (ky hc)
theorem k_icmp_gt (X : Stand p l e R s m args below meth c T locs cells slots) (hx : p.tables.exec = Jvm.exec) (pn py : Nat) {pc : Nat} {Ls : Array Slot} {St : List Value} {x y : Int32} {o : Int} (hd : decode c.code pc = .ok (.if_icmp .gt o, 3)) (ky : y < x → KEnds p e below s Cn Sn Q T (mkF m py Ls St)) (kn : ¬ y < x → KEnds p e below s Cn Sn Q T (mkF m pn Ls St)) (hn : pc + 3 = pn := by rfl) (hp : (pc : Int) + o = (py : Int) := by decide) : KEnds p e below s Cn Sn Q T (mkF m pc Ls (.int y :: .int x :: St)) := by
  subst hn
  by_cases hc : y < x
  · exact k_via (fun t h => XS.icmpYes X.here hx rfl (pc0 := pc) rfl hd rfl (tlt hc).2.2.1 (by omega) (by omega) h) (ky hc)
  · exact k_via (fun t h => XS.icmpNo X.here hx rfl hd rfl (flt hc).2.2.1 h) (kn hc)
theorem k_if_gt (X : Stand p l e R s m args below meth c T locs cells slots) (hx : p.tables.exec = Jvm.exec) (pn py : Nat) {pc : Nat} {Ls : Array Slot} {St : List Value} {x : Int32} {o : Int} (hd : decode c.code pc = .ok (.ifCond .gt o, 3)) (ky : (0 : Int32) < x → KEnds p e below s Cn Sn Q T (mkF m py Ls St)) (kn : ¬ (0 : Int32) < x → KEnds p e below s Cn Sn Q T (mkF m pn Ls St)) (hn : pc + 3 = pn := by rfl) (hp : (pc : Int) + o = (py : Int) := by decide) : KEnds p e below s Cn Sn Q T (mkF m pc Ls (.int x :: St)) := by
  subst hn
  by_cases hc : (0 : Int32) < x
  · exact k_via (fun t h => XS.ifYes X.here hx rfl (pc0 := pc) rfl hd rfl ((if0 _ _).trans (tlt hc).2.2.1) (by omega) (by omega) h) (ky hc)
  · exact k_via (fun t h => XS.ifNo X.here hx rfl hd rfl ((if0 _ _).trans (flt hc).2.2.1) h) (kn hc)
theorem k_lcif_gt (X : Stand p l e R s m args below meth c T locs cells slots) (hx : p.tables.exec = Jvm.exec) (pn py pm : Nat) {pc : Nat} {Ls : Array Slot} {St : List Value} {x y : Int64} {o : Int} (hd0 : decode c.code pc = .ok (.lcmp, 1)) (hd : decode c.code pm = .ok (.ifCond .gt o, 3)) (ky : y < x → KEnds p e below s Cn Sn Q T (mkF m py Ls St)) (kn : ¬ y < x → KEnds p e below s Cn Sn Q T (mkF m pn Ls St)) (hm : pc + 1 = pm := by rfl) (hn : pm + 3 = pn := by rfl) (hp : (pm : Int) + o = (py : Int) := by decide) : KEnds p e below s Cn Sn Q T (mkF m pc Ls (.long y :: .long x :: St)) := by
  subst hm
  have F := k_if_gt (Q := Q) (Cn := Cn) (Sn := Sn) (Ls := Ls) (St := St) (x := lcmpW x y) X hx pn py hd (fun hc => ky ((lw_gt x y).mp hc)) (fun hc => kn (fun q => hc ((lw_gt x y).mpr q))) hn hp
  exact k_via (fun t h => XS.lcmp X.here hx rfl hd0 rfl h) F
theorem k_icmp_le (X : Stand p l e R s m args below meth c T locs cells slots) (hx : p.tables.exec = Jvm.exec) (pn py : Nat) {pc : Nat} {Ls : Array Slot} {St : List Value} {x y : Int32} {o : Int} (hd : decode c.code pc = .ok (.if_icmp .le o, 3)) (ky : ¬ y < x → KEnds p e below s Cn Sn Q T (mkF m py Ls St)) (kn : y < x → KEnds p e below s Cn Sn Q T (mkF m pn Ls St)) (hn : pc + 3 = pn := by rfl) (hp : (pc : Int) + o = (py : Int) := by decide) : KEnds p e below s Cn Sn Q T (mkF m pc Ls (.int y :: .int x :: St)) := by
  subst hn
  by_cases hc : y < x
  · exact k_via (fun t h => XS.icmpNo X.here hx rfl hd rfl (tlt hc).2.2.2 h) (kn hc)
  · exact k_via (fun t h => XS.icmpYes X.here hx rfl (pc0 := pc) rfl hd rfl (flt hc).2.2.2 (by omega) (by omega) h) (ky hc)
theorem k_if_le (X : Stand p l e R s m args below meth c T locs cells slots) (hx : p.tables.exec = Jvm.exec) (pn py : Nat) {pc : Nat} {Ls : Array Slot} {St : List Value} {x : Int32} {o : Int} (hd : decode c.code pc = .ok (.ifCond .le o, 3)) (ky : ¬ (0 : Int32) < x → KEnds p e below s Cn Sn Q T (mkF m py Ls St)) (kn : (0 : Int32) < x → KEnds p e below s Cn Sn Q T (mkF m pn Ls St)) (hn : pc + 3 = pn := by rfl) (hp : (pc : Int) + o = (py : Int) := by decide) : KEnds p e below s Cn Sn Q T (mkF m pc Ls (.int x :: St)) := by
  subst hn
  by_cases hc : (0 : Int32) < x
  · exact k_via (fun t h => XS.ifNo X.here hx rfl hd rfl ((if0 _ _).trans (tlt hc).2.2.2) h) (kn hc)
  · exact k_via (fun t h => XS.ifYes X.here hx rfl (pc0 := pc) rfl hd rfl ((if0 _ _).trans (flt hc).2.2.2) (by omega) (by omega) h) (ky hc)
theorem k_if_eq (X : Stand p l e R s m args below meth c T locs cells slots) (hx : p.tables.exec = Jvm.exec) (pn py : Nat) {pc : Nat} {Ls : Array Slot} {St : List Value} {x : Int32} {o : Int} (hd : decode c.code pc = .ok (.ifCond .eq o, 3)) (ky : x = (0 : Int32) → KEnds p e below s Cn Sn Q T (mkF m py Ls St)) (kn : ¬ x = (0 : Int32) → KEnds p e below s Cn Sn Q T (mkF m pn Ls St)) (hn : pc + 3 = pn := by rfl) (hp : (pc : Int) + o = (py : Int) := by decide) : KEnds p e below s Cn Sn Q T (mkF m pc Ls (.int x :: St)) := by
  subst hn
  by_cases hc : x = (0 : Int32)
  · exact k_via (fun t h => XS.ifYes X.here hx rfl (pc0 := pc) rfl hd rfl ((if0 _ _).trans (teq hc).1) (by omega) (by omega) h) (ky hc)
  · exact k_via (fun t h => XS.ifNo X.here hx rfl hd rfl ((if0 _ _).trans (feq hc).1) h) (kn hc)
theorem k_icmp_ne (X : Stand p l e R s m args below meth c T locs cells slots) (hx : p.tables.exec = Jvm.exec) (pn py : Nat) {pc : Nat} {Ls : Array Slot} {St : List Value} {x y : Int32} {o : Int} (hd : decode c.code pc = .ok (.if_icmp .ne o, 3)) (ky : ¬ x = y → KEnds p e below s Cn Sn Q T (mkF m py Ls St)) (kn : x = y → KEnds p e below s Cn Sn Q T (mkF m pn Ls St)) (hn : pc + 3 = pn := by rfl) (hp : (pc : Int) + o = (py : Int) := by decide) : KEnds p e below s Cn Sn Q T (mkF m pc Ls (.int y :: .int x :: St)) := by
  subst hn
  by_cases hc : x = y
  · exact k_via (fun t h => XS.icmpNo X.here hx rfl hd rfl (teq hc).2 h) (kn hc)
  · exact k_via (fun t h => XS.icmpYes X.here hx rfl (pc0 := pc) rfl hd rfl (feq hc).2 (by omega) (by omega) h) (ky hc)
theorem k_if_ne (X : Stand p l e R s m args below meth c T locs cells slots) (hx : p.tables.exec = Jvm.exec) (pn py : Nat) {pc : Nat} {Ls : Array Slot} {St : List Value} {x : Int32} {o : Int} (hd : decode c.code pc = .ok (.ifCond .ne o, 3)) (ky : ¬ x = (0 : Int32) → KEnds p e below s Cn Sn Q T (mkF m py Ls St)) (kn : x = (0 : Int32) → KEnds p e below s Cn Sn Q T (mkF m pn Ls St)) (hn : pc + 3 = pn := by rfl) (hp : (pc : Int) + o = (py : Int) := by decide) : KEnds p e below s Cn Sn Q T (mkF m pc Ls (.int x :: St)) := by
  subst hn
  by_cases hc : x = (0 : Int32)
  · exact k_via (fun t h => XS.ifNo X.here hx rfl hd rfl ((if0 _ _).trans (teq hc).2) h) (kn hc)
  · exact k_via (fun t h => XS.ifYes X.here hx rfl (pc0 := pc) rfl hd rfl ((if0 _ _).trans (feq hc).2) (by omega) (by omega) h) (ky hc)
theorem k_lcif_ne (X : Stand p l e R s m args below meth c T locs cells slots) (hx : p.tables.exec = Jvm.exec) (pn py pm : Nat) {pc : Nat} {Ls : Array Slot} {St : List Value} {x y : Int64} {o : Int} (hd0 : decode c.code pc = .ok (.lcmp, 1)) (hd : decode c.code pm = .ok (.ifCond .ne o, 3)) (ky : ¬ x = y → KEnds p e below s Cn Sn Q T (mkF m py Ls St)) (kn : x = y → KEnds p e below s Cn Sn Q T (mkF m pn Ls St)) (hm : pc + 1 = pm := by rfl) (hn : pm + 3 = pn := by rfl) (hp : (pm : Int) + o = (py : Int) := by decide) : KEnds p e below s Cn Sn Q T (mkF m pc Ls (.long y :: .long x :: St)) := by
  subst hm
  have F := k_if_ne (Q := Q) (Cn := Cn) (Sn := Sn) (Ls := Ls) (St := St) (x := lcmpW x y) X hx pn py hd (fun hc => ky (fun q => hc ((lw_eq x y).mpr q))) (fun hc => kn ((lw_eq x y).mp hc)) hn hp
  exact k_via (fun t h => XS.lcmp X.here hx rfl hd0 rfl h) F
theorem k_lt {x a : Int32} {n : Int} (h : x < a) (e : a.toInt = n + 1) : x.toInt ≤ n := by rw [Int32.lt_iff_toInt_lt] at h; omega
theorem k_ge {x a : Int32} {n : Int} (h : ¬ x < a) (e : a.toInt = n) : n ≤ x.toInt := by rw [Int32.lt_iff_toInt_lt] at h; omega
theorem k_gt {x a : Int32} {n : Int} (h : a < x) (e : a.toInt + 1 = n) : n ≤ x.toInt := by rw [Int32.lt_iff_toInt_lt] at h; omega
theorem k_le {x a : Int32} {n : Int} (h : ¬ a < x) (e : a.toInt = n) : x.toInt ≤ n := by rw [Int32.lt_iff_toInt_lt] at h; omega
theorem kL_lt {x a : Int64} {n : Int} (h : x < a) (e : a.toInt = n + 1) : x.toInt ≤ n := by rw [Int64.lt_iff_toInt_lt] at h; omega
theorem kL_ge {x a : Int64} {n : Int} (h : ¬ x < a) (e : a.toInt = n) : n ≤ x.toInt := by rw [Int64.lt_iff_toInt_lt] at h; omega
theorem kL_le {x a : Int64} {n : Int} (h : ¬ a < x) (e : a.toInt = n) : x.toInt ≤ n := by rw [Int64.lt_iff_toInt_lt] at h; omega
theorem k_addB {x a b la ua lb ub lo hi : Int} (q : x = a + b) (pa : la ≤ a ∧ a ≤ ua) (pb : lb ≤ b ∧ b ≤ ub) (h1 : lo ≤ la + lb := by decide) (h2 : ua + ub ≤ hi := by decide) : lo ≤ x ∧ x ≤ hi := by omega
theorem k_subB' {x a b la ua lb ub lo hi : Int} (q : x = a - b) (pa : la ≤ a ∧ a ≤ ua) (pb : lb ≤ b ∧ b ≤ ub) (h1 : lo ≤ la - ub := by decide) (h2 : ua - lb ≤ hi := by decide) : lo ≤ x ∧ x ≤ hi := by omega
theorem k_mulB {a c la ua lo hi : Int} (pa : la ≤ a ∧ a ≤ ua) (hc : 0 ≤ c) (h1 : lo ≤ c * la := by decide) (h2 : c * ua ≤ hi := by decide) : lo ≤ c * a ∧ c * a ≤ hi := ⟨Int.le_trans h1 (Int.mul_le_mul_of_nonneg_left pa.1 hc), Int.le_trans (Int.mul_le_mul_of_nonneg_left pa.2 hc) h2⟩
theorem k_modB {a P hi : Int} (h : 0 < P) (e : P = hi + 1 := by decide) : 0 ≤ a % P ∧ a % P ≤ hi := ⟨Int.emod_nonneg _ (by omega), by have := Int.emod_lt_of_pos a h; omega⟩
theorem k_divmodB {a W P hi : Int} (h : 0 < P) (hw : 0 < W) (h2 : (W - 1) / P = hi) : 0 ≤ (a % W) / P ∧ (a % W) / P ≤ hi := ⟨Int.ediv_nonneg (Int.emod_nonneg _ (by omega)) (by omega), by rw [← h2]; exact Int.ediv_le_ediv h (by have := Int.emod_lt_of_pos a hw; omega)⟩
theorem k_isubx {v a b : Int32} {la ua lb ub : Int} (h : v = a - b) (pa : la ≤ a.toInt ∧ a.toInt ≤ ua) (pb : lb ≤ b.toInt ∧ b.toInt ≤ ub) (h1 : -2147483648 ≤ la - ub) (h2 : ua - lb ≤ 2147483647) : v.toInt = a.toInt - b.toInt := by
  have q := c_isub a b; rw [← h] at q; have r := rng32 v; omega
theorem k_laddx {v a b : Int64} {la ua lb ub : Int} (h : v = a + b) (pa : la ≤ a.toInt ∧ a.toInt ≤ ua) (pb : lb ≤ b.toInt ∧ b.toInt ≤ ub) (h1 : -9223372036854775808 ≤ la + lb) (h2 : ua + ub ≤ 9223372036854775807) : v.toInt = a.toInt + b.toInt := by
  have q := c_ladd a b; rw [← h] at q; have r := rng64 v; omega
theorem k_lsubx {v a b : Int64} {la ua lb ub : Int} (h : v = a - b) (pa : la ≤ a.toInt ∧ a.toInt ≤ ua) (pb : lb ≤ b.toInt ∧ b.toInt ≤ ub) (h1 : -9223372036854775808 ≤ la - ub) (h2 : ua - lb ≤ 9223372036854775807) : v.toInt = a.toInt - b.toInt := by
  have q := c_lsub a b; rw [← h] at q; have r := rng64 v; omega
theorem k_retN (X : Stand p l e R s m args below meth c T locs cells slots) (hx : p.tables.exec = Jvm.exec) {pc : Nat} {Ls : Array Slot} {St : List Value} {t : FieldType} {z z' : Int32} (hret : meth.sig.returnType = some t) (ht : t = .boolean ∨ t = .byte ∨ t = .char ∨ t = .short) (hd : decode c.code pc = .ok (.ireturn, 1)) (hlk : meth.locks = false) (hC : cells ≤ Cn) (hS : slots ≤ Sn) (hz : nar t z = z') (q : Q (some (.int z')) T.heap locs) : KEnds p e below s Cn Sn Q T (mkF m pc Ls (.int z :: St)) := by
  subst hz
  obtain ⟨fs, hr, hrun, hended, hW, hsame⟩ := X.leave (v := some (.int (nar t z))) (fun h => by rw [hret] at h; cases h) hlk
  exact ⟨_, _, retN X hx hret ht hd hr, hrun, hended, _, _, rfl, q, ⟨_, rfl⟩, hW, hsame.mono hC hS⟩
theorem k_retI (X : Stand p l e R s m args below meth c T locs cells slots) (hx : p.tables.exec = Jvm.exec) {pc : Nat} {Ls : Array Slot} {St : List Value} {z : Int32} (hret : meth.sig.returnType = some .int) (hd : decode c.code pc = .ok (.ireturn, 1)) (hlk : meth.locks = false) (hC : cells ≤ Cn) (hS : slots ≤ Sn) (q : Q (some (.int z)) T.heap locs) : KEnds p e below s Cn Sn Q T (mkF m pc Ls (.int z :: St)) := by
  obtain ⟨fs, hr, hrun, hended, hW, hsame⟩ := X.leave (v := some (.int z)) (fun h => by rw [hret] at h; cases h) hlk
  exact ⟨_, _, retOut X hx hret rfl (Or.inl ⟨rfl, Or.inl rfl, _, rfl⟩) hd hr, hrun, hended, _, _, rfl, q, ⟨_, rfl⟩, hW, hsame.mono hC hS⟩
theorem k_retL (X : Stand p l e R s m args below meth c T locs cells slots) (hx : p.tables.exec = Jvm.exec) {pc : Nat} {Ls : Array Slot} {St : List Value} {z : Int64} (hret : meth.sig.returnType = some .long) (hd : decode c.code pc = .ok (.lreturn, 1)) (hlk : meth.locks = false) (hC : cells ≤ Cn) (hS : slots ≤ Sn) (q : Q (some (.long z)) T.heap locs) : KEnds p e below s Cn Sn Q T (mkF m pc Ls (.long z :: St)) := by
  obtain ⟨fs, hr, hrun, hended, hW, hsame⟩ := X.leave (v := some (.long z)) (fun h => by rw [hret] at h; cases h) hlk
  exact ⟨_, _, retOut X hx hret rfl (Or.inr (Or.inl ⟨rfl, rfl, _, rfl⟩)) hd hr, hrun, hended, _, _, rfl, q, ⟨_, rfl⟩, hW, hsame.mono hC hS⟩
variable {Z : State} {a0 : Array Value} {h : Heap} {own : String}
theorem k_ldcL (X : Stand p l e R s m args below meth c T locs cells slots) (hx : p.tables.exec = Jvm.exec) (hZ : Z.Warmed39 s.vm) (hown : s.vm.findClass own = some m.cls) (pc' : Nat) {pc : Nat} {Ls : Array Slot} {St : List Value} {index : Nat} {v : Int64} (w : (Cond.constantLong own index v).before a0 Z = true) (hd : decode c.code pc = .ok (.ldc2_w index, 3)) (k : KEnds p e below s Cn Sn Q T (mkF m pc' Ls (.long v :: St))) (hpc : pc + 3 = pc' := by rfl) : KEnds p e below s Cn Sn Q T (mkF m pc Ls St) := by
  subst hpc; exact k_via (X.ldc2Long hx hown (mvT hZ w) (g := mkF m pc Ls St) rfl hd) k
theorem k_newA (X : Stand p l e R s m args below meth c T locs cells slots) (hx : p.tables.exec = Jvm.exec) (hZ : Z.Warmed39 s.vm) (pc' : Nat) {pc : Nat} {Ls : Array Slot} {St : List Value} {aty : ArrayType} (w : (Cond.arrayClass (newarray.typeOf aty)).before a0 Z = true) (eT : T.heap = h) (hd : decode c.code pc = .ok (.newarray aty, 2)) {n : Int32} (hn : ¬ n < 0) {cap : Nat} (hcap : n.toNatClampNeg ≤ cap) (hb : cap * 8 ≤ 536870912) (hc : cells + 1 ≤ R.cells) (hl : slots + cap ≤ R.slots) (ln : Nat) (k : ∀ T' h' a cA, a = h.size → Stand p l e R s m args below meth c T' locs (cells + 1) (slots + cap) → T'.heap = h' → Ext h h' → Arv Z h' a cA (newarray.typeOf aty) n (List.replicate ln (defaultValue (newarray.typeOf aty))) (defaultValue (newarray.typeOf aty)) → KEnds p e below s Cn Sn Q T' (mkF m pc' Ls (.ref a :: St))) (hpc : pc + 2 = pc' := by rfl) : KEnds p e below s Cn Sn Q T (mkF m pc Ls (.int n :: St)) := by
  subst hpc
  obtain ⟨T', h', cA, X', e', E', A', st⟩ := newP X hx hZ w eT (g := mkF m pc Ls (.int n :: St)) rfl hd rfl hn hcap hb hc hl
  exact k_via st (k T' h' _ cA rfl X' e' E' ((Arv.new A' hn).pad (pad_rep [] _ ln)))
theorem k_bastore (X : Stand p l e R s m args below meth c T locs cells slots) (hx : p.tables.exec = Jvm.exec) (hZ : Z.Warmed39 s.vm) (pc' : Nat) {pc : Nat} {Ls : Array Slot} {St : List Value} (eT : T.heap = h) {a : Addr} {kA : ClassId} {z j : Int32} {x : Int32} {vs : List Value} {dv : Value} (F : Arv Z h a kA .byte z vs dv) (hj : ¬ j < 0 ∧ j < z) {i : Nat} (hi : j.toNatClampNeg = i) (hil : i < vs.length) (hd : decode c.code pc = .ok (.bastore, 1)) (k : ∀ T' h', Stand p l e R s m args below meth c T' (locs ++ [⟨a, j.toNatClampNeg⟩]) cells slots → T'.heap = h' → Wr h h' a j.toNatClampNeg (.int (x.toInt8.toInt32)) → Arv Z h' a kA .byte z (vs.set i (.int (x.toInt8.toInt32))) dv → KEnds p e below s Cn Sn Q T' (mkF m pc' Ls St)) (hpc : pc + 1 = pc' := by rfl) : KEnds p e below s Cn Sn Q T (mkF m pc Ls (.int x :: .int j :: .ref a :: St)) := by
  subst hpc
  obtain ⟨cl, A, q1, S, N, H, G⟩ := F
  obtain ⟨T', h', X', e', W', st⟩ := stB X hx hZ eT A (inb_of S hj) (g := mkF m pc Ls (.int x :: .int j :: .ref a :: St)) rfl rfl hd
  exact k_via st (k T' h' X' e' W' (Arv.set A q1 S N H G (fits_nar_byte _) W' i hi hil))
theorem k_baload (X : Stand p l e R s m args below meth c T locs cells slots) (hx : p.tables.exec = Jvm.exec) (hZ : Z.Warmed39 s.vm) (pc' : Nat) {pc : Nat} {Ls : Array Slot} {St : List Value} (eT : T.heap = h) {a : Addr} {kA : ClassId} {z j : Int32} {v : Value} {vs : List Value} {dv : Value} (F : Arv Z h a kA .byte z vs dv) (hj : ¬ j < 0 ∧ j < z) (hv : vs.getD j.toNatClampNeg dv = v) (hd : decode c.code pc = .ok (.baload, 1)) (k : KEnds p e below s Cn Sn Q T (mkF m pc' Ls (v :: St))) (hpc : pc + 1 = pc' := by rfl) : KEnds p e below s Cn Sn Q T (mkF m pc Ls (.int j :: .ref a :: St)) := by
  subst hpc
  obtain ⟨cl, A, q1, S, N, H, G⟩ := F
  exact k_via (fun t hs => X.baloadBytes hx (by rw [eT]; exact A.1) (State.isArrayOf_alike hZ.alike A.2.1) A.2.2 (inb_of S hj) (H.at (inb_of S hj) hv) (g := mkF m pc Ls (.int j :: .ref a :: St)) rfl rfl hd t hs) k
abbrev KMet (l : Launch) (y : MethodName) (bytes : ByteArray) (maxL : Nat) (ret : Option FieldType) (ws : List Cond) (R : Room) (as' : Array Value) (Z : State) (h0 : Heap) (Cn Sn : Nat) (Q : Option Value → Heap → List Loc → Prop) : Prop :=
  MetFree l y (head1 (Cond.code y bytes maxL ret :: ws) R) (fun a U => a = as' ∧ Z.Warmed39 U.vm ∧ U.heap = h0) (fun _ _ _ _ _ => True) (fun _ U o U' => ∃ v L, o = .returned v ∧ Q v U'.heap L ∧ FrameEnd U o U' L Cn Sn)
theorem k_body {y : MethodName} {bytes : ByteArray} {maxL : Nat} {ret : Option FieldType} {ws : List Cond} {as' : Array Value} {h0 : Heap} {Ls : Array Slot} (hpl : plainFor y = true) (hef : ∀ m, entryFrame m as' maxL = mkF m 0 Ls [])
    (k : ∀ (p : Program) (e : Env) (s : State) (m : MethodId) (below : List Frame) (meth : Method) (c : Code) (s₁ : State), p.tables.exec = Jvm.exec → (∀ {pc : Nat} {r : Except DecodeError (Instr × Nat)}, decode bytes pc = r → decode c.code pc = r) → c.maxLocals = maxL → meth.locks = false → meth.sig.returnType = ret → s.vm.findClass y.cls = some m.cls → meth.name = y.name → Z.Warmed39 s.vm → Stand p l e R s m as' below meth c s₁ [] 0 0 → s₁.heap = h0 → KEnds p e below s Cn Sn Q s₁ (mkF m 0 Ls [])) :
    KMet l y bytes maxL ret ws R as' Z h0 Cn Sn Q := by
  refine MetFree.of_bodySF hpl hisR ?_
  intro p e s m args below meth c s₁ Bd hml0 hP hK
  obtain ⟨rfl, hZ, hh⟩ := hP
  rw [hef]
  exact k p e s m below meth c s₁ Bd.exec (fun h => hb Bd.bytes h) hml0 Bd.notSynchronized Bd.returns (findClass_of_methodNamed Bd.named) (name_of_methodNamed Bd.named Bd.method).1 hZ (Stand.of_body Bd) (by rw [← hh, Bd.state]; rfl)
theorem k_callS (X : Stand p l e R s m args below meth c T locs cells slots) (hx : p.tables.exec = Jvm.exec) (hZ : Z.Warmed39 s.vm) (hown : s.vm.findClass own = some m.cls) (pc' : Nat) {pc : Nat} {Ls : Array Slot} {St : List Value} {y : MethodName} {bytes : ByteArray} {maxL : Nat} {ret : Option FieldType} {rm : Room} {index W : Nat} {as' : Array Value} {Q' : Option Value → Heap → List Loc → Prop} (w1 : (Cond.methodLink own index y).before a0 Z = true) (w2 : (Cond.static y).before a0 Z = true) (w3 : (Cond.initialized y.cls).before a0 Z = true) (w4 : (Cond.code y bytes maxL ret).before a0 Z = true) (hy : y.cls ≠ "java/lang/invoke/MethodHandle" ∧ y.cls ≠ "java/lang/invoke/VarHandle") (hM : MetFree l y (head1 [Cond.code y bytes maxL ret] rm) (fun a U => a = as' ∧ Z.Warmed39 U.vm ∧ U.heap = h) (fun _ _ _ _ _ => True) (fun _ U o U' => ∃ v L, o = .returned v ∧ Q' v U'.heap L ∧ FrameEnd U o U' L rm.cells rm.slots)) (hf : rm.frames + 1 ≤ R.frames) (hl : W + (maxL + 11) + rm.locals ≤ R.locals) (eT : T.heap = h) (hsize : Ls.size = c.maxLocals) {argsL rest : List Value} (hlen : ∀ sig, parseMethodDescriptor y.desc = some sig → argsL.length = sig.parameters.length) (hst : St = argsL.reverse ++ rest) (hW : (rest.map fun v => v.category).sum ≤ W) (has : argsL.toArray = as') (hd : decode c.code pc = .ok (.invokestatic index, 3)) (hce : cells + rm.cells ≤ R.cells) (hsl : slots + rm.slots ≤ R.slots) (k : ∀ T' L v, Stand p l e R s m args below meth c T' (locs ++ L) (cells + rm.cells) (slots + rm.slots) → Q' v T'.heap L → KEnds p e below s Cn Sn Q T' (mkF m pc' Ls (v.toList ++ rest))) (hpc : pc + 3 = pc' := by rfl) : KEnds p e below s Cn Sn Q T (mkF m pc Ls St) := by
  subst hpc
  obtain ⟨v, _, ⟨T', L', k', n'⟩, -, X', ⟨Lc, hQ, l', y', z'⟩, st⟩ := Jvm.LawKit.callS X hx (y := y) hown (mvT hZ w1) (mvT hZ w2) (mvT hZ w3) (mvT hZ w4) hy (backOf (W := W) hM hZ w4 w3 hf hl) (g := mkF m pc Ls St) rfl hsize hlen hst (by show 2 * 0 + _ ≤ _; omega) hd (fun _ _ => ⟨has, eT, hce, hsl⟩)
  dsimp only [Pt.U, Pt.locs, Pt.cells, Pt.slots] at X' l' y' z' st hQ
  subst l' y' z'
  exact k_via st (k T' Lc v X' hQ)
end
end Jvm.OwnK
namespace Jvm.Pilot.@@N@@
open Jvm Jvm.ClassFile Sem Op Lib Jvm.Free Jvm.Stand Jvm.LawKit Jvm.RoadKit Jvm.OwnK Bundle Jvm.Pilot.@@N@@.Jvm.D
theorem d1_0 : decode method_3_code 0 = .ok (.iload_n 0, 1) := by decide +kernel
theorem d1_1 : decode method_3_code 1 = .ok (.iload_n 1, 1) := by decide +kernel
theorem d1_2 : decode method_3_code 2 = .ok (.iushr, 1) := by decide +kernel
theorem d1_3 : decode method_3_code 3 = .ok (.iconst 1, 1) := by decide +kernel
theorem d1_4 : decode method_3_code 4 = .ok (.iand, 1) := by decide +kernel
theorem d1_5 : decode method_3_code 5 = .ok (.ifCond .eq 19, 3) := by decide +kernel
theorem d1_24 : decode method_3_code 24 = .ok (.iload_n 1, 1) := by decide +kernel
theorem d1_25 : decode method_3_code 25 = .ok (.iconst 4, 1) := by decide +kernel
theorem d1_26 : decode method_3_code 26 = .ok (.if_icmp .ge 11, 3) := by decide +kernel
theorem d1_29 : decode method_3_code 29 = .ok (.iload_n 2, 1) := by decide +kernel
theorem d1_30 : decode method_3_code 30 = .ok (.bipush 8, 2) := by decide +kernel
theorem d1_32 : decode method_3_code 32 = .ok (.iload_n 1, 1) := by decide +kernel
theorem d1_33 : decode method_3_code 33 = .ok (.imul, 1) := by decide +kernel
theorem d1_34 : decode method_3_code 34 = .ok (.iushr, 1) := by decide +kernel
theorem d1_35 : decode method_3_code 35 = .ok (.i2b, 1) := by decide +kernel
theorem d1_36 : decode method_3_code 36 = .ok (.ireturn, 1) := by decide +kernel
theorem d1_8 : decode method_3_code 8 = .ok (.bipush 48, 2) := by decide +kernel
theorem d1_10 : decode method_3_code 10 = .ok (.iload_n 3, 1) := by decide +kernel
theorem d1_11 : decode method_3_code 11 = .ok (.iconst 4, 1) := by decide +kernel
theorem d1_12 : decode method_3_code 12 = .ok (.iload_n 1, 1) := by decide +kernel
theorem d1_13 : decode method_3_code 13 = .ok (.imul, 1) := by decide +kernel
theorem d1_14 : decode method_3_code 14 = .ok (.iushr, 1) := by decide +kernel
theorem d1_15 : decode method_3_code 15 = .ok (.bipush 15, 2) := by decide +kernel
theorem d1_17 : decode method_3_code 17 = .ok (.iand, 1) := by decide +kernel
theorem d1_18 : decode method_3_code 18 = .ok (.bipush 10, 2) := by decide +kernel
theorem d1_20 : decode method_3_code 20 = .ok (.irem, 1) := by decide +kernel
theorem d1_21 : decode method_3_code 21 = .ok (.iadd, 1) := by decide +kernel
theorem d1_22 : decode method_3_code 22 = .ok (.i2b, 1) := by decide +kernel
theorem d1_23 : decode method_3_code 23 = .ok (.ireturn, 1) := by decide +kernel
abbrev R1_1 : Room := { frames := 0, cells := 0, slots := 0, locals := 0 }
def f1_1 (p1 : Int32) (p2 : Int32) (p3 : Int32) : Int32 := (if ((((p1.toUInt32 >>> ((0 : Int32) &&& 31).toUInt32).toInt32)) &&& (1 : Int32)) = (0 : Int32) then ((((p2.toUInt32 >>> ((0 : Int32) &&& 31).toUInt32).toInt32)).toInt8.toInt32) else (((48 : Int32) + (((((p3.toUInt32 >>> ((0 : Int32) &&& 31).toUInt32).toInt32)) &&& (15 : Int32)) % (10 : Int32))).toInt8.toInt32))
theorem f1_1_byte (p1 : Int32) (p2 : Int32) (p3 : Int32) : (f1_1 p1 p2 p3).toInt8.toInt32 = f1_1 p1 p2 p3 := by
  unfold f1_1; (repeat' split) <;> first | exact k_i2b2 _ | decide

def Q1_1 (Z : State) (p1 : Int32) (p2 : Int32) (p3 : Int32) (h0 : Heap) (n0 : Nat) (v : Option Value) (h : Heap) (L : List Loc) : Prop := Fr n0 L ∧ h = h0 ∧ v = some (.int (f1_1 p1 p2 p3))
theorem ef1_1 (m : MethodId) (x0 : Int32) (x2 : Int32) (x3 : Int32) : entryFrame m #[(.int x0), (.int (0 : Int32)), (.int x2), (.int x3)] 4 = mkF m 0 #[.val (.int x0), .val (.int (0 : Int32)), .val (.int x2), .val (.int x3)] [] := by first | (simp [entryFrame, mkF, argsToLocals, Value.category]; done) | rfl
theorem pn_0 : plainName "com/example/knotcut/knotcut/core/InputFieldsWholeNumberPinLaw" = true := by first | (simp [plainName, overriddenIn]; done) | decide +kernel
set_option maxRecDepth 65536 in
set_option maxHeartbeats 40000000 in
theorem rm1_1 (l : Launch) (Z : State) (a0 : Array Value) (hw : ∀ d ∈ tables_1, d.before a0 Z = true) (ws : List Jvm.Cond) (p1 : Int32) (p2 : Int32) (p3 : Int32) (h0 : Heap) (n0 : Nat) (Z0 : n0 ≤ h0.size)  :
    KMet l (⟨"com/example/knotcut/knotcut/core/InputFieldsWholeNumberPinLaw", "pick", "(IIII)B"⟩ : MethodName) method_3_code 4 (some .byte) ws R1_1 #[(.int p1), (.int (0 : Int32)), (.int p2), (.int p3)] Z h0 R1_1.cells R1_1.slots (Q1_1 Z p1 p2 p3 h0 n0) := by
 refine k_body (plainFor_of_name pn_0) (fun m => ef1_1 m p1 p2 p3) ?_
 intro p e s m below meth c s₁ hx D hml hlk hret hown hnm hZ X0 e0
 have N0 := Fr.nil n0
 refine k_iloadN X0 hx 1 (D d1_0) rfl ?_
 refine k_iloadN X0 hx 2 (D d1_1) rfl ?_
 refine k_iushrL X0 hx 3 (D d1_2) rfl ?_
 refine k_iconst X0 hx 4 (D d1_3) (z := (1 : Int32)) rfl ?_
 refine k_iandL X0 hx 5 (D d1_4) rfl ?_
 refine k_if_eq X0 hx 8 24 (D d1_5) (fun hc101 => ?_) (fun hc101 => ?_)
 ·
  refine k_iloadN X0 hx 25 (D d1_24) rfl ?_
  refine k_iconst X0 hx 26 (D d1_25) (z := (4 : Int32)) rfl ?_
  refine k_icmp_ge X0 hx 29 37 (D d1_26) (fun hc => absurd (by decide) hc) (fun _ => ?_)
  refine k_iloadN X0 hx 30 (D d1_29) rfl ?_
  refine k_bipush X0 hx 32 (D d1_30) (z := (8 : Int32)) rfl ?_
  refine k_iloadN X0 hx 33 (D d1_32) rfl ?_
  refine k_imulL X0 hx 34 (D d1_33) (z := (0 : Int32)) (by decide) ?_
  refine k_iushrL X0 hx 35 (D d1_34) rfl ?_
  refine k_i2bL X0 hx 36 (D d1_35) rfl ?_
  have hf : f1_1 p1 p2 p3 = ((((p2.toUInt32 >>> ((0 : Int32) &&& 31).toUInt32).toInt32)).toInt8.toInt32) := by simp only [f1_1, if_pos hc101]
  exact k_retN X0 hx (t := .byte) hret (by simp) (D d1_36) hlk (by decide) (by decide) (z' := ((((p2.toUInt32 >>> ((0 : Int32) &&& 31).toUInt32).toInt32)).toInt8.toInt32)) (k_i2b2 _) ⟨N0, e0, by rw [hf]⟩
 ·
  refine k_bipush X0 hx 10 (D d1_8) (z := (48 : Int32)) rfl ?_
  refine k_iloadN X0 hx 11 (D d1_10) rfl ?_
  refine k_iconst X0 hx 12 (D d1_11) (z := (4 : Int32)) rfl ?_
  refine k_iloadN X0 hx 13 (D d1_12) rfl ?_
  refine k_imulL X0 hx 14 (D d1_13) (z := (0 : Int32)) (by decide) ?_
  refine k_iushrL X0 hx 15 (D d1_14) rfl ?_
  refine k_bipush X0 hx 17 (D d1_15) (z := (15 : Int32)) rfl ?_
  refine k_iandL X0 hx 18 (D d1_17) rfl ?_
  refine k_bipush X0 hx 20 (D d1_18) (z := (10 : Int32)) rfl ?_
  refine k_iremL X0 hx 21 (D d1_20) (by decide) rfl ?_
  refine k_iaddL X0 hx 22 (D d1_21) rfl ?_
  refine k_i2bL X0 hx 23 (D d1_22) rfl ?_
  have hf : f1_1 p1 p2 p3 = (((48 : Int32) + (((((p3.toUInt32 >>> ((0 : Int32) &&& 31).toUInt32).toInt32)) &&& (15 : Int32)) % (10 : Int32))).toInt8.toInt32) := by simp only [f1_1, if_neg hc101]
  exact k_retN X0 hx (t := .byte) hret (by simp) (D d1_23) hlk (by decide) (by decide) (z' := (((48 : Int32) + (((((p3.toUInt32 >>> ((0 : Int32) &&& 31).toUInt32).toInt32)) &&& (15 : Int32)) % (10 : Int32))).toInt8.toInt32)) (k_i2b2 _) ⟨N0, e0, by rw [hf]⟩
theorem pd_0 : parseMethodDescriptor "(IIII)B" = some ⟨[.int, .int, .int, .int], some .byte⟩ := by decide +kernel
abbrev R1_2 : Room := { frames := 0, cells := 0, slots := 0, locals := 0 }
def f1_2 (p1 : Int32) (p2 : Int32) (p3 : Int32) : Int32 := (if ((((p1.toUInt32 >>> ((1 : Int32) &&& 31).toUInt32).toInt32)) &&& (1 : Int32)) = (0 : Int32) then ((((p2.toUInt32 >>> ((8 : Int32) &&& 31).toUInt32).toInt32)).toInt8.toInt32) else (((48 : Int32) + (((((p3.toUInt32 >>> ((4 : Int32) &&& 31).toUInt32).toInt32)) &&& (15 : Int32)) % (10 : Int32))).toInt8.toInt32))
theorem f1_2_byte (p1 : Int32) (p2 : Int32) (p3 : Int32) : (f1_2 p1 p2 p3).toInt8.toInt32 = f1_2 p1 p2 p3 := by
  unfold f1_2; (repeat' split) <;> first | exact k_i2b2 _ | decide

def Q1_2 (Z : State) (p1 : Int32) (p2 : Int32) (p3 : Int32) (h0 : Heap) (n0 : Nat) (v : Option Value) (h : Heap) (L : List Loc) : Prop := Fr n0 L ∧ h = h0 ∧ v = some (.int (f1_2 p1 p2 p3))
theorem ef1_2 (m : MethodId) (x0 : Int32) (x2 : Int32) (x3 : Int32) : entryFrame m #[(.int x0), (.int (1 : Int32)), (.int x2), (.int x3)] 4 = mkF m 0 #[.val (.int x0), .val (.int (1 : Int32)), .val (.int x2), .val (.int x3)] [] := by first | (simp [entryFrame, mkF, argsToLocals, Value.category]; done) | rfl
set_option maxRecDepth 65536 in
set_option maxHeartbeats 40000000 in
theorem rm1_2 (l : Launch) (Z : State) (a0 : Array Value) (hw : ∀ d ∈ tables_1, d.before a0 Z = true) (ws : List Jvm.Cond) (p1 : Int32) (p2 : Int32) (p3 : Int32) (h0 : Heap) (n0 : Nat) (Z0 : n0 ≤ h0.size)  :
    KMet l (⟨"com/example/knotcut/knotcut/core/InputFieldsWholeNumberPinLaw", "pick", "(IIII)B"⟩ : MethodName) method_3_code 4 (some .byte) ws R1_2 #[(.int p1), (.int (1 : Int32)), (.int p2), (.int p3)] Z h0 R1_2.cells R1_2.slots (Q1_2 Z p1 p2 p3 h0 n0) := by
 refine k_body (plainFor_of_name pn_0) (fun m => ef1_2 m p1 p2 p3) ?_
 intro p e s m below meth c s₁ hx D hml hlk hret hown hnm hZ X0 e0
 have N0 := Fr.nil n0
 refine k_iloadN X0 hx 1 (D d1_0) rfl ?_
 refine k_iloadN X0 hx 2 (D d1_1) rfl ?_
 refine k_iushrL X0 hx 3 (D d1_2) rfl ?_
 refine k_iconst X0 hx 4 (D d1_3) (z := (1 : Int32)) rfl ?_
 refine k_iandL X0 hx 5 (D d1_4) rfl ?_
 refine k_if_eq X0 hx 8 24 (D d1_5) (fun hc101 => ?_) (fun hc101 => ?_)
 ·
  refine k_iloadN X0 hx 25 (D d1_24) rfl ?_
  refine k_iconst X0 hx 26 (D d1_25) (z := (4 : Int32)) rfl ?_
  refine k_icmp_ge X0 hx 29 37 (D d1_26) (fun hc => absurd (by decide) hc) (fun _ => ?_)
  refine k_iloadN X0 hx 30 (D d1_29) rfl ?_
  refine k_bipush X0 hx 32 (D d1_30) (z := (8 : Int32)) rfl ?_
  refine k_iloadN X0 hx 33 (D d1_32) rfl ?_
  refine k_imulL X0 hx 34 (D d1_33) (z := (8 : Int32)) (by decide) ?_
  refine k_iushrL X0 hx 35 (D d1_34) rfl ?_
  refine k_i2bL X0 hx 36 (D d1_35) rfl ?_
  have hf : f1_2 p1 p2 p3 = ((((p2.toUInt32 >>> ((8 : Int32) &&& 31).toUInt32).toInt32)).toInt8.toInt32) := by simp only [f1_2, if_pos hc101]
  exact k_retN X0 hx (t := .byte) hret (by simp) (D d1_36) hlk (by decide) (by decide) (z' := ((((p2.toUInt32 >>> ((8 : Int32) &&& 31).toUInt32).toInt32)).toInt8.toInt32)) (k_i2b2 _) ⟨N0, e0, by rw [hf]⟩
 ·
  refine k_bipush X0 hx 10 (D d1_8) (z := (48 : Int32)) rfl ?_
  refine k_iloadN X0 hx 11 (D d1_10) rfl ?_
  refine k_iconst X0 hx 12 (D d1_11) (z := (4 : Int32)) rfl ?_
  refine k_iloadN X0 hx 13 (D d1_12) rfl ?_
  refine k_imulL X0 hx 14 (D d1_13) (z := (4 : Int32)) (by decide) ?_
  refine k_iushrL X0 hx 15 (D d1_14) rfl ?_
  refine k_bipush X0 hx 17 (D d1_15) (z := (15 : Int32)) rfl ?_
  refine k_iandL X0 hx 18 (D d1_17) rfl ?_
  refine k_bipush X0 hx 20 (D d1_18) (z := (10 : Int32)) rfl ?_
  refine k_iremL X0 hx 21 (D d1_20) (by decide) rfl ?_
  refine k_iaddL X0 hx 22 (D d1_21) rfl ?_
  refine k_i2bL X0 hx 23 (D d1_22) rfl ?_
  have hf : f1_2 p1 p2 p3 = (((48 : Int32) + (((((p3.toUInt32 >>> ((4 : Int32) &&& 31).toUInt32).toInt32)) &&& (15 : Int32)) % (10 : Int32))).toInt8.toInt32) := by simp only [f1_2, if_neg hc101]
  exact k_retN X0 hx (t := .byte) hret (by simp) (D d1_23) hlk (by decide) (by decide) (z' := (((48 : Int32) + (((((p3.toUInt32 >>> ((4 : Int32) &&& 31).toUInt32).toInt32)) &&& (15 : Int32)) % (10 : Int32))).toInt8.toInt32)) (k_i2b2 _) ⟨N0, e0, by rw [hf]⟩
abbrev R1_3 : Room := { frames := 0, cells := 0, slots := 0, locals := 0 }
def f1_3 (p1 : Int32) (p2 : Int32) (p3 : Int32) : Int32 := (if ((((p1.toUInt32 >>> ((2 : Int32) &&& 31).toUInt32).toInt32)) &&& (1 : Int32)) = (0 : Int32) then ((((p2.toUInt32 >>> ((16 : Int32) &&& 31).toUInt32).toInt32)).toInt8.toInt32) else (((48 : Int32) + (((((p3.toUInt32 >>> ((8 : Int32) &&& 31).toUInt32).toInt32)) &&& (15 : Int32)) % (10 : Int32))).toInt8.toInt32))
theorem f1_3_byte (p1 : Int32) (p2 : Int32) (p3 : Int32) : (f1_3 p1 p2 p3).toInt8.toInt32 = f1_3 p1 p2 p3 := by
  unfold f1_3; (repeat' split) <;> first | exact k_i2b2 _ | decide

def Q1_3 (Z : State) (p1 : Int32) (p2 : Int32) (p3 : Int32) (h0 : Heap) (n0 : Nat) (v : Option Value) (h : Heap) (L : List Loc) : Prop := Fr n0 L ∧ h = h0 ∧ v = some (.int (f1_3 p1 p2 p3))
theorem ef1_3 (m : MethodId) (x0 : Int32) (x2 : Int32) (x3 : Int32) : entryFrame m #[(.int x0), (.int (2 : Int32)), (.int x2), (.int x3)] 4 = mkF m 0 #[.val (.int x0), .val (.int (2 : Int32)), .val (.int x2), .val (.int x3)] [] := by first | (simp [entryFrame, mkF, argsToLocals, Value.category]; done) | rfl
set_option maxRecDepth 65536 in
set_option maxHeartbeats 40000000 in
theorem rm1_3 (l : Launch) (Z : State) (a0 : Array Value) (hw : ∀ d ∈ tables_1, d.before a0 Z = true) (ws : List Jvm.Cond) (p1 : Int32) (p2 : Int32) (p3 : Int32) (h0 : Heap) (n0 : Nat) (Z0 : n0 ≤ h0.size)  :
    KMet l (⟨"com/example/knotcut/knotcut/core/InputFieldsWholeNumberPinLaw", "pick", "(IIII)B"⟩ : MethodName) method_3_code 4 (some .byte) ws R1_3 #[(.int p1), (.int (2 : Int32)), (.int p2), (.int p3)] Z h0 R1_3.cells R1_3.slots (Q1_3 Z p1 p2 p3 h0 n0) := by
 refine k_body (plainFor_of_name pn_0) (fun m => ef1_3 m p1 p2 p3) ?_
 intro p e s m below meth c s₁ hx D hml hlk hret hown hnm hZ X0 e0
 have N0 := Fr.nil n0
 refine k_iloadN X0 hx 1 (D d1_0) rfl ?_
 refine k_iloadN X0 hx 2 (D d1_1) rfl ?_
 refine k_iushrL X0 hx 3 (D d1_2) rfl ?_
 refine k_iconst X0 hx 4 (D d1_3) (z := (1 : Int32)) rfl ?_
 refine k_iandL X0 hx 5 (D d1_4) rfl ?_
 refine k_if_eq X0 hx 8 24 (D d1_5) (fun hc101 => ?_) (fun hc101 => ?_)
 ·
  refine k_iloadN X0 hx 25 (D d1_24) rfl ?_
  refine k_iconst X0 hx 26 (D d1_25) (z := (4 : Int32)) rfl ?_
  refine k_icmp_ge X0 hx 29 37 (D d1_26) (fun hc => absurd (by decide) hc) (fun _ => ?_)
  refine k_iloadN X0 hx 30 (D d1_29) rfl ?_
  refine k_bipush X0 hx 32 (D d1_30) (z := (8 : Int32)) rfl ?_
  refine k_iloadN X0 hx 33 (D d1_32) rfl ?_
  refine k_imulL X0 hx 34 (D d1_33) (z := (16 : Int32)) (by decide) ?_
  refine k_iushrL X0 hx 35 (D d1_34) rfl ?_
  refine k_i2bL X0 hx 36 (D d1_35) rfl ?_
  have hf : f1_3 p1 p2 p3 = ((((p2.toUInt32 >>> ((16 : Int32) &&& 31).toUInt32).toInt32)).toInt8.toInt32) := by simp only [f1_3, if_pos hc101]
  exact k_retN X0 hx (t := .byte) hret (by simp) (D d1_36) hlk (by decide) (by decide) (z' := ((((p2.toUInt32 >>> ((16 : Int32) &&& 31).toUInt32).toInt32)).toInt8.toInt32)) (k_i2b2 _) ⟨N0, e0, by rw [hf]⟩
 ·
  refine k_bipush X0 hx 10 (D d1_8) (z := (48 : Int32)) rfl ?_
  refine k_iloadN X0 hx 11 (D d1_10) rfl ?_
  refine k_iconst X0 hx 12 (D d1_11) (z := (4 : Int32)) rfl ?_
  refine k_iloadN X0 hx 13 (D d1_12) rfl ?_
  refine k_imulL X0 hx 14 (D d1_13) (z := (8 : Int32)) (by decide) ?_
  refine k_iushrL X0 hx 15 (D d1_14) rfl ?_
  refine k_bipush X0 hx 17 (D d1_15) (z := (15 : Int32)) rfl ?_
  refine k_iandL X0 hx 18 (D d1_17) rfl ?_
  refine k_bipush X0 hx 20 (D d1_18) (z := (10 : Int32)) rfl ?_
  refine k_iremL X0 hx 21 (D d1_20) (by decide) rfl ?_
  refine k_iaddL X0 hx 22 (D d1_21) rfl ?_
  refine k_i2bL X0 hx 23 (D d1_22) rfl ?_
  have hf : f1_3 p1 p2 p3 = (((48 : Int32) + (((((p3.toUInt32 >>> ((8 : Int32) &&& 31).toUInt32).toInt32)) &&& (15 : Int32)) % (10 : Int32))).toInt8.toInt32) := by simp only [f1_3, if_neg hc101]
  exact k_retN X0 hx (t := .byte) hret (by simp) (D d1_23) hlk (by decide) (by decide) (z' := (((48 : Int32) + (((((p3.toUInt32 >>> ((8 : Int32) &&& 31).toUInt32).toInt32)) &&& (15 : Int32)) % (10 : Int32))).toInt8.toInt32)) (k_i2b2 _) ⟨N0, e0, by rw [hf]⟩
abbrev R1_4 : Room := { frames := 0, cells := 0, slots := 0, locals := 0 }
def f1_4 (p1 : Int32) (p2 : Int32) (p3 : Int32) : Int32 := (if ((((p1.toUInt32 >>> ((3 : Int32) &&& 31).toUInt32).toInt32)) &&& (1 : Int32)) = (0 : Int32) then ((((p2.toUInt32 >>> ((24 : Int32) &&& 31).toUInt32).toInt32)).toInt8.toInt32) else (((48 : Int32) + (((((p3.toUInt32 >>> ((12 : Int32) &&& 31).toUInt32).toInt32)) &&& (15 : Int32)) % (10 : Int32))).toInt8.toInt32))
theorem f1_4_byte (p1 : Int32) (p2 : Int32) (p3 : Int32) : (f1_4 p1 p2 p3).toInt8.toInt32 = f1_4 p1 p2 p3 := by
  unfold f1_4; (repeat' split) <;> first | exact k_i2b2 _ | decide

def Q1_4 (Z : State) (p1 : Int32) (p2 : Int32) (p3 : Int32) (h0 : Heap) (n0 : Nat) (v : Option Value) (h : Heap) (L : List Loc) : Prop := Fr n0 L ∧ h = h0 ∧ v = some (.int (f1_4 p1 p2 p3))
theorem ef1_4 (m : MethodId) (x0 : Int32) (x2 : Int32) (x3 : Int32) : entryFrame m #[(.int x0), (.int (3 : Int32)), (.int x2), (.int x3)] 4 = mkF m 0 #[.val (.int x0), .val (.int (3 : Int32)), .val (.int x2), .val (.int x3)] [] := by first | (simp [entryFrame, mkF, argsToLocals, Value.category]; done) | rfl
set_option maxRecDepth 65536 in
set_option maxHeartbeats 40000000 in
theorem rm1_4 (l : Launch) (Z : State) (a0 : Array Value) (hw : ∀ d ∈ tables_1, d.before a0 Z = true) (ws : List Jvm.Cond) (p1 : Int32) (p2 : Int32) (p3 : Int32) (h0 : Heap) (n0 : Nat) (Z0 : n0 ≤ h0.size)  :
    KMet l (⟨"com/example/knotcut/knotcut/core/InputFieldsWholeNumberPinLaw", "pick", "(IIII)B"⟩ : MethodName) method_3_code 4 (some .byte) ws R1_4 #[(.int p1), (.int (3 : Int32)), (.int p2), (.int p3)] Z h0 R1_4.cells R1_4.slots (Q1_4 Z p1 p2 p3 h0 n0) := by
 refine k_body (plainFor_of_name pn_0) (fun m => ef1_4 m p1 p2 p3) ?_
 intro p e s m below meth c s₁ hx D hml hlk hret hown hnm hZ X0 e0
 have N0 := Fr.nil n0
 refine k_iloadN X0 hx 1 (D d1_0) rfl ?_
 refine k_iloadN X0 hx 2 (D d1_1) rfl ?_
 refine k_iushrL X0 hx 3 (D d1_2) rfl ?_
 refine k_iconst X0 hx 4 (D d1_3) (z := (1 : Int32)) rfl ?_
 refine k_iandL X0 hx 5 (D d1_4) rfl ?_
 refine k_if_eq X0 hx 8 24 (D d1_5) (fun hc101 => ?_) (fun hc101 => ?_)
 ·
  refine k_iloadN X0 hx 25 (D d1_24) rfl ?_
  refine k_iconst X0 hx 26 (D d1_25) (z := (4 : Int32)) rfl ?_
  refine k_icmp_ge X0 hx 29 37 (D d1_26) (fun hc => absurd (by decide) hc) (fun _ => ?_)
  refine k_iloadN X0 hx 30 (D d1_29) rfl ?_
  refine k_bipush X0 hx 32 (D d1_30) (z := (8 : Int32)) rfl ?_
  refine k_iloadN X0 hx 33 (D d1_32) rfl ?_
  refine k_imulL X0 hx 34 (D d1_33) (z := (24 : Int32)) (by decide) ?_
  refine k_iushrL X0 hx 35 (D d1_34) rfl ?_
  refine k_i2bL X0 hx 36 (D d1_35) rfl ?_
  have hf : f1_4 p1 p2 p3 = ((((p2.toUInt32 >>> ((24 : Int32) &&& 31).toUInt32).toInt32)).toInt8.toInt32) := by simp only [f1_4, if_pos hc101]
  exact k_retN X0 hx (t := .byte) hret (by simp) (D d1_36) hlk (by decide) (by decide) (z' := ((((p2.toUInt32 >>> ((24 : Int32) &&& 31).toUInt32).toInt32)).toInt8.toInt32)) (k_i2b2 _) ⟨N0, e0, by rw [hf]⟩
 ·
  refine k_bipush X0 hx 10 (D d1_8) (z := (48 : Int32)) rfl ?_
  refine k_iloadN X0 hx 11 (D d1_10) rfl ?_
  refine k_iconst X0 hx 12 (D d1_11) (z := (4 : Int32)) rfl ?_
  refine k_iloadN X0 hx 13 (D d1_12) rfl ?_
  refine k_imulL X0 hx 14 (D d1_13) (z := (12 : Int32)) (by decide) ?_
  refine k_iushrL X0 hx 15 (D d1_14) rfl ?_
  refine k_bipush X0 hx 17 (D d1_15) (z := (15 : Int32)) rfl ?_
  refine k_iandL X0 hx 18 (D d1_17) rfl ?_
  refine k_bipush X0 hx 20 (D d1_18) (z := (10 : Int32)) rfl ?_
  refine k_iremL X0 hx 21 (D d1_20) (by decide) rfl ?_
  refine k_iaddL X0 hx 22 (D d1_21) rfl ?_
  refine k_i2bL X0 hx 23 (D d1_22) rfl ?_
  have hf : f1_4 p1 p2 p3 = (((48 : Int32) + (((((p3.toUInt32 >>> ((12 : Int32) &&& 31).toUInt32).toInt32)) &&& (15 : Int32)) % (10 : Int32))).toInt8.toInt32) := by simp only [f1_4, if_neg hc101]
  exact k_retN X0 hx (t := .byte) hret (by simp) (D d1_23) hlk (by decide) (by decide) (z' := (((48 : Int32) + (((((p3.toUInt32 >>> ((12 : Int32) &&& 31).toUInt32).toInt32)) &&& (15 : Int32)) % (10 : Int32))).toInt8.toInt32)) (k_i2b2 _) ⟨N0, e0, by rw [hf]⟩
theorem d1_37 : decode method_3_code 37 = .ok (.iload_n 3, 1) := by decide +kernel
theorem d1_38 : decode method_3_code 38 = .ok (.bipush 20, 2) := by decide +kernel
theorem d1_40 : decode method_3_code 40 = .ok (.iushr, 1) := by decide +kernel
theorem d1_41 : decode method_3_code 41 = .ok (.i2b, 1) := by decide +kernel
theorem d1_42 : decode method_3_code 42 = .ok (.ireturn, 1) := by decide +kernel
abbrev R1_5 : Room := { frames := 0, cells := 0, slots := 0, locals := 0 }
def f1_5 (p1 : Int32) (p2 : Int32) (p3 : Int32) : Int32 := (if ((((p1.toUInt32 >>> ((4 : Int32) &&& 31).toUInt32).toInt32)) &&& (1 : Int32)) = (0 : Int32) then ((((p3.toUInt32 >>> ((20 : Int32) &&& 31).toUInt32).toInt32)).toInt8.toInt32) else (((48 : Int32) + (((((p3.toUInt32 >>> ((16 : Int32) &&& 31).toUInt32).toInt32)) &&& (15 : Int32)) % (10 : Int32))).toInt8.toInt32))
theorem f1_5_byte (p1 : Int32) (p2 : Int32) (p3 : Int32) : (f1_5 p1 p2 p3).toInt8.toInt32 = f1_5 p1 p2 p3 := by
  unfold f1_5; (repeat' split) <;> first | exact k_i2b2 _ | decide

def Q1_5 (Z : State) (p1 : Int32) (p2 : Int32) (p3 : Int32) (h0 : Heap) (n0 : Nat) (v : Option Value) (h : Heap) (L : List Loc) : Prop := Fr n0 L ∧ h = h0 ∧ v = some (.int (f1_5 p1 p2 p3))
theorem ef1_5 (m : MethodId) (x0 : Int32) (x2 : Int32) (x3 : Int32) : entryFrame m #[(.int x0), (.int (4 : Int32)), (.int x2), (.int x3)] 4 = mkF m 0 #[.val (.int x0), .val (.int (4 : Int32)), .val (.int x2), .val (.int x3)] [] := by first | (simp [entryFrame, mkF, argsToLocals, Value.category]; done) | rfl
set_option maxRecDepth 65536 in
set_option maxHeartbeats 40000000 in
theorem rm1_5 (l : Launch) (Z : State) (a0 : Array Value) (hw : ∀ d ∈ tables_1, d.before a0 Z = true) (ws : List Jvm.Cond) (p1 : Int32) (p2 : Int32) (p3 : Int32) (h0 : Heap) (n0 : Nat) (Z0 : n0 ≤ h0.size)  :
    KMet l (⟨"com/example/knotcut/knotcut/core/InputFieldsWholeNumberPinLaw", "pick", "(IIII)B"⟩ : MethodName) method_3_code 4 (some .byte) ws R1_5 #[(.int p1), (.int (4 : Int32)), (.int p2), (.int p3)] Z h0 R1_5.cells R1_5.slots (Q1_5 Z p1 p2 p3 h0 n0) := by
 refine k_body (plainFor_of_name pn_0) (fun m => ef1_5 m p1 p2 p3) ?_
 intro p e s m below meth c s₁ hx D hml hlk hret hown hnm hZ X0 e0
 have N0 := Fr.nil n0
 refine k_iloadN X0 hx 1 (D d1_0) rfl ?_
 refine k_iloadN X0 hx 2 (D d1_1) rfl ?_
 refine k_iushrL X0 hx 3 (D d1_2) rfl ?_
 refine k_iconst X0 hx 4 (D d1_3) (z := (1 : Int32)) rfl ?_
 refine k_iandL X0 hx 5 (D d1_4) rfl ?_
 refine k_if_eq X0 hx 8 24 (D d1_5) (fun hc101 => ?_) (fun hc101 => ?_)
 ·
  refine k_iloadN X0 hx 25 (D d1_24) rfl ?_
  refine k_iconst X0 hx 26 (D d1_25) (z := (4 : Int32)) rfl ?_
  refine k_icmp_ge X0 hx 29 37 (D d1_26) (fun _ => ?_) (fun hc => absurd hc (by decide))
  refine k_iloadN X0 hx 38 (D d1_37) rfl ?_
  refine k_bipush X0 hx 40 (D d1_38) (z := (20 : Int32)) rfl ?_
  refine k_iushrL X0 hx 41 (D d1_40) rfl ?_
  refine k_i2bL X0 hx 42 (D d1_41) rfl ?_
  have hf : f1_5 p1 p2 p3 = ((((p3.toUInt32 >>> ((20 : Int32) &&& 31).toUInt32).toInt32)).toInt8.toInt32) := by simp only [f1_5, if_pos hc101]
  exact k_retN X0 hx (t := .byte) hret (by simp) (D d1_42) hlk (by decide) (by decide) (z' := ((((p3.toUInt32 >>> ((20 : Int32) &&& 31).toUInt32).toInt32)).toInt8.toInt32)) (k_i2b2 _) ⟨N0, e0, by rw [hf]⟩
 ·
  refine k_bipush X0 hx 10 (D d1_8) (z := (48 : Int32)) rfl ?_
  refine k_iloadN X0 hx 11 (D d1_10) rfl ?_
  refine k_iconst X0 hx 12 (D d1_11) (z := (4 : Int32)) rfl ?_
  refine k_iloadN X0 hx 13 (D d1_12) rfl ?_
  refine k_imulL X0 hx 14 (D d1_13) (z := (16 : Int32)) (by decide) ?_
  refine k_iushrL X0 hx 15 (D d1_14) rfl ?_
  refine k_bipush X0 hx 17 (D d1_15) (z := (15 : Int32)) rfl ?_
  refine k_iandL X0 hx 18 (D d1_17) rfl ?_
  refine k_bipush X0 hx 20 (D d1_18) (z := (10 : Int32)) rfl ?_
  refine k_iremL X0 hx 21 (D d1_20) (by decide) rfl ?_
  refine k_iaddL X0 hx 22 (D d1_21) rfl ?_
  refine k_i2bL X0 hx 23 (D d1_22) rfl ?_
  have hf : f1_5 p1 p2 p3 = (((48 : Int32) + (((((p3.toUInt32 >>> ((16 : Int32) &&& 31).toUInt32).toInt32)) &&& (15 : Int32)) % (10 : Int32))).toInt8.toInt32) := by simp only [f1_5, if_neg hc101]
  exact k_retN X0 hx (t := .byte) hret (by simp) (D d1_23) hlk (by decide) (by decide) (z' := (((48 : Int32) + (((((p3.toUInt32 >>> ((16 : Int32) &&& 31).toUInt32).toInt32)) &&& (15 : Int32)) % (10 : Int32))).toInt8.toInt32)) (k_i2b2 _) ⟨N0, e0, by rw [hf]⟩
theorem d2_0 : decode prog_44_method_6_code 0 = .ok (.iload_n 1, 1) := by decide +kernel
theorem d2_1 : decode prog_44_method_6_code 1 = .ok (.iload_n 2, 1) := by decide +kernel
theorem d2_2 : decode prog_44_method_6_code 2 = .ok (.if_icmp .ne 9, 3) := by decide +kernel
theorem d2_5 : decode prog_44_method_6_code 5 = .ok (.ldc2_w 56, 3) := by decide +kernel
theorem d2_8 : decode prog_44_method_6_code 8 = .ok (.goto 4, 3) := by decide +kernel
theorem d2_12 : decode prog_44_method_6_code 12 = .ok (.lstore 5, 2) := by decide +kernel
theorem d2_14 : decode prog_44_method_6_code 14 = .ok (.iload_n 1, 1) := by decide +kernel
theorem d2_15 : decode prog_44_method_6_code 15 = .ok (.istore 7, 2) := by decide +kernel
theorem d2_17 : decode prog_44_method_6_code 17 = .ok (.iload 7, 2) := by decide +kernel
theorem d2_19 : decode prog_44_method_6_code 19 = .ok (.iload_n 2, 1) := by decide +kernel
theorem d2_20 : decode prog_44_method_6_code 20 = .ok (.if_icmp .ge 90, 3) := by decide +kernel
theorem d2_110 : decode prog_44_method_6_code 110 = .ok (.lload 5, 2) := by decide +kernel
theorem d2_112 : decode prog_44_method_6_code 112 = .ok (.lreturn, 1) := by decide +kernel
abbrev R2_6 : Room := { frames := 0, cells := 0, slots := 0, locals := 0 }
def Q2_6 (Z : State) (a1 : Addr) (p2 : Int64) (k3 : ClassId) (p4 : Int32) (p5 : Int32) (p6 : Int32) (p7 : Int32) (p8 : Int32) (h0 : Heap) (n0 : Nat) (v : Option Value) (h : Heap) (L : List Loc) : Prop := Fr n0 L ∧ h = h0 ∧ ∃ r : Int64, v = some (.long r) ∧ r.toInt = -1
theorem ef2_6 (m : MethodId) (x0 : Addr) (x3 : Int64) : entryFrame m #[(.ref x0), (.int (0 : Int32)), (.int (0 : Int32)), (.long x3)] 10 = mkF m 0 #[.val (.ref x0), .val (.int (0 : Int32)), .val (.int (0 : Int32)), .val (.long x3), .second, .unset, .unset, .unset, .unset, .unset] [] := by first | (simp [entryFrame, mkF, argsToLocals, Value.category]; done) | rfl
theorem pn_1 : plainName "com/example/knotcut/knotcut/core/InputFields" = true := by first | (simp [plainName, overriddenIn]; done) | decide +kernel
set_option maxRecDepth 65536 in
set_option maxHeartbeats 40000000 in
theorem rm2_6 (l : Launch) (Z : State) (a0 : Array Value) (hw : ∀ d ∈ tables_1, d.before a0 Z = true) (ws : List Jvm.Cond) (a1 : Addr) (p2 : Int64) (k3 : ClassId) (p4 : Int32) (p5 : Int32) (p6 : Int32) (p7 : Int32) (p8 : Int32) (h0 : Heap) (n0 : Nat) (Z0 : n0 ≤ h0.size) (F0_0 : Arv Z h0 a1 k3 .byte (5 : Int32) [(.int p4), (.int p5), (.int p6), (.int p7), (.int p8)] (.int (0 : Int32))) (hp0 : ¬ p2 < (0 : Int64)) :
    KMet l (⟨"com/example/knotcut/knotcut/core/InputFields", "wholeNumber", "([BIIJ)J"⟩ : MethodName) prog_44_method_6_code 10 (some .long) ws R2_6 #[(.ref a1), (.int (0 : Int32)), (.int (0 : Int32)), (.long p2)] Z h0 R2_6.cells R2_6.slots (Q2_6 Z a1 p2 k3 p4 p5 p6 p7 p8 h0 n0) := by
 refine k_body (plainFor_of_name pn_1) (fun m => ef2_6 m a1 p2) ?_
 intro p e s m below meth c s₁ hx D hml hlk hret hown hnm hZ X0 e0
 have N0 := Fr.nil n0
 refine k_iloadN X0 hx 1 (D d2_0) rfl ?_
 refine k_iloadN X0 hx 2 (D d2_1) rfl ?_
 refine k_icmp_ne X0 hx 5 11 (D d2_2) (fun hc => absurd (by decide) hc) (fun _ => ?_)
 refine k_ldcL X0 hx hZ hown 8 (k_w hw 10 rfl) (D d2_5) ?_
 refine k_goto X0 hx 12 (D d2_8) ?_
 refine k_lstore X0 hx 14 (D d2_12) (Ls' := #[rv a1, iv (0 : Int32), iv (0 : Int32), jv p2, s_, jv (-1 : Int64), s_, u_, u_, u_]) rfl ?_
 refine k_iloadN X0 hx 15 (D d2_14) rfl ?_
 refine k_istore X0 hx 17 (D d2_15) (Ls' := #[rv a1, iv (0 : Int32), iv (0 : Int32), jv p2, s_, jv (-1 : Int64), s_, iv (0 : Int32), u_, u_]) rfl ?_
 refine k_iload X0 hx 19 (D d2_17) rfl ?_
 refine k_iloadN X0 hx 20 (D d2_19) rfl ?_
 refine k_icmp_ge X0 hx 23 110 (D d2_20) (fun _ => ?_) (fun hc => absurd hc (by decide))
 refine k_lload X0 hx 112 (D d2_110) rfl ?_
 refine k_retL X0 hx hret (D d2_112) hlk (by decide) (by decide) ⟨N0, e0, (-1 : Int64), rfl, ?_⟩
 decide
theorem pd_1 : parseMethodDescriptor "([BIIJ)J" = some ⟨[(.array .byte), .int, .int, .long], some .long⟩ := by decide +kernel
theorem d2_11 : decode prog_44_method_6_code 11 = .ok (.lconst 0, 1) := by decide +kernel
theorem d2_23 : decode prog_44_method_6_code 23 = .ok (.lload 5, 2) := by decide +kernel
theorem d2_25 : decode prog_44_method_6_code 25 = .ok (.lconst 0, 1) := by decide +kernel
theorem d2_26 : decode prog_44_method_6_code 26 = .ok (.lcmp, 1) := by decide +kernel
theorem d2_27 : decode prog_44_method_6_code 27 = .ok (.ifCond .lt 83, 3) := by decide +kernel
theorem d2_30 : decode prog_44_method_6_code 30 = .ok (.aload_n 0, 1) := by decide +kernel
theorem d2_31 : decode prog_44_method_6_code 31 = .ok (.iload 7, 2) := by decide +kernel
theorem d2_33 : decode prog_44_method_6_code 33 = .ok (.baload, 1) := by decide +kernel
theorem d2_34 : decode prog_44_method_6_code 34 = .ok (.bipush 48, 2) := by decide +kernel
theorem d2_36 : decode prog_44_method_6_code 36 = .ok (.isub, 1) := by decide +kernel
theorem d2_37 : decode prog_44_method_6_code 37 = .ok (.istore 8, 2) := by decide +kernel
theorem d2_39 : decode prog_44_method_6_code 39 = .ok (.iload 8, 2) := by decide +kernel
theorem d2_41 : decode prog_44_method_6_code 41 = .ok (.ifCond .lt 37, 3) := by decide +kernel
theorem d2_78 : decode prog_44_method_6_code 78 = .ok (.iconst 0, 1) := by decide +kernel
theorem d2_44 : decode prog_44_method_6_code 44 = .ok (.iload 8, 2) := by decide +kernel
theorem d2_46 : decode prog_44_method_6_code 46 = .ok (.bipush 9, 2) := by decide +kernel
theorem d2_48 : decode prog_44_method_6_code 48 = .ok (.if_icmp .gt 30, 3) := by decide +kernel
theorem d2_51 : decode prog_44_method_6_code 51 = .ok (.iload 8, 2) := by decide +kernel
theorem d2_53 : decode prog_44_method_6_code 53 = .ok (.i2l, 1) := by decide +kernel
theorem d2_54 : decode prog_44_method_6_code 54 = .ok (.lload_n 3, 1) := by decide +kernel
theorem d2_55 : decode prog_44_method_6_code 55 = .ok (.lcmp, 1) := by decide +kernel
theorem d2_56 : decode prog_44_method_6_code 56 = .ok (.ifCond .gt 22, 3) := by decide +kernel
theorem d2_59 : decode prog_44_method_6_code 59 = .ok (.lload 5, 2) := by decide +kernel
theorem d2_61 : decode prog_44_method_6_code 61 = .ok (.lload_n 3, 1) := by decide +kernel
theorem d2_62 : decode prog_44_method_6_code 62 = .ok (.iload 8, 2) := by decide +kernel
theorem d2_64 : decode prog_44_method_6_code 64 = .ok (.i2l, 1) := by decide +kernel
theorem d2_65 : decode prog_44_method_6_code 65 = .ok (.lsub, 1) := by decide +kernel
theorem d2_66 : decode prog_44_method_6_code 66 = .ok (.ldc2_w 58, 3) := by decide +kernel
theorem d2_69 : decode prog_44_method_6_code 69 = .ok (.ldiv, 1) := by decide +kernel
theorem d2_70 : decode prog_44_method_6_code 70 = .ok (.lcmp, 1) := by decide +kernel
theorem d2_71 : decode prog_44_method_6_code 71 = .ok (.ifCond .gt 7, 3) := by decide +kernel
theorem d2_74 : decode prog_44_method_6_code 74 = .ok (.iconst 1, 1) := by decide +kernel
theorem d2_75 : decode prog_44_method_6_code 75 = .ok (.goto 4, 3) := by decide +kernel
theorem d2_79 : decode prog_44_method_6_code 79 = .ok (.istore 9, 2) := by decide +kernel
theorem d2_81 : decode prog_44_method_6_code 81 = .ok (.iload 9, 2) := by decide +kernel
theorem d2_83 : decode prog_44_method_6_code 83 = .ok (.ifCond .eq 16, 3) := by decide +kernel
theorem d2_99 : decode prog_44_method_6_code 99 = .ok (.ldc2_w 56, 3) := by decide +kernel
theorem d2_102 : decode prog_44_method_6_code 102 = .ok (.lstore 5, 2) := by decide +kernel
theorem d2_104 : decode prog_44_method_6_code 104 = .ok (.iinc 7 1, 3) := by decide +kernel
theorem d2_107 : decode prog_44_method_6_code 107 = .ok (.goto (-90), 3) := by decide +kernel
theorem d2_86 : decode prog_44_method_6_code 86 = .ok (.ldc2_w 58, 3) := by decide +kernel
theorem d2_89 : decode prog_44_method_6_code 89 = .ok (.lload 5, 2) := by decide +kernel
theorem d2_91 : decode prog_44_method_6_code 91 = .ok (.lmul, 1) := by decide +kernel
theorem d2_92 : decode prog_44_method_6_code 92 = .ok (.iload 8, 2) := by decide +kernel
theorem d2_94 : decode prog_44_method_6_code 94 = .ok (.i2l, 1) := by decide +kernel
theorem d2_95 : decode prog_44_method_6_code 95 = .ok (.ladd, 1) := by decide +kernel
theorem d2_96 : decode prog_44_method_6_code 96 = .ok (.goto 6, 3) := by decide +kernel
abbrev R2_7 : Room := { frames := 0, cells := 0, slots := 0, locals := 0 }
def Q2_7 (Z : State) (a1 : Addr) (p2 : Int64) (k3 : ClassId) (p4 : Int32) (p5 : Int32) (p6 : Int32) (p7 : Int32) (p8 : Int32) (h0 : Heap) (n0 : Nat) (v : Option Value) (h : Heap) (L : List Loc) : Prop := Fr n0 L ∧ h = h0 ∧ ∃ r : Int64, v = some (.long r) ∧ (((48 ≤ p4.toInt ∧ p4.toInt ≤ 57) ∧ 1 * (p4.toInt - 48) ≤ p2.toInt) → r.toInt = 1 * (p4.toInt - 48)) ∧ (¬ ((48 ≤ p4.toInt ∧ p4.toInt ≤ 57) ∧ 1 * (p4.toInt - 48) ≤ p2.toInt) → r.toInt = -1)
theorem ef2_7 (m : MethodId) (x0 : Addr) (x3 : Int64) : entryFrame m #[(.ref x0), (.int (0 : Int32)), (.int (1 : Int32)), (.long x3)] 10 = mkF m 0 #[.val (.ref x0), .val (.int (0 : Int32)), .val (.int (1 : Int32)), .val (.long x3), .second, .unset, .unset, .unset, .unset, .unset] [] := by first | (simp [entryFrame, mkF, argsToLocals, Value.category]; done) | rfl
set_option maxRecDepth 65536 in
set_option maxHeartbeats 40000000 in
theorem rm2_7 (l : Launch) (Z : State) (a0 : Array Value) (hw : ∀ d ∈ tables_1, d.before a0 Z = true) (ws : List Jvm.Cond) (a1 : Addr) (p2 : Int64) (k3 : ClassId) (p4 : Int32) (p5 : Int32) (p6 : Int32) (p7 : Int32) (p8 : Int32) (h0 : Heap) (n0 : Nat) (Z0 : n0 ≤ h0.size) (F0_0 : Arv Z h0 a1 k3 .byte (5 : Int32) [(.int p4), (.int p5), (.int p6), (.int p7), (.int p8)] (.int (0 : Int32))) (hp0 : ¬ p2 < (0 : Int64)) (hp1 : ¬ p4 < (-128 : Int32)) (hp2 : ¬ (127 : Int32) < p4) :
    KMet l (⟨"com/example/knotcut/knotcut/core/InputFields", "wholeNumber", "([BIIJ)J"⟩ : MethodName) prog_44_method_6_code 10 (some .long) ws R2_7 #[(.ref a1), (.int (0 : Int32)), (.int (1 : Int32)), (.long p2)] Z h0 R2_7.cells R2_7.slots (Q2_7 Z a1 p2 k3 p4 p5 p6 p7 p8 h0 n0) := by
 refine k_body (plainFor_of_name pn_1) (fun m => ef2_7 m a1 p2) ?_
 intro p e s m below meth c s₁ hx D hml hlk hret hown hnm hZ X0 e0
 have N0 := Fr.nil n0
 refine k_iloadN X0 hx 1 (D d2_0) rfl ?_
 refine k_iloadN X0 hx 2 (D d2_1) rfl ?_
 refine k_icmp_ne X0 hx 5 11 (D d2_2) (fun _ => ?_) (fun hc => absurd hc (by decide))
 refine k_lconst X0 hx 12 (D d2_11) (z := (0 : Int64)) rfl ?_
 refine k_lstore X0 hx 14 (D d2_12) (Ls' := #[rv a1, iv (0 : Int32), iv (1 : Int32), jv p2, s_, jv (0 : Int64), s_, u_, u_, u_]) rfl ?_
 refine k_iloadN X0 hx 15 (D d2_14) rfl ?_
 refine k_istore X0 hx 17 (D d2_15) (Ls' := #[rv a1, iv (0 : Int32), iv (1 : Int32), jv p2, s_, jv (0 : Int64), s_, iv (0 : Int32), u_, u_]) rfl ?_
 refine k_iload X0 hx 19 (D d2_17) rfl ?_
 refine k_iloadN X0 hx 20 (D d2_19) rfl ?_
 refine k_icmp_ge X0 hx 23 110 (D d2_20) (fun hc => absurd (by decide) hc) (fun _ => ?_)
 refine k_lload X0 hx 25 (D d2_23) rfl ?_
 refine k_lconst X0 hx 26 (D d2_25) (z := (0 : Int64)) rfl ?_
 refine k_lcif_lt X0 hx 30 110 27 (D d2_26) (D d2_27) (fun hc => absurd hc (by decide)) (fun _ => ?_)
 refine k_aloadN X0 hx 31 (D d2_30) rfl rfl ?_
 refine k_iload X0 hx 33 (D d2_31) rfl ?_
 refine k_baload X0 hx hZ 34 e0 F0_0 ⟨by decide, by decide⟩ (v := (.int p4)) rfl (D d2_33) ?_
 refine k_bipush X0 hx 36 (D d2_34) (z := (48 : Int32)) rfl ?_
 refine k_isub X0 hx 37 (D d2_36) (fun v101 hv101 => ?_)
 refine k_istore X0 hx 39 (D d2_37) (Ls' := #[rv a1, iv (0 : Int32), iv (1 : Int32), jv p2, s_, jv (0 : Int64), s_, iv (0 : Int32), iv v101, u_]) rfl ?_
 suffices key102 : ∀ (v193 : Int32), ((v193.toInt = 1 ∧ (0 ≤ v101.toInt ∧ v101.toInt ≤ 9 ∧ 10 * (0) + v101.toInt ≤ p2.toInt)) ∨ (v193.toInt = 0 ∧ ¬ (0 ≤ v101.toInt ∧ v101.toInt ≤ 9 ∧ 10 * (0) + v101.toInt ≤ p2.toInt))) → KEnds p e below s R2_7.cells R2_7.slots (Q2_7 Z a1 p2 k3 p4 p5 p6 p7 p8 h0 n0) s₁ (mkF m 79 #[rv a1, iv (0 : Int32), iv (1 : Int32), jv p2, s_, jv (0 : Int64), s_, iv (0 : Int32), iv v101, u_] [(.int v193)]) by
  refine k_iload X0 hx 41 (D d2_39) rfl ?_
  refine k_if_lt X0 hx 44 78 (D d2_41) (fun hc103 => ?_) (fun hc103 => ?_)
  ·
   refine k_iconst X0 hx 79 (D d2_78) (z := (0 : Int32)) rfl ?_
   refine key102 (0 : Int32) ?_
   have B110 : (0 : Int) ≤ p2.toInt ∧ p2.toInt ≤ 9223372036854775807 := ⟨kL_ge hp0 (by decide), Int.le_of_lt_add_one (rng64 p2).2⟩
   have B111 : (-128 : Int) ≤ p4.toInt ∧ p4.toInt ≤ 127 := ⟨k_ge hp1 (by decide), k_le hp2 (by decide)⟩
   have B114 : (48 : Int) ≤ (48 : Int32).toInt ∧ (48 : Int32).toInt ≤ 48 := (by decide)
   have q113 : v101.toInt = p4.toInt - (48 : Int32).toInt := k_isubx hv101 B111 B114 (by decide) (by decide)
   have B112 : (-176 : Int) ≤ v101.toInt ∧ v101.toInt ≤ 79 := k_subB' q113 B111 B114
   have B115 : (-176 : Int) ≤ v101.toInt ∧ v101.toInt ≤ -1 := ⟨B112.1, k_lt hc103 (by decide)⟩
   exact Or.inr ⟨rfl, by omega⟩
  ·
   refine k_iload X0 hx 46 (D d2_44) rfl ?_
   refine k_bipush X0 hx 48 (D d2_46) (z := (9 : Int32)) rfl ?_
   refine k_icmp_gt X0 hx 51 78 (D d2_48) (fun hc116 => ?_) (fun hc116 => ?_)
   ·
    refine k_iconst X0 hx 79 (D d2_78) (z := (0 : Int32)) rfl ?_
    refine key102 (0 : Int32) ?_
    have B123 : (0 : Int) ≤ p2.toInt ∧ p2.toInt ≤ 9223372036854775807 := ⟨kL_ge hp0 (by decide), Int.le_of_lt_add_one (rng64 p2).2⟩
    have B124 : (-128 : Int) ≤ p4.toInt ∧ p4.toInt ≤ 127 := ⟨k_ge hp1 (by decide), k_le hp2 (by decide)⟩
    have B127 : (48 : Int) ≤ (48 : Int32).toInt ∧ (48 : Int32).toInt ≤ 48 := (by decide)
    have q126 : v101.toInt = p4.toInt - (48 : Int32).toInt := k_isubx hv101 B124 B127 (by decide) (by decide)
    have B125 : (-176 : Int) ≤ v101.toInt ∧ v101.toInt ≤ 79 := k_subB' q126 B124 B127
    have B128 : (10 : Int) ≤ v101.toInt ∧ v101.toInt ≤ 79 := ⟨k_gt hc116 (by decide), B125.2⟩
    exact Or.inr ⟨rfl, by omega⟩
   ·
    refine k_iload X0 hx 53 (D d2_51) rfl ?_
    refine k_i2l X0 hx 54 (D d2_53) (fun v129 hv129 => ?_)
    refine k_lloadN X0 hx 55 (D d2_54) rfl ?_
    refine k_lcif_gt X0 hx 59 78 56 (D d2_55) (D d2_56) (fun hc130 => ?_) (fun hc130 => ?_)
    ·
     refine k_iconst X0 hx 79 (D d2_78) (z := (0 : Int32)) rfl ?_
     refine key102 (0 : Int32) ?_
     have B139 : (0 : Int) ≤ p2.toInt ∧ p2.toInt ≤ 9223372036854775807 := ⟨kL_ge hp0 (by decide), Int.le_of_lt_add_one (rng64 p2).2⟩
     have B140 : (-128 : Int) ≤ p4.toInt ∧ p4.toInt ≤ 127 := ⟨k_ge hp1 (by decide), k_le hp2 (by decide)⟩
     have B143 : (48 : Int) ≤ (48 : Int32).toInt ∧ (48 : Int32).toInt ≤ 48 := (by decide)
     have q142 : v101.toInt = p4.toInt - (48 : Int32).toInt := k_isubx hv101 B140 B143 (by decide) (by decide)
     have B141 : (0 : Int) ≤ v101.toInt ∧ v101.toInt ≤ 9 := ⟨k_ge hc103 (by decide), k_le hc116 (by decide)⟩
     have q145 : v129.toInt = v101.toInt := (by rw [hv129]; exact c_i2l _)
     have B144 : (0 : Int) ≤ v129.toInt ∧ v129.toInt ≤ 9 := (by rw [q145]; exact B141)
     have q146 := hc130; rw [Int64.lt_iff_toInt_lt] at q146
     exact Or.inr ⟨rfl, by omega⟩
    ·
     refine k_lload X0 hx 61 (D d2_59) rfl ?_
     refine k_lloadN X0 hx 62 (D d2_61) rfl ?_
     refine k_iload X0 hx 64 (D d2_62) rfl ?_
     refine k_i2lL X0 hx 65 (D d2_64) (z := v129) hv129.symm ?_
     refine k_lsub X0 hx 66 (D d2_65) (fun v147 hv147 => ?_)
     refine k_ldcL X0 hx hZ hown 69 (k_w hw 12 rfl) (D d2_66) ?_
     refine k_ldiv X0 hx 70 (D d2_69) (by decide) (fun v148 hv148 => ?_)
     have hv0149 : ¬ v148 < 0 := (by intro hq150; have B151 : (0 : Int) ≤ p2.toInt ∧ p2.toInt ≤ 9223372036854775807 := ⟨kL_ge hp0 (by decide), Int.le_of_lt_add_one (rng64 p2).2⟩; have B152 : (-128 : Int) ≤ p4.toInt ∧ p4.toInt ≤ 127 := ⟨k_ge hp1 (by decide), k_le hp2 (by decide)⟩; have B155 : (48 : Int) ≤ (48 : Int32).toInt ∧ (48 : Int32).toInt ≤ 48 := (by decide); have q154 : v101.toInt = p4.toInt - (48 : Int32).toInt := k_isubx hv101 B152 B155 (by decide) (by decide); have B153 : (0 : Int) ≤ v101.toInt ∧ v101.toInt ≤ 9 := ⟨k_ge hc103 (by decide), k_le hc116 (by decide)⟩; have q157 : v129.toInt = v101.toInt := (by rw [hv129]; exact c_i2l _); have B156 : (0 : Int) ≤ v129.toInt ∧ v129.toInt ≤ 9 := (by rw [q157]; exact B153); have q158 := hc130; rw [Int64.lt_iff_toInt_lt] at q158; have q161 : (0 ≤ v147.toInt → v148.toInt = v147.toInt / 10) ∧ (v147.toInt < 0 → v148.toInt = -((-v147.toInt) / 10)) := (by rw [hv148]; exact c_ldiv _ _ 10 (by decide) (by decide)); have q163 : v147.toInt = p2.toInt - v129.toInt := k_lsubx hv147 B151 B156 (by decide) (by decide); have B162 : (-9 : Int) ≤ v147.toInt ∧ v147.toInt ≤ 9223372036854775807 := k_subB' q163 B151 B156; have B164 : (10 : Int) ≤ (10 : Int64).toInt ∧ (10 : Int64).toInt ≤ 10 := (by decide); have B159 : (-9223372036854775808 : Int) ≤ v148.toInt ∧ v148.toInt ≤ -1 := ⟨(rng64 v148).1, kL_lt hq150 (by decide)⟩; omega)
     refine k_lcif_gt X0 hx 74 78 71 (D d2_70) (D d2_71) (fun hc => absurd hc hv0149) (fun _ => ?_)
     refine k_iconst X0 hx 75 (D d2_74) (z := (1 : Int32)) rfl ?_
     refine k_goto X0 hx 79 (D d2_75) ?_
     refine key102 (1 : Int32) ?_
     have B179 : (0 : Int) ≤ p2.toInt ∧ p2.toInt ≤ 9223372036854775807 := ⟨kL_ge hp0 (by decide), Int.le_of_lt_add_one (rng64 p2).2⟩
     have B180 : (-128 : Int) ≤ p4.toInt ∧ p4.toInt ≤ 127 := ⟨k_ge hp1 (by decide), k_le hp2 (by decide)⟩
     have B183 : (48 : Int) ≤ (48 : Int32).toInt ∧ (48 : Int32).toInt ≤ 48 := (by decide)
     have q182 : v101.toInt = p4.toInt - (48 : Int32).toInt := k_isubx hv101 B180 B183 (by decide) (by decide)
     have B181 : (0 : Int) ≤ v101.toInt ∧ v101.toInt ≤ 9 := ⟨k_ge hc103 (by decide), k_le hc116 (by decide)⟩
     have q185 : v129.toInt = v101.toInt := (by rw [hv129]; exact c_i2l _)
     have B184 : (0 : Int) ≤ v129.toInt ∧ v129.toInt ≤ 9 := (by rw [q185]; exact B181)
     have q186 := hc130; rw [Int64.lt_iff_toInt_lt] at q186
     have q189 : (0 ≤ v147.toInt → v148.toInt = v147.toInt / 10) ∧ (v147.toInt < 0 → v148.toInt = -((-v147.toInt) / 10)) := (by rw [hv148]; exact c_ldiv _ _ 10 (by decide) (by decide))
     have q191 : v147.toInt = p2.toInt - v129.toInt := k_lsubx hv147 B179 B184 (by decide) (by decide)
     have B190 : (-9 : Int) ≤ v147.toInt ∧ v147.toInt ≤ 9223372036854775807 := k_subB' q191 B179 B184
     have B192 : (10 : Int) ≤ (10 : Int64).toInt ∧ (10 : Int64).toInt ≤ 10 := (by decide)
     have B187 : (0 : Int) ≤ v148.toInt ∧ v148.toInt ≤ 9223372036854775807 := ⟨kL_ge hv0149 (by decide), Int.le_of_lt_add_one (rng64 v148).2⟩
     exact Or.inl ⟨rfl, by omega⟩
 intro v193 hP194
 refine k_istore X0 hx 81 (D d2_79) (Ls' := #[rv a1, iv (0 : Int32), iv (1 : Int32), jv p2, s_, jv (0 : Int64), s_, iv (0 : Int32), iv v101, iv v193]) rfl ?_
 refine k_iload X0 hx 83 (D d2_81) rfl ?_
 refine k_if_eq X0 hx 86 99 (D d2_83) (fun hc195 => ?_) (fun hc195 => ?_)
 ·
  refine k_ldcL X0 hx hZ hown 102 (k_w hw 10 rfl) (D d2_99) ?_
  refine k_lstore X0 hx 104 (D d2_102) (Ls' := #[rv a1, iv (0 : Int32), iv (1 : Int32), jv p2, s_, jv (-1 : Int64), s_, iv (0 : Int32), iv v101, iv v193]) rfl ?_
  refine k_iinc X0 hx 107 (D d2_104) rfl (z := (1 : Int32)) (by decide) (Ls' := #[rv a1, iv (0 : Int32), iv (1 : Int32), jv p2, s_, jv (-1 : Int64), s_, iv (1 : Int32), iv v101, iv v193]) rfl ?_
  refine k_goto X0 hx 17 (D d2_107) ?_
  refine k_iload X0 hx 19 (D d2_17) rfl ?_
  refine k_iloadN X0 hx 20 (D d2_19) rfl ?_
  refine k_icmp_ge X0 hx 23 110 (D d2_20) (fun _ => ?_) (fun hc => absurd hc (by decide))
  refine k_lload X0 hx 112 (D d2_110) rfl ?_
  refine k_retL X0 hx hret (D d2_112) hlk (by decide) (by decide) ⟨N0, e0, (-1 : Int64), rfl, ?_⟩
  have hgoal : True := trivial
  have B196 : (0 : Int) ≤ p2.toInt ∧ p2.toInt ≤ 9223372036854775807 := ⟨kL_ge hp0 (by decide), Int.le_of_lt_add_one (rng64 p2).2⟩
  have B197 : (-128 : Int) ≤ p4.toInt ∧ p4.toInt ≤ 127 := ⟨k_ge hp1 (by decide), k_le hp2 (by decide)⟩
  have B198 : (-2147483648 : Int) ≤ v193.toInt ∧ v193.toInt ≤ 2147483647 := ⟨(rng32 v193).1, Int.le_of_lt_add_one (rng32 v193).2⟩
  have B201 : (0 : Int) ≤ (0 : Int32).toInt ∧ (0 : Int32).toInt ≤ 0 := (by decide)
  have q202 := congrArg Int32.toInt hc195
  have B203 : (-1 : Int) ≤ (-1 : Int64).toInt ∧ (-1 : Int64).toInt ≤ -1 := (by decide)
  have B206 : (48 : Int) ≤ (48 : Int32).toInt ∧ (48 : Int32).toInt ≤ 48 := (by decide)
  have q205 : v101.toInt = p4.toInt - (48 : Int32).toInt := k_isubx hv101 B197 B206 (by decide) (by decide)
  have B204 : (-176 : Int) ≤ v101.toInt ∧ v101.toInt ≤ 79 := k_subB' q205 B197 B206
  refine ⟨fun hg => ?_, fun hg => ?_⟩ <;> omega
 ·
  refine k_ldcL X0 hx hZ hown 89 (k_w hw 12 rfl) (D d2_86) ?_
  refine k_lload X0 hx 91 (D d2_89) rfl ?_
  refine k_lmulL X0 hx 92 (D d2_91) (z := (0 : Int64)) (by decide) ?_
  refine k_iload X0 hx 94 (D d2_92) rfl ?_
  refine k_i2l X0 hx 95 (D d2_94) (fun v207 hv207 => ?_)
  refine k_laddL X0 hx 96 (D d2_95) (z := v207) (Int64.zero_add _) ?_
  refine k_goto X0 hx 102 (D d2_96) ?_
  refine k_lstore X0 hx 104 (D d2_102) (Ls' := #[rv a1, iv (0 : Int32), iv (1 : Int32), jv p2, s_, jv v207, s_, iv (0 : Int32), iv v101, iv v193]) rfl ?_
  refine k_iinc X0 hx 107 (D d2_104) rfl (z := (1 : Int32)) (by decide) (Ls' := #[rv a1, iv (0 : Int32), iv (1 : Int32), jv p2, s_, jv v207, s_, iv (1 : Int32), iv v101, iv v193]) rfl ?_
  refine k_goto X0 hx 17 (D d2_107) ?_
  refine k_iload X0 hx 19 (D d2_17) rfl ?_
  refine k_iloadN X0 hx 20 (D d2_19) rfl ?_
  refine k_icmp_ge X0 hx 23 110 (D d2_20) (fun _ => ?_) (fun hc => absurd hc (by decide))
  refine k_lload X0 hx 112 (D d2_110) rfl ?_
  refine k_retL X0 hx hret (D d2_112) hlk (by decide) (by decide) ⟨N0, e0, v207, rfl, ?_⟩
  have hgoal : True := trivial
  have B208 : (0 : Int) ≤ p2.toInt ∧ p2.toInt ≤ 9223372036854775807 := ⟨kL_ge hp0 (by decide), Int.le_of_lt_add_one (rng64 p2).2⟩
  have B209 : (-128 : Int) ≤ p4.toInt ∧ p4.toInt ≤ 127 := ⟨k_ge hp1 (by decide), k_le hp2 (by decide)⟩
  have B210 : (-2147483648 : Int) ≤ v193.toInt ∧ v193.toInt ≤ 2147483647 := ⟨(rng32 v193).1, Int.le_of_lt_add_one (rng32 v193).2⟩
  have B213 : (0 : Int) ≤ (0 : Int32).toInt ∧ (0 : Int32).toInt ≤ 0 := (by decide)
  have q214 : ¬ v193.toInt = (0 : Int32).toInt := fun q => hc195 (Int32.toInt_inj.mp q)
  have B219 : (48 : Int) ≤ (48 : Int32).toInt ∧ (48 : Int32).toInt ≤ 48 := (by decide)
  have q218 : v101.toInt = p4.toInt - (48 : Int32).toInt := k_isubx hv101 B209 B219 (by decide) (by decide)
  have B217 : (-176 : Int) ≤ v101.toInt ∧ v101.toInt ≤ 79 := k_subB' q218 B209 B219
  have q216 : v207.toInt = v101.toInt := (by rw [hv207]; exact c_i2l _)
  have B215 : (-176 : Int) ≤ v207.toInt ∧ v207.toInt ≤ 79 := (by rw [q216]; exact B217)
  refine ⟨fun hg => ?_, fun hg => ?_⟩ <;> omega
theorem d3_0 : decode method_4_code 0 = .ok (.iload_n 0, 1) := by decide +kernel
theorem d3_1 : decode method_4_code 1 = .ok (.bipush 48, 2) := by decide +kernel
theorem d3_3 : decode method_4_code 3 = .ok (.isub, 1) := by decide +kernel
theorem d3_4 : decode method_4_code 4 = .ok (.istore_n 1, 1) := by decide +kernel
theorem d3_5 : decode method_4_code 5 = .ok (.iload_n 1, 1) := by decide +kernel
theorem d3_6 : decode method_4_code 6 = .ok (.ifCond .lt 11, 3) := by decide +kernel
theorem d3_17 : decode method_4_code 17 = .ok (.iconst (-1), 1) := by decide +kernel
theorem d3_18 : decode method_4_code 18 = .ok (.ireturn, 1) := by decide +kernel
theorem d3_9 : decode method_4_code 9 = .ok (.iload_n 1, 1) := by decide +kernel
theorem d3_10 : decode method_4_code 10 = .ok (.bipush 9, 2) := by decide +kernel
theorem d3_12 : decode method_4_code 12 = .ok (.if_icmp .gt 5, 3) := by decide +kernel
theorem d3_15 : decode method_4_code 15 = .ok (.iload_n 1, 1) := by decide +kernel
theorem d3_16 : decode method_4_code 16 = .ok (.ireturn, 1) := by decide +kernel
abbrev R3_8 : Room := { frames := 0, cells := 0, slots := 0, locals := 0 }
def f3_8 (p1 : Int32) : Int32 := (if (p1 - (48 : Int32)) < (0 : Int32) then (-1 : Int32) else (if (9 : Int32) < (p1 - (48 : Int32)) then (-1 : Int32) else (p1 - (48 : Int32))))
theorem own_fd (b : Int32) (hb : (-128 : Int) ≤ b.toInt ∧ b.toInt ≤ 127) : (((48 ≤ b.toInt ∧ b.toInt ≤ 57) → (f3_8 b).toInt = b.toInt - 48) ∧ (¬ (48 ≤ b.toInt ∧ b.toInt ≤ 57) → (f3_8 b).toInt = -1)) ∧ (-1 ≤ (f3_8 b).toInt ∧ (f3_8 b).toInt ≤ 9) := by
  have q := c_isub b 48
  have r := rng32 (b - 48)
  rw [show (48 : Int32).toInt = 48 from rfl] at q
  unfold f3_8
  simp only [Int32.lt_iff_toInt_lt, show (0 : Int32).toInt = 0 from rfl, show (9 : Int32).toInt = 9 from rfl]
  by_cases h : 48 ≤ b.toInt ∧ b.toInt ≤ 57
  · rw [if_neg (by omega), if_neg (by omega)]
    exact ⟨⟨fun _ => by omega, fun q => absurd h q⟩, by omega⟩
  · refine ⟨⟨fun q => absurd q h, fun _ => ?_⟩, ?_⟩
    · (repeat' split) <;> first | rfl | (exfalso; omega)
    · (repeat' split) <;> first | decide | (exfalso; omega)
def Q3_8 (Z : State) (p1 : Int32) (h0 : Heap) (n0 : Nat) (v : Option Value) (h : Heap) (L : List Loc) : Prop := Fr n0 L ∧ h = h0 ∧ v = some (.int (f3_8 p1))
theorem ef3_8 (m : MethodId) (x0 : Int32) : entryFrame m #[(.int x0)] 2 = mkF m 0 #[.val (.int x0), .unset] [] := by first | (simp [entryFrame, mkF, argsToLocals, Value.category]; done) | rfl
set_option maxRecDepth 65536 in
set_option maxHeartbeats 40000000 in
theorem rm3_8 (l : Launch) (Z : State) (a0 : Array Value) (hw : ∀ d ∈ tables_1, d.before a0 Z = true) (ws : List Jvm.Cond) (p1 : Int32) (h0 : Heap) (n0 : Nat) (Z0 : n0 ≤ h0.size)  :
    KMet l (⟨"com/example/knotcut/knotcut/core/InputFieldsWholeNumberPinLaw", "digit", "(B)I"⟩ : MethodName) method_4_code 2 (some .int) ws R3_8 #[(.int p1)] Z h0 R3_8.cells R3_8.slots (Q3_8 Z p1 h0 n0) := by
 refine k_body (plainFor_of_name pn_0) (fun m => ef3_8 m p1) ?_
 intro p e s m below meth c s₁ hx D hml hlk hret hown hnm hZ X0 e0
 have N0 := Fr.nil n0
 refine k_iloadN X0 hx 1 (D d3_0) rfl ?_
 refine k_bipush X0 hx 3 (D d3_1) (z := (48 : Int32)) rfl ?_
 refine k_isubL X0 hx 4 (D d3_3) rfl ?_
 refine k_istoreN X0 hx 5 (D d3_4) (Ls' := #[iv p1, iv (p1 - (48 : Int32))]) rfl ?_
 refine k_iloadN X0 hx 6 (D d3_5) rfl ?_
 refine k_if_lt X0 hx 9 17 (D d3_6) (fun hc101 => ?_) (fun hc101 => ?_)
 ·
  refine k_iconst X0 hx 18 (D d3_17) (z := (-1 : Int32)) rfl ?_
  have hf : f3_8 p1 = (-1 : Int32) := by simp only [f3_8, if_pos hc101]
  exact k_retI X0 hx hret (D d3_18) hlk (by decide) (by decide) ⟨N0, e0, by rw [hf]⟩
 ·
  refine k_iloadN X0 hx 10 (D d3_9) rfl ?_
  refine k_bipush X0 hx 12 (D d3_10) (z := (9 : Int32)) rfl ?_
  refine k_icmp_gt X0 hx 15 17 (D d3_12) (fun hc102 => ?_) (fun hc102 => ?_)
  ·
   refine k_iconst X0 hx 18 (D d3_17) (z := (-1 : Int32)) rfl ?_
   have hf : f3_8 p1 = (-1 : Int32) := by simp only [f3_8, if_neg hc101, if_pos hc102]
   exact k_retI X0 hx hret (D d3_18) hlk (by decide) (by decide) ⟨N0, e0, by rw [hf]⟩
  ·
   refine k_iloadN X0 hx 16 (D d3_15) rfl ?_
   have hf : f3_8 p1 = (p1 - (48 : Int32)) := by simp only [f3_8, if_neg hc101, if_neg hc102]
   exact k_retI X0 hx hret (D d3_16) hlk (by decide) (by decide) ⟨N0, e0, by rw [hf]⟩
theorem pd_2 : parseMethodDescriptor "(B)I" = some ⟨[.byte], some .int⟩ := by decide +kernel
theorem d4_0 : decode jdk_29_method_65_code 0 = .ok (.iload_n 0, 1) := by decide +kernel
theorem d4_1 : decode jdk_29_method_65_code 1 = .ok (.iload_n 1, 1) := by decide +kernel
theorem d4_2 : decode jdk_29_method_65_code 2 = .ok (.if_icmp .lt 7, 3) := by decide +kernel
theorem d4_9 : decode jdk_29_method_65_code 9 = .ok (.iload_n 1, 1) := by decide +kernel
theorem d4_10 : decode jdk_29_method_65_code 10 = .ok (.ireturn, 1) := by decide +kernel
theorem d4_5 : decode jdk_29_method_65_code 5 = .ok (.iload_n 0, 1) := by decide +kernel
theorem d4_6 : decode jdk_29_method_65_code 6 = .ok (.goto 4, 3) := by decide +kernel
abbrev R4_9 : Room := { frames := 0, cells := 0, slots := 0, locals := 0 }
def f4_9 (p1 : Int32) : Int32 := (if p1 < (0 : Int32) then (0 : Int32) else p1)
theorem own_mx (d : Int32) (hd : (-1 : Int) ≤ d.toInt ∧ d.toInt ≤ 9) : ((0 ≤ d.toInt → (f4_9 d).toInt = d.toInt) ∧ (d.toInt < 0 → (f4_9 d).toInt = 0)) ∧ (0 ≤ (f4_9 d).toInt ∧ (f4_9 d).toInt ≤ 9) := by
  unfold f4_9
  simp only [Int32.lt_iff_toInt_lt, show (0 : Int32).toInt = 0 from rfl]
  by_cases h : d.toInt < 0
  · rw [if_pos h]; exact ⟨⟨fun q => absurd h (by omega), fun _ => rfl⟩, by decide⟩
  · rw [if_neg h]; exact ⟨⟨fun _ => rfl, fun q => absurd q h⟩, by omega⟩
def Q4_9 (Z : State) (p1 : Int32) (h0 : Heap) (n0 : Nat) (v : Option Value) (h : Heap) (L : List Loc) : Prop := Fr n0 L ∧ h = h0 ∧ v = some (.int (f4_9 p1))
theorem ef4_9 (m : MethodId) (x0 : Int32) : entryFrame m #[(.int x0), (.int (0 : Int32))] 2 = mkF m 0 #[.val (.int x0), .val (.int (0 : Int32))] [] := by first | (simp [entryFrame, mkF, argsToLocals, Value.category]; done) | rfl
set_option maxRecDepth 65536 in
set_option maxHeartbeats 40000000 in
theorem rm4_9 (l : Launch) (Z : State) (a0 : Array Value) (hw : ∀ d ∈ tables_1, d.before a0 Z = true) (ws : List Jvm.Cond) (p1 : Int32) (h0 : Heap) (n0 : Nat) (Z0 : n0 ≤ h0.size)  :
    KMet l (⟨"java/lang/Math", "max", "(II)I"⟩ : MethodName) jdk_29_method_65_code 2 (some .int) ws R4_9 #[(.int p1), (.int (0 : Int32))] Z h0 R4_9.cells R4_9.slots (Q4_9 Z p1 h0 n0) := by
 refine k_body (Jvm.Free.JP.mathPlain rfl (by decide +kernel)) (fun m => ef4_9 m p1) ?_
 intro p e s m below meth c s₁ hx D hml hlk hret hown hnm hZ X0 e0
 have N0 := Fr.nil n0
 refine k_iloadN X0 hx 1 (D d4_0) rfl ?_
 refine k_iloadN X0 hx 2 (D d4_1) rfl ?_
 refine k_icmp_lt X0 hx 5 9 (D d4_2) (fun hc101 => ?_) (fun hc101 => ?_)
 ·
  refine k_iloadN X0 hx 10 (D d4_9) rfl ?_
  have hf : f4_9 p1 = (0 : Int32) := by simp only [f4_9, if_pos hc101]
  exact k_retI X0 hx hret (D d4_10) hlk (by decide) (by decide) ⟨N0, e0, by rw [hf]⟩
 ·
  refine k_iloadN X0 hx 6 (D d4_5) rfl ?_
  refine k_goto X0 hx 10 (D d4_6) ?_
  have hf : f4_9 p1 = p1 := by simp only [f4_9, if_neg hc101]
  exact k_retI X0 hx hret (D d4_10) hlk (by decide) (by decide) ⟨N0, e0, by rw [hf]⟩
theorem pd_3 : parseMethodDescriptor "(II)I" = some ⟨[.int, .int], some .int⟩ := by decide +kernel
abbrev R2_10 : Room := { frames := 0, cells := 0, slots := 0, locals := 0 }
def Q2_10 (Z : State) (a1 : Addr) (p2 : Int64) (k3 : ClassId) (p4 : Int32) (p5 : Int32) (p6 : Int32) (p7 : Int32) (p8 : Int32) (h0 : Heap) (n0 : Nat) (v : Option Value) (h : Heap) (L : List Loc) : Prop := Fr n0 L ∧ h = h0 ∧ ∃ r : Int64, v = some (.long r) ∧ (((48 ≤ p4.toInt ∧ p4.toInt ≤ 57) ∧ (48 ≤ p5.toInt ∧ p5.toInt ≤ 57) ∧ 10 * (p4.toInt - 48) + 1 * (p5.toInt - 48) ≤ p2.toInt) → r.toInt = 10 * (p4.toInt - 48) + 1 * (p5.toInt - 48)) ∧ (¬ ((48 ≤ p4.toInt ∧ p4.toInt ≤ 57) ∧ (48 ≤ p5.toInt ∧ p5.toInt ≤ 57) ∧ 10 * (p4.toInt - 48) + 1 * (p5.toInt - 48) ≤ p2.toInt) → r.toInt = -1)
theorem ef2_10 (m : MethodId) (x0 : Addr) (x3 : Int64) : entryFrame m #[(.ref x0), (.int (0 : Int32)), (.int (2 : Int32)), (.long x3)] 10 = mkF m 0 #[.val (.ref x0), .val (.int (0 : Int32)), .val (.int (2 : Int32)), .val (.long x3), .second, .unset, .unset, .unset, .unset, .unset] [] := by first | (simp [entryFrame, mkF, argsToLocals, Value.category]; done) | rfl
set_option maxRecDepth 65536 in
set_option maxHeartbeats 40000000 in
theorem rm2_10 (l : Launch) (Z : State) (a0 : Array Value) (hw : ∀ d ∈ tables_1, d.before a0 Z = true) (ws : List Jvm.Cond) (a1 : Addr) (p2 : Int64) (k3 : ClassId) (p4 : Int32) (p5 : Int32) (p6 : Int32) (p7 : Int32) (p8 : Int32) (h0 : Heap) (n0 : Nat) (Z0 : n0 ≤ h0.size) (F0_0 : Arv Z h0 a1 k3 .byte (5 : Int32) [(.int p4), (.int p5), (.int p6), (.int p7), (.int p8)] (.int (0 : Int32))) (hp0 : ¬ p2 < (0 : Int64)) (hp1 : ¬ p4 < (-128 : Int32)) (hp2 : ¬ (127 : Int32) < p4) (hp3 : ¬ p5 < (-128 : Int32)) (hp4 : ¬ (127 : Int32) < p5) :
    KMet l (⟨"com/example/knotcut/knotcut/core/InputFields", "wholeNumber", "([BIIJ)J"⟩ : MethodName) prog_44_method_6_code 10 (some .long) ws R2_10 #[(.ref a1), (.int (0 : Int32)), (.int (2 : Int32)), (.long p2)] Z h0 R2_10.cells R2_10.slots (Q2_10 Z a1 p2 k3 p4 p5 p6 p7 p8 h0 n0) := by
 refine k_body (plainFor_of_name pn_1) (fun m => ef2_10 m a1 p2) ?_
 intro p e s m below meth c s₁ hx D hml hlk hret hown hnm hZ X0 e0
 have N0 := Fr.nil n0
 refine k_iloadN X0 hx 1 (D d2_0) rfl ?_
 refine k_iloadN X0 hx 2 (D d2_1) rfl ?_
 refine k_icmp_ne X0 hx 5 11 (D d2_2) (fun _ => ?_) (fun hc => absurd hc (by decide))
 refine k_lconst X0 hx 12 (D d2_11) (z := (0 : Int64)) rfl ?_
 refine k_lstore X0 hx 14 (D d2_12) (Ls' := #[rv a1, iv (0 : Int32), iv (2 : Int32), jv p2, s_, jv (0 : Int64), s_, u_, u_, u_]) rfl ?_
 refine k_iloadN X0 hx 15 (D d2_14) rfl ?_
 refine k_istore X0 hx 17 (D d2_15) (Ls' := #[rv a1, iv (0 : Int32), iv (2 : Int32), jv p2, s_, jv (0 : Int64), s_, iv (0 : Int32), u_, u_]) rfl ?_
 refine k_iload X0 hx 19 (D d2_17) rfl ?_
 refine k_iloadN X0 hx 20 (D d2_19) rfl ?_
 refine k_icmp_ge X0 hx 23 110 (D d2_20) (fun hc => absurd (by decide) hc) (fun _ => ?_)
 refine k_lload X0 hx 25 (D d2_23) rfl ?_
 refine k_lconst X0 hx 26 (D d2_25) (z := (0 : Int64)) rfl ?_
 refine k_lcif_lt X0 hx 30 110 27 (D d2_26) (D d2_27) (fun hc => absurd hc (by decide)) (fun _ => ?_)
 refine k_aloadN X0 hx 31 (D d2_30) rfl rfl ?_
 refine k_iload X0 hx 33 (D d2_31) rfl ?_
 refine k_baload X0 hx hZ 34 e0 F0_0 ⟨by decide, by decide⟩ (v := (.int p4)) rfl (D d2_33) ?_
 refine k_bipush X0 hx 36 (D d2_34) (z := (48 : Int32)) rfl ?_
 refine k_isub X0 hx 37 (D d2_36) (fun v101 hv101 => ?_)
 refine k_istore X0 hx 39 (D d2_37) (Ls' := #[rv a1, iv (0 : Int32), iv (2 : Int32), jv p2, s_, jv (0 : Int64), s_, iv (0 : Int32), iv v101, u_]) rfl ?_
 suffices key102 : ∀ (v194 : Int32), ((v194.toInt = 1 ∧ (0 ≤ v101.toInt ∧ v101.toInt ≤ 9 ∧ 10 * (0) + v101.toInt ≤ p2.toInt)) ∨ (v194.toInt = 0 ∧ ¬ (0 ≤ v101.toInt ∧ v101.toInt ≤ 9 ∧ 10 * (0) + v101.toInt ≤ p2.toInt))) → KEnds p e below s R2_10.cells R2_10.slots (Q2_10 Z a1 p2 k3 p4 p5 p6 p7 p8 h0 n0) s₁ (mkF m 79 #[rv a1, iv (0 : Int32), iv (2 : Int32), jv p2, s_, jv (0 : Int64), s_, iv (0 : Int32), iv v101, u_] [(.int v194)]) by
  refine k_iload X0 hx 41 (D d2_39) rfl ?_
  refine k_if_lt X0 hx 44 78 (D d2_41) (fun hc103 => ?_) (fun hc103 => ?_)
  ·
   refine k_iconst X0 hx 79 (D d2_78) (z := (0 : Int32)) rfl ?_
   refine key102 (0 : Int32) ?_
   have B110 : (0 : Int) ≤ p2.toInt ∧ p2.toInt ≤ 9223372036854775807 := ⟨kL_ge hp0 (by decide), Int.le_of_lt_add_one (rng64 p2).2⟩
   have B111 : (-128 : Int) ≤ p4.toInt ∧ p4.toInt ≤ 127 := ⟨k_ge hp1 (by decide), k_le hp2 (by decide)⟩
   have B114 : (48 : Int) ≤ (48 : Int32).toInt ∧ (48 : Int32).toInt ≤ 48 := (by decide)
   have q113 : v101.toInt = p4.toInt - (48 : Int32).toInt := k_isubx hv101 B111 B114 (by decide) (by decide)
   have B112 : (-176 : Int) ≤ v101.toInt ∧ v101.toInt ≤ 79 := k_subB' q113 B111 B114
   have B115 : (-176 : Int) ≤ v101.toInt ∧ v101.toInt ≤ -1 := ⟨B112.1, k_lt hc103 (by decide)⟩
   exact Or.inr ⟨rfl, by omega⟩
  ·
   refine k_iload X0 hx 46 (D d2_44) rfl ?_
   refine k_bipush X0 hx 48 (D d2_46) (z := (9 : Int32)) rfl ?_
   refine k_icmp_gt X0 hx 51 78 (D d2_48) (fun hc116 => ?_) (fun hc116 => ?_)
   ·
    refine k_iconst X0 hx 79 (D d2_78) (z := (0 : Int32)) rfl ?_
    refine key102 (0 : Int32) ?_
    have B123 : (0 : Int) ≤ p2.toInt ∧ p2.toInt ≤ 9223372036854775807 := ⟨kL_ge hp0 (by decide), Int.le_of_lt_add_one (rng64 p2).2⟩
    have B124 : (-128 : Int) ≤ p4.toInt ∧ p4.toInt ≤ 127 := ⟨k_ge hp1 (by decide), k_le hp2 (by decide)⟩
    have B127 : (48 : Int) ≤ (48 : Int32).toInt ∧ (48 : Int32).toInt ≤ 48 := (by decide)
    have q126 : v101.toInt = p4.toInt - (48 : Int32).toInt := k_isubx hv101 B124 B127 (by decide) (by decide)
    have B125 : (-176 : Int) ≤ v101.toInt ∧ v101.toInt ≤ 79 := k_subB' q126 B124 B127
    have B128 : (10 : Int) ≤ v101.toInt ∧ v101.toInt ≤ 79 := ⟨k_gt hc116 (by decide), B125.2⟩
    exact Or.inr ⟨rfl, by omega⟩
   ·
    refine k_iload X0 hx 53 (D d2_51) rfl ?_
    refine k_i2l X0 hx 54 (D d2_53) (fun v129 hv129 => ?_)
    refine k_lloadN X0 hx 55 (D d2_54) rfl ?_
    refine k_lcif_gt X0 hx 59 78 56 (D d2_55) (D d2_56) (fun hc130 => ?_) (fun hc130 => ?_)
    ·
     refine k_iconst X0 hx 79 (D d2_78) (z := (0 : Int32)) rfl ?_
     refine key102 (0 : Int32) ?_
     have B139 : (0 : Int) ≤ p2.toInt ∧ p2.toInt ≤ 9223372036854775807 := ⟨kL_ge hp0 (by decide), Int.le_of_lt_add_one (rng64 p2).2⟩
     have B140 : (-128 : Int) ≤ p4.toInt ∧ p4.toInt ≤ 127 := ⟨k_ge hp1 (by decide), k_le hp2 (by decide)⟩
     have B143 : (48 : Int) ≤ (48 : Int32).toInt ∧ (48 : Int32).toInt ≤ 48 := (by decide)
     have q142 : v101.toInt = p4.toInt - (48 : Int32).toInt := k_isubx hv101 B140 B143 (by decide) (by decide)
     have B141 : (0 : Int) ≤ v101.toInt ∧ v101.toInt ≤ 9 := ⟨k_ge hc103 (by decide), k_le hc116 (by decide)⟩
     have q145 : v129.toInt = v101.toInt := (by rw [hv129]; exact c_i2l _)
     have B144 : (0 : Int) ≤ v129.toInt ∧ v129.toInt ≤ 9 := (by rw [q145]; exact B141)
     have q146 := hc130; rw [Int64.lt_iff_toInt_lt] at q146
     exact Or.inr ⟨rfl, by omega⟩
    ·
     refine k_lload X0 hx 61 (D d2_59) rfl ?_
     refine k_lloadN X0 hx 62 (D d2_61) rfl ?_
     refine k_iload X0 hx 64 (D d2_62) rfl ?_
     refine k_i2lL X0 hx 65 (D d2_64) (z := v129) hv129.symm ?_
     refine k_lsub X0 hx 66 (D d2_65) (fun v147 hv147 => ?_)
     refine k_ldcL X0 hx hZ hown 69 (k_w hw 12 rfl) (D d2_66) ?_
     refine k_ldiv X0 hx 70 (D d2_69) (by decide) (fun v148 hv148 => ?_)
     have hv0149 : ¬ v148 < 0 := (by intro hq150; have B151 : (0 : Int) ≤ p2.toInt ∧ p2.toInt ≤ 9223372036854775807 := ⟨kL_ge hp0 (by decide), Int.le_of_lt_add_one (rng64 p2).2⟩; have B152 : (-128 : Int) ≤ p4.toInt ∧ p4.toInt ≤ 127 := ⟨k_ge hp1 (by decide), k_le hp2 (by decide)⟩; have B153 : (-128 : Int) ≤ p5.toInt ∧ p5.toInt ≤ 127 := ⟨k_ge hp3 (by decide), k_le hp4 (by decide)⟩; have B156 : (48 : Int) ≤ (48 : Int32).toInt ∧ (48 : Int32).toInt ≤ 48 := (by decide); have q155 : v101.toInt = p4.toInt - (48 : Int32).toInt := k_isubx hv101 B152 B156 (by decide) (by decide); have B154 : (0 : Int) ≤ v101.toInt ∧ v101.toInt ≤ 9 := ⟨k_ge hc103 (by decide), k_le hc116 (by decide)⟩; have q158 : v129.toInt = v101.toInt := (by rw [hv129]; exact c_i2l _); have B157 : (0 : Int) ≤ v129.toInt ∧ v129.toInt ≤ 9 := (by rw [q158]; exact B154); have q159 := hc130; rw [Int64.lt_iff_toInt_lt] at q159; have q162 : (0 ≤ v147.toInt → v148.toInt = v147.toInt / 10) ∧ (v147.toInt < 0 → v148.toInt = -((-v147.toInt) / 10)) := (by rw [hv148]; exact c_ldiv _ _ 10 (by decide) (by decide)); have q164 : v147.toInt = p2.toInt - v129.toInt := k_lsubx hv147 B151 B157 (by decide) (by decide); have B163 : (-9 : Int) ≤ v147.toInt ∧ v147.toInt ≤ 9223372036854775807 := k_subB' q164 B151 B157; have B165 : (10 : Int) ≤ (10 : Int64).toInt ∧ (10 : Int64).toInt ≤ 10 := (by decide); have B160 : (-9223372036854775808 : Int) ≤ v148.toInt ∧ v148.toInt ≤ -1 := ⟨(rng64 v148).1, kL_lt hq150 (by decide)⟩; omega)
     refine k_lcif_gt X0 hx 74 78 71 (D d2_70) (D d2_71) (fun hc => absurd hc hv0149) (fun _ => ?_)
     refine k_iconst X0 hx 75 (D d2_74) (z := (1 : Int32)) rfl ?_
     refine k_goto X0 hx 79 (D d2_75) ?_
     refine key102 (1 : Int32) ?_
     have B180 : (0 : Int) ≤ p2.toInt ∧ p2.toInt ≤ 9223372036854775807 := ⟨kL_ge hp0 (by decide), Int.le_of_lt_add_one (rng64 p2).2⟩
     have B181 : (-128 : Int) ≤ p4.toInt ∧ p4.toInt ≤ 127 := ⟨k_ge hp1 (by decide), k_le hp2 (by decide)⟩
     have B184 : (48 : Int) ≤ (48 : Int32).toInt ∧ (48 : Int32).toInt ≤ 48 := (by decide)
     have q183 : v101.toInt = p4.toInt - (48 : Int32).toInt := k_isubx hv101 B181 B184 (by decide) (by decide)
     have B182 : (0 : Int) ≤ v101.toInt ∧ v101.toInt ≤ 9 := ⟨k_ge hc103 (by decide), k_le hc116 (by decide)⟩
     have q186 : v129.toInt = v101.toInt := (by rw [hv129]; exact c_i2l _)
     have B185 : (0 : Int) ≤ v129.toInt ∧ v129.toInt ≤ 9 := (by rw [q186]; exact B182)
     have q187 := hc130; rw [Int64.lt_iff_toInt_lt] at q187
     have q190 : (0 ≤ v147.toInt → v148.toInt = v147.toInt / 10) ∧ (v147.toInt < 0 → v148.toInt = -((-v147.toInt) / 10)) := (by rw [hv148]; exact c_ldiv _ _ 10 (by decide) (by decide))
     have q192 : v147.toInt = p2.toInt - v129.toInt := k_lsubx hv147 B180 B185 (by decide) (by decide)
     have B191 : (-9 : Int) ≤ v147.toInt ∧ v147.toInt ≤ 9223372036854775807 := k_subB' q192 B180 B185
     have B193 : (10 : Int) ≤ (10 : Int64).toInt ∧ (10 : Int64).toInt ≤ 10 := (by decide)
     have B188 : (0 : Int) ≤ v148.toInt ∧ v148.toInt ≤ 9223372036854775807 := ⟨kL_ge hv0149 (by decide), Int.le_of_lt_add_one (rng64 v148).2⟩
     exact Or.inl ⟨rfl, by omega⟩
 intro v194 hP195
 refine k_istore X0 hx 81 (D d2_79) (Ls' := #[rv a1, iv (0 : Int32), iv (2 : Int32), jv p2, s_, jv (0 : Int64), s_, iv (0 : Int32), iv v101, iv v194]) rfl ?_
 refine k_iload X0 hx 83 (D d2_81) rfl ?_
 refine k_if_eq X0 hx 86 99 (D d2_83) (fun hc196 => ?_) (fun hc196 => ?_)
 ·
  refine k_ldcL X0 hx hZ hown 102 (k_w hw 10 rfl) (D d2_99) ?_
  refine k_lstore X0 hx 104 (D d2_102) (Ls' := #[rv a1, iv (0 : Int32), iv (2 : Int32), jv p2, s_, jv (-1 : Int64), s_, iv (0 : Int32), iv v101, iv v194]) rfl ?_
  refine k_iinc X0 hx 107 (D d2_104) rfl (z := (1 : Int32)) (by decide) (Ls' := #[rv a1, iv (0 : Int32), iv (2 : Int32), jv p2, s_, jv (-1 : Int64), s_, iv (1 : Int32), iv v101, iv v194]) rfl ?_
  refine k_goto X0 hx 17 (D d2_107) ?_
  refine k_iload X0 hx 19 (D d2_17) rfl ?_
  refine k_iloadN X0 hx 20 (D d2_19) rfl ?_
  refine k_icmp_ge X0 hx 23 110 (D d2_20) (fun hc => absurd (by decide) hc) (fun _ => ?_)
  refine k_lload X0 hx 25 (D d2_23) rfl ?_
  refine k_lconst X0 hx 26 (D d2_25) (z := (0 : Int64)) rfl ?_
  refine k_lcif_lt X0 hx 30 110 27 (D d2_26) (D d2_27) (fun _ => ?_) (fun hc => absurd (by decide) hc)
  refine k_lload X0 hx 112 (D d2_110) rfl ?_
  refine k_retL X0 hx hret (D d2_112) hlk (by decide) (by decide) ⟨N0, e0, (-1 : Int64), rfl, ?_⟩
  have hgoal : True := trivial
  have B197 : (0 : Int) ≤ p2.toInt ∧ p2.toInt ≤ 9223372036854775807 := ⟨kL_ge hp0 (by decide), Int.le_of_lt_add_one (rng64 p2).2⟩
  have B198 : (-128 : Int) ≤ p4.toInt ∧ p4.toInt ≤ 127 := ⟨k_ge hp1 (by decide), k_le hp2 (by decide)⟩
  have B199 : (-128 : Int) ≤ p5.toInt ∧ p5.toInt ≤ 127 := ⟨k_ge hp3 (by decide), k_le hp4 (by decide)⟩
  have B200 : (-2147483648 : Int) ≤ v194.toInt ∧ v194.toInt ≤ 2147483647 := ⟨(rng32 v194).1, Int.le_of_lt_add_one (rng32 v194).2⟩
  have B203 : (0 : Int) ≤ (0 : Int32).toInt ∧ (0 : Int32).toInt ≤ 0 := (by decide)
  have q204 := congrArg Int32.toInt hc196
  have B205 : (-1 : Int) ≤ (-1 : Int64).toInt ∧ (-1 : Int64).toInt ≤ -1 := (by decide)
  have B208 : (48 : Int) ≤ (48 : Int32).toInt ∧ (48 : Int32).toInt ≤ 48 := (by decide)
  have q207 : v101.toInt = p4.toInt - (48 : Int32).toInt := k_isubx hv101 B198 B208 (by decide) (by decide)
  have B206 : (-176 : Int) ≤ v101.toInt ∧ v101.toInt ≤ 79 := k_subB' q207 B198 B208
  refine ⟨fun hg => ?_, fun hg => ?_⟩ <;> omega
 ·
  refine k_ldcL X0 hx hZ hown 89 (k_w hw 12 rfl) (D d2_86) ?_
  refine k_lload X0 hx 91 (D d2_89) rfl ?_
  refine k_lmulL X0 hx 92 (D d2_91) (z := (0 : Int64)) (by decide) ?_
  refine k_iload X0 hx 94 (D d2_92) rfl ?_
  refine k_i2l X0 hx 95 (D d2_94) (fun v209 hv209 => ?_)
  refine k_laddL X0 hx 96 (D d2_95) (z := v209) (Int64.zero_add _) ?_
  refine k_goto X0 hx 102 (D d2_96) ?_
  refine k_lstore X0 hx 104 (D d2_102) (Ls' := #[rv a1, iv (0 : Int32), iv (2 : Int32), jv p2, s_, jv v209, s_, iv (0 : Int32), iv v101, iv v194]) rfl ?_
  refine k_iinc X0 hx 107 (D d2_104) rfl (z := (1 : Int32)) (by decide) (Ls' := #[rv a1, iv (0 : Int32), iv (2 : Int32), jv p2, s_, jv v209, s_, iv (1 : Int32), iv v101, iv v194]) rfl ?_
  refine k_goto X0 hx 17 (D d2_107) ?_
  refine k_iload X0 hx 19 (D d2_17) rfl ?_
  refine k_iloadN X0 hx 20 (D d2_19) rfl ?_
  refine k_icmp_ge X0 hx 23 110 (D d2_20) (fun hc => absurd (by decide) hc) (fun _ => ?_)
  refine k_lload X0 hx 25 (D d2_23) rfl ?_
  refine k_lconst X0 hx 26 (D d2_25) (z := (0 : Int64)) rfl ?_
  have hv0210 : ¬ v209 < 0 := (by intro hq211; have B212 : (0 : Int) ≤ p2.toInt ∧ p2.toInt ≤ 9223372036854775807 := ⟨kL_ge hp0 (by decide), Int.le_of_lt_add_one (rng64 p2).2⟩; have B213 : (-128 : Int) ≤ p4.toInt ∧ p4.toInt ≤ 127 := ⟨k_ge hp1 (by decide), k_le hp2 (by decide)⟩; have B214 : (-128 : Int) ≤ p5.toInt ∧ p5.toInt ≤ 127 := ⟨k_ge hp3 (by decide), k_le hp4 (by decide)⟩; have B215 : (-2147483648 : Int) ≤ v194.toInt ∧ v194.toInt ≤ 2147483647 := ⟨(rng32 v194).1, Int.le_of_lt_add_one (rng32 v194).2⟩; have B218 : (0 : Int) ≤ (0 : Int32).toInt ∧ (0 : Int32).toInt ≤ 0 := (by decide); have q219 : ¬ v194.toInt = (0 : Int32).toInt := fun q => hc196 (Int32.toInt_inj.mp q); have B224 : (48 : Int) ≤ (48 : Int32).toInt ∧ (48 : Int32).toInt ≤ 48 := (by decide); have q223 : v101.toInt = p4.toInt - (48 : Int32).toInt := k_isubx hv101 B213 B224 (by decide) (by decide); have B222 : (-176 : Int) ≤ v101.toInt ∧ v101.toInt ≤ 79 := k_subB' q223 B213 B224; have q221 : v209.toInt = v101.toInt := (by rw [hv209]; exact c_i2l _); have B220 : (-176 : Int) ≤ v209.toInt ∧ v209.toInt ≤ 79 := (by rw [q221]; exact B222); have B225 : (-176 : Int) ≤ v209.toInt ∧ v209.toInt ≤ -1 := ⟨B220.1, kL_lt hq211 (by decide)⟩; omega)
  refine k_lcif_lt X0 hx 30 110 27 (D d2_26) (D d2_27) (fun hc => absurd hc hv0210) (fun _ => ?_)
  refine k_aloadN X0 hx 31 (D d2_30) rfl rfl ?_
  refine k_iload X0 hx 33 (D d2_31) rfl ?_
  refine k_baload X0 hx hZ 34 e0 F0_0 ⟨by decide, by decide⟩ (v := (.int p5)) rfl (D d2_33) ?_
  refine k_bipush X0 hx 36 (D d2_34) (z := (48 : Int32)) rfl ?_
  refine k_isub X0 hx 37 (D d2_36) (fun v226 hv226 => ?_)
  refine k_istore X0 hx 39 (D d2_37) (Ls' := #[rv a1, iv (0 : Int32), iv (2 : Int32), jv p2, s_, jv v209, s_, iv (1 : Int32), iv v226, iv v194]) rfl ?_
  suffices key227 : ∀ (v345 : Int32), ((v345.toInt = 1 ∧ (0 ≤ v226.toInt ∧ v226.toInt ≤ 9 ∧ 10 * v209.toInt + v226.toInt ≤ p2.toInt)) ∨ (v345.toInt = 0 ∧ ¬ (0 ≤ v226.toInt ∧ v226.toInt ≤ 9 ∧ 10 * v209.toInt + v226.toInt ≤ p2.toInt))) → KEnds p e below s R2_10.cells R2_10.slots (Q2_10 Z a1 p2 k3 p4 p5 p6 p7 p8 h0 n0) s₁ (mkF m 79 #[rv a1, iv (0 : Int32), iv (2 : Int32), jv p2, s_, jv v209, s_, iv (1 : Int32), iv v226, iv v194] [(.int v345)]) by
   refine k_iload X0 hx 41 (D d2_39) rfl ?_
   refine k_if_lt X0 hx 44 78 (D d2_41) (fun hc228 => ?_) (fun hc228 => ?_)
   ·
    refine k_iconst X0 hx 79 (D d2_78) (z := (0 : Int32)) rfl ?_
    refine key227 (0 : Int32) ?_
    have B236 : (0 : Int) ≤ p2.toInt ∧ p2.toInt ≤ 9223372036854775807 := ⟨kL_ge hp0 (by decide), Int.le_of_lt_add_one (rng64 p2).2⟩
    have B237 : (-128 : Int) ≤ p5.toInt ∧ p5.toInt ≤ 127 := ⟨k_ge hp3 (by decide), k_le hp4 (by decide)⟩
    have B238 : (0 : Int) ≤ v209.toInt ∧ v209.toInt ≤ 9223372036854775807 := ⟨kL_ge hv0210 (by decide), Int.le_of_lt_add_one (rng64 v209).2⟩
    have B241 : (48 : Int) ≤ (48 : Int32).toInt ∧ (48 : Int32).toInt ≤ 48 := (by decide)
    have q240 : v226.toInt = p5.toInt - (48 : Int32).toInt := k_isubx hv226 B237 B241 (by decide) (by decide)
    have B239 : (-176 : Int) ≤ v226.toInt ∧ v226.toInt ≤ 79 := k_subB' q240 B237 B241
    have B242 : (-176 : Int) ≤ v226.toInt ∧ v226.toInt ≤ -1 := ⟨B239.1, k_lt hc228 (by decide)⟩
    exact Or.inr ⟨rfl, by omega⟩
   ·
    refine k_iload X0 hx 46 (D d2_44) rfl ?_
    refine k_bipush X0 hx 48 (D d2_46) (z := (9 : Int32)) rfl ?_
    refine k_icmp_gt X0 hx 51 78 (D d2_48) (fun hc243 => ?_) (fun hc243 => ?_)
    ·
     refine k_iconst X0 hx 79 (D d2_78) (z := (0 : Int32)) rfl ?_
     refine key227 (0 : Int32) ?_
     have B251 : (0 : Int) ≤ p2.toInt ∧ p2.toInt ≤ 9223372036854775807 := ⟨kL_ge hp0 (by decide), Int.le_of_lt_add_one (rng64 p2).2⟩
     have B252 : (-128 : Int) ≤ p5.toInt ∧ p5.toInt ≤ 127 := ⟨k_ge hp3 (by decide), k_le hp4 (by decide)⟩
     have B253 : (0 : Int) ≤ v209.toInt ∧ v209.toInt ≤ 9223372036854775807 := ⟨kL_ge hv0210 (by decide), Int.le_of_lt_add_one (rng64 v209).2⟩
     have B256 : (48 : Int) ≤ (48 : Int32).toInt ∧ (48 : Int32).toInt ≤ 48 := (by decide)
     have q255 : v226.toInt = p5.toInt - (48 : Int32).toInt := k_isubx hv226 B252 B256 (by decide) (by decide)
     have B254 : (-176 : Int) ≤ v226.toInt ∧ v226.toInt ≤ 79 := k_subB' q255 B252 B256
     have B257 : (10 : Int) ≤ v226.toInt ∧ v226.toInt ≤ 79 := ⟨k_gt hc243 (by decide), B254.2⟩
     exact Or.inr ⟨rfl, by omega⟩
    ·
     refine k_iload X0 hx 53 (D d2_51) rfl ?_
     refine k_i2l X0 hx 54 (D d2_53) (fun v258 hv258 => ?_)
     refine k_lloadN X0 hx 55 (D d2_54) rfl ?_
     refine k_lcif_gt X0 hx 59 78 56 (D d2_55) (D d2_56) (fun hc259 => ?_) (fun hc259 => ?_)
     ·
      refine k_iconst X0 hx 79 (D d2_78) (z := (0 : Int32)) rfl ?_
      refine key227 (0 : Int32) ?_
      have B269 : (0 : Int) ≤ p2.toInt ∧ p2.toInt ≤ 9223372036854775807 := ⟨kL_ge hp0 (by decide), Int.le_of_lt_add_one (rng64 p2).2⟩
      have B270 : (-128 : Int) ≤ p5.toInt ∧ p5.toInt ≤ 127 := ⟨k_ge hp3 (by decide), k_le hp4 (by decide)⟩
      have B271 : (0 : Int) ≤ v209.toInt ∧ v209.toInt ≤ 9223372036854775807 := ⟨kL_ge hv0210 (by decide), Int.le_of_lt_add_one (rng64 v209).2⟩
      have B274 : (48 : Int) ≤ (48 : Int32).toInt ∧ (48 : Int32).toInt ≤ 48 := (by decide)
      have q273 : v226.toInt = p5.toInt - (48 : Int32).toInt := k_isubx hv226 B270 B274 (by decide) (by decide)
      have B272 : (0 : Int) ≤ v226.toInt ∧ v226.toInt ≤ 9 := ⟨k_ge hc228 (by decide), k_le hc243 (by decide)⟩
      have q276 : v258.toInt = v226.toInt := (by rw [hv258]; exact c_i2l _)
      have B275 : (0 : Int) ≤ v258.toInt ∧ v258.toInt ≤ 9 := (by rw [q276]; exact B272)
      have q277 := hc259; rw [Int64.lt_iff_toInt_lt] at q277
      exact Or.inr ⟨rfl, by omega⟩
     ·
      refine k_lload X0 hx 61 (D d2_59) rfl ?_
      refine k_lloadN X0 hx 62 (D d2_61) rfl ?_
      refine k_iload X0 hx 64 (D d2_62) rfl ?_
      refine k_i2lL X0 hx 65 (D d2_64) (z := v258) hv258.symm ?_
      refine k_lsub X0 hx 66 (D d2_65) (fun v278 hv278 => ?_)
      refine k_ldcL X0 hx hZ hown 69 (k_w hw 12 rfl) (D d2_66) ?_
      refine k_ldiv X0 hx 70 (D d2_69) (by decide) (fun v279 hv279 => ?_)
      refine k_lcif_gt X0 hx 74 78 71 (D d2_70) (D d2_71) (fun hc280 => ?_) (fun hc280 => ?_)
      ·
       refine k_iconst X0 hx 79 (D d2_78) (z := (0 : Int32)) rfl ?_
       refine key227 (0 : Int32) ?_
       have B297 : (0 : Int) ≤ p2.toInt ∧ p2.toInt ≤ 9223372036854775807 := ⟨kL_ge hp0 (by decide), Int.le_of_lt_add_one (rng64 p2).2⟩
       have B298 : (-128 : Int) ≤ p5.toInt ∧ p5.toInt ≤ 127 := ⟨k_ge hp3 (by decide), k_le hp4 (by decide)⟩
       have B299 : (0 : Int) ≤ v209.toInt ∧ v209.toInt ≤ 9223372036854775807 := ⟨kL_ge hv0210 (by decide), Int.le_of_lt_add_one (rng64 v209).2⟩
       have B302 : (48 : Int) ≤ (48 : Int32).toInt ∧ (48 : Int32).toInt ≤ 48 := (by decide)
       have q301 : v226.toInt = p5.toInt - (48 : Int32).toInt := k_isubx hv226 B298 B302 (by decide) (by decide)
       have B300 : (0 : Int) ≤ v226.toInt ∧ v226.toInt ≤ 9 := ⟨k_ge hc228 (by decide), k_le hc243 (by decide)⟩
       have q304 : v258.toInt = v226.toInt := (by rw [hv258]; exact c_i2l _)
       have B303 : (0 : Int) ≤ v258.toInt ∧ v258.toInt ≤ 9 := (by rw [q304]; exact B300)
       have q305 := hc259; rw [Int64.lt_iff_toInt_lt] at q305
       have q308 : (0 ≤ v278.toInt → v279.toInt = v278.toInt / 10) ∧ (v278.toInt < 0 → v279.toInt = -((-v278.toInt) / 10)) := (by rw [hv279]; exact c_ldiv _ _ 10 (by decide) (by decide))
       have q310 : v278.toInt = p2.toInt - v258.toInt := k_lsubx hv278 B297 B303 (by decide) (by decide)
       have B309 : (-9 : Int) ≤ v278.toInt ∧ v278.toInt ≤ 9223372036854775807 := k_subB' q310 B297 B303
       have B311 : (10 : Int) ≤ (10 : Int64).toInt ∧ (10 : Int64).toInt ≤ 10 := (by decide)
       have B306 : (-9223372036854775808 : Int) ≤ v279.toInt ∧ v279.toInt ≤ 9223372036854775807 := ⟨(rng64 v279).1, Int.le_of_lt_add_one (rng64 v279).2⟩
       have q312 := hc280; rw [Int64.lt_iff_toInt_lt] at q312
       exact Or.inr ⟨rfl, by omega⟩
      ·
       refine k_iconst X0 hx 75 (D d2_74) (z := (1 : Int32)) rfl ?_
       refine k_goto X0 hx 79 (D d2_75) ?_
       refine key227 (1 : Int32) ?_
       have B329 : (0 : Int) ≤ p2.toInt ∧ p2.toInt ≤ 9223372036854775807 := ⟨kL_ge hp0 (by decide), Int.le_of_lt_add_one (rng64 p2).2⟩
       have B330 : (-128 : Int) ≤ p5.toInt ∧ p5.toInt ≤ 127 := ⟨k_ge hp3 (by decide), k_le hp4 (by decide)⟩
       have B331 : (0 : Int) ≤ v209.toInt ∧ v209.toInt ≤ 9223372036854775807 := ⟨kL_ge hv0210 (by decide), Int.le_of_lt_add_one (rng64 v209).2⟩
       have B334 : (48 : Int) ≤ (48 : Int32).toInt ∧ (48 : Int32).toInt ≤ 48 := (by decide)
       have q333 : v226.toInt = p5.toInt - (48 : Int32).toInt := k_isubx hv226 B330 B334 (by decide) (by decide)
       have B332 : (0 : Int) ≤ v226.toInt ∧ v226.toInt ≤ 9 := ⟨k_ge hc228 (by decide), k_le hc243 (by decide)⟩
       have q336 : v258.toInt = v226.toInt := (by rw [hv258]; exact c_i2l _)
       have B335 : (0 : Int) ≤ v258.toInt ∧ v258.toInt ≤ 9 := (by rw [q336]; exact B332)
       have q337 := hc259; rw [Int64.lt_iff_toInt_lt] at q337
       have q340 : (0 ≤ v278.toInt → v279.toInt = v278.toInt / 10) ∧ (v278.toInt < 0 → v279.toInt = -((-v278.toInt) / 10)) := (by rw [hv279]; exact c_ldiv _ _ 10 (by decide) (by decide))
       have q342 : v278.toInt = p2.toInt - v258.toInt := k_lsubx hv278 B329 B335 (by decide) (by decide)
       have B341 : (-9 : Int) ≤ v278.toInt ∧ v278.toInt ≤ 9223372036854775807 := k_subB' q342 B329 B335
       have B343 : (10 : Int) ≤ (10 : Int64).toInt ∧ (10 : Int64).toInt ≤ 10 := (by decide)
       have B338 : (-9223372036854775808 : Int) ≤ v279.toInt ∧ v279.toInt ≤ 9223372036854775807 := ⟨(rng64 v279).1, Int.le_of_lt_add_one (rng64 v279).2⟩
       have q344 := hc280; rw [Int64.lt_iff_toInt_lt] at q344
       exact Or.inl ⟨rfl, by omega⟩
  intro v345 hP346
  refine k_istore X0 hx 81 (D d2_79) (Ls' := #[rv a1, iv (0 : Int32), iv (2 : Int32), jv p2, s_, jv v209, s_, iv (1 : Int32), iv v226, iv v345]) rfl ?_
  refine k_iload X0 hx 83 (D d2_81) rfl ?_
  refine k_if_eq X0 hx 86 99 (D d2_83) (fun hc347 => ?_) (fun hc347 => ?_)
  ·
   refine k_ldcL X0 hx hZ hown 102 (k_w hw 10 rfl) (D d2_99) ?_
   refine k_lstore X0 hx 104 (D d2_102) (Ls' := #[rv a1, iv (0 : Int32), iv (2 : Int32), jv p2, s_, jv (-1 : Int64), s_, iv (1 : Int32), iv v226, iv v345]) rfl ?_
   refine k_iinc X0 hx 107 (D d2_104) rfl (z := (2 : Int32)) (by decide) (Ls' := #[rv a1, iv (0 : Int32), iv (2 : Int32), jv p2, s_, jv (-1 : Int64), s_, iv (2 : Int32), iv v226, iv v345]) rfl ?_
   refine k_goto X0 hx 17 (D d2_107) ?_
   refine k_iload X0 hx 19 (D d2_17) rfl ?_
   refine k_iloadN X0 hx 20 (D d2_19) rfl ?_
   refine k_icmp_ge X0 hx 23 110 (D d2_20) (fun _ => ?_) (fun hc => absurd hc (by decide))
   refine k_lload X0 hx 112 (D d2_110) rfl ?_
   refine k_retL X0 hx hret (D d2_112) hlk (by decide) (by decide) ⟨N0, e0, (-1 : Int64), rfl, ?_⟩
   have hgoal : True := trivial
   have B348 : (0 : Int) ≤ p2.toInt ∧ p2.toInt ≤ 9223372036854775807 := ⟨kL_ge hp0 (by decide), Int.le_of_lt_add_one (rng64 p2).2⟩
   have B349 : (-128 : Int) ≤ p4.toInt ∧ p4.toInt ≤ 127 := ⟨k_ge hp1 (by decide), k_le hp2 (by decide)⟩
   have B350 : (-128 : Int) ≤ p5.toInt ∧ p5.toInt ≤ 127 := ⟨k_ge hp3 (by decide), k_le hp4 (by decide)⟩
   have B351 : (-2147483648 : Int) ≤ v194.toInt ∧ v194.toInt ≤ 2147483647 := ⟨(rng32 v194).1, Int.le_of_lt_add_one (rng32 v194).2⟩
   have B354 : (0 : Int) ≤ (0 : Int32).toInt ∧ (0 : Int32).toInt ≤ 0 := (by decide)
   have q355 : ¬ v194.toInt = (0 : Int32).toInt := fun q => hc196 (Int32.toInt_inj.mp q)
   have B360 : (48 : Int) ≤ (48 : Int32).toInt ∧ (48 : Int32).toInt ≤ 48 := (by decide)
   have q359 : v101.toInt = p4.toInt - (48 : Int32).toInt := k_isubx hv101 B349 B360 (by decide) (by decide)
   have B358 : (-176 : Int) ≤ v101.toInt ∧ v101.toInt ≤ 79 := k_subB' q359 B349 B360
   have q357 : v209.toInt = v101.toInt := (by rw [hv209]; exact c_i2l _)
   have B356 : (-176 : Int) ≤ v209.toInt ∧ v209.toInt ≤ 79 := (by rw [q357]; exact B358)
   have B361 : (0 : Int) ≤ v209.toInt ∧ v209.toInt ≤ 79 := ⟨kL_ge hv0210 (by decide), B356.2⟩
   have B362 : (-2147483648 : Int) ≤ v345.toInt ∧ v345.toInt ≤ 2147483647 := ⟨(rng32 v345).1, Int.le_of_lt_add_one (rng32 v345).2⟩
   have q365 := congrArg Int32.toInt hc347
   have B366 : (-1 : Int) ≤ (-1 : Int64).toInt ∧ (-1 : Int64).toInt ≤ -1 := (by decide)
   have q368 : v226.toInt = p5.toInt - (48 : Int32).toInt := k_isubx hv226 B350 B360 (by decide) (by decide)
   have B367 : (-176 : Int) ≤ v226.toInt ∧ v226.toInt ≤ 79 := k_subB' q368 B350 B360
   refine ⟨fun hg => ?_, fun hg => ?_⟩ <;> omega
  ·
   refine k_ldcL X0 hx hZ hown 89 (k_w hw 12 rfl) (D d2_86) ?_
   refine k_lload X0 hx 91 (D d2_89) rfl ?_
   refine k_lmul X0 hx 92 (D d2_91) (fun v369 hv369 => ?_)
   refine k_iload X0 hx 94 (D d2_92) rfl ?_
   refine k_i2l X0 hx 95 (D d2_94) (fun v370 hv370 => ?_)
   refine k_ladd X0 hx 96 (D d2_95) (fun v371 hv371 => ?_)
   refine k_goto X0 hx 102 (D d2_96) ?_
   refine k_lstore X0 hx 104 (D d2_102) (Ls' := #[rv a1, iv (0 : Int32), iv (2 : Int32), jv p2, s_, jv v371, s_, iv (1 : Int32), iv v226, iv v345]) rfl ?_
   refine k_iinc X0 hx 107 (D d2_104) rfl (z := (2 : Int32)) (by decide) (Ls' := #[rv a1, iv (0 : Int32), iv (2 : Int32), jv p2, s_, jv v371, s_, iv (2 : Int32), iv v226, iv v345]) rfl ?_
   refine k_goto X0 hx 17 (D d2_107) ?_
   refine k_iload X0 hx 19 (D d2_17) rfl ?_
   refine k_iloadN X0 hx 20 (D d2_19) rfl ?_
   refine k_icmp_ge X0 hx 23 110 (D d2_20) (fun _ => ?_) (fun hc => absurd hc (by decide))
   refine k_lload X0 hx 112 (D d2_110) rfl ?_
   refine k_retL X0 hx hret (D d2_112) hlk (by decide) (by decide) ⟨N0, e0, v371, rfl, ?_⟩
   have hgoal : True := trivial
   have B372 : (0 : Int) ≤ p2.toInt ∧ p2.toInt ≤ 9223372036854775807 := ⟨kL_ge hp0 (by decide), Int.le_of_lt_add_one (rng64 p2).2⟩
   have B373 : (-128 : Int) ≤ p4.toInt ∧ p4.toInt ≤ 127 := ⟨k_ge hp1 (by decide), k_le hp2 (by decide)⟩
   have B374 : (-128 : Int) ≤ p5.toInt ∧ p5.toInt ≤ 127 := ⟨k_ge hp3 (by decide), k_le hp4 (by decide)⟩
   have B375 : (-2147483648 : Int) ≤ v194.toInt ∧ v194.toInt ≤ 2147483647 := ⟨(rng32 v194).1, Int.le_of_lt_add_one (rng32 v194).2⟩
   have B378 : (0 : Int) ≤ (0 : Int32).toInt ∧ (0 : Int32).toInt ≤ 0 := (by decide)
   have q379 : ¬ v194.toInt = (0 : Int32).toInt := fun q => hc196 (Int32.toInt_inj.mp q)
   have B384 : (48 : Int) ≤ (48 : Int32).toInt ∧ (48 : Int32).toInt ≤ 48 := (by decide)
   have q383 : v101.toInt = p4.toInt - (48 : Int32).toInt := k_isubx hv101 B373 B384 (by decide) (by decide)
   have B382 : (-176 : Int) ≤ v101.toInt ∧ v101.toInt ≤ 79 := k_subB' q383 B373 B384
   have q381 : v209.toInt = v101.toInt := (by rw [hv209]; exact c_i2l _)
   have B380 : (-176 : Int) ≤ v209.toInt ∧ v209.toInt ≤ 79 := (by rw [q381]; exact B382)
   have B385 : (0 : Int) ≤ v209.toInt ∧ v209.toInt ≤ 79 := ⟨kL_ge hv0210 (by decide), B380.2⟩
   have B386 : (-2147483648 : Int) ≤ v345.toInt ∧ v345.toInt ≤ 2147483647 := ⟨(rng32 v345).1, Int.le_of_lt_add_one (rng32 v345).2⟩
   have q389 : ¬ v345.toInt = (0 : Int32).toInt := fun q => hc347 (Int32.toInt_inj.mp q)
   have B394 : (10 : Int) ≤ (10 : Int64).toInt ∧ (10 : Int64).toInt ≤ 10 := (by decide)
   have q393 : v369.toInt = 10 * v209.toInt := (by have q0 := c_lmul (10 : Int64) v209; have q1 := rng64 v369; have q2 := B385; rw [← hv369] at q0; rw [show (10 : Int64).toInt = 10 from (by decide)] at q0; omega)
   have B392 : (0 : Int) ≤ v369.toInt ∧ v369.toInt ≤ 790 := (by rw [q393]; exact k_mulB B385 (by decide))
   have q398 : v226.toInt = p5.toInt - (48 : Int32).toInt := k_isubx hv226 B374 B384 (by decide) (by decide)
   have B397 : (-176 : Int) ≤ v226.toInt ∧ v226.toInt ≤ 79 := k_subB' q398 B374 B384
   have q396 : v370.toInt = v226.toInt := (by rw [hv370]; exact c_i2l _)
   have B395 : (-176 : Int) ≤ v370.toInt ∧ v370.toInt ≤ 79 := (by rw [q396]; exact B397)
   have q391 : v371.toInt = v369.toInt + v370.toInt := k_laddx hv371 B392 B395 (by decide) (by decide)
   have B390 : (-176 : Int) ≤ v371.toInt ∧ v371.toInt ≤ 869 := k_addB q391 B392 B395
   refine ⟨fun hg => ?_, fun hg => ?_⟩ <;> omega
abbrev R2_11 : Room := { frames := 0, cells := 0, slots := 0, locals := 0 }
def Q2_11 (Z : State) (a1 : Addr) (p2 : Int64) (k3 : ClassId) (p4 : Int32) (p5 : Int32) (p6 : Int32) (p7 : Int32) (p8 : Int32) (h0 : Heap) (n0 : Nat) (v : Option Value) (h : Heap) (L : List Loc) : Prop := Fr n0 L ∧ h = h0 ∧ ∃ r : Int64, v = some (.long r) ∧ (((48 ≤ p4.toInt ∧ p4.toInt ≤ 57) ∧ (48 ≤ p5.toInt ∧ p5.toInt ≤ 57) ∧ (48 ≤ p6.toInt ∧ p6.toInt ≤ 57) ∧ 100 * (p4.toInt - 48) + 10 * (p5.toInt - 48) + 1 * (p6.toInt - 48) ≤ p2.toInt) → r.toInt = 100 * (p4.toInt - 48) + 10 * (p5.toInt - 48) + 1 * (p6.toInt - 48)) ∧ (¬ ((48 ≤ p4.toInt ∧ p4.toInt ≤ 57) ∧ (48 ≤ p5.toInt ∧ p5.toInt ≤ 57) ∧ (48 ≤ p6.toInt ∧ p6.toInt ≤ 57) ∧ 100 * (p4.toInt - 48) + 10 * (p5.toInt - 48) + 1 * (p6.toInt - 48) ≤ p2.toInt) → r.toInt = -1)
theorem ef2_11 (m : MethodId) (x0 : Addr) (x3 : Int64) : entryFrame m #[(.ref x0), (.int (0 : Int32)), (.int (3 : Int32)), (.long x3)] 10 = mkF m 0 #[.val (.ref x0), .val (.int (0 : Int32)), .val (.int (3 : Int32)), .val (.long x3), .second, .unset, .unset, .unset, .unset, .unset] [] := by first | (simp [entryFrame, mkF, argsToLocals, Value.category]; done) | rfl
set_option maxRecDepth 65536 in
set_option maxHeartbeats 40000000 in
theorem rm2_11 (l : Launch) (Z : State) (a0 : Array Value) (hw : ∀ d ∈ tables_1, d.before a0 Z = true) (ws : List Jvm.Cond) (a1 : Addr) (p2 : Int64) (k3 : ClassId) (p4 : Int32) (p5 : Int32) (p6 : Int32) (p7 : Int32) (p8 : Int32) (h0 : Heap) (n0 : Nat) (Z0 : n0 ≤ h0.size) (F0_0 : Arv Z h0 a1 k3 .byte (5 : Int32) [(.int p4), (.int p5), (.int p6), (.int p7), (.int p8)] (.int (0 : Int32))) (hp0 : ¬ p2 < (0 : Int64)) (hp1 : ¬ p4 < (-128 : Int32)) (hp2 : ¬ (127 : Int32) < p4) (hp3 : ¬ p5 < (-128 : Int32)) (hp4 : ¬ (127 : Int32) < p5) (hp5 : ¬ p6 < (-128 : Int32)) (hp6 : ¬ (127 : Int32) < p6) :
    KMet l (⟨"com/example/knotcut/knotcut/core/InputFields", "wholeNumber", "([BIIJ)J"⟩ : MethodName) prog_44_method_6_code 10 (some .long) ws R2_11 #[(.ref a1), (.int (0 : Int32)), (.int (3 : Int32)), (.long p2)] Z h0 R2_11.cells R2_11.slots (Q2_11 Z a1 p2 k3 p4 p5 p6 p7 p8 h0 n0) := by
 refine k_body (plainFor_of_name pn_1) (fun m => ef2_11 m a1 p2) ?_
 intro p e s m below meth c s₁ hx D hml hlk hret hown hnm hZ X0 e0
 have N0 := Fr.nil n0
 refine k_iloadN X0 hx 1 (D d2_0) rfl ?_
 refine k_iloadN X0 hx 2 (D d2_1) rfl ?_
 refine k_icmp_ne X0 hx 5 11 (D d2_2) (fun _ => ?_) (fun hc => absurd hc (by decide))
 refine k_lconst X0 hx 12 (D d2_11) (z := (0 : Int64)) rfl ?_
 refine k_lstore X0 hx 14 (D d2_12) (Ls' := #[rv a1, iv (0 : Int32), iv (3 : Int32), jv p2, s_, jv (0 : Int64), s_, u_, u_, u_]) rfl ?_
 refine k_iloadN X0 hx 15 (D d2_14) rfl ?_
 refine k_istore X0 hx 17 (D d2_15) (Ls' := #[rv a1, iv (0 : Int32), iv (3 : Int32), jv p2, s_, jv (0 : Int64), s_, iv (0 : Int32), u_, u_]) rfl ?_
 refine k_iload X0 hx 19 (D d2_17) rfl ?_
 refine k_iloadN X0 hx 20 (D d2_19) rfl ?_
 refine k_icmp_ge X0 hx 23 110 (D d2_20) (fun hc => absurd (by decide) hc) (fun _ => ?_)
 refine k_lload X0 hx 25 (D d2_23) rfl ?_
 refine k_lconst X0 hx 26 (D d2_25) (z := (0 : Int64)) rfl ?_
 refine k_lcif_lt X0 hx 30 110 27 (D d2_26) (D d2_27) (fun hc => absurd hc (by decide)) (fun _ => ?_)
 refine k_aloadN X0 hx 31 (D d2_30) rfl rfl ?_
 refine k_iload X0 hx 33 (D d2_31) rfl ?_
 refine k_baload X0 hx hZ 34 e0 F0_0 ⟨by decide, by decide⟩ (v := (.int p4)) rfl (D d2_33) ?_
 refine k_bipush X0 hx 36 (D d2_34) (z := (48 : Int32)) rfl ?_
 refine k_isub X0 hx 37 (D d2_36) (fun v101 hv101 => ?_)
 refine k_istore X0 hx 39 (D d2_37) (Ls' := #[rv a1, iv (0 : Int32), iv (3 : Int32), jv p2, s_, jv (0 : Int64), s_, iv (0 : Int32), iv v101, u_]) rfl ?_
 suffices key102 : ∀ (v195 : Int32), ((v195.toInt = 1 ∧ (0 ≤ v101.toInt ∧ v101.toInt ≤ 9 ∧ 10 * (0) + v101.toInt ≤ p2.toInt)) ∨ (v195.toInt = 0 ∧ ¬ (0 ≤ v101.toInt ∧ v101.toInt ≤ 9 ∧ 10 * (0) + v101.toInt ≤ p2.toInt))) → KEnds p e below s R2_11.cells R2_11.slots (Q2_11 Z a1 p2 k3 p4 p5 p6 p7 p8 h0 n0) s₁ (mkF m 79 #[rv a1, iv (0 : Int32), iv (3 : Int32), jv p2, s_, jv (0 : Int64), s_, iv (0 : Int32), iv v101, u_] [(.int v195)]) by
  refine k_iload X0 hx 41 (D d2_39) rfl ?_
  refine k_if_lt X0 hx 44 78 (D d2_41) (fun hc103 => ?_) (fun hc103 => ?_)
  ·
   refine k_iconst X0 hx 79 (D d2_78) (z := (0 : Int32)) rfl ?_
   refine key102 (0 : Int32) ?_
   have B110 : (0 : Int) ≤ p2.toInt ∧ p2.toInt ≤ 9223372036854775807 := ⟨kL_ge hp0 (by decide), Int.le_of_lt_add_one (rng64 p2).2⟩
   have B111 : (-128 : Int) ≤ p4.toInt ∧ p4.toInt ≤ 127 := ⟨k_ge hp1 (by decide), k_le hp2 (by decide)⟩
   have B114 : (48 : Int) ≤ (48 : Int32).toInt ∧ (48 : Int32).toInt ≤ 48 := (by decide)
   have q113 : v101.toInt = p4.toInt - (48 : Int32).toInt := k_isubx hv101 B111 B114 (by decide) (by decide)
   have B112 : (-176 : Int) ≤ v101.toInt ∧ v101.toInt ≤ 79 := k_subB' q113 B111 B114
   have B115 : (-176 : Int) ≤ v101.toInt ∧ v101.toInt ≤ -1 := ⟨B112.1, k_lt hc103 (by decide)⟩
   exact Or.inr ⟨rfl, by omega⟩
  ·
   refine k_iload X0 hx 46 (D d2_44) rfl ?_
   refine k_bipush X0 hx 48 (D d2_46) (z := (9 : Int32)) rfl ?_
   refine k_icmp_gt X0 hx 51 78 (D d2_48) (fun hc116 => ?_) (fun hc116 => ?_)
   ·
    refine k_iconst X0 hx 79 (D d2_78) (z := (0 : Int32)) rfl ?_
    refine key102 (0 : Int32) ?_
    have B123 : (0 : Int) ≤ p2.toInt ∧ p2.toInt ≤ 9223372036854775807 := ⟨kL_ge hp0 (by decide), Int.le_of_lt_add_one (rng64 p2).2⟩
    have B124 : (-128 : Int) ≤ p4.toInt ∧ p4.toInt ≤ 127 := ⟨k_ge hp1 (by decide), k_le hp2 (by decide)⟩
    have B127 : (48 : Int) ≤ (48 : Int32).toInt ∧ (48 : Int32).toInt ≤ 48 := (by decide)
    have q126 : v101.toInt = p4.toInt - (48 : Int32).toInt := k_isubx hv101 B124 B127 (by decide) (by decide)
    have B125 : (-176 : Int) ≤ v101.toInt ∧ v101.toInt ≤ 79 := k_subB' q126 B124 B127
    have B128 : (10 : Int) ≤ v101.toInt ∧ v101.toInt ≤ 79 := ⟨k_gt hc116 (by decide), B125.2⟩
    exact Or.inr ⟨rfl, by omega⟩
   ·
    refine k_iload X0 hx 53 (D d2_51) rfl ?_
    refine k_i2l X0 hx 54 (D d2_53) (fun v129 hv129 => ?_)
    refine k_lloadN X0 hx 55 (D d2_54) rfl ?_
    refine k_lcif_gt X0 hx 59 78 56 (D d2_55) (D d2_56) (fun hc130 => ?_) (fun hc130 => ?_)
    ·
     refine k_iconst X0 hx 79 (D d2_78) (z := (0 : Int32)) rfl ?_
     refine key102 (0 : Int32) ?_
     have B139 : (0 : Int) ≤ p2.toInt ∧ p2.toInt ≤ 9223372036854775807 := ⟨kL_ge hp0 (by decide), Int.le_of_lt_add_one (rng64 p2).2⟩
     have B140 : (-128 : Int) ≤ p4.toInt ∧ p4.toInt ≤ 127 := ⟨k_ge hp1 (by decide), k_le hp2 (by decide)⟩
     have B143 : (48 : Int) ≤ (48 : Int32).toInt ∧ (48 : Int32).toInt ≤ 48 := (by decide)
     have q142 : v101.toInt = p4.toInt - (48 : Int32).toInt := k_isubx hv101 B140 B143 (by decide) (by decide)
     have B141 : (0 : Int) ≤ v101.toInt ∧ v101.toInt ≤ 9 := ⟨k_ge hc103 (by decide), k_le hc116 (by decide)⟩
     have q145 : v129.toInt = v101.toInt := (by rw [hv129]; exact c_i2l _)
     have B144 : (0 : Int) ≤ v129.toInt ∧ v129.toInt ≤ 9 := (by rw [q145]; exact B141)
     have q146 := hc130; rw [Int64.lt_iff_toInt_lt] at q146
     exact Or.inr ⟨rfl, by omega⟩
    ·
     refine k_lload X0 hx 61 (D d2_59) rfl ?_
     refine k_lloadN X0 hx 62 (D d2_61) rfl ?_
     refine k_iload X0 hx 64 (D d2_62) rfl ?_
     refine k_i2lL X0 hx 65 (D d2_64) (z := v129) hv129.symm ?_
     refine k_lsub X0 hx 66 (D d2_65) (fun v147 hv147 => ?_)
     refine k_ldcL X0 hx hZ hown 69 (k_w hw 12 rfl) (D d2_66) ?_
     refine k_ldiv X0 hx 70 (D d2_69) (by decide) (fun v148 hv148 => ?_)
     have hv0149 : ¬ v148 < 0 := (by intro hq150; have B151 : (0 : Int) ≤ p2.toInt ∧ p2.toInt ≤ 9223372036854775807 := ⟨kL_ge hp0 (by decide), Int.le_of_lt_add_one (rng64 p2).2⟩; have B152 : (-128 : Int) ≤ p4.toInt ∧ p4.toInt ≤ 127 := ⟨k_ge hp1 (by decide), k_le hp2 (by decide)⟩; have B153 : (-128 : Int) ≤ p5.toInt ∧ p5.toInt ≤ 127 := ⟨k_ge hp3 (by decide), k_le hp4 (by decide)⟩; have B154 : (-128 : Int) ≤ p6.toInt ∧ p6.toInt ≤ 127 := ⟨k_ge hp5 (by decide), k_le hp6 (by decide)⟩; have B157 : (48 : Int) ≤ (48 : Int32).toInt ∧ (48 : Int32).toInt ≤ 48 := (by decide); have q156 : v101.toInt = p4.toInt - (48 : Int32).toInt := k_isubx hv101 B152 B157 (by decide) (by decide); have B155 : (0 : Int) ≤ v101.toInt ∧ v101.toInt ≤ 9 := ⟨k_ge hc103 (by decide), k_le hc116 (by decide)⟩; have q159 : v129.toInt = v101.toInt := (by rw [hv129]; exact c_i2l _); have B158 : (0 : Int) ≤ v129.toInt ∧ v129.toInt ≤ 9 := (by rw [q159]; exact B155); have q160 := hc130; rw [Int64.lt_iff_toInt_lt] at q160; have q163 : (0 ≤ v147.toInt → v148.toInt = v147.toInt / 10) ∧ (v147.toInt < 0 → v148.toInt = -((-v147.toInt) / 10)) := (by rw [hv148]; exact c_ldiv _ _ 10 (by decide) (by decide)); have q165 : v147.toInt = p2.toInt - v129.toInt := k_lsubx hv147 B151 B158 (by decide) (by decide); have B164 : (-9 : Int) ≤ v147.toInt ∧ v147.toInt ≤ 9223372036854775807 := k_subB' q165 B151 B158; have B166 : (10 : Int) ≤ (10 : Int64).toInt ∧ (10 : Int64).toInt ≤ 10 := (by decide); have B161 : (-9223372036854775808 : Int) ≤ v148.toInt ∧ v148.toInt ≤ -1 := ⟨(rng64 v148).1, kL_lt hq150 (by decide)⟩; omega)
     refine k_lcif_gt X0 hx 74 78 71 (D d2_70) (D d2_71) (fun hc => absurd hc hv0149) (fun _ => ?_)
     refine k_iconst X0 hx 75 (D d2_74) (z := (1 : Int32)) rfl ?_
     refine k_goto X0 hx 79 (D d2_75) ?_
     refine key102 (1 : Int32) ?_
     have B181 : (0 : Int) ≤ p2.toInt ∧ p2.toInt ≤ 9223372036854775807 := ⟨kL_ge hp0 (by decide), Int.le_of_lt_add_one (rng64 p2).2⟩
     have B182 : (-128 : Int) ≤ p4.toInt ∧ p4.toInt ≤ 127 := ⟨k_ge hp1 (by decide), k_le hp2 (by decide)⟩
     have B185 : (48 : Int) ≤ (48 : Int32).toInt ∧ (48 : Int32).toInt ≤ 48 := (by decide)
     have q184 : v101.toInt = p4.toInt - (48 : Int32).toInt := k_isubx hv101 B182 B185 (by decide) (by decide)
     have B183 : (0 : Int) ≤ v101.toInt ∧ v101.toInt ≤ 9 := ⟨k_ge hc103 (by decide), k_le hc116 (by decide)⟩
     have q187 : v129.toInt = v101.toInt := (by rw [hv129]; exact c_i2l _)
     have B186 : (0 : Int) ≤ v129.toInt ∧ v129.toInt ≤ 9 := (by rw [q187]; exact B183)
     have q188 := hc130; rw [Int64.lt_iff_toInt_lt] at q188
     have q191 : (0 ≤ v147.toInt → v148.toInt = v147.toInt / 10) ∧ (v147.toInt < 0 → v148.toInt = -((-v147.toInt) / 10)) := (by rw [hv148]; exact c_ldiv _ _ 10 (by decide) (by decide))
     have q193 : v147.toInt = p2.toInt - v129.toInt := k_lsubx hv147 B181 B186 (by decide) (by decide)
     have B192 : (-9 : Int) ≤ v147.toInt ∧ v147.toInt ≤ 9223372036854775807 := k_subB' q193 B181 B186
     have B194 : (10 : Int) ≤ (10 : Int64).toInt ∧ (10 : Int64).toInt ≤ 10 := (by decide)
     have B189 : (0 : Int) ≤ v148.toInt ∧ v148.toInt ≤ 9223372036854775807 := ⟨kL_ge hv0149 (by decide), Int.le_of_lt_add_one (rng64 v148).2⟩
     exact Or.inl ⟨rfl, by omega⟩
 intro v195 hP196
 refine k_istore X0 hx 81 (D d2_79) (Ls' := #[rv a1, iv (0 : Int32), iv (3 : Int32), jv p2, s_, jv (0 : Int64), s_, iv (0 : Int32), iv v101, iv v195]) rfl ?_
 refine k_iload X0 hx 83 (D d2_81) rfl ?_
 refine k_if_eq X0 hx 86 99 (D d2_83) (fun hc197 => ?_) (fun hc197 => ?_)
 ·
  refine k_ldcL X0 hx hZ hown 102 (k_w hw 10 rfl) (D d2_99) ?_
  refine k_lstore X0 hx 104 (D d2_102) (Ls' := #[rv a1, iv (0 : Int32), iv (3 : Int32), jv p2, s_, jv (-1 : Int64), s_, iv (0 : Int32), iv v101, iv v195]) rfl ?_
  refine k_iinc X0 hx 107 (D d2_104) rfl (z := (1 : Int32)) (by decide) (Ls' := #[rv a1, iv (0 : Int32), iv (3 : Int32), jv p2, s_, jv (-1 : Int64), s_, iv (1 : Int32), iv v101, iv v195]) rfl ?_
  refine k_goto X0 hx 17 (D d2_107) ?_
  refine k_iload X0 hx 19 (D d2_17) rfl ?_
  refine k_iloadN X0 hx 20 (D d2_19) rfl ?_
  refine k_icmp_ge X0 hx 23 110 (D d2_20) (fun hc => absurd (by decide) hc) (fun _ => ?_)
  refine k_lload X0 hx 25 (D d2_23) rfl ?_
  refine k_lconst X0 hx 26 (D d2_25) (z := (0 : Int64)) rfl ?_
  refine k_lcif_lt X0 hx 30 110 27 (D d2_26) (D d2_27) (fun _ => ?_) (fun hc => absurd (by decide) hc)
  refine k_lload X0 hx 112 (D d2_110) rfl ?_
  refine k_retL X0 hx hret (D d2_112) hlk (by decide) (by decide) ⟨N0, e0, (-1 : Int64), rfl, ?_⟩
  have hgoal : True := trivial
  have B198 : (0 : Int) ≤ p2.toInt ∧ p2.toInt ≤ 9223372036854775807 := ⟨kL_ge hp0 (by decide), Int.le_of_lt_add_one (rng64 p2).2⟩
  have B199 : (-128 : Int) ≤ p4.toInt ∧ p4.toInt ≤ 127 := ⟨k_ge hp1 (by decide), k_le hp2 (by decide)⟩
  have B200 : (-128 : Int) ≤ p5.toInt ∧ p5.toInt ≤ 127 := ⟨k_ge hp3 (by decide), k_le hp4 (by decide)⟩
  have B201 : (-128 : Int) ≤ p6.toInt ∧ p6.toInt ≤ 127 := ⟨k_ge hp5 (by decide), k_le hp6 (by decide)⟩
  have B202 : (-2147483648 : Int) ≤ v195.toInt ∧ v195.toInt ≤ 2147483647 := ⟨(rng32 v195).1, Int.le_of_lt_add_one (rng32 v195).2⟩
  have B205 : (0 : Int) ≤ (0 : Int32).toInt ∧ (0 : Int32).toInt ≤ 0 := (by decide)
  have q206 := congrArg Int32.toInt hc197
  have B207 : (-1 : Int) ≤ (-1 : Int64).toInt ∧ (-1 : Int64).toInt ≤ -1 := (by decide)
  have B210 : (48 : Int) ≤ (48 : Int32).toInt ∧ (48 : Int32).toInt ≤ 48 := (by decide)
  have q209 : v101.toInt = p4.toInt - (48 : Int32).toInt := k_isubx hv101 B199 B210 (by decide) (by decide)
  have B208 : (-176 : Int) ≤ v101.toInt ∧ v101.toInt ≤ 79 := k_subB' q209 B199 B210
  refine ⟨fun hg => ?_, fun hg => ?_⟩ <;> omega
 ·
  refine k_ldcL X0 hx hZ hown 89 (k_w hw 12 rfl) (D d2_86) ?_
  refine k_lload X0 hx 91 (D d2_89) rfl ?_
  refine k_lmulL X0 hx 92 (D d2_91) (z := (0 : Int64)) (by decide) ?_
  refine k_iload X0 hx 94 (D d2_92) rfl ?_
  refine k_i2l X0 hx 95 (D d2_94) (fun v211 hv211 => ?_)
  refine k_laddL X0 hx 96 (D d2_95) (z := v211) (Int64.zero_add _) ?_
  refine k_goto X0 hx 102 (D d2_96) ?_
  refine k_lstore X0 hx 104 (D d2_102) (Ls' := #[rv a1, iv (0 : Int32), iv (3 : Int32), jv p2, s_, jv v211, s_, iv (0 : Int32), iv v101, iv v195]) rfl ?_
  refine k_iinc X0 hx 107 (D d2_104) rfl (z := (1 : Int32)) (by decide) (Ls' := #[rv a1, iv (0 : Int32), iv (3 : Int32), jv p2, s_, jv v211, s_, iv (1 : Int32), iv v101, iv v195]) rfl ?_
  refine k_goto X0 hx 17 (D d2_107) ?_
  refine k_iload X0 hx 19 (D d2_17) rfl ?_
  refine k_iloadN X0 hx 20 (D d2_19) rfl ?_
  refine k_icmp_ge X0 hx 23 110 (D d2_20) (fun hc => absurd (by decide) hc) (fun _ => ?_)
  refine k_lload X0 hx 25 (D d2_23) rfl ?_
  refine k_lconst X0 hx 26 (D d2_25) (z := (0 : Int64)) rfl ?_
  have hv0212 : ¬ v211 < 0 := (by intro hq213; have B214 : (0 : Int) ≤ p2.toInt ∧ p2.toInt ≤ 9223372036854775807 := ⟨kL_ge hp0 (by decide), Int.le_of_lt_add_one (rng64 p2).2⟩; have B215 : (-128 : Int) ≤ p4.toInt ∧ p4.toInt ≤ 127 := ⟨k_ge hp1 (by decide), k_le hp2 (by decide)⟩; have B216 : (-128 : Int) ≤ p5.toInt ∧ p5.toInt ≤ 127 := ⟨k_ge hp3 (by decide), k_le hp4 (by decide)⟩; have B217 : (-128 : Int) ≤ p6.toInt ∧ p6.toInt ≤ 127 := ⟨k_ge hp5 (by decide), k_le hp6 (by decide)⟩; have B218 : (-2147483648 : Int) ≤ v195.toInt ∧ v195.toInt ≤ 2147483647 := ⟨(rng32 v195).1, Int.le_of_lt_add_one (rng32 v195).2⟩; have B221 : (0 : Int) ≤ (0 : Int32).toInt ∧ (0 : Int32).toInt ≤ 0 := (by decide); have q222 : ¬ v195.toInt = (0 : Int32).toInt := fun q => hc197 (Int32.toInt_inj.mp q); have B227 : (48 : Int) ≤ (48 : Int32).toInt ∧ (48 : Int32).toInt ≤ 48 := (by decide); have q226 : v101.toInt = p4.toInt - (48 : Int32).toInt := k_isubx hv101 B215 B227 (by decide) (by decide); have B225 : (-176 : Int) ≤ v101.toInt ∧ v101.toInt ≤ 79 := k_subB' q226 B215 B227; have q224 : v211.toInt = v101.toInt := (by rw [hv211]; exact c_i2l _); have B223 : (-176 : Int) ≤ v211.toInt ∧ v211.toInt ≤ 79 := (by rw [q224]; exact B225); have B228 : (-176 : Int) ≤ v211.toInt ∧ v211.toInt ≤ -1 := ⟨B223.1, kL_lt hq213 (by decide)⟩; omega)
  refine k_lcif_lt X0 hx 30 110 27 (D d2_26) (D d2_27) (fun hc => absurd hc hv0212) (fun _ => ?_)
  refine k_aloadN X0 hx 31 (D d2_30) rfl rfl ?_
  refine k_iload X0 hx 33 (D d2_31) rfl ?_
  refine k_baload X0 hx hZ 34 e0 F0_0 ⟨by decide, by decide⟩ (v := (.int p5)) rfl (D d2_33) ?_
  refine k_bipush X0 hx 36 (D d2_34) (z := (48 : Int32)) rfl ?_
  refine k_isub X0 hx 37 (D d2_36) (fun v229 hv229 => ?_)
  refine k_istore X0 hx 39 (D d2_37) (Ls' := #[rv a1, iv (0 : Int32), iv (3 : Int32), jv p2, s_, jv v211, s_, iv (1 : Int32), iv v229, iv v195]) rfl ?_
  suffices key230 : ∀ (v348 : Int32), ((v348.toInt = 1 ∧ (0 ≤ v229.toInt ∧ v229.toInt ≤ 9 ∧ 10 * v211.toInt + v229.toInt ≤ p2.toInt)) ∨ (v348.toInt = 0 ∧ ¬ (0 ≤ v229.toInt ∧ v229.toInt ≤ 9 ∧ 10 * v211.toInt + v229.toInt ≤ p2.toInt))) → KEnds p e below s R2_11.cells R2_11.slots (Q2_11 Z a1 p2 k3 p4 p5 p6 p7 p8 h0 n0) s₁ (mkF m 79 #[rv a1, iv (0 : Int32), iv (3 : Int32), jv p2, s_, jv v211, s_, iv (1 : Int32), iv v229, iv v195] [(.int v348)]) by
   refine k_iload X0 hx 41 (D d2_39) rfl ?_
   refine k_if_lt X0 hx 44 78 (D d2_41) (fun hc231 => ?_) (fun hc231 => ?_)
   ·
    refine k_iconst X0 hx 79 (D d2_78) (z := (0 : Int32)) rfl ?_
    refine key230 (0 : Int32) ?_
    have B239 : (0 : Int) ≤ p2.toInt ∧ p2.toInt ≤ 9223372036854775807 := ⟨kL_ge hp0 (by decide), Int.le_of_lt_add_one (rng64 p2).2⟩
    have B240 : (-128 : Int) ≤ p5.toInt ∧ p5.toInt ≤ 127 := ⟨k_ge hp3 (by decide), k_le hp4 (by decide)⟩
    have B241 : (0 : Int) ≤ v211.toInt ∧ v211.toInt ≤ 9223372036854775807 := ⟨kL_ge hv0212 (by decide), Int.le_of_lt_add_one (rng64 v211).2⟩
    have B244 : (48 : Int) ≤ (48 : Int32).toInt ∧ (48 : Int32).toInt ≤ 48 := (by decide)
    have q243 : v229.toInt = p5.toInt - (48 : Int32).toInt := k_isubx hv229 B240 B244 (by decide) (by decide)
    have B242 : (-176 : Int) ≤ v229.toInt ∧ v229.toInt ≤ 79 := k_subB' q243 B240 B244
    have B245 : (-176 : Int) ≤ v229.toInt ∧ v229.toInt ≤ -1 := ⟨B242.1, k_lt hc231 (by decide)⟩
    exact Or.inr ⟨rfl, by omega⟩
   ·
    refine k_iload X0 hx 46 (D d2_44) rfl ?_
    refine k_bipush X0 hx 48 (D d2_46) (z := (9 : Int32)) rfl ?_
    refine k_icmp_gt X0 hx 51 78 (D d2_48) (fun hc246 => ?_) (fun hc246 => ?_)
    ·
     refine k_iconst X0 hx 79 (D d2_78) (z := (0 : Int32)) rfl ?_
     refine key230 (0 : Int32) ?_
     have B254 : (0 : Int) ≤ p2.toInt ∧ p2.toInt ≤ 9223372036854775807 := ⟨kL_ge hp0 (by decide), Int.le_of_lt_add_one (rng64 p2).2⟩
     have B255 : (-128 : Int) ≤ p5.toInt ∧ p5.toInt ≤ 127 := ⟨k_ge hp3 (by decide), k_le hp4 (by decide)⟩
     have B256 : (0 : Int) ≤ v211.toInt ∧ v211.toInt ≤ 9223372036854775807 := ⟨kL_ge hv0212 (by decide), Int.le_of_lt_add_one (rng64 v211).2⟩
     have B259 : (48 : Int) ≤ (48 : Int32).toInt ∧ (48 : Int32).toInt ≤ 48 := (by decide)
     have q258 : v229.toInt = p5.toInt - (48 : Int32).toInt := k_isubx hv229 B255 B259 (by decide) (by decide)
     have B257 : (-176 : Int) ≤ v229.toInt ∧ v229.toInt ≤ 79 := k_subB' q258 B255 B259
     have B260 : (10 : Int) ≤ v229.toInt ∧ v229.toInt ≤ 79 := ⟨k_gt hc246 (by decide), B257.2⟩
     exact Or.inr ⟨rfl, by omega⟩
    ·
     refine k_iload X0 hx 53 (D d2_51) rfl ?_
     refine k_i2l X0 hx 54 (D d2_53) (fun v261 hv261 => ?_)
     refine k_lloadN X0 hx 55 (D d2_54) rfl ?_
     refine k_lcif_gt X0 hx 59 78 56 (D d2_55) (D d2_56) (fun hc262 => ?_) (fun hc262 => ?_)
     ·
      refine k_iconst X0 hx 79 (D d2_78) (z := (0 : Int32)) rfl ?_
      refine key230 (0 : Int32) ?_
      have B272 : (0 : Int) ≤ p2.toInt ∧ p2.toInt ≤ 9223372036854775807 := ⟨kL_ge hp0 (by decide), Int.le_of_lt_add_one (rng64 p2).2⟩
      have B273 : (-128 : Int) ≤ p5.toInt ∧ p5.toInt ≤ 127 := ⟨k_ge hp3 (by decide), k_le hp4 (by decide)⟩
      have B274 : (0 : Int) ≤ v211.toInt ∧ v211.toInt ≤ 9223372036854775807 := ⟨kL_ge hv0212 (by decide), Int.le_of_lt_add_one (rng64 v211).2⟩
      have B277 : (48 : Int) ≤ (48 : Int32).toInt ∧ (48 : Int32).toInt ≤ 48 := (by decide)
      have q276 : v229.toInt = p5.toInt - (48 : Int32).toInt := k_isubx hv229 B273 B277 (by decide) (by decide)
      have B275 : (0 : Int) ≤ v229.toInt ∧ v229.toInt ≤ 9 := ⟨k_ge hc231 (by decide), k_le hc246 (by decide)⟩
      have q279 : v261.toInt = v229.toInt := (by rw [hv261]; exact c_i2l _)
      have B278 : (0 : Int) ≤ v261.toInt ∧ v261.toInt ≤ 9 := (by rw [q279]; exact B275)
      have q280 := hc262; rw [Int64.lt_iff_toInt_lt] at q280
      exact Or.inr ⟨rfl, by omega⟩
     ·
      refine k_lload X0 hx 61 (D d2_59) rfl ?_
      refine k_lloadN X0 hx 62 (D d2_61) rfl ?_
      refine k_iload X0 hx 64 (D d2_62) rfl ?_
      refine k_i2lL X0 hx 65 (D d2_64) (z := v261) hv261.symm ?_
      refine k_lsub X0 hx 66 (D d2_65) (fun v281 hv281 => ?_)
      refine k_ldcL X0 hx hZ hown 69 (k_w hw 12 rfl) (D d2_66) ?_
      refine k_ldiv X0 hx 70 (D d2_69) (by decide) (fun v282 hv282 => ?_)
      refine k_lcif_gt X0 hx 74 78 71 (D d2_70) (D d2_71) (fun hc283 => ?_) (fun hc283 => ?_)
      ·
       refine k_iconst X0 hx 79 (D d2_78) (z := (0 : Int32)) rfl ?_
       refine key230 (0 : Int32) ?_
       have B300 : (0 : Int) ≤ p2.toInt ∧ p2.toInt ≤ 9223372036854775807 := ⟨kL_ge hp0 (by decide), Int.le_of_lt_add_one (rng64 p2).2⟩
       have B301 : (-128 : Int) ≤ p5.toInt ∧ p5.toInt ≤ 127 := ⟨k_ge hp3 (by decide), k_le hp4 (by decide)⟩
       have B302 : (0 : Int) ≤ v211.toInt ∧ v211.toInt ≤ 9223372036854775807 := ⟨kL_ge hv0212 (by decide), Int.le_of_lt_add_one (rng64 v211).2⟩
       have B305 : (48 : Int) ≤ (48 : Int32).toInt ∧ (48 : Int32).toInt ≤ 48 := (by decide)
       have q304 : v229.toInt = p5.toInt - (48 : Int32).toInt := k_isubx hv229 B301 B305 (by decide) (by decide)
       have B303 : (0 : Int) ≤ v229.toInt ∧ v229.toInt ≤ 9 := ⟨k_ge hc231 (by decide), k_le hc246 (by decide)⟩
       have q307 : v261.toInt = v229.toInt := (by rw [hv261]; exact c_i2l _)
       have B306 : (0 : Int) ≤ v261.toInt ∧ v261.toInt ≤ 9 := (by rw [q307]; exact B303)
       have q308 := hc262; rw [Int64.lt_iff_toInt_lt] at q308
       have q311 : (0 ≤ v281.toInt → v282.toInt = v281.toInt / 10) ∧ (v281.toInt < 0 → v282.toInt = -((-v281.toInt) / 10)) := (by rw [hv282]; exact c_ldiv _ _ 10 (by decide) (by decide))
       have q313 : v281.toInt = p2.toInt - v261.toInt := k_lsubx hv281 B300 B306 (by decide) (by decide)
       have B312 : (-9 : Int) ≤ v281.toInt ∧ v281.toInt ≤ 9223372036854775807 := k_subB' q313 B300 B306
       have B314 : (10 : Int) ≤ (10 : Int64).toInt ∧ (10 : Int64).toInt ≤ 10 := (by decide)
       have B309 : (-9223372036854775808 : Int) ≤ v282.toInt ∧ v282.toInt ≤ 9223372036854775807 := ⟨(rng64 v282).1, Int.le_of_lt_add_one (rng64 v282).2⟩
       have q315 := hc283; rw [Int64.lt_iff_toInt_lt] at q315
       exact Or.inr ⟨rfl, by omega⟩
      ·
       refine k_iconst X0 hx 75 (D d2_74) (z := (1 : Int32)) rfl ?_
       refine k_goto X0 hx 79 (D d2_75) ?_
       refine key230 (1 : Int32) ?_
       have B332 : (0 : Int) ≤ p2.toInt ∧ p2.toInt ≤ 9223372036854775807 := ⟨kL_ge hp0 (by decide), Int.le_of_lt_add_one (rng64 p2).2⟩
       have B333 : (-128 : Int) ≤ p5.toInt ∧ p5.toInt ≤ 127 := ⟨k_ge hp3 (by decide), k_le hp4 (by decide)⟩
       have B334 : (0 : Int) ≤ v211.toInt ∧ v211.toInt ≤ 9223372036854775807 := ⟨kL_ge hv0212 (by decide), Int.le_of_lt_add_one (rng64 v211).2⟩
       have B337 : (48 : Int) ≤ (48 : Int32).toInt ∧ (48 : Int32).toInt ≤ 48 := (by decide)
       have q336 : v229.toInt = p5.toInt - (48 : Int32).toInt := k_isubx hv229 B333 B337 (by decide) (by decide)
       have B335 : (0 : Int) ≤ v229.toInt ∧ v229.toInt ≤ 9 := ⟨k_ge hc231 (by decide), k_le hc246 (by decide)⟩
       have q339 : v261.toInt = v229.toInt := (by rw [hv261]; exact c_i2l _)
       have B338 : (0 : Int) ≤ v261.toInt ∧ v261.toInt ≤ 9 := (by rw [q339]; exact B335)
       have q340 := hc262; rw [Int64.lt_iff_toInt_lt] at q340
       have q343 : (0 ≤ v281.toInt → v282.toInt = v281.toInt / 10) ∧ (v281.toInt < 0 → v282.toInt = -((-v281.toInt) / 10)) := (by rw [hv282]; exact c_ldiv _ _ 10 (by decide) (by decide))
       have q345 : v281.toInt = p2.toInt - v261.toInt := k_lsubx hv281 B332 B338 (by decide) (by decide)
       have B344 : (-9 : Int) ≤ v281.toInt ∧ v281.toInt ≤ 9223372036854775807 := k_subB' q345 B332 B338
       have B346 : (10 : Int) ≤ (10 : Int64).toInt ∧ (10 : Int64).toInt ≤ 10 := (by decide)
       have B341 : (-9223372036854775808 : Int) ≤ v282.toInt ∧ v282.toInt ≤ 9223372036854775807 := ⟨(rng64 v282).1, Int.le_of_lt_add_one (rng64 v282).2⟩
       have q347 := hc283; rw [Int64.lt_iff_toInt_lt] at q347
       exact Or.inl ⟨rfl, by omega⟩
  intro v348 hP349
  refine k_istore X0 hx 81 (D d2_79) (Ls' := #[rv a1, iv (0 : Int32), iv (3 : Int32), jv p2, s_, jv v211, s_, iv (1 : Int32), iv v229, iv v348]) rfl ?_
  refine k_iload X0 hx 83 (D d2_81) rfl ?_
  refine k_if_eq X0 hx 86 99 (D d2_83) (fun hc350 => ?_) (fun hc350 => ?_)
  ·
   refine k_ldcL X0 hx hZ hown 102 (k_w hw 10 rfl) (D d2_99) ?_
   refine k_lstore X0 hx 104 (D d2_102) (Ls' := #[rv a1, iv (0 : Int32), iv (3 : Int32), jv p2, s_, jv (-1 : Int64), s_, iv (1 : Int32), iv v229, iv v348]) rfl ?_
   refine k_iinc X0 hx 107 (D d2_104) rfl (z := (2 : Int32)) (by decide) (Ls' := #[rv a1, iv (0 : Int32), iv (3 : Int32), jv p2, s_, jv (-1 : Int64), s_, iv (2 : Int32), iv v229, iv v348]) rfl ?_
   refine k_goto X0 hx 17 (D d2_107) ?_
   refine k_iload X0 hx 19 (D d2_17) rfl ?_
   refine k_iloadN X0 hx 20 (D d2_19) rfl ?_
   refine k_icmp_ge X0 hx 23 110 (D d2_20) (fun hc => absurd (by decide) hc) (fun _ => ?_)
   refine k_lload X0 hx 25 (D d2_23) rfl ?_
   refine k_lconst X0 hx 26 (D d2_25) (z := (0 : Int64)) rfl ?_
   refine k_lcif_lt X0 hx 30 110 27 (D d2_26) (D d2_27) (fun _ => ?_) (fun hc => absurd (by decide) hc)
   refine k_lload X0 hx 112 (D d2_110) rfl ?_
   refine k_retL X0 hx hret (D d2_112) hlk (by decide) (by decide) ⟨N0, e0, (-1 : Int64), rfl, ?_⟩
   have hgoal : True := trivial
   have B351 : (0 : Int) ≤ p2.toInt ∧ p2.toInt ≤ 9223372036854775807 := ⟨kL_ge hp0 (by decide), Int.le_of_lt_add_one (rng64 p2).2⟩
   have B352 : (-128 : Int) ≤ p4.toInt ∧ p4.toInt ≤ 127 := ⟨k_ge hp1 (by decide), k_le hp2 (by decide)⟩
   have B353 : (-128 : Int) ≤ p5.toInt ∧ p5.toInt ≤ 127 := ⟨k_ge hp3 (by decide), k_le hp4 (by decide)⟩
   have B354 : (-128 : Int) ≤ p6.toInt ∧ p6.toInt ≤ 127 := ⟨k_ge hp5 (by decide), k_le hp6 (by decide)⟩
   have B355 : (-2147483648 : Int) ≤ v195.toInt ∧ v195.toInt ≤ 2147483647 := ⟨(rng32 v195).1, Int.le_of_lt_add_one (rng32 v195).2⟩
   have B358 : (0 : Int) ≤ (0 : Int32).toInt ∧ (0 : Int32).toInt ≤ 0 := (by decide)
   have q359 : ¬ v195.toInt = (0 : Int32).toInt := fun q => hc197 (Int32.toInt_inj.mp q)
   have B364 : (48 : Int) ≤ (48 : Int32).toInt ∧ (48 : Int32).toInt ≤ 48 := (by decide)
   have q363 : v101.toInt = p4.toInt - (48 : Int32).toInt := k_isubx hv101 B352 B364 (by decide) (by decide)
   have B362 : (-176 : Int) ≤ v101.toInt ∧ v101.toInt ≤ 79 := k_subB' q363 B352 B364
   have q361 : v211.toInt = v101.toInt := (by rw [hv211]; exact c_i2l _)
   have B360 : (-176 : Int) ≤ v211.toInt ∧ v211.toInt ≤ 79 := (by rw [q361]; exact B362)
   have B365 : (0 : Int) ≤ v211.toInt ∧ v211.toInt ≤ 79 := ⟨kL_ge hv0212 (by decide), B360.2⟩
   have B366 : (-2147483648 : Int) ≤ v348.toInt ∧ v348.toInt ≤ 2147483647 := ⟨(rng32 v348).1, Int.le_of_lt_add_one (rng32 v348).2⟩
   have q369 := congrArg Int32.toInt hc350
   have B370 : (-1 : Int) ≤ (-1 : Int64).toInt ∧ (-1 : Int64).toInt ≤ -1 := (by decide)
   have q372 : v229.toInt = p5.toInt - (48 : Int32).toInt := k_isubx hv229 B353 B364 (by decide) (by decide)
   have B371 : (-176 : Int) ≤ v229.toInt ∧ v229.toInt ≤ 79 := k_subB' q372 B353 B364
   refine ⟨fun hg => ?_, fun hg => ?_⟩ <;> omega
  ·
   refine k_ldcL X0 hx hZ hown 89 (k_w hw 12 rfl) (D d2_86) ?_
   refine k_lload X0 hx 91 (D d2_89) rfl ?_
   refine k_lmul X0 hx 92 (D d2_91) (fun v373 hv373 => ?_)
   refine k_iload X0 hx 94 (D d2_92) rfl ?_
   refine k_i2l X0 hx 95 (D d2_94) (fun v374 hv374 => ?_)
   refine k_ladd X0 hx 96 (D d2_95) (fun v375 hv375 => ?_)
   refine k_goto X0 hx 102 (D d2_96) ?_
   refine k_lstore X0 hx 104 (D d2_102) (Ls' := #[rv a1, iv (0 : Int32), iv (3 : Int32), jv p2, s_, jv v375, s_, iv (1 : Int32), iv v229, iv v348]) rfl ?_
   refine k_iinc X0 hx 107 (D d2_104) rfl (z := (2 : Int32)) (by decide) (Ls' := #[rv a1, iv (0 : Int32), iv (3 : Int32), jv p2, s_, jv v375, s_, iv (2 : Int32), iv v229, iv v348]) rfl ?_
   refine k_goto X0 hx 17 (D d2_107) ?_
   refine k_iload X0 hx 19 (D d2_17) rfl ?_
   refine k_iloadN X0 hx 20 (D d2_19) rfl ?_
   refine k_icmp_ge X0 hx 23 110 (D d2_20) (fun hc => absurd (by decide) hc) (fun _ => ?_)
   refine k_lload X0 hx 25 (D d2_23) rfl ?_
   refine k_lconst X0 hx 26 (D d2_25) (z := (0 : Int64)) rfl ?_
   have hv0376 : ¬ v375 < 0 := (by intro hq377; have B378 : (0 : Int) ≤ p2.toInt ∧ p2.toInt ≤ 9223372036854775807 := ⟨kL_ge hp0 (by decide), Int.le_of_lt_add_one (rng64 p2).2⟩; have B379 : (-128 : Int) ≤ p4.toInt ∧ p4.toInt ≤ 127 := ⟨k_ge hp1 (by decide), k_le hp2 (by decide)⟩; have B380 : (-128 : Int) ≤ p5.toInt ∧ p5.toInt ≤ 127 := ⟨k_ge hp3 (by decide), k_le hp4 (by decide)⟩; have B381 : (-128 : Int) ≤ p6.toInt ∧ p6.toInt ≤ 127 := ⟨k_ge hp5 (by decide), k_le hp6 (by decide)⟩; have B382 : (-2147483648 : Int) ≤ v195.toInt ∧ v195.toInt ≤ 2147483647 := ⟨(rng32 v195).1, Int.le_of_lt_add_one (rng32 v195).2⟩; have B385 : (0 : Int) ≤ (0 : Int32).toInt ∧ (0 : Int32).toInt ≤ 0 := (by decide); have q386 : ¬ v195.toInt = (0 : Int32).toInt := fun q => hc197 (Int32.toInt_inj.mp q); have B391 : (48 : Int) ≤ (48 : Int32).toInt ∧ (48 : Int32).toInt ≤ 48 := (by decide); have q390 : v101.toInt = p4.toInt - (48 : Int32).toInt := k_isubx hv101 B379 B391 (by decide) (by decide); have B389 : (-176 : Int) ≤ v101.toInt ∧ v101.toInt ≤ 79 := k_subB' q390 B379 B391; have q388 : v211.toInt = v101.toInt := (by rw [hv211]; exact c_i2l _); have B387 : (-176 : Int) ≤ v211.toInt ∧ v211.toInt ≤ 79 := (by rw [q388]; exact B389); have B392 : (0 : Int) ≤ v211.toInt ∧ v211.toInt ≤ 79 := ⟨kL_ge hv0212 (by decide), B387.2⟩; have B393 : (-2147483648 : Int) ≤ v348.toInt ∧ v348.toInt ≤ 2147483647 := ⟨(rng32 v348).1, Int.le_of_lt_add_one (rng32 v348).2⟩; have q396 : ¬ v348.toInt = (0 : Int32).toInt := fun q => hc350 (Int32.toInt_inj.mp q); have B401 : (10 : Int) ≤ (10 : Int64).toInt ∧ (10 : Int64).toInt ≤ 10 := (by decide); have q400 : v373.toInt = 10 * v211.toInt := (by have q0 := c_lmul (10 : Int64) v211; have q1 := rng64 v373; have q2 := B392; rw [← hv373] at q0; rw [show (10 : Int64).toInt = 10 from (by decide)] at q0; omega); have B399 : (0 : Int) ≤ v373.toInt ∧ v373.toInt ≤ 790 := (by rw [q400]; exact k_mulB B392 (by decide)); have q405 : v229.toInt = p5.toInt - (48 : Int32).toInt := k_isubx hv229 B380 B391 (by decide) (by decide); have B404 : (-176 : Int) ≤ v229.toInt ∧ v229.toInt ≤ 79 := k_subB' q405 B380 B391; have q403 : v374.toInt = v229.toInt := (by rw [hv374]; exact c_i2l _); have B402 : (-176 : Int) ≤ v374.toInt ∧ v374.toInt ≤ 79 := (by rw [q403]; exact B404); have q398 : v375.toInt = v373.toInt + v374.toInt := k_laddx hv375 B399 B402 (by decide) (by decide); have B397 : (-176 : Int) ≤ v375.toInt ∧ v375.toInt ≤ 869 := k_addB q398 B399 B402; have B406 : (-176 : Int) ≤ v375.toInt ∧ v375.toInt ≤ -1 := ⟨B397.1, kL_lt hq377 (by decide)⟩; omega)
   refine k_lcif_lt X0 hx 30 110 27 (D d2_26) (D d2_27) (fun hc => absurd hc hv0376) (fun _ => ?_)
   refine k_aloadN X0 hx 31 (D d2_30) rfl rfl ?_
   refine k_iload X0 hx 33 (D d2_31) rfl ?_
   refine k_baload X0 hx hZ 34 e0 F0_0 ⟨by decide, by decide⟩ (v := (.int p6)) rfl (D d2_33) ?_
   refine k_bipush X0 hx 36 (D d2_34) (z := (48 : Int32)) rfl ?_
   refine k_isub X0 hx 37 (D d2_36) (fun v407 hv407 => ?_)
   refine k_istore X0 hx 39 (D d2_37) (Ls' := #[rv a1, iv (0 : Int32), iv (3 : Int32), jv p2, s_, jv v375, s_, iv (2 : Int32), iv v407, iv v348]) rfl ?_
   suffices key408 : ∀ (v526 : Int32), ((v526.toInt = 1 ∧ (0 ≤ v407.toInt ∧ v407.toInt ≤ 9 ∧ 10 * v375.toInt + v407.toInt ≤ p2.toInt)) ∨ (v526.toInt = 0 ∧ ¬ (0 ≤ v407.toInt ∧ v407.toInt ≤ 9 ∧ 10 * v375.toInt + v407.toInt ≤ p2.toInt))) → KEnds p e below s R2_11.cells R2_11.slots (Q2_11 Z a1 p2 k3 p4 p5 p6 p7 p8 h0 n0) s₁ (mkF m 79 #[rv a1, iv (0 : Int32), iv (3 : Int32), jv p2, s_, jv v375, s_, iv (2 : Int32), iv v407, iv v348] [(.int v526)]) by
    refine k_iload X0 hx 41 (D d2_39) rfl ?_
    refine k_if_lt X0 hx 44 78 (D d2_41) (fun hc409 => ?_) (fun hc409 => ?_)
    ·
     refine k_iconst X0 hx 79 (D d2_78) (z := (0 : Int32)) rfl ?_
     refine key408 (0 : Int32) ?_
     have B417 : (0 : Int) ≤ p2.toInt ∧ p2.toInt ≤ 9223372036854775807 := ⟨kL_ge hp0 (by decide), Int.le_of_lt_add_one (rng64 p2).2⟩
     have B418 : (-128 : Int) ≤ p6.toInt ∧ p6.toInt ≤ 127 := ⟨k_ge hp5 (by decide), k_le hp6 (by decide)⟩
     have B419 : (0 : Int) ≤ v375.toInt ∧ v375.toInt ≤ 9223372036854775807 := ⟨kL_ge hv0376 (by decide), Int.le_of_lt_add_one (rng64 v375).2⟩
     have B422 : (48 : Int) ≤ (48 : Int32).toInt ∧ (48 : Int32).toInt ≤ 48 := (by decide)
     have q421 : v407.toInt = p6.toInt - (48 : Int32).toInt := k_isubx hv407 B418 B422 (by decide) (by decide)
     have B420 : (-176 : Int) ≤ v407.toInt ∧ v407.toInt ≤ 79 := k_subB' q421 B418 B422
     have B423 : (-176 : Int) ≤ v407.toInt ∧ v407.toInt ≤ -1 := ⟨B420.1, k_lt hc409 (by decide)⟩
     exact Or.inr ⟨rfl, by omega⟩
    ·
     refine k_iload X0 hx 46 (D d2_44) rfl ?_
     refine k_bipush X0 hx 48 (D d2_46) (z := (9 : Int32)) rfl ?_
     refine k_icmp_gt X0 hx 51 78 (D d2_48) (fun hc424 => ?_) (fun hc424 => ?_)
     ·
      refine k_iconst X0 hx 79 (D d2_78) (z := (0 : Int32)) rfl ?_
      refine key408 (0 : Int32) ?_
      have B432 : (0 : Int) ≤ p2.toInt ∧ p2.toInt ≤ 9223372036854775807 := ⟨kL_ge hp0 (by decide), Int.le_of_lt_add_one (rng64 p2).2⟩
      have B433 : (-128 : Int) ≤ p6.toInt ∧ p6.toInt ≤ 127 := ⟨k_ge hp5 (by decide), k_le hp6 (by decide)⟩
      have B434 : (0 : Int) ≤ v375.toInt ∧ v375.toInt ≤ 9223372036854775807 := ⟨kL_ge hv0376 (by decide), Int.le_of_lt_add_one (rng64 v375).2⟩
      have B437 : (48 : Int) ≤ (48 : Int32).toInt ∧ (48 : Int32).toInt ≤ 48 := (by decide)
      have q436 : v407.toInt = p6.toInt - (48 : Int32).toInt := k_isubx hv407 B433 B437 (by decide) (by decide)
      have B435 : (-176 : Int) ≤ v407.toInt ∧ v407.toInt ≤ 79 := k_subB' q436 B433 B437
      have B438 : (10 : Int) ≤ v407.toInt ∧ v407.toInt ≤ 79 := ⟨k_gt hc424 (by decide), B435.2⟩
      exact Or.inr ⟨rfl, by omega⟩
     ·
      refine k_iload X0 hx 53 (D d2_51) rfl ?_
      refine k_i2l X0 hx 54 (D d2_53) (fun v439 hv439 => ?_)
      refine k_lloadN X0 hx 55 (D d2_54) rfl ?_
      refine k_lcif_gt X0 hx 59 78 56 (D d2_55) (D d2_56) (fun hc440 => ?_) (fun hc440 => ?_)
      ·
       refine k_iconst X0 hx 79 (D d2_78) (z := (0 : Int32)) rfl ?_
       refine key408 (0 : Int32) ?_
       have B450 : (0 : Int) ≤ p2.toInt ∧ p2.toInt ≤ 9223372036854775807 := ⟨kL_ge hp0 (by decide), Int.le_of_lt_add_one (rng64 p2).2⟩
       have B451 : (-128 : Int) ≤ p6.toInt ∧ p6.toInt ≤ 127 := ⟨k_ge hp5 (by decide), k_le hp6 (by decide)⟩
       have B452 : (0 : Int) ≤ v375.toInt ∧ v375.toInt ≤ 9223372036854775807 := ⟨kL_ge hv0376 (by decide), Int.le_of_lt_add_one (rng64 v375).2⟩
       have B455 : (48 : Int) ≤ (48 : Int32).toInt ∧ (48 : Int32).toInt ≤ 48 := (by decide)
       have q454 : v407.toInt = p6.toInt - (48 : Int32).toInt := k_isubx hv407 B451 B455 (by decide) (by decide)
       have B453 : (0 : Int) ≤ v407.toInt ∧ v407.toInt ≤ 9 := ⟨k_ge hc409 (by decide), k_le hc424 (by decide)⟩
       have q457 : v439.toInt = v407.toInt := (by rw [hv439]; exact c_i2l _)
       have B456 : (0 : Int) ≤ v439.toInt ∧ v439.toInt ≤ 9 := (by rw [q457]; exact B453)
       have q458 := hc440; rw [Int64.lt_iff_toInt_lt] at q458
       exact Or.inr ⟨rfl, by omega⟩
      ·
       refine k_lload X0 hx 61 (D d2_59) rfl ?_
       refine k_lloadN X0 hx 62 (D d2_61) rfl ?_
       refine k_iload X0 hx 64 (D d2_62) rfl ?_
       refine k_i2lL X0 hx 65 (D d2_64) (z := v439) hv439.symm ?_
       refine k_lsub X0 hx 66 (D d2_65) (fun v459 hv459 => ?_)
       refine k_ldcL X0 hx hZ hown 69 (k_w hw 12 rfl) (D d2_66) ?_
       refine k_ldiv X0 hx 70 (D d2_69) (by decide) (fun v460 hv460 => ?_)
       refine k_lcif_gt X0 hx 74 78 71 (D d2_70) (D d2_71) (fun hc461 => ?_) (fun hc461 => ?_)
       ·
        refine k_iconst X0 hx 79 (D d2_78) (z := (0 : Int32)) rfl ?_
        refine key408 (0 : Int32) ?_
        have B478 : (0 : Int) ≤ p2.toInt ∧ p2.toInt ≤ 9223372036854775807 := ⟨kL_ge hp0 (by decide), Int.le_of_lt_add_one (rng64 p2).2⟩
        have B479 : (-128 : Int) ≤ p6.toInt ∧ p6.toInt ≤ 127 := ⟨k_ge hp5 (by decide), k_le hp6 (by decide)⟩
        have B480 : (0 : Int) ≤ v375.toInt ∧ v375.toInt ≤ 9223372036854775807 := ⟨kL_ge hv0376 (by decide), Int.le_of_lt_add_one (rng64 v375).2⟩
        have B483 : (48 : Int) ≤ (48 : Int32).toInt ∧ (48 : Int32).toInt ≤ 48 := (by decide)
        have q482 : v407.toInt = p6.toInt - (48 : Int32).toInt := k_isubx hv407 B479 B483 (by decide) (by decide)
        have B481 : (0 : Int) ≤ v407.toInt ∧ v407.toInt ≤ 9 := ⟨k_ge hc409 (by decide), k_le hc424 (by decide)⟩
        have q485 : v439.toInt = v407.toInt := (by rw [hv439]; exact c_i2l _)
        have B484 : (0 : Int) ≤ v439.toInt ∧ v439.toInt ≤ 9 := (by rw [q485]; exact B481)
        have q486 := hc440; rw [Int64.lt_iff_toInt_lt] at q486
        have q489 : (0 ≤ v459.toInt → v460.toInt = v459.toInt / 10) ∧ (v459.toInt < 0 → v460.toInt = -((-v459.toInt) / 10)) := (by rw [hv460]; exact c_ldiv _ _ 10 (by decide) (by decide))
        have q491 : v459.toInt = p2.toInt - v439.toInt := k_lsubx hv459 B478 B484 (by decide) (by decide)
        have B490 : (-9 : Int) ≤ v459.toInt ∧ v459.toInt ≤ 9223372036854775807 := k_subB' q491 B478 B484
        have B492 : (10 : Int) ≤ (10 : Int64).toInt ∧ (10 : Int64).toInt ≤ 10 := (by decide)
        have B487 : (-9223372036854775808 : Int) ≤ v460.toInt ∧ v460.toInt ≤ 9223372036854775807 := ⟨(rng64 v460).1, Int.le_of_lt_add_one (rng64 v460).2⟩
        have q493 := hc461; rw [Int64.lt_iff_toInt_lt] at q493
        exact Or.inr ⟨rfl, by omega⟩
       ·
        refine k_iconst X0 hx 75 (D d2_74) (z := (1 : Int32)) rfl ?_
        refine k_goto X0 hx 79 (D d2_75) ?_
        refine key408 (1 : Int32) ?_
        have B510 : (0 : Int) ≤ p2.toInt ∧ p2.toInt ≤ 9223372036854775807 := ⟨kL_ge hp0 (by decide), Int.le_of_lt_add_one (rng64 p2).2⟩
        have B511 : (-128 : Int) ≤ p6.toInt ∧ p6.toInt ≤ 127 := ⟨k_ge hp5 (by decide), k_le hp6 (by decide)⟩
        have B512 : (0 : Int) ≤ v375.toInt ∧ v375.toInt ≤ 9223372036854775807 := ⟨kL_ge hv0376 (by decide), Int.le_of_lt_add_one (rng64 v375).2⟩
        have B515 : (48 : Int) ≤ (48 : Int32).toInt ∧ (48 : Int32).toInt ≤ 48 := (by decide)
        have q514 : v407.toInt = p6.toInt - (48 : Int32).toInt := k_isubx hv407 B511 B515 (by decide) (by decide)
        have B513 : (0 : Int) ≤ v407.toInt ∧ v407.toInt ≤ 9 := ⟨k_ge hc409 (by decide), k_le hc424 (by decide)⟩
        have q517 : v439.toInt = v407.toInt := (by rw [hv439]; exact c_i2l _)
        have B516 : (0 : Int) ≤ v439.toInt ∧ v439.toInt ≤ 9 := (by rw [q517]; exact B513)
        have q518 := hc440; rw [Int64.lt_iff_toInt_lt] at q518
        have q521 : (0 ≤ v459.toInt → v460.toInt = v459.toInt / 10) ∧ (v459.toInt < 0 → v460.toInt = -((-v459.toInt) / 10)) := (by rw [hv460]; exact c_ldiv _ _ 10 (by decide) (by decide))
        have q523 : v459.toInt = p2.toInt - v439.toInt := k_lsubx hv459 B510 B516 (by decide) (by decide)
        have B522 : (-9 : Int) ≤ v459.toInt ∧ v459.toInt ≤ 9223372036854775807 := k_subB' q523 B510 B516
        have B524 : (10 : Int) ≤ (10 : Int64).toInt ∧ (10 : Int64).toInt ≤ 10 := (by decide)
        have B519 : (-9223372036854775808 : Int) ≤ v460.toInt ∧ v460.toInt ≤ 9223372036854775807 := ⟨(rng64 v460).1, Int.le_of_lt_add_one (rng64 v460).2⟩
        have q525 := hc461; rw [Int64.lt_iff_toInt_lt] at q525
        exact Or.inl ⟨rfl, by omega⟩
   intro v526 hP527
   refine k_istore X0 hx 81 (D d2_79) (Ls' := #[rv a1, iv (0 : Int32), iv (3 : Int32), jv p2, s_, jv v375, s_, iv (2 : Int32), iv v407, iv v526]) rfl ?_
   refine k_iload X0 hx 83 (D d2_81) rfl ?_
   refine k_if_eq X0 hx 86 99 (D d2_83) (fun hc528 => ?_) (fun hc528 => ?_)
   ·
    refine k_ldcL X0 hx hZ hown 102 (k_w hw 10 rfl) (D d2_99) ?_
    refine k_lstore X0 hx 104 (D d2_102) (Ls' := #[rv a1, iv (0 : Int32), iv (3 : Int32), jv p2, s_, jv (-1 : Int64), s_, iv (2 : Int32), iv v407, iv v526]) rfl ?_
    refine k_iinc X0 hx 107 (D d2_104) rfl (z := (3 : Int32)) (by decide) (Ls' := #[rv a1, iv (0 : Int32), iv (3 : Int32), jv p2, s_, jv (-1 : Int64), s_, iv (3 : Int32), iv v407, iv v526]) rfl ?_
    refine k_goto X0 hx 17 (D d2_107) ?_
    refine k_iload X0 hx 19 (D d2_17) rfl ?_
    refine k_iloadN X0 hx 20 (D d2_19) rfl ?_
    refine k_icmp_ge X0 hx 23 110 (D d2_20) (fun _ => ?_) (fun hc => absurd hc (by decide))
    refine k_lload X0 hx 112 (D d2_110) rfl ?_
    refine k_retL X0 hx hret (D d2_112) hlk (by decide) (by decide) ⟨N0, e0, (-1 : Int64), rfl, ?_⟩
    have hgoal : True := trivial
    have B529 : (0 : Int) ≤ p2.toInt ∧ p2.toInt ≤ 9223372036854775807 := ⟨kL_ge hp0 (by decide), Int.le_of_lt_add_one (rng64 p2).2⟩
    have B530 : (-128 : Int) ≤ p4.toInt ∧ p4.toInt ≤ 127 := ⟨k_ge hp1 (by decide), k_le hp2 (by decide)⟩
    have B531 : (-128 : Int) ≤ p5.toInt ∧ p5.toInt ≤ 127 := ⟨k_ge hp3 (by decide), k_le hp4 (by decide)⟩
    have B532 : (-128 : Int) ≤ p6.toInt ∧ p6.toInt ≤ 127 := ⟨k_ge hp5 (by decide), k_le hp6 (by decide)⟩
    have B533 : (-2147483648 : Int) ≤ v195.toInt ∧ v195.toInt ≤ 2147483647 := ⟨(rng32 v195).1, Int.le_of_lt_add_one (rng32 v195).2⟩
    have B536 : (0 : Int) ≤ (0 : Int32).toInt ∧ (0 : Int32).toInt ≤ 0 := (by decide)
    have q537 : ¬ v195.toInt = (0 : Int32).toInt := fun q => hc197 (Int32.toInt_inj.mp q)
    have B542 : (48 : Int) ≤ (48 : Int32).toInt ∧ (48 : Int32).toInt ≤ 48 := (by decide)
    have q541 : v101.toInt = p4.toInt - (48 : Int32).toInt := k_isubx hv101 B530 B542 (by decide) (by decide)
    have B540 : (-176 : Int) ≤ v101.toInt ∧ v101.toInt ≤ 79 := k_subB' q541 B530 B542
    have q539 : v211.toInt = v101.toInt := (by rw [hv211]; exact c_i2l _)
    have B538 : (-176 : Int) ≤ v211.toInt ∧ v211.toInt ≤ 79 := (by rw [q539]; exact B540)
    have B543 : (0 : Int) ≤ v211.toInt ∧ v211.toInt ≤ 79 := ⟨kL_ge hv0212 (by decide), B538.2⟩
    have B544 : (-2147483648 : Int) ≤ v348.toInt ∧ v348.toInt ≤ 2147483647 := ⟨(rng32 v348).1, Int.le_of_lt_add_one (rng32 v348).2⟩
    have q547 : ¬ v348.toInt = (0 : Int32).toInt := fun q => hc350 (Int32.toInt_inj.mp q)
    have B552 : (10 : Int) ≤ (10 : Int64).toInt ∧ (10 : Int64).toInt ≤ 10 := (by decide)
    have q551 : v373.toInt = 10 * v211.toInt := (by have q0 := c_lmul (10 : Int64) v211; have q1 := rng64 v373; have q2 := B543; rw [← hv373] at q0; rw [show (10 : Int64).toInt = 10 from (by decide)] at q0; omega)
    have B550 : (0 : Int) ≤ v373.toInt ∧ v373.toInt ≤ 790 := (by rw [q551]; exact k_mulB B543 (by decide))
    have q556 : v229.toInt = p5.toInt - (48 : Int32).toInt := k_isubx hv229 B531 B542 (by decide) (by decide)
    have B555 : (-176 : Int) ≤ v229.toInt ∧ v229.toInt ≤ 79 := k_subB' q556 B531 B542
    have q554 : v374.toInt = v229.toInt := (by rw [hv374]; exact c_i2l _)
    have B553 : (-176 : Int) ≤ v374.toInt ∧ v374.toInt ≤ 79 := (by rw [q554]; exact B555)
    have q549 : v375.toInt = v373.toInt + v374.toInt := k_laddx hv375 B550 B553 (by decide) (by decide)
    have B548 : (-176 : Int) ≤ v375.toInt ∧ v375.toInt ≤ 869 := k_addB q549 B550 B553
    have B557 : (0 : Int) ≤ v375.toInt ∧ v375.toInt ≤ 869 := ⟨kL_ge hv0376 (by decide), B548.2⟩
    have B558 : (-2147483648 : Int) ≤ v526.toInt ∧ v526.toInt ≤ 2147483647 := ⟨(rng32 v526).1, Int.le_of_lt_add_one (rng32 v526).2⟩
    have q561 := congrArg Int32.toInt hc528
    have B562 : (-1 : Int) ≤ (-1 : Int64).toInt ∧ (-1 : Int64).toInt ≤ -1 := (by decide)
    have q564 : v407.toInt = p6.toInt - (48 : Int32).toInt := k_isubx hv407 B532 B542 (by decide) (by decide)
    have B563 : (-176 : Int) ≤ v407.toInt ∧ v407.toInt ≤ 79 := k_subB' q564 B532 B542
    refine ⟨fun hg => ?_, fun hg => ?_⟩ <;> omega
   ·
    refine k_ldcL X0 hx hZ hown 89 (k_w hw 12 rfl) (D d2_86) ?_
    refine k_lload X0 hx 91 (D d2_89) rfl ?_
    refine k_lmul X0 hx 92 (D d2_91) (fun v565 hv565 => ?_)
    refine k_iload X0 hx 94 (D d2_92) rfl ?_
    refine k_i2l X0 hx 95 (D d2_94) (fun v566 hv566 => ?_)
    refine k_ladd X0 hx 96 (D d2_95) (fun v567 hv567 => ?_)
    refine k_goto X0 hx 102 (D d2_96) ?_
    refine k_lstore X0 hx 104 (D d2_102) (Ls' := #[rv a1, iv (0 : Int32), iv (3 : Int32), jv p2, s_, jv v567, s_, iv (2 : Int32), iv v407, iv v526]) rfl ?_
    refine k_iinc X0 hx 107 (D d2_104) rfl (z := (3 : Int32)) (by decide) (Ls' := #[rv a1, iv (0 : Int32), iv (3 : Int32), jv p2, s_, jv v567, s_, iv (3 : Int32), iv v407, iv v526]) rfl ?_
    refine k_goto X0 hx 17 (D d2_107) ?_
    refine k_iload X0 hx 19 (D d2_17) rfl ?_
    refine k_iloadN X0 hx 20 (D d2_19) rfl ?_
    refine k_icmp_ge X0 hx 23 110 (D d2_20) (fun _ => ?_) (fun hc => absurd hc (by decide))
    refine k_lload X0 hx 112 (D d2_110) rfl ?_
    refine k_retL X0 hx hret (D d2_112) hlk (by decide) (by decide) ⟨N0, e0, v567, rfl, ?_⟩
    have hgoal : True := trivial
    have B568 : (0 : Int) ≤ p2.toInt ∧ p2.toInt ≤ 9223372036854775807 := ⟨kL_ge hp0 (by decide), Int.le_of_lt_add_one (rng64 p2).2⟩
    have B569 : (-128 : Int) ≤ p4.toInt ∧ p4.toInt ≤ 127 := ⟨k_ge hp1 (by decide), k_le hp2 (by decide)⟩
    have B570 : (-128 : Int) ≤ p5.toInt ∧ p5.toInt ≤ 127 := ⟨k_ge hp3 (by decide), k_le hp4 (by decide)⟩
    have B571 : (-128 : Int) ≤ p6.toInt ∧ p6.toInt ≤ 127 := ⟨k_ge hp5 (by decide), k_le hp6 (by decide)⟩
    have B572 : (-2147483648 : Int) ≤ v195.toInt ∧ v195.toInt ≤ 2147483647 := ⟨(rng32 v195).1, Int.le_of_lt_add_one (rng32 v195).2⟩
    have B575 : (0 : Int) ≤ (0 : Int32).toInt ∧ (0 : Int32).toInt ≤ 0 := (by decide)
    have q576 : ¬ v195.toInt = (0 : Int32).toInt := fun q => hc197 (Int32.toInt_inj.mp q)
    have B581 : (48 : Int) ≤ (48 : Int32).toInt ∧ (48 : Int32).toInt ≤ 48 := (by decide)
    have q580 : v101.toInt = p4.toInt - (48 : Int32).toInt := k_isubx hv101 B569 B581 (by decide) (by decide)
    have B579 : (-176 : Int) ≤ v101.toInt ∧ v101.toInt ≤ 79 := k_subB' q580 B569 B581
    have q578 : v211.toInt = v101.toInt := (by rw [hv211]; exact c_i2l _)
    have B577 : (-176 : Int) ≤ v211.toInt ∧ v211.toInt ≤ 79 := (by rw [q578]; exact B579)
    have B582 : (0 : Int) ≤ v211.toInt ∧ v211.toInt ≤ 79 := ⟨kL_ge hv0212 (by decide), B577.2⟩
    have B583 : (-2147483648 : Int) ≤ v348.toInt ∧ v348.toInt ≤ 2147483647 := ⟨(rng32 v348).1, Int.le_of_lt_add_one (rng32 v348).2⟩
    have q586 : ¬ v348.toInt = (0 : Int32).toInt := fun q => hc350 (Int32.toInt_inj.mp q)
    have B591 : (10 : Int) ≤ (10 : Int64).toInt ∧ (10 : Int64).toInt ≤ 10 := (by decide)
    have q590 : v373.toInt = 10 * v211.toInt := (by have q0 := c_lmul (10 : Int64) v211; have q1 := rng64 v373; have q2 := B582; rw [← hv373] at q0; rw [show (10 : Int64).toInt = 10 from (by decide)] at q0; omega)
    have B589 : (0 : Int) ≤ v373.toInt ∧ v373.toInt ≤ 790 := (by rw [q590]; exact k_mulB B582 (by decide))
    have q595 : v229.toInt = p5.toInt - (48 : Int32).toInt := k_isubx hv229 B570 B581 (by decide) (by decide)
    have B594 : (-176 : Int) ≤ v229.toInt ∧ v229.toInt ≤ 79 := k_subB' q595 B570 B581
    have q593 : v374.toInt = v229.toInt := (by rw [hv374]; exact c_i2l _)
    have B592 : (-176 : Int) ≤ v374.toInt ∧ v374.toInt ≤ 79 := (by rw [q593]; exact B594)
    have q588 : v375.toInt = v373.toInt + v374.toInt := k_laddx hv375 B589 B592 (by decide) (by decide)
    have B587 : (-176 : Int) ≤ v375.toInt ∧ v375.toInt ≤ 869 := k_addB q588 B589 B592
    have B596 : (0 : Int) ≤ v375.toInt ∧ v375.toInt ≤ 869 := ⟨kL_ge hv0376 (by decide), B587.2⟩
    have B597 : (-2147483648 : Int) ≤ v526.toInt ∧ v526.toInt ≤ 2147483647 := ⟨(rng32 v526).1, Int.le_of_lt_add_one (rng32 v526).2⟩
    have q600 : ¬ v526.toInt = (0 : Int32).toInt := fun q => hc528 (Int32.toInt_inj.mp q)
    have q604 : v565.toInt = 10 * v375.toInt := (by have q0 := c_lmul (10 : Int64) v375; have q1 := rng64 v565; have q2 := B596; rw [← hv565] at q0; rw [show (10 : Int64).toInt = 10 from (by decide)] at q0; omega)
    have B603 : (0 : Int) ≤ v565.toInt ∧ v565.toInt ≤ 8690 := (by rw [q604]; exact k_mulB B596 (by decide))
    have q608 : v407.toInt = p6.toInt - (48 : Int32).toInt := k_isubx hv407 B571 B581 (by decide) (by decide)
    have B607 : (-176 : Int) ≤ v407.toInt ∧ v407.toInt ≤ 79 := k_subB' q608 B571 B581
    have q606 : v566.toInt = v407.toInt := (by rw [hv566]; exact c_i2l _)
    have B605 : (-176 : Int) ≤ v566.toInt ∧ v566.toInt ≤ 79 := (by rw [q606]; exact B607)
    have q602 : v567.toInt = v565.toInt + v566.toInt := k_laddx hv567 B603 B605 (by decide) (by decide)
    have B601 : (-176 : Int) ≤ v567.toInt ∧ v567.toInt ≤ 8769 := k_addB q602 B603 B605
    refine ⟨fun hg => ?_, fun hg => ?_⟩ <;> omega
abbrev R2_12 : Room := { frames := 0, cells := 0, slots := 0, locals := 0 }
def Q2_12 (Z : State) (a1 : Addr) (p2 : Int64) (k3 : ClassId) (p4 : Int32) (p5 : Int32) (p6 : Int32) (p7 : Int32) (p8 : Int32) (h0 : Heap) (n0 : Nat) (v : Option Value) (h : Heap) (L : List Loc) : Prop := Fr n0 L ∧ h = h0 ∧ ∃ r : Int64, v = some (.long r) ∧ (((48 ≤ p4.toInt ∧ p4.toInt ≤ 57) ∧ (48 ≤ p5.toInt ∧ p5.toInt ≤ 57) ∧ (48 ≤ p6.toInt ∧ p6.toInt ≤ 57) ∧ (48 ≤ p7.toInt ∧ p7.toInt ≤ 57) ∧ 1000 * (p4.toInt - 48) + 100 * (p5.toInt - 48) + 10 * (p6.toInt - 48) + 1 * (p7.toInt - 48) ≤ p2.toInt) → r.toInt = 1000 * (p4.toInt - 48) + 100 * (p5.toInt - 48) + 10 * (p6.toInt - 48) + 1 * (p7.toInt - 48)) ∧ (¬ ((48 ≤ p4.toInt ∧ p4.toInt ≤ 57) ∧ (48 ≤ p5.toInt ∧ p5.toInt ≤ 57) ∧ (48 ≤ p6.toInt ∧ p6.toInt ≤ 57) ∧ (48 ≤ p7.toInt ∧ p7.toInt ≤ 57) ∧ 1000 * (p4.toInt - 48) + 100 * (p5.toInt - 48) + 10 * (p6.toInt - 48) + 1 * (p7.toInt - 48) ≤ p2.toInt) → r.toInt = -1)
theorem ef2_12 (m : MethodId) (x0 : Addr) (x3 : Int64) : entryFrame m #[(.ref x0), (.int (0 : Int32)), (.int (4 : Int32)), (.long x3)] 10 = mkF m 0 #[.val (.ref x0), .val (.int (0 : Int32)), .val (.int (4 : Int32)), .val (.long x3), .second, .unset, .unset, .unset, .unset, .unset] [] := by first | (simp [entryFrame, mkF, argsToLocals, Value.category]; done) | rfl
set_option maxRecDepth 65536 in
set_option maxHeartbeats 40000000 in
theorem rm2_12 (l : Launch) (Z : State) (a0 : Array Value) (hw : ∀ d ∈ tables_1, d.before a0 Z = true) (ws : List Jvm.Cond) (a1 : Addr) (p2 : Int64) (k3 : ClassId) (p4 : Int32) (p5 : Int32) (p6 : Int32) (p7 : Int32) (p8 : Int32) (h0 : Heap) (n0 : Nat) (Z0 : n0 ≤ h0.size) (F0_0 : Arv Z h0 a1 k3 .byte (5 : Int32) [(.int p4), (.int p5), (.int p6), (.int p7), (.int p8)] (.int (0 : Int32))) (hp0 : ¬ p2 < (0 : Int64)) (hp1 : ¬ p4 < (-128 : Int32)) (hp2 : ¬ (127 : Int32) < p4) (hp3 : ¬ p5 < (-128 : Int32)) (hp4 : ¬ (127 : Int32) < p5) (hp5 : ¬ p6 < (-128 : Int32)) (hp6 : ¬ (127 : Int32) < p6) (hp7 : ¬ p7 < (-128 : Int32)) (hp8 : ¬ (127 : Int32) < p7) :
    KMet l (⟨"com/example/knotcut/knotcut/core/InputFields", "wholeNumber", "([BIIJ)J"⟩ : MethodName) prog_44_method_6_code 10 (some .long) ws R2_12 #[(.ref a1), (.int (0 : Int32)), (.int (4 : Int32)), (.long p2)] Z h0 R2_12.cells R2_12.slots (Q2_12 Z a1 p2 k3 p4 p5 p6 p7 p8 h0 n0) := by
 refine k_body (plainFor_of_name pn_1) (fun m => ef2_12 m a1 p2) ?_
 intro p e s m below meth c s₁ hx D hml hlk hret hown hnm hZ X0 e0
 have N0 := Fr.nil n0
 refine k_iloadN X0 hx 1 (D d2_0) rfl ?_
 refine k_iloadN X0 hx 2 (D d2_1) rfl ?_
 refine k_icmp_ne X0 hx 5 11 (D d2_2) (fun _ => ?_) (fun hc => absurd hc (by decide))
 refine k_lconst X0 hx 12 (D d2_11) (z := (0 : Int64)) rfl ?_
 refine k_lstore X0 hx 14 (D d2_12) (Ls' := #[rv a1, iv (0 : Int32), iv (4 : Int32), jv p2, s_, jv (0 : Int64), s_, u_, u_, u_]) rfl ?_
 refine k_iloadN X0 hx 15 (D d2_14) rfl ?_
 refine k_istore X0 hx 17 (D d2_15) (Ls' := #[rv a1, iv (0 : Int32), iv (4 : Int32), jv p2, s_, jv (0 : Int64), s_, iv (0 : Int32), u_, u_]) rfl ?_
 refine k_iload X0 hx 19 (D d2_17) rfl ?_
 refine k_iloadN X0 hx 20 (D d2_19) rfl ?_
 refine k_icmp_ge X0 hx 23 110 (D d2_20) (fun hc => absurd (by decide) hc) (fun _ => ?_)
 refine k_lload X0 hx 25 (D d2_23) rfl ?_
 refine k_lconst X0 hx 26 (D d2_25) (z := (0 : Int64)) rfl ?_
 refine k_lcif_lt X0 hx 30 110 27 (D d2_26) (D d2_27) (fun hc => absurd hc (by decide)) (fun _ => ?_)
 refine k_aloadN X0 hx 31 (D d2_30) rfl rfl ?_
 refine k_iload X0 hx 33 (D d2_31) rfl ?_
 refine k_baload X0 hx hZ 34 e0 F0_0 ⟨by decide, by decide⟩ (v := (.int p4)) rfl (D d2_33) ?_
 refine k_bipush X0 hx 36 (D d2_34) (z := (48 : Int32)) rfl ?_
 refine k_isub X0 hx 37 (D d2_36) (fun v101 hv101 => ?_)
 refine k_istore X0 hx 39 (D d2_37) (Ls' := #[rv a1, iv (0 : Int32), iv (4 : Int32), jv p2, s_, jv (0 : Int64), s_, iv (0 : Int32), iv v101, u_]) rfl ?_
 suffices key102 : ∀ (v196 : Int32), ((v196.toInt = 1 ∧ (0 ≤ v101.toInt ∧ v101.toInt ≤ 9 ∧ 10 * (0) + v101.toInt ≤ p2.toInt)) ∨ (v196.toInt = 0 ∧ ¬ (0 ≤ v101.toInt ∧ v101.toInt ≤ 9 ∧ 10 * (0) + v101.toInt ≤ p2.toInt))) → KEnds p e below s R2_12.cells R2_12.slots (Q2_12 Z a1 p2 k3 p4 p5 p6 p7 p8 h0 n0) s₁ (mkF m 79 #[rv a1, iv (0 : Int32), iv (4 : Int32), jv p2, s_, jv (0 : Int64), s_, iv (0 : Int32), iv v101, u_] [(.int v196)]) by
  refine k_iload X0 hx 41 (D d2_39) rfl ?_
  refine k_if_lt X0 hx 44 78 (D d2_41) (fun hc103 => ?_) (fun hc103 => ?_)
  ·
   refine k_iconst X0 hx 79 (D d2_78) (z := (0 : Int32)) rfl ?_
   refine key102 (0 : Int32) ?_
   have B110 : (0 : Int) ≤ p2.toInt ∧ p2.toInt ≤ 9223372036854775807 := ⟨kL_ge hp0 (by decide), Int.le_of_lt_add_one (rng64 p2).2⟩
   have B111 : (-128 : Int) ≤ p4.toInt ∧ p4.toInt ≤ 127 := ⟨k_ge hp1 (by decide), k_le hp2 (by decide)⟩
   have B114 : (48 : Int) ≤ (48 : Int32).toInt ∧ (48 : Int32).toInt ≤ 48 := (by decide)
   have q113 : v101.toInt = p4.toInt - (48 : Int32).toInt := k_isubx hv101 B111 B114 (by decide) (by decide)
   have B112 : (-176 : Int) ≤ v101.toInt ∧ v101.toInt ≤ 79 := k_subB' q113 B111 B114
   have B115 : (-176 : Int) ≤ v101.toInt ∧ v101.toInt ≤ -1 := ⟨B112.1, k_lt hc103 (by decide)⟩
   exact Or.inr ⟨rfl, by omega⟩
  ·
   refine k_iload X0 hx 46 (D d2_44) rfl ?_
   refine k_bipush X0 hx 48 (D d2_46) (z := (9 : Int32)) rfl ?_
   refine k_icmp_gt X0 hx 51 78 (D d2_48) (fun hc116 => ?_) (fun hc116 => ?_)
   ·
    refine k_iconst X0 hx 79 (D d2_78) (z := (0 : Int32)) rfl ?_
    refine key102 (0 : Int32) ?_
    have B123 : (0 : Int) ≤ p2.toInt ∧ p2.toInt ≤ 9223372036854775807 := ⟨kL_ge hp0 (by decide), Int.le_of_lt_add_one (rng64 p2).2⟩
    have B124 : (-128 : Int) ≤ p4.toInt ∧ p4.toInt ≤ 127 := ⟨k_ge hp1 (by decide), k_le hp2 (by decide)⟩
    have B127 : (48 : Int) ≤ (48 : Int32).toInt ∧ (48 : Int32).toInt ≤ 48 := (by decide)
    have q126 : v101.toInt = p4.toInt - (48 : Int32).toInt := k_isubx hv101 B124 B127 (by decide) (by decide)
    have B125 : (-176 : Int) ≤ v101.toInt ∧ v101.toInt ≤ 79 := k_subB' q126 B124 B127
    have B128 : (10 : Int) ≤ v101.toInt ∧ v101.toInt ≤ 79 := ⟨k_gt hc116 (by decide), B125.2⟩
    exact Or.inr ⟨rfl, by omega⟩
   ·
    refine k_iload X0 hx 53 (D d2_51) rfl ?_
    refine k_i2l X0 hx 54 (D d2_53) (fun v129 hv129 => ?_)
    refine k_lloadN X0 hx 55 (D d2_54) rfl ?_
    refine k_lcif_gt X0 hx 59 78 56 (D d2_55) (D d2_56) (fun hc130 => ?_) (fun hc130 => ?_)
    ·
     refine k_iconst X0 hx 79 (D d2_78) (z := (0 : Int32)) rfl ?_
     refine key102 (0 : Int32) ?_
     have B139 : (0 : Int) ≤ p2.toInt ∧ p2.toInt ≤ 9223372036854775807 := ⟨kL_ge hp0 (by decide), Int.le_of_lt_add_one (rng64 p2).2⟩
     have B140 : (-128 : Int) ≤ p4.toInt ∧ p4.toInt ≤ 127 := ⟨k_ge hp1 (by decide), k_le hp2 (by decide)⟩
     have B143 : (48 : Int) ≤ (48 : Int32).toInt ∧ (48 : Int32).toInt ≤ 48 := (by decide)
     have q142 : v101.toInt = p4.toInt - (48 : Int32).toInt := k_isubx hv101 B140 B143 (by decide) (by decide)
     have B141 : (0 : Int) ≤ v101.toInt ∧ v101.toInt ≤ 9 := ⟨k_ge hc103 (by decide), k_le hc116 (by decide)⟩
     have q145 : v129.toInt = v101.toInt := (by rw [hv129]; exact c_i2l _)
     have B144 : (0 : Int) ≤ v129.toInt ∧ v129.toInt ≤ 9 := (by rw [q145]; exact B141)
     have q146 := hc130; rw [Int64.lt_iff_toInt_lt] at q146
     exact Or.inr ⟨rfl, by omega⟩
    ·
     refine k_lload X0 hx 61 (D d2_59) rfl ?_
     refine k_lloadN X0 hx 62 (D d2_61) rfl ?_
     refine k_iload X0 hx 64 (D d2_62) rfl ?_
     refine k_i2lL X0 hx 65 (D d2_64) (z := v129) hv129.symm ?_
     refine k_lsub X0 hx 66 (D d2_65) (fun v147 hv147 => ?_)
     refine k_ldcL X0 hx hZ hown 69 (k_w hw 12 rfl) (D d2_66) ?_
     refine k_ldiv X0 hx 70 (D d2_69) (by decide) (fun v148 hv148 => ?_)
     have hv0149 : ¬ v148 < 0 := (by intro hq150; have B151 : (0 : Int) ≤ p2.toInt ∧ p2.toInt ≤ 9223372036854775807 := ⟨kL_ge hp0 (by decide), Int.le_of_lt_add_one (rng64 p2).2⟩; have B152 : (-128 : Int) ≤ p4.toInt ∧ p4.toInt ≤ 127 := ⟨k_ge hp1 (by decide), k_le hp2 (by decide)⟩; have B153 : (-128 : Int) ≤ p5.toInt ∧ p5.toInt ≤ 127 := ⟨k_ge hp3 (by decide), k_le hp4 (by decide)⟩; have B154 : (-128 : Int) ≤ p6.toInt ∧ p6.toInt ≤ 127 := ⟨k_ge hp5 (by decide), k_le hp6 (by decide)⟩; have B155 : (-128 : Int) ≤ p7.toInt ∧ p7.toInt ≤ 127 := ⟨k_ge hp7 (by decide), k_le hp8 (by decide)⟩; have B158 : (48 : Int) ≤ (48 : Int32).toInt ∧ (48 : Int32).toInt ≤ 48 := (by decide); have q157 : v101.toInt = p4.toInt - (48 : Int32).toInt := k_isubx hv101 B152 B158 (by decide) (by decide); have B156 : (0 : Int) ≤ v101.toInt ∧ v101.toInt ≤ 9 := ⟨k_ge hc103 (by decide), k_le hc116 (by decide)⟩; have q160 : v129.toInt = v101.toInt := (by rw [hv129]; exact c_i2l _); have B159 : (0 : Int) ≤ v129.toInt ∧ v129.toInt ≤ 9 := (by rw [q160]; exact B156); have q161 := hc130; rw [Int64.lt_iff_toInt_lt] at q161; have q164 : (0 ≤ v147.toInt → v148.toInt = v147.toInt / 10) ∧ (v147.toInt < 0 → v148.toInt = -((-v147.toInt) / 10)) := (by rw [hv148]; exact c_ldiv _ _ 10 (by decide) (by decide)); have q166 : v147.toInt = p2.toInt - v129.toInt := k_lsubx hv147 B151 B159 (by decide) (by decide); have B165 : (-9 : Int) ≤ v147.toInt ∧ v147.toInt ≤ 9223372036854775807 := k_subB' q166 B151 B159; have B167 : (10 : Int) ≤ (10 : Int64).toInt ∧ (10 : Int64).toInt ≤ 10 := (by decide); have B162 : (-9223372036854775808 : Int) ≤ v148.toInt ∧ v148.toInt ≤ -1 := ⟨(rng64 v148).1, kL_lt hq150 (by decide)⟩; omega)
     refine k_lcif_gt X0 hx 74 78 71 (D d2_70) (D d2_71) (fun hc => absurd hc hv0149) (fun _ => ?_)
     refine k_iconst X0 hx 75 (D d2_74) (z := (1 : Int32)) rfl ?_
     refine k_goto X0 hx 79 (D d2_75) ?_
     refine key102 (1 : Int32) ?_
     have B182 : (0 : Int) ≤ p2.toInt ∧ p2.toInt ≤ 9223372036854775807 := ⟨kL_ge hp0 (by decide), Int.le_of_lt_add_one (rng64 p2).2⟩
     have B183 : (-128 : Int) ≤ p4.toInt ∧ p4.toInt ≤ 127 := ⟨k_ge hp1 (by decide), k_le hp2 (by decide)⟩
     have B186 : (48 : Int) ≤ (48 : Int32).toInt ∧ (48 : Int32).toInt ≤ 48 := (by decide)
     have q185 : v101.toInt = p4.toInt - (48 : Int32).toInt := k_isubx hv101 B183 B186 (by decide) (by decide)
     have B184 : (0 : Int) ≤ v101.toInt ∧ v101.toInt ≤ 9 := ⟨k_ge hc103 (by decide), k_le hc116 (by decide)⟩
     have q188 : v129.toInt = v101.toInt := (by rw [hv129]; exact c_i2l _)
     have B187 : (0 : Int) ≤ v129.toInt ∧ v129.toInt ≤ 9 := (by rw [q188]; exact B184)
     have q189 := hc130; rw [Int64.lt_iff_toInt_lt] at q189
     have q192 : (0 ≤ v147.toInt → v148.toInt = v147.toInt / 10) ∧ (v147.toInt < 0 → v148.toInt = -((-v147.toInt) / 10)) := (by rw [hv148]; exact c_ldiv _ _ 10 (by decide) (by decide))
     have q194 : v147.toInt = p2.toInt - v129.toInt := k_lsubx hv147 B182 B187 (by decide) (by decide)
     have B193 : (-9 : Int) ≤ v147.toInt ∧ v147.toInt ≤ 9223372036854775807 := k_subB' q194 B182 B187
     have B195 : (10 : Int) ≤ (10 : Int64).toInt ∧ (10 : Int64).toInt ≤ 10 := (by decide)
     have B190 : (0 : Int) ≤ v148.toInt ∧ v148.toInt ≤ 9223372036854775807 := ⟨kL_ge hv0149 (by decide), Int.le_of_lt_add_one (rng64 v148).2⟩
     exact Or.inl ⟨rfl, by omega⟩
 intro v196 hP197
 refine k_istore X0 hx 81 (D d2_79) (Ls' := #[rv a1, iv (0 : Int32), iv (4 : Int32), jv p2, s_, jv (0 : Int64), s_, iv (0 : Int32), iv v101, iv v196]) rfl ?_
 refine k_iload X0 hx 83 (D d2_81) rfl ?_
 refine k_if_eq X0 hx 86 99 (D d2_83) (fun hc198 => ?_) (fun hc198 => ?_)
 ·
  refine k_ldcL X0 hx hZ hown 102 (k_w hw 10 rfl) (D d2_99) ?_
  refine k_lstore X0 hx 104 (D d2_102) (Ls' := #[rv a1, iv (0 : Int32), iv (4 : Int32), jv p2, s_, jv (-1 : Int64), s_, iv (0 : Int32), iv v101, iv v196]) rfl ?_
  refine k_iinc X0 hx 107 (D d2_104) rfl (z := (1 : Int32)) (by decide) (Ls' := #[rv a1, iv (0 : Int32), iv (4 : Int32), jv p2, s_, jv (-1 : Int64), s_, iv (1 : Int32), iv v101, iv v196]) rfl ?_
  refine k_goto X0 hx 17 (D d2_107) ?_
  refine k_iload X0 hx 19 (D d2_17) rfl ?_
  refine k_iloadN X0 hx 20 (D d2_19) rfl ?_
  refine k_icmp_ge X0 hx 23 110 (D d2_20) (fun hc => absurd (by decide) hc) (fun _ => ?_)
  refine k_lload X0 hx 25 (D d2_23) rfl ?_
  refine k_lconst X0 hx 26 (D d2_25) (z := (0 : Int64)) rfl ?_
  refine k_lcif_lt X0 hx 30 110 27 (D d2_26) (D d2_27) (fun _ => ?_) (fun hc => absurd (by decide) hc)
  refine k_lload X0 hx 112 (D d2_110) rfl ?_
  refine k_retL X0 hx hret (D d2_112) hlk (by decide) (by decide) ⟨N0, e0, (-1 : Int64), rfl, ?_⟩
  have hgoal : True := trivial
  have B199 : (0 : Int) ≤ p2.toInt ∧ p2.toInt ≤ 9223372036854775807 := ⟨kL_ge hp0 (by decide), Int.le_of_lt_add_one (rng64 p2).2⟩
  have B200 : (-128 : Int) ≤ p4.toInt ∧ p4.toInt ≤ 127 := ⟨k_ge hp1 (by decide), k_le hp2 (by decide)⟩
  have B201 : (-128 : Int) ≤ p5.toInt ∧ p5.toInt ≤ 127 := ⟨k_ge hp3 (by decide), k_le hp4 (by decide)⟩
  have B202 : (-128 : Int) ≤ p6.toInt ∧ p6.toInt ≤ 127 := ⟨k_ge hp5 (by decide), k_le hp6 (by decide)⟩
  have B203 : (-128 : Int) ≤ p7.toInt ∧ p7.toInt ≤ 127 := ⟨k_ge hp7 (by decide), k_le hp8 (by decide)⟩
  have B204 : (-2147483648 : Int) ≤ v196.toInt ∧ v196.toInt ≤ 2147483647 := ⟨(rng32 v196).1, Int.le_of_lt_add_one (rng32 v196).2⟩
  have B207 : (0 : Int) ≤ (0 : Int32).toInt ∧ (0 : Int32).toInt ≤ 0 := (by decide)
  have q208 := congrArg Int32.toInt hc198
  have B209 : (-1 : Int) ≤ (-1 : Int64).toInt ∧ (-1 : Int64).toInt ≤ -1 := (by decide)
  have B212 : (48 : Int) ≤ (48 : Int32).toInt ∧ (48 : Int32).toInt ≤ 48 := (by decide)
  have q211 : v101.toInt = p4.toInt - (48 : Int32).toInt := k_isubx hv101 B200 B212 (by decide) (by decide)
  have B210 : (-176 : Int) ≤ v101.toInt ∧ v101.toInt ≤ 79 := k_subB' q211 B200 B212
  refine ⟨fun hg => ?_, fun hg => ?_⟩ <;> omega
 ·
  refine k_ldcL X0 hx hZ hown 89 (k_w hw 12 rfl) (D d2_86) ?_
  refine k_lload X0 hx 91 (D d2_89) rfl ?_
  refine k_lmulL X0 hx 92 (D d2_91) (z := (0 : Int64)) (by decide) ?_
  refine k_iload X0 hx 94 (D d2_92) rfl ?_
  refine k_i2l X0 hx 95 (D d2_94) (fun v213 hv213 => ?_)
  refine k_laddL X0 hx 96 (D d2_95) (z := v213) (Int64.zero_add _) ?_
  refine k_goto X0 hx 102 (D d2_96) ?_
  refine k_lstore X0 hx 104 (D d2_102) (Ls' := #[rv a1, iv (0 : Int32), iv (4 : Int32), jv p2, s_, jv v213, s_, iv (0 : Int32), iv v101, iv v196]) rfl ?_
  refine k_iinc X0 hx 107 (D d2_104) rfl (z := (1 : Int32)) (by decide) (Ls' := #[rv a1, iv (0 : Int32), iv (4 : Int32), jv p2, s_, jv v213, s_, iv (1 : Int32), iv v101, iv v196]) rfl ?_
  refine k_goto X0 hx 17 (D d2_107) ?_
  refine k_iload X0 hx 19 (D d2_17) rfl ?_
  refine k_iloadN X0 hx 20 (D d2_19) rfl ?_
  refine k_icmp_ge X0 hx 23 110 (D d2_20) (fun hc => absurd (by decide) hc) (fun _ => ?_)
  refine k_lload X0 hx 25 (D d2_23) rfl ?_
  refine k_lconst X0 hx 26 (D d2_25) (z := (0 : Int64)) rfl ?_
  have hv0214 : ¬ v213 < 0 := (by intro hq215; have B216 : (0 : Int) ≤ p2.toInt ∧ p2.toInt ≤ 9223372036854775807 := ⟨kL_ge hp0 (by decide), Int.le_of_lt_add_one (rng64 p2).2⟩; have B217 : (-128 : Int) ≤ p4.toInt ∧ p4.toInt ≤ 127 := ⟨k_ge hp1 (by decide), k_le hp2 (by decide)⟩; have B218 : (-128 : Int) ≤ p5.toInt ∧ p5.toInt ≤ 127 := ⟨k_ge hp3 (by decide), k_le hp4 (by decide)⟩; have B219 : (-128 : Int) ≤ p6.toInt ∧ p6.toInt ≤ 127 := ⟨k_ge hp5 (by decide), k_le hp6 (by decide)⟩; have B220 : (-128 : Int) ≤ p7.toInt ∧ p7.toInt ≤ 127 := ⟨k_ge hp7 (by decide), k_le hp8 (by decide)⟩; have B221 : (-2147483648 : Int) ≤ v196.toInt ∧ v196.toInt ≤ 2147483647 := ⟨(rng32 v196).1, Int.le_of_lt_add_one (rng32 v196).2⟩; have B224 : (0 : Int) ≤ (0 : Int32).toInt ∧ (0 : Int32).toInt ≤ 0 := (by decide); have q225 : ¬ v196.toInt = (0 : Int32).toInt := fun q => hc198 (Int32.toInt_inj.mp q); have B230 : (48 : Int) ≤ (48 : Int32).toInt ∧ (48 : Int32).toInt ≤ 48 := (by decide); have q229 : v101.toInt = p4.toInt - (48 : Int32).toInt := k_isubx hv101 B217 B230 (by decide) (by decide); have B228 : (-176 : Int) ≤ v101.toInt ∧ v101.toInt ≤ 79 := k_subB' q229 B217 B230; have q227 : v213.toInt = v101.toInt := (by rw [hv213]; exact c_i2l _); have B226 : (-176 : Int) ≤ v213.toInt ∧ v213.toInt ≤ 79 := (by rw [q227]; exact B228); have B231 : (-176 : Int) ≤ v213.toInt ∧ v213.toInt ≤ -1 := ⟨B226.1, kL_lt hq215 (by decide)⟩; omega)
  refine k_lcif_lt X0 hx 30 110 27 (D d2_26) (D d2_27) (fun hc => absurd hc hv0214) (fun _ => ?_)
  refine k_aloadN X0 hx 31 (D d2_30) rfl rfl ?_
  refine k_iload X0 hx 33 (D d2_31) rfl ?_
  refine k_baload X0 hx hZ 34 e0 F0_0 ⟨by decide, by decide⟩ (v := (.int p5)) rfl (D d2_33) ?_
  refine k_bipush X0 hx 36 (D d2_34) (z := (48 : Int32)) rfl ?_
  refine k_isub X0 hx 37 (D d2_36) (fun v232 hv232 => ?_)
  refine k_istore X0 hx 39 (D d2_37) (Ls' := #[rv a1, iv (0 : Int32), iv (4 : Int32), jv p2, s_, jv v213, s_, iv (1 : Int32), iv v232, iv v196]) rfl ?_
  suffices key233 : ∀ (v351 : Int32), ((v351.toInt = 1 ∧ (0 ≤ v232.toInt ∧ v232.toInt ≤ 9 ∧ 10 * v213.toInt + v232.toInt ≤ p2.toInt)) ∨ (v351.toInt = 0 ∧ ¬ (0 ≤ v232.toInt ∧ v232.toInt ≤ 9 ∧ 10 * v213.toInt + v232.toInt ≤ p2.toInt))) → KEnds p e below s R2_12.cells R2_12.slots (Q2_12 Z a1 p2 k3 p4 p5 p6 p7 p8 h0 n0) s₁ (mkF m 79 #[rv a1, iv (0 : Int32), iv (4 : Int32), jv p2, s_, jv v213, s_, iv (1 : Int32), iv v232, iv v196] [(.int v351)]) by
   refine k_iload X0 hx 41 (D d2_39) rfl ?_
   refine k_if_lt X0 hx 44 78 (D d2_41) (fun hc234 => ?_) (fun hc234 => ?_)
   ·
    refine k_iconst X0 hx 79 (D d2_78) (z := (0 : Int32)) rfl ?_
    refine key233 (0 : Int32) ?_
    have B242 : (0 : Int) ≤ p2.toInt ∧ p2.toInt ≤ 9223372036854775807 := ⟨kL_ge hp0 (by decide), Int.le_of_lt_add_one (rng64 p2).2⟩
    have B243 : (-128 : Int) ≤ p5.toInt ∧ p5.toInt ≤ 127 := ⟨k_ge hp3 (by decide), k_le hp4 (by decide)⟩
    have B244 : (0 : Int) ≤ v213.toInt ∧ v213.toInt ≤ 9223372036854775807 := ⟨kL_ge hv0214 (by decide), Int.le_of_lt_add_one (rng64 v213).2⟩
    have B247 : (48 : Int) ≤ (48 : Int32).toInt ∧ (48 : Int32).toInt ≤ 48 := (by decide)
    have q246 : v232.toInt = p5.toInt - (48 : Int32).toInt := k_isubx hv232 B243 B247 (by decide) (by decide)
    have B245 : (-176 : Int) ≤ v232.toInt ∧ v232.toInt ≤ 79 := k_subB' q246 B243 B247
    have B248 : (-176 : Int) ≤ v232.toInt ∧ v232.toInt ≤ -1 := ⟨B245.1, k_lt hc234 (by decide)⟩
    exact Or.inr ⟨rfl, by omega⟩
   ·
    refine k_iload X0 hx 46 (D d2_44) rfl ?_
    refine k_bipush X0 hx 48 (D d2_46) (z := (9 : Int32)) rfl ?_
    refine k_icmp_gt X0 hx 51 78 (D d2_48) (fun hc249 => ?_) (fun hc249 => ?_)
    ·
     refine k_iconst X0 hx 79 (D d2_78) (z := (0 : Int32)) rfl ?_
     refine key233 (0 : Int32) ?_
     have B257 : (0 : Int) ≤ p2.toInt ∧ p2.toInt ≤ 9223372036854775807 := ⟨kL_ge hp0 (by decide), Int.le_of_lt_add_one (rng64 p2).2⟩
     have B258 : (-128 : Int) ≤ p5.toInt ∧ p5.toInt ≤ 127 := ⟨k_ge hp3 (by decide), k_le hp4 (by decide)⟩
     have B259 : (0 : Int) ≤ v213.toInt ∧ v213.toInt ≤ 9223372036854775807 := ⟨kL_ge hv0214 (by decide), Int.le_of_lt_add_one (rng64 v213).2⟩
     have B262 : (48 : Int) ≤ (48 : Int32).toInt ∧ (48 : Int32).toInt ≤ 48 := (by decide)
     have q261 : v232.toInt = p5.toInt - (48 : Int32).toInt := k_isubx hv232 B258 B262 (by decide) (by decide)
     have B260 : (-176 : Int) ≤ v232.toInt ∧ v232.toInt ≤ 79 := k_subB' q261 B258 B262
     have B263 : (10 : Int) ≤ v232.toInt ∧ v232.toInt ≤ 79 := ⟨k_gt hc249 (by decide), B260.2⟩
     exact Or.inr ⟨rfl, by omega⟩
    ·
     refine k_iload X0 hx 53 (D d2_51) rfl ?_
     refine k_i2l X0 hx 54 (D d2_53) (fun v264 hv264 => ?_)
     refine k_lloadN X0 hx 55 (D d2_54) rfl ?_
     refine k_lcif_gt X0 hx 59 78 56 (D d2_55) (D d2_56) (fun hc265 => ?_) (fun hc265 => ?_)
     ·
      refine k_iconst X0 hx 79 (D d2_78) (z := (0 : Int32)) rfl ?_
      refine key233 (0 : Int32) ?_
      have B275 : (0 : Int) ≤ p2.toInt ∧ p2.toInt ≤ 9223372036854775807 := ⟨kL_ge hp0 (by decide), Int.le_of_lt_add_one (rng64 p2).2⟩
      have B276 : (-128 : Int) ≤ p5.toInt ∧ p5.toInt ≤ 127 := ⟨k_ge hp3 (by decide), k_le hp4 (by decide)⟩
      have B277 : (0 : Int) ≤ v213.toInt ∧ v213.toInt ≤ 9223372036854775807 := ⟨kL_ge hv0214 (by decide), Int.le_of_lt_add_one (rng64 v213).2⟩
      have B280 : (48 : Int) ≤ (48 : Int32).toInt ∧ (48 : Int32).toInt ≤ 48 := (by decide)
      have q279 : v232.toInt = p5.toInt - (48 : Int32).toInt := k_isubx hv232 B276 B280 (by decide) (by decide)
      have B278 : (0 : Int) ≤ v232.toInt ∧ v232.toInt ≤ 9 := ⟨k_ge hc234 (by decide), k_le hc249 (by decide)⟩
      have q282 : v264.toInt = v232.toInt := (by rw [hv264]; exact c_i2l _)
      have B281 : (0 : Int) ≤ v264.toInt ∧ v264.toInt ≤ 9 := (by rw [q282]; exact B278)
      have q283 := hc265; rw [Int64.lt_iff_toInt_lt] at q283
      exact Or.inr ⟨rfl, by omega⟩
     ·
      refine k_lload X0 hx 61 (D d2_59) rfl ?_
      refine k_lloadN X0 hx 62 (D d2_61) rfl ?_
      refine k_iload X0 hx 64 (D d2_62) rfl ?_
      refine k_i2lL X0 hx 65 (D d2_64) (z := v264) hv264.symm ?_
      refine k_lsub X0 hx 66 (D d2_65) (fun v284 hv284 => ?_)
      refine k_ldcL X0 hx hZ hown 69 (k_w hw 12 rfl) (D d2_66) ?_
      refine k_ldiv X0 hx 70 (D d2_69) (by decide) (fun v285 hv285 => ?_)
      refine k_lcif_gt X0 hx 74 78 71 (D d2_70) (D d2_71) (fun hc286 => ?_) (fun hc286 => ?_)
      ·
       refine k_iconst X0 hx 79 (D d2_78) (z := (0 : Int32)) rfl ?_
       refine key233 (0 : Int32) ?_
       have B303 : (0 : Int) ≤ p2.toInt ∧ p2.toInt ≤ 9223372036854775807 := ⟨kL_ge hp0 (by decide), Int.le_of_lt_add_one (rng64 p2).2⟩
       have B304 : (-128 : Int) ≤ p5.toInt ∧ p5.toInt ≤ 127 := ⟨k_ge hp3 (by decide), k_le hp4 (by decide)⟩
       have B305 : (0 : Int) ≤ v213.toInt ∧ v213.toInt ≤ 9223372036854775807 := ⟨kL_ge hv0214 (by decide), Int.le_of_lt_add_one (rng64 v213).2⟩
       have B308 : (48 : Int) ≤ (48 : Int32).toInt ∧ (48 : Int32).toInt ≤ 48 := (by decide)
       have q307 : v232.toInt = p5.toInt - (48 : Int32).toInt := k_isubx hv232 B304 B308 (by decide) (by decide)
       have B306 : (0 : Int) ≤ v232.toInt ∧ v232.toInt ≤ 9 := ⟨k_ge hc234 (by decide), k_le hc249 (by decide)⟩
       have q310 : v264.toInt = v232.toInt := (by rw [hv264]; exact c_i2l _)
       have B309 : (0 : Int) ≤ v264.toInt ∧ v264.toInt ≤ 9 := (by rw [q310]; exact B306)
       have q311 := hc265; rw [Int64.lt_iff_toInt_lt] at q311
       have q314 : (0 ≤ v284.toInt → v285.toInt = v284.toInt / 10) ∧ (v284.toInt < 0 → v285.toInt = -((-v284.toInt) / 10)) := (by rw [hv285]; exact c_ldiv _ _ 10 (by decide) (by decide))
       have q316 : v284.toInt = p2.toInt - v264.toInt := k_lsubx hv284 B303 B309 (by decide) (by decide)
       have B315 : (-9 : Int) ≤ v284.toInt ∧ v284.toInt ≤ 9223372036854775807 := k_subB' q316 B303 B309
       have B317 : (10 : Int) ≤ (10 : Int64).toInt ∧ (10 : Int64).toInt ≤ 10 := (by decide)
       have B312 : (-9223372036854775808 : Int) ≤ v285.toInt ∧ v285.toInt ≤ 9223372036854775807 := ⟨(rng64 v285).1, Int.le_of_lt_add_one (rng64 v285).2⟩
       have q318 := hc286; rw [Int64.lt_iff_toInt_lt] at q318
       exact Or.inr ⟨rfl, by omega⟩
      ·
       refine k_iconst X0 hx 75 (D d2_74) (z := (1 : Int32)) rfl ?_
       refine k_goto X0 hx 79 (D d2_75) ?_
       refine key233 (1 : Int32) ?_
       have B335 : (0 : Int) ≤ p2.toInt ∧ p2.toInt ≤ 9223372036854775807 := ⟨kL_ge hp0 (by decide), Int.le_of_lt_add_one (rng64 p2).2⟩
       have B336 : (-128 : Int) ≤ p5.toInt ∧ p5.toInt ≤ 127 := ⟨k_ge hp3 (by decide), k_le hp4 (by decide)⟩
       have B337 : (0 : Int) ≤ v213.toInt ∧ v213.toInt ≤ 9223372036854775807 := ⟨kL_ge hv0214 (by decide), Int.le_of_lt_add_one (rng64 v213).2⟩
       have B340 : (48 : Int) ≤ (48 : Int32).toInt ∧ (48 : Int32).toInt ≤ 48 := (by decide)
       have q339 : v232.toInt = p5.toInt - (48 : Int32).toInt := k_isubx hv232 B336 B340 (by decide) (by decide)
       have B338 : (0 : Int) ≤ v232.toInt ∧ v232.toInt ≤ 9 := ⟨k_ge hc234 (by decide), k_le hc249 (by decide)⟩
       have q342 : v264.toInt = v232.toInt := (by rw [hv264]; exact c_i2l _)
       have B341 : (0 : Int) ≤ v264.toInt ∧ v264.toInt ≤ 9 := (by rw [q342]; exact B338)
       have q343 := hc265; rw [Int64.lt_iff_toInt_lt] at q343
       have q346 : (0 ≤ v284.toInt → v285.toInt = v284.toInt / 10) ∧ (v284.toInt < 0 → v285.toInt = -((-v284.toInt) / 10)) := (by rw [hv285]; exact c_ldiv _ _ 10 (by decide) (by decide))
       have q348 : v284.toInt = p2.toInt - v264.toInt := k_lsubx hv284 B335 B341 (by decide) (by decide)
       have B347 : (-9 : Int) ≤ v284.toInt ∧ v284.toInt ≤ 9223372036854775807 := k_subB' q348 B335 B341
       have B349 : (10 : Int) ≤ (10 : Int64).toInt ∧ (10 : Int64).toInt ≤ 10 := (by decide)
       have B344 : (-9223372036854775808 : Int) ≤ v285.toInt ∧ v285.toInt ≤ 9223372036854775807 := ⟨(rng64 v285).1, Int.le_of_lt_add_one (rng64 v285).2⟩
       have q350 := hc286; rw [Int64.lt_iff_toInt_lt] at q350
       exact Or.inl ⟨rfl, by omega⟩
  intro v351 hP352
  refine k_istore X0 hx 81 (D d2_79) (Ls' := #[rv a1, iv (0 : Int32), iv (4 : Int32), jv p2, s_, jv v213, s_, iv (1 : Int32), iv v232, iv v351]) rfl ?_
  refine k_iload X0 hx 83 (D d2_81) rfl ?_
  refine k_if_eq X0 hx 86 99 (D d2_83) (fun hc353 => ?_) (fun hc353 => ?_)
  ·
   refine k_ldcL X0 hx hZ hown 102 (k_w hw 10 rfl) (D d2_99) ?_
   refine k_lstore X0 hx 104 (D d2_102) (Ls' := #[rv a1, iv (0 : Int32), iv (4 : Int32), jv p2, s_, jv (-1 : Int64), s_, iv (1 : Int32), iv v232, iv v351]) rfl ?_
   refine k_iinc X0 hx 107 (D d2_104) rfl (z := (2 : Int32)) (by decide) (Ls' := #[rv a1, iv (0 : Int32), iv (4 : Int32), jv p2, s_, jv (-1 : Int64), s_, iv (2 : Int32), iv v232, iv v351]) rfl ?_
   refine k_goto X0 hx 17 (D d2_107) ?_
   refine k_iload X0 hx 19 (D d2_17) rfl ?_
   refine k_iloadN X0 hx 20 (D d2_19) rfl ?_
   refine k_icmp_ge X0 hx 23 110 (D d2_20) (fun hc => absurd (by decide) hc) (fun _ => ?_)
   refine k_lload X0 hx 25 (D d2_23) rfl ?_
   refine k_lconst X0 hx 26 (D d2_25) (z := (0 : Int64)) rfl ?_
   refine k_lcif_lt X0 hx 30 110 27 (D d2_26) (D d2_27) (fun _ => ?_) (fun hc => absurd (by decide) hc)
   refine k_lload X0 hx 112 (D d2_110) rfl ?_
   refine k_retL X0 hx hret (D d2_112) hlk (by decide) (by decide) ⟨N0, e0, (-1 : Int64), rfl, ?_⟩
   have hgoal : True := trivial
   have B354 : (0 : Int) ≤ p2.toInt ∧ p2.toInt ≤ 9223372036854775807 := ⟨kL_ge hp0 (by decide), Int.le_of_lt_add_one (rng64 p2).2⟩
   have B355 : (-128 : Int) ≤ p4.toInt ∧ p4.toInt ≤ 127 := ⟨k_ge hp1 (by decide), k_le hp2 (by decide)⟩
   have B356 : (-128 : Int) ≤ p5.toInt ∧ p5.toInt ≤ 127 := ⟨k_ge hp3 (by decide), k_le hp4 (by decide)⟩
   have B357 : (-128 : Int) ≤ p6.toInt ∧ p6.toInt ≤ 127 := ⟨k_ge hp5 (by decide), k_le hp6 (by decide)⟩
   have B358 : (-128 : Int) ≤ p7.toInt ∧ p7.toInt ≤ 127 := ⟨k_ge hp7 (by decide), k_le hp8 (by decide)⟩
   have B359 : (-2147483648 : Int) ≤ v196.toInt ∧ v196.toInt ≤ 2147483647 := ⟨(rng32 v196).1, Int.le_of_lt_add_one (rng32 v196).2⟩
   have B362 : (0 : Int) ≤ (0 : Int32).toInt ∧ (0 : Int32).toInt ≤ 0 := (by decide)
   have q363 : ¬ v196.toInt = (0 : Int32).toInt := fun q => hc198 (Int32.toInt_inj.mp q)
   have B368 : (48 : Int) ≤ (48 : Int32).toInt ∧ (48 : Int32).toInt ≤ 48 := (by decide)
   have q367 : v101.toInt = p4.toInt - (48 : Int32).toInt := k_isubx hv101 B355 B368 (by decide) (by decide)
   have B366 : (-176 : Int) ≤ v101.toInt ∧ v101.toInt ≤ 79 := k_subB' q367 B355 B368
   have q365 : v213.toInt = v101.toInt := (by rw [hv213]; exact c_i2l _)
   have B364 : (-176 : Int) ≤ v213.toInt ∧ v213.toInt ≤ 79 := (by rw [q365]; exact B366)
   have B369 : (0 : Int) ≤ v213.toInt ∧ v213.toInt ≤ 79 := ⟨kL_ge hv0214 (by decide), B364.2⟩
   have B370 : (-2147483648 : Int) ≤ v351.toInt ∧ v351.toInt ≤ 2147483647 := ⟨(rng32 v351).1, Int.le_of_lt_add_one (rng32 v351).2⟩
   have q373 := congrArg Int32.toInt hc353
   have B374 : (-1 : Int) ≤ (-1 : Int64).toInt ∧ (-1 : Int64).toInt ≤ -1 := (by decide)
   have q376 : v232.toInt = p5.toInt - (48 : Int32).toInt := k_isubx hv232 B356 B368 (by decide) (by decide)
   have B375 : (-176 : Int) ≤ v232.toInt ∧ v232.toInt ≤ 79 := k_subB' q376 B356 B368
   refine ⟨fun hg => ?_, fun hg => ?_⟩ <;> omega
  ·
   refine k_ldcL X0 hx hZ hown 89 (k_w hw 12 rfl) (D d2_86) ?_
   refine k_lload X0 hx 91 (D d2_89) rfl ?_
   refine k_lmul X0 hx 92 (D d2_91) (fun v377 hv377 => ?_)
   refine k_iload X0 hx 94 (D d2_92) rfl ?_
   refine k_i2l X0 hx 95 (D d2_94) (fun v378 hv378 => ?_)
   refine k_ladd X0 hx 96 (D d2_95) (fun v379 hv379 => ?_)
   refine k_goto X0 hx 102 (D d2_96) ?_
   refine k_lstore X0 hx 104 (D d2_102) (Ls' := #[rv a1, iv (0 : Int32), iv (4 : Int32), jv p2, s_, jv v379, s_, iv (1 : Int32), iv v232, iv v351]) rfl ?_
   refine k_iinc X0 hx 107 (D d2_104) rfl (z := (2 : Int32)) (by decide) (Ls' := #[rv a1, iv (0 : Int32), iv (4 : Int32), jv p2, s_, jv v379, s_, iv (2 : Int32), iv v232, iv v351]) rfl ?_
   refine k_goto X0 hx 17 (D d2_107) ?_
   refine k_iload X0 hx 19 (D d2_17) rfl ?_
   refine k_iloadN X0 hx 20 (D d2_19) rfl ?_
   refine k_icmp_ge X0 hx 23 110 (D d2_20) (fun hc => absurd (by decide) hc) (fun _ => ?_)
   refine k_lload X0 hx 25 (D d2_23) rfl ?_
   refine k_lconst X0 hx 26 (D d2_25) (z := (0 : Int64)) rfl ?_
   have hv0380 : ¬ v379 < 0 := (by intro hq381; have B382 : (0 : Int) ≤ p2.toInt ∧ p2.toInt ≤ 9223372036854775807 := ⟨kL_ge hp0 (by decide), Int.le_of_lt_add_one (rng64 p2).2⟩; have B383 : (-128 : Int) ≤ p4.toInt ∧ p4.toInt ≤ 127 := ⟨k_ge hp1 (by decide), k_le hp2 (by decide)⟩; have B384 : (-128 : Int) ≤ p5.toInt ∧ p5.toInt ≤ 127 := ⟨k_ge hp3 (by decide), k_le hp4 (by decide)⟩; have B385 : (-128 : Int) ≤ p6.toInt ∧ p6.toInt ≤ 127 := ⟨k_ge hp5 (by decide), k_le hp6 (by decide)⟩; have B386 : (-128 : Int) ≤ p7.toInt ∧ p7.toInt ≤ 127 := ⟨k_ge hp7 (by decide), k_le hp8 (by decide)⟩; have B387 : (-2147483648 : Int) ≤ v196.toInt ∧ v196.toInt ≤ 2147483647 := ⟨(rng32 v196).1, Int.le_of_lt_add_one (rng32 v196).2⟩; have B390 : (0 : Int) ≤ (0 : Int32).toInt ∧ (0 : Int32).toInt ≤ 0 := (by decide); have q391 : ¬ v196.toInt = (0 : Int32).toInt := fun q => hc198 (Int32.toInt_inj.mp q); have B396 : (48 : Int) ≤ (48 : Int32).toInt ∧ (48 : Int32).toInt ≤ 48 := (by decide); have q395 : v101.toInt = p4.toInt - (48 : Int32).toInt := k_isubx hv101 B383 B396 (by decide) (by decide); have B394 : (-176 : Int) ≤ v101.toInt ∧ v101.toInt ≤ 79 := k_subB' q395 B383 B396; have q393 : v213.toInt = v101.toInt := (by rw [hv213]; exact c_i2l _); have B392 : (-176 : Int) ≤ v213.toInt ∧ v213.toInt ≤ 79 := (by rw [q393]; exact B394); have B397 : (0 : Int) ≤ v213.toInt ∧ v213.toInt ≤ 79 := ⟨kL_ge hv0214 (by decide), B392.2⟩; have B398 : (-2147483648 : Int) ≤ v351.toInt ∧ v351.toInt ≤ 2147483647 := ⟨(rng32 v351).1, Int.le_of_lt_add_one (rng32 v351).2⟩; have q401 : ¬ v351.toInt = (0 : Int32).toInt := fun q => hc353 (Int32.toInt_inj.mp q); have B406 : (10 : Int) ≤ (10 : Int64).toInt ∧ (10 : Int64).toInt ≤ 10 := (by decide); have q405 : v377.toInt = 10 * v213.toInt := (by have q0 := c_lmul (10 : Int64) v213; have q1 := rng64 v377; have q2 := B397; rw [← hv377] at q0; rw [show (10 : Int64).toInt = 10 from (by decide)] at q0; omega); have B404 : (0 : Int) ≤ v377.toInt ∧ v377.toInt ≤ 790 := (by rw [q405]; exact k_mulB B397 (by decide)); have q410 : v232.toInt = p5.toInt - (48 : Int32).toInt := k_isubx hv232 B384 B396 (by decide) (by decide); have B409 : (-176 : Int) ≤ v232.toInt ∧ v232.toInt ≤ 79 := k_subB' q410 B384 B396; have q408 : v378.toInt = v232.toInt := (by rw [hv378]; exact c_i2l _); have B407 : (-176 : Int) ≤ v378.toInt ∧ v378.toInt ≤ 79 := (by rw [q408]; exact B409); have q403 : v379.toInt = v377.toInt + v378.toInt := k_laddx hv379 B404 B407 (by decide) (by decide); have B402 : (-176 : Int) ≤ v379.toInt ∧ v379.toInt ≤ 869 := k_addB q403 B404 B407; have B411 : (-176 : Int) ≤ v379.toInt ∧ v379.toInt ≤ -1 := ⟨B402.1, kL_lt hq381 (by decide)⟩; omega)
   refine k_lcif_lt X0 hx 30 110 27 (D d2_26) (D d2_27) (fun hc => absurd hc hv0380) (fun _ => ?_)
   refine k_aloadN X0 hx 31 (D d2_30) rfl rfl ?_
   refine k_iload X0 hx 33 (D d2_31) rfl ?_
   refine k_baload X0 hx hZ 34 e0 F0_0 ⟨by decide, by decide⟩ (v := (.int p6)) rfl (D d2_33) ?_
   refine k_bipush X0 hx 36 (D d2_34) (z := (48 : Int32)) rfl ?_
   refine k_isub X0 hx 37 (D d2_36) (fun v412 hv412 => ?_)
   refine k_istore X0 hx 39 (D d2_37) (Ls' := #[rv a1, iv (0 : Int32), iv (4 : Int32), jv p2, s_, jv v379, s_, iv (2 : Int32), iv v412, iv v351]) rfl ?_
   suffices key413 : ∀ (v531 : Int32), ((v531.toInt = 1 ∧ (0 ≤ v412.toInt ∧ v412.toInt ≤ 9 ∧ 10 * v379.toInt + v412.toInt ≤ p2.toInt)) ∨ (v531.toInt = 0 ∧ ¬ (0 ≤ v412.toInt ∧ v412.toInt ≤ 9 ∧ 10 * v379.toInt + v412.toInt ≤ p2.toInt))) → KEnds p e below s R2_12.cells R2_12.slots (Q2_12 Z a1 p2 k3 p4 p5 p6 p7 p8 h0 n0) s₁ (mkF m 79 #[rv a1, iv (0 : Int32), iv (4 : Int32), jv p2, s_, jv v379, s_, iv (2 : Int32), iv v412, iv v351] [(.int v531)]) by
    refine k_iload X0 hx 41 (D d2_39) rfl ?_
    refine k_if_lt X0 hx 44 78 (D d2_41) (fun hc414 => ?_) (fun hc414 => ?_)
    ·
     refine k_iconst X0 hx 79 (D d2_78) (z := (0 : Int32)) rfl ?_
     refine key413 (0 : Int32) ?_
     have B422 : (0 : Int) ≤ p2.toInt ∧ p2.toInt ≤ 9223372036854775807 := ⟨kL_ge hp0 (by decide), Int.le_of_lt_add_one (rng64 p2).2⟩
     have B423 : (-128 : Int) ≤ p6.toInt ∧ p6.toInt ≤ 127 := ⟨k_ge hp5 (by decide), k_le hp6 (by decide)⟩
     have B424 : (0 : Int) ≤ v379.toInt ∧ v379.toInt ≤ 9223372036854775807 := ⟨kL_ge hv0380 (by decide), Int.le_of_lt_add_one (rng64 v379).2⟩
     have B427 : (48 : Int) ≤ (48 : Int32).toInt ∧ (48 : Int32).toInt ≤ 48 := (by decide)
     have q426 : v412.toInt = p6.toInt - (48 : Int32).toInt := k_isubx hv412 B423 B427 (by decide) (by decide)
     have B425 : (-176 : Int) ≤ v412.toInt ∧ v412.toInt ≤ 79 := k_subB' q426 B423 B427
     have B428 : (-176 : Int) ≤ v412.toInt ∧ v412.toInt ≤ -1 := ⟨B425.1, k_lt hc414 (by decide)⟩
     exact Or.inr ⟨rfl, by omega⟩
    ·
     refine k_iload X0 hx 46 (D d2_44) rfl ?_
     refine k_bipush X0 hx 48 (D d2_46) (z := (9 : Int32)) rfl ?_
     refine k_icmp_gt X0 hx 51 78 (D d2_48) (fun hc429 => ?_) (fun hc429 => ?_)
     ·
      refine k_iconst X0 hx 79 (D d2_78) (z := (0 : Int32)) rfl ?_
      refine key413 (0 : Int32) ?_
      have B437 : (0 : Int) ≤ p2.toInt ∧ p2.toInt ≤ 9223372036854775807 := ⟨kL_ge hp0 (by decide), Int.le_of_lt_add_one (rng64 p2).2⟩
      have B438 : (-128 : Int) ≤ p6.toInt ∧ p6.toInt ≤ 127 := ⟨k_ge hp5 (by decide), k_le hp6 (by decide)⟩
      have B439 : (0 : Int) ≤ v379.toInt ∧ v379.toInt ≤ 9223372036854775807 := ⟨kL_ge hv0380 (by decide), Int.le_of_lt_add_one (rng64 v379).2⟩
      have B442 : (48 : Int) ≤ (48 : Int32).toInt ∧ (48 : Int32).toInt ≤ 48 := (by decide)
      have q441 : v412.toInt = p6.toInt - (48 : Int32).toInt := k_isubx hv412 B438 B442 (by decide) (by decide)
      have B440 : (-176 : Int) ≤ v412.toInt ∧ v412.toInt ≤ 79 := k_subB' q441 B438 B442
      have B443 : (10 : Int) ≤ v412.toInt ∧ v412.toInt ≤ 79 := ⟨k_gt hc429 (by decide), B440.2⟩
      exact Or.inr ⟨rfl, by omega⟩
     ·
      refine k_iload X0 hx 53 (D d2_51) rfl ?_
      refine k_i2l X0 hx 54 (D d2_53) (fun v444 hv444 => ?_)
      refine k_lloadN X0 hx 55 (D d2_54) rfl ?_
      refine k_lcif_gt X0 hx 59 78 56 (D d2_55) (D d2_56) (fun hc445 => ?_) (fun hc445 => ?_)
      ·
       refine k_iconst X0 hx 79 (D d2_78) (z := (0 : Int32)) rfl ?_
       refine key413 (0 : Int32) ?_
       have B455 : (0 : Int) ≤ p2.toInt ∧ p2.toInt ≤ 9223372036854775807 := ⟨kL_ge hp0 (by decide), Int.le_of_lt_add_one (rng64 p2).2⟩
       have B456 : (-128 : Int) ≤ p6.toInt ∧ p6.toInt ≤ 127 := ⟨k_ge hp5 (by decide), k_le hp6 (by decide)⟩
       have B457 : (0 : Int) ≤ v379.toInt ∧ v379.toInt ≤ 9223372036854775807 := ⟨kL_ge hv0380 (by decide), Int.le_of_lt_add_one (rng64 v379).2⟩
       have B460 : (48 : Int) ≤ (48 : Int32).toInt ∧ (48 : Int32).toInt ≤ 48 := (by decide)
       have q459 : v412.toInt = p6.toInt - (48 : Int32).toInt := k_isubx hv412 B456 B460 (by decide) (by decide)
       have B458 : (0 : Int) ≤ v412.toInt ∧ v412.toInt ≤ 9 := ⟨k_ge hc414 (by decide), k_le hc429 (by decide)⟩
       have q462 : v444.toInt = v412.toInt := (by rw [hv444]; exact c_i2l _)
       have B461 : (0 : Int) ≤ v444.toInt ∧ v444.toInt ≤ 9 := (by rw [q462]; exact B458)
       have q463 := hc445; rw [Int64.lt_iff_toInt_lt] at q463
       exact Or.inr ⟨rfl, by omega⟩
      ·
       refine k_lload X0 hx 61 (D d2_59) rfl ?_
       refine k_lloadN X0 hx 62 (D d2_61) rfl ?_
       refine k_iload X0 hx 64 (D d2_62) rfl ?_
       refine k_i2lL X0 hx 65 (D d2_64) (z := v444) hv444.symm ?_
       refine k_lsub X0 hx 66 (D d2_65) (fun v464 hv464 => ?_)
       refine k_ldcL X0 hx hZ hown 69 (k_w hw 12 rfl) (D d2_66) ?_
       refine k_ldiv X0 hx 70 (D d2_69) (by decide) (fun v465 hv465 => ?_)
       refine k_lcif_gt X0 hx 74 78 71 (D d2_70) (D d2_71) (fun hc466 => ?_) (fun hc466 => ?_)
       ·
        refine k_iconst X0 hx 79 (D d2_78) (z := (0 : Int32)) rfl ?_
        refine key413 (0 : Int32) ?_
        have B483 : (0 : Int) ≤ p2.toInt ∧ p2.toInt ≤ 9223372036854775807 := ⟨kL_ge hp0 (by decide), Int.le_of_lt_add_one (rng64 p2).2⟩
        have B484 : (-128 : Int) ≤ p6.toInt ∧ p6.toInt ≤ 127 := ⟨k_ge hp5 (by decide), k_le hp6 (by decide)⟩
        have B485 : (0 : Int) ≤ v379.toInt ∧ v379.toInt ≤ 9223372036854775807 := ⟨kL_ge hv0380 (by decide), Int.le_of_lt_add_one (rng64 v379).2⟩
        have B488 : (48 : Int) ≤ (48 : Int32).toInt ∧ (48 : Int32).toInt ≤ 48 := (by decide)
        have q487 : v412.toInt = p6.toInt - (48 : Int32).toInt := k_isubx hv412 B484 B488 (by decide) (by decide)
        have B486 : (0 : Int) ≤ v412.toInt ∧ v412.toInt ≤ 9 := ⟨k_ge hc414 (by decide), k_le hc429 (by decide)⟩
        have q490 : v444.toInt = v412.toInt := (by rw [hv444]; exact c_i2l _)
        have B489 : (0 : Int) ≤ v444.toInt ∧ v444.toInt ≤ 9 := (by rw [q490]; exact B486)
        have q491 := hc445; rw [Int64.lt_iff_toInt_lt] at q491
        have q494 : (0 ≤ v464.toInt → v465.toInt = v464.toInt / 10) ∧ (v464.toInt < 0 → v465.toInt = -((-v464.toInt) / 10)) := (by rw [hv465]; exact c_ldiv _ _ 10 (by decide) (by decide))
        have q496 : v464.toInt = p2.toInt - v444.toInt := k_lsubx hv464 B483 B489 (by decide) (by decide)
        have B495 : (-9 : Int) ≤ v464.toInt ∧ v464.toInt ≤ 9223372036854775807 := k_subB' q496 B483 B489
        have B497 : (10 : Int) ≤ (10 : Int64).toInt ∧ (10 : Int64).toInt ≤ 10 := (by decide)
        have B492 : (-9223372036854775808 : Int) ≤ v465.toInt ∧ v465.toInt ≤ 9223372036854775807 := ⟨(rng64 v465).1, Int.le_of_lt_add_one (rng64 v465).2⟩
        have q498 := hc466; rw [Int64.lt_iff_toInt_lt] at q498
        exact Or.inr ⟨rfl, by omega⟩
       ·
        refine k_iconst X0 hx 75 (D d2_74) (z := (1 : Int32)) rfl ?_
        refine k_goto X0 hx 79 (D d2_75) ?_
        refine key413 (1 : Int32) ?_
        have B515 : (0 : Int) ≤ p2.toInt ∧ p2.toInt ≤ 9223372036854775807 := ⟨kL_ge hp0 (by decide), Int.le_of_lt_add_one (rng64 p2).2⟩
        have B516 : (-128 : Int) ≤ p6.toInt ∧ p6.toInt ≤ 127 := ⟨k_ge hp5 (by decide), k_le hp6 (by decide)⟩
        have B517 : (0 : Int) ≤ v379.toInt ∧ v379.toInt ≤ 9223372036854775807 := ⟨kL_ge hv0380 (by decide), Int.le_of_lt_add_one (rng64 v379).2⟩
        have B520 : (48 : Int) ≤ (48 : Int32).toInt ∧ (48 : Int32).toInt ≤ 48 := (by decide)
        have q519 : v412.toInt = p6.toInt - (48 : Int32).toInt := k_isubx hv412 B516 B520 (by decide) (by decide)
        have B518 : (0 : Int) ≤ v412.toInt ∧ v412.toInt ≤ 9 := ⟨k_ge hc414 (by decide), k_le hc429 (by decide)⟩
        have q522 : v444.toInt = v412.toInt := (by rw [hv444]; exact c_i2l _)
        have B521 : (0 : Int) ≤ v444.toInt ∧ v444.toInt ≤ 9 := (by rw [q522]; exact B518)
        have q523 := hc445; rw [Int64.lt_iff_toInt_lt] at q523
        have q526 : (0 ≤ v464.toInt → v465.toInt = v464.toInt / 10) ∧ (v464.toInt < 0 → v465.toInt = -((-v464.toInt) / 10)) := (by rw [hv465]; exact c_ldiv _ _ 10 (by decide) (by decide))
        have q528 : v464.toInt = p2.toInt - v444.toInt := k_lsubx hv464 B515 B521 (by decide) (by decide)
        have B527 : (-9 : Int) ≤ v464.toInt ∧ v464.toInt ≤ 9223372036854775807 := k_subB' q528 B515 B521
        have B529 : (10 : Int) ≤ (10 : Int64).toInt ∧ (10 : Int64).toInt ≤ 10 := (by decide)
        have B524 : (-9223372036854775808 : Int) ≤ v465.toInt ∧ v465.toInt ≤ 9223372036854775807 := ⟨(rng64 v465).1, Int.le_of_lt_add_one (rng64 v465).2⟩
        have q530 := hc466; rw [Int64.lt_iff_toInt_lt] at q530
        exact Or.inl ⟨rfl, by omega⟩
   intro v531 hP532
   refine k_istore X0 hx 81 (D d2_79) (Ls' := #[rv a1, iv (0 : Int32), iv (4 : Int32), jv p2, s_, jv v379, s_, iv (2 : Int32), iv v412, iv v531]) rfl ?_
   refine k_iload X0 hx 83 (D d2_81) rfl ?_
   refine k_if_eq X0 hx 86 99 (D d2_83) (fun hc533 => ?_) (fun hc533 => ?_)
   ·
    refine k_ldcL X0 hx hZ hown 102 (k_w hw 10 rfl) (D d2_99) ?_
    refine k_lstore X0 hx 104 (D d2_102) (Ls' := #[rv a1, iv (0 : Int32), iv (4 : Int32), jv p2, s_, jv (-1 : Int64), s_, iv (2 : Int32), iv v412, iv v531]) rfl ?_
    refine k_iinc X0 hx 107 (D d2_104) rfl (z := (3 : Int32)) (by decide) (Ls' := #[rv a1, iv (0 : Int32), iv (4 : Int32), jv p2, s_, jv (-1 : Int64), s_, iv (3 : Int32), iv v412, iv v531]) rfl ?_
    refine k_goto X0 hx 17 (D d2_107) ?_
    refine k_iload X0 hx 19 (D d2_17) rfl ?_
    refine k_iloadN X0 hx 20 (D d2_19) rfl ?_
    refine k_icmp_ge X0 hx 23 110 (D d2_20) (fun hc => absurd (by decide) hc) (fun _ => ?_)
    refine k_lload X0 hx 25 (D d2_23) rfl ?_
    refine k_lconst X0 hx 26 (D d2_25) (z := (0 : Int64)) rfl ?_
    refine k_lcif_lt X0 hx 30 110 27 (D d2_26) (D d2_27) (fun _ => ?_) (fun hc => absurd (by decide) hc)
    refine k_lload X0 hx 112 (D d2_110) rfl ?_
    refine k_retL X0 hx hret (D d2_112) hlk (by decide) (by decide) ⟨N0, e0, (-1 : Int64), rfl, ?_⟩
    have hgoal : True := trivial
    have B534 : (0 : Int) ≤ p2.toInt ∧ p2.toInt ≤ 9223372036854775807 := ⟨kL_ge hp0 (by decide), Int.le_of_lt_add_one (rng64 p2).2⟩
    have B535 : (-128 : Int) ≤ p4.toInt ∧ p4.toInt ≤ 127 := ⟨k_ge hp1 (by decide), k_le hp2 (by decide)⟩
    have B536 : (-128 : Int) ≤ p5.toInt ∧ p5.toInt ≤ 127 := ⟨k_ge hp3 (by decide), k_le hp4 (by decide)⟩
    have B537 : (-128 : Int) ≤ p6.toInt ∧ p6.toInt ≤ 127 := ⟨k_ge hp5 (by decide), k_le hp6 (by decide)⟩
    have B538 : (-128 : Int) ≤ p7.toInt ∧ p7.toInt ≤ 127 := ⟨k_ge hp7 (by decide), k_le hp8 (by decide)⟩
    have B539 : (-2147483648 : Int) ≤ v196.toInt ∧ v196.toInt ≤ 2147483647 := ⟨(rng32 v196).1, Int.le_of_lt_add_one (rng32 v196).2⟩
    have B542 : (0 : Int) ≤ (0 : Int32).toInt ∧ (0 : Int32).toInt ≤ 0 := (by decide)
    have q543 : ¬ v196.toInt = (0 : Int32).toInt := fun q => hc198 (Int32.toInt_inj.mp q)
    have B548 : (48 : Int) ≤ (48 : Int32).toInt ∧ (48 : Int32).toInt ≤ 48 := (by decide)
    have q547 : v101.toInt = p4.toInt - (48 : Int32).toInt := k_isubx hv101 B535 B548 (by decide) (by decide)
    have B546 : (-176 : Int) ≤ v101.toInt ∧ v101.toInt ≤ 79 := k_subB' q547 B535 B548
    have q545 : v213.toInt = v101.toInt := (by rw [hv213]; exact c_i2l _)
    have B544 : (-176 : Int) ≤ v213.toInt ∧ v213.toInt ≤ 79 := (by rw [q545]; exact B546)
    have B549 : (0 : Int) ≤ v213.toInt ∧ v213.toInt ≤ 79 := ⟨kL_ge hv0214 (by decide), B544.2⟩
    have B550 : (-2147483648 : Int) ≤ v351.toInt ∧ v351.toInt ≤ 2147483647 := ⟨(rng32 v351).1, Int.le_of_lt_add_one (rng32 v351).2⟩
    have q553 : ¬ v351.toInt = (0 : Int32).toInt := fun q => hc353 (Int32.toInt_inj.mp q)
    have B558 : (10 : Int) ≤ (10 : Int64).toInt ∧ (10 : Int64).toInt ≤ 10 := (by decide)
    have q557 : v377.toInt = 10 * v213.toInt := (by have q0 := c_lmul (10 : Int64) v213; have q1 := rng64 v377; have q2 := B549; rw [← hv377] at q0; rw [show (10 : Int64).toInt = 10 from (by decide)] at q0; omega)
    have B556 : (0 : Int) ≤ v377.toInt ∧ v377.toInt ≤ 790 := (by rw [q557]; exact k_mulB B549 (by decide))
    have q562 : v232.toInt = p5.toInt - (48 : Int32).toInt := k_isubx hv232 B536 B548 (by decide) (by decide)
    have B561 : (-176 : Int) ≤ v232.toInt ∧ v232.toInt ≤ 79 := k_subB' q562 B536 B548
    have q560 : v378.toInt = v232.toInt := (by rw [hv378]; exact c_i2l _)
    have B559 : (-176 : Int) ≤ v378.toInt ∧ v378.toInt ≤ 79 := (by rw [q560]; exact B561)
    have q555 : v379.toInt = v377.toInt + v378.toInt := k_laddx hv379 B556 B559 (by decide) (by decide)
    have B554 : (-176 : Int) ≤ v379.toInt ∧ v379.toInt ≤ 869 := k_addB q555 B556 B559
    have B563 : (0 : Int) ≤ v379.toInt ∧ v379.toInt ≤ 869 := ⟨kL_ge hv0380 (by decide), B554.2⟩
    have B564 : (-2147483648 : Int) ≤ v531.toInt ∧ v531.toInt ≤ 2147483647 := ⟨(rng32 v531).1, Int.le_of_lt_add_one (rng32 v531).2⟩
    have q567 := congrArg Int32.toInt hc533
    have B568 : (-1 : Int) ≤ (-1 : Int64).toInt ∧ (-1 : Int64).toInt ≤ -1 := (by decide)
    have q570 : v412.toInt = p6.toInt - (48 : Int32).toInt := k_isubx hv412 B537 B548 (by decide) (by decide)
    have B569 : (-176 : Int) ≤ v412.toInt ∧ v412.toInt ≤ 79 := k_subB' q570 B537 B548
    refine ⟨fun hg => ?_, fun hg => ?_⟩ <;> omega
   ·
    refine k_ldcL X0 hx hZ hown 89 (k_w hw 12 rfl) (D d2_86) ?_
    refine k_lload X0 hx 91 (D d2_89) rfl ?_
    refine k_lmul X0 hx 92 (D d2_91) (fun v571 hv571 => ?_)
    refine k_iload X0 hx 94 (D d2_92) rfl ?_
    refine k_i2l X0 hx 95 (D d2_94) (fun v572 hv572 => ?_)
    refine k_ladd X0 hx 96 (D d2_95) (fun v573 hv573 => ?_)
    refine k_goto X0 hx 102 (D d2_96) ?_
    refine k_lstore X0 hx 104 (D d2_102) (Ls' := #[rv a1, iv (0 : Int32), iv (4 : Int32), jv p2, s_, jv v573, s_, iv (2 : Int32), iv v412, iv v531]) rfl ?_
    refine k_iinc X0 hx 107 (D d2_104) rfl (z := (3 : Int32)) (by decide) (Ls' := #[rv a1, iv (0 : Int32), iv (4 : Int32), jv p2, s_, jv v573, s_, iv (3 : Int32), iv v412, iv v531]) rfl ?_
    refine k_goto X0 hx 17 (D d2_107) ?_
    refine k_iload X0 hx 19 (D d2_17) rfl ?_
    refine k_iloadN X0 hx 20 (D d2_19) rfl ?_
    refine k_icmp_ge X0 hx 23 110 (D d2_20) (fun hc => absurd (by decide) hc) (fun _ => ?_)
    refine k_lload X0 hx 25 (D d2_23) rfl ?_
    refine k_lconst X0 hx 26 (D d2_25) (z := (0 : Int64)) rfl ?_
    have hv0574 : ¬ v573 < 0 := (by intro hq575; have B576 : (0 : Int) ≤ p2.toInt ∧ p2.toInt ≤ 9223372036854775807 := ⟨kL_ge hp0 (by decide), Int.le_of_lt_add_one (rng64 p2).2⟩; have B577 : (-128 : Int) ≤ p4.toInt ∧ p4.toInt ≤ 127 := ⟨k_ge hp1 (by decide), k_le hp2 (by decide)⟩; have B578 : (-128 : Int) ≤ p5.toInt ∧ p5.toInt ≤ 127 := ⟨k_ge hp3 (by decide), k_le hp4 (by decide)⟩; have B579 : (-128 : Int) ≤ p6.toInt ∧ p6.toInt ≤ 127 := ⟨k_ge hp5 (by decide), k_le hp6 (by decide)⟩; have B580 : (-128 : Int) ≤ p7.toInt ∧ p7.toInt ≤ 127 := ⟨k_ge hp7 (by decide), k_le hp8 (by decide)⟩; have B581 : (-2147483648 : Int) ≤ v196.toInt ∧ v196.toInt ≤ 2147483647 := ⟨(rng32 v196).1, Int.le_of_lt_add_one (rng32 v196).2⟩; have B584 : (0 : Int) ≤ (0 : Int32).toInt ∧ (0 : Int32).toInt ≤ 0 := (by decide); have q585 : ¬ v196.toInt = (0 : Int32).toInt := fun q => hc198 (Int32.toInt_inj.mp q); have B590 : (48 : Int) ≤ (48 : Int32).toInt ∧ (48 : Int32).toInt ≤ 48 := (by decide); have q589 : v101.toInt = p4.toInt - (48 : Int32).toInt := k_isubx hv101 B577 B590 (by decide) (by decide); have B588 : (-176 : Int) ≤ v101.toInt ∧ v101.toInt ≤ 79 := k_subB' q589 B577 B590; have q587 : v213.toInt = v101.toInt := (by rw [hv213]; exact c_i2l _); have B586 : (-176 : Int) ≤ v213.toInt ∧ v213.toInt ≤ 79 := (by rw [q587]; exact B588); have B591 : (0 : Int) ≤ v213.toInt ∧ v213.toInt ≤ 79 := ⟨kL_ge hv0214 (by decide), B586.2⟩; have B592 : (-2147483648 : Int) ≤ v351.toInt ∧ v351.toInt ≤ 2147483647 := ⟨(rng32 v351).1, Int.le_of_lt_add_one (rng32 v351).2⟩; have q595 : ¬ v351.toInt = (0 : Int32).toInt := fun q => hc353 (Int32.toInt_inj.mp q); have B600 : (10 : Int) ≤ (10 : Int64).toInt ∧ (10 : Int64).toInt ≤ 10 := (by decide); have q599 : v377.toInt = 10 * v213.toInt := (by have q0 := c_lmul (10 : Int64) v213; have q1 := rng64 v377; have q2 := B591; rw [← hv377] at q0; rw [show (10 : Int64).toInt = 10 from (by decide)] at q0; omega); have B598 : (0 : Int) ≤ v377.toInt ∧ v377.toInt ≤ 790 := (by rw [q599]; exact k_mulB B591 (by decide)); have q604 : v232.toInt = p5.toInt - (48 : Int32).toInt := k_isubx hv232 B578 B590 (by decide) (by decide); have B603 : (-176 : Int) ≤ v232.toInt ∧ v232.toInt ≤ 79 := k_subB' q604 B578 B590; have q602 : v378.toInt = v232.toInt := (by rw [hv378]; exact c_i2l _); have B601 : (-176 : Int) ≤ v378.toInt ∧ v378.toInt ≤ 79 := (by rw [q602]; exact B603); have q597 : v379.toInt = v377.toInt + v378.toInt := k_laddx hv379 B598 B601 (by decide) (by decide); have B596 : (-176 : Int) ≤ v379.toInt ∧ v379.toInt ≤ 869 := k_addB q597 B598 B601; have B605 : (0 : Int) ≤ v379.toInt ∧ v379.toInt ≤ 869 := ⟨kL_ge hv0380 (by decide), B596.2⟩; have B606 : (-2147483648 : Int) ≤ v531.toInt ∧ v531.toInt ≤ 2147483647 := ⟨(rng32 v531).1, Int.le_of_lt_add_one (rng32 v531).2⟩; have q609 : ¬ v531.toInt = (0 : Int32).toInt := fun q => hc533 (Int32.toInt_inj.mp q); have q613 : v571.toInt = 10 * v379.toInt := (by have q0 := c_lmul (10 : Int64) v379; have q1 := rng64 v571; have q2 := B605; rw [← hv571] at q0; rw [show (10 : Int64).toInt = 10 from (by decide)] at q0; omega); have B612 : (0 : Int) ≤ v571.toInt ∧ v571.toInt ≤ 8690 := (by rw [q613]; exact k_mulB B605 (by decide)); have q617 : v412.toInt = p6.toInt - (48 : Int32).toInt := k_isubx hv412 B579 B590 (by decide) (by decide); have B616 : (-176 : Int) ≤ v412.toInt ∧ v412.toInt ≤ 79 := k_subB' q617 B579 B590; have q615 : v572.toInt = v412.toInt := (by rw [hv572]; exact c_i2l _); have B614 : (-176 : Int) ≤ v572.toInt ∧ v572.toInt ≤ 79 := (by rw [q615]; exact B616); have q611 : v573.toInt = v571.toInt + v572.toInt := k_laddx hv573 B612 B614 (by decide) (by decide); have B610 : (-176 : Int) ≤ v573.toInt ∧ v573.toInt ≤ 8769 := k_addB q611 B612 B614; have B618 : (-176 : Int) ≤ v573.toInt ∧ v573.toInt ≤ -1 := ⟨B610.1, kL_lt hq575 (by decide)⟩; omega)
    refine k_lcif_lt X0 hx 30 110 27 (D d2_26) (D d2_27) (fun hc => absurd hc hv0574) (fun _ => ?_)
    refine k_aloadN X0 hx 31 (D d2_30) rfl rfl ?_
    refine k_iload X0 hx 33 (D d2_31) rfl ?_
    refine k_baload X0 hx hZ 34 e0 F0_0 ⟨by decide, by decide⟩ (v := (.int p7)) rfl (D d2_33) ?_
    refine k_bipush X0 hx 36 (D d2_34) (z := (48 : Int32)) rfl ?_
    refine k_isub X0 hx 37 (D d2_36) (fun v619 hv619 => ?_)
    refine k_istore X0 hx 39 (D d2_37) (Ls' := #[rv a1, iv (0 : Int32), iv (4 : Int32), jv p2, s_, jv v573, s_, iv (3 : Int32), iv v619, iv v531]) rfl ?_
    suffices key620 : ∀ (v738 : Int32), ((v738.toInt = 1 ∧ (0 ≤ v619.toInt ∧ v619.toInt ≤ 9 ∧ 10 * v573.toInt + v619.toInt ≤ p2.toInt)) ∨ (v738.toInt = 0 ∧ ¬ (0 ≤ v619.toInt ∧ v619.toInt ≤ 9 ∧ 10 * v573.toInt + v619.toInt ≤ p2.toInt))) → KEnds p e below s R2_12.cells R2_12.slots (Q2_12 Z a1 p2 k3 p4 p5 p6 p7 p8 h0 n0) s₁ (mkF m 79 #[rv a1, iv (0 : Int32), iv (4 : Int32), jv p2, s_, jv v573, s_, iv (3 : Int32), iv v619, iv v531] [(.int v738)]) by
     refine k_iload X0 hx 41 (D d2_39) rfl ?_
     refine k_if_lt X0 hx 44 78 (D d2_41) (fun hc621 => ?_) (fun hc621 => ?_)
     ·
      refine k_iconst X0 hx 79 (D d2_78) (z := (0 : Int32)) rfl ?_
      refine key620 (0 : Int32) ?_
      have B629 : (0 : Int) ≤ p2.toInt ∧ p2.toInt ≤ 9223372036854775807 := ⟨kL_ge hp0 (by decide), Int.le_of_lt_add_one (rng64 p2).2⟩
      have B630 : (-128 : Int) ≤ p7.toInt ∧ p7.toInt ≤ 127 := ⟨k_ge hp7 (by decide), k_le hp8 (by decide)⟩
      have B631 : (0 : Int) ≤ v573.toInt ∧ v573.toInt ≤ 9223372036854775807 := ⟨kL_ge hv0574 (by decide), Int.le_of_lt_add_one (rng64 v573).2⟩
      have B634 : (48 : Int) ≤ (48 : Int32).toInt ∧ (48 : Int32).toInt ≤ 48 := (by decide)
      have q633 : v619.toInt = p7.toInt - (48 : Int32).toInt := k_isubx hv619 B630 B634 (by decide) (by decide)
      have B632 : (-176 : Int) ≤ v619.toInt ∧ v619.toInt ≤ 79 := k_subB' q633 B630 B634
      have B635 : (-176 : Int) ≤ v619.toInt ∧ v619.toInt ≤ -1 := ⟨B632.1, k_lt hc621 (by decide)⟩
      exact Or.inr ⟨rfl, by omega⟩
     ·
      refine k_iload X0 hx 46 (D d2_44) rfl ?_
      refine k_bipush X0 hx 48 (D d2_46) (z := (9 : Int32)) rfl ?_
      refine k_icmp_gt X0 hx 51 78 (D d2_48) (fun hc636 => ?_) (fun hc636 => ?_)
      ·
       refine k_iconst X0 hx 79 (D d2_78) (z := (0 : Int32)) rfl ?_
       refine key620 (0 : Int32) ?_
       have B644 : (0 : Int) ≤ p2.toInt ∧ p2.toInt ≤ 9223372036854775807 := ⟨kL_ge hp0 (by decide), Int.le_of_lt_add_one (rng64 p2).2⟩
       have B645 : (-128 : Int) ≤ p7.toInt ∧ p7.toInt ≤ 127 := ⟨k_ge hp7 (by decide), k_le hp8 (by decide)⟩
       have B646 : (0 : Int) ≤ v573.toInt ∧ v573.toInt ≤ 9223372036854775807 := ⟨kL_ge hv0574 (by decide), Int.le_of_lt_add_one (rng64 v573).2⟩
       have B649 : (48 : Int) ≤ (48 : Int32).toInt ∧ (48 : Int32).toInt ≤ 48 := (by decide)
       have q648 : v619.toInt = p7.toInt - (48 : Int32).toInt := k_isubx hv619 B645 B649 (by decide) (by decide)
       have B647 : (-176 : Int) ≤ v619.toInt ∧ v619.toInt ≤ 79 := k_subB' q648 B645 B649
       have B650 : (10 : Int) ≤ v619.toInt ∧ v619.toInt ≤ 79 := ⟨k_gt hc636 (by decide), B647.2⟩
       exact Or.inr ⟨rfl, by omega⟩
      ·
       refine k_iload X0 hx 53 (D d2_51) rfl ?_
       refine k_i2l X0 hx 54 (D d2_53) (fun v651 hv651 => ?_)
       refine k_lloadN X0 hx 55 (D d2_54) rfl ?_
       refine k_lcif_gt X0 hx 59 78 56 (D d2_55) (D d2_56) (fun hc652 => ?_) (fun hc652 => ?_)
       ·
        refine k_iconst X0 hx 79 (D d2_78) (z := (0 : Int32)) rfl ?_
        refine key620 (0 : Int32) ?_
        have B662 : (0 : Int) ≤ p2.toInt ∧ p2.toInt ≤ 9223372036854775807 := ⟨kL_ge hp0 (by decide), Int.le_of_lt_add_one (rng64 p2).2⟩
        have B663 : (-128 : Int) ≤ p7.toInt ∧ p7.toInt ≤ 127 := ⟨k_ge hp7 (by decide), k_le hp8 (by decide)⟩
        have B664 : (0 : Int) ≤ v573.toInt ∧ v573.toInt ≤ 9223372036854775807 := ⟨kL_ge hv0574 (by decide), Int.le_of_lt_add_one (rng64 v573).2⟩
        have B667 : (48 : Int) ≤ (48 : Int32).toInt ∧ (48 : Int32).toInt ≤ 48 := (by decide)
        have q666 : v619.toInt = p7.toInt - (48 : Int32).toInt := k_isubx hv619 B663 B667 (by decide) (by decide)
        have B665 : (0 : Int) ≤ v619.toInt ∧ v619.toInt ≤ 9 := ⟨k_ge hc621 (by decide), k_le hc636 (by decide)⟩
        have q669 : v651.toInt = v619.toInt := (by rw [hv651]; exact c_i2l _)
        have B668 : (0 : Int) ≤ v651.toInt ∧ v651.toInt ≤ 9 := (by rw [q669]; exact B665)
        have q670 := hc652; rw [Int64.lt_iff_toInt_lt] at q670
        exact Or.inr ⟨rfl, by omega⟩
       ·
        refine k_lload X0 hx 61 (D d2_59) rfl ?_
        refine k_lloadN X0 hx 62 (D d2_61) rfl ?_
        refine k_iload X0 hx 64 (D d2_62) rfl ?_
        refine k_i2lL X0 hx 65 (D d2_64) (z := v651) hv651.symm ?_
        refine k_lsub X0 hx 66 (D d2_65) (fun v671 hv671 => ?_)
        refine k_ldcL X0 hx hZ hown 69 (k_w hw 12 rfl) (D d2_66) ?_
        refine k_ldiv X0 hx 70 (D d2_69) (by decide) (fun v672 hv672 => ?_)
        refine k_lcif_gt X0 hx 74 78 71 (D d2_70) (D d2_71) (fun hc673 => ?_) (fun hc673 => ?_)
        ·
         refine k_iconst X0 hx 79 (D d2_78) (z := (0 : Int32)) rfl ?_
         refine key620 (0 : Int32) ?_
         have B690 : (0 : Int) ≤ p2.toInt ∧ p2.toInt ≤ 9223372036854775807 := ⟨kL_ge hp0 (by decide), Int.le_of_lt_add_one (rng64 p2).2⟩
         have B691 : (-128 : Int) ≤ p7.toInt ∧ p7.toInt ≤ 127 := ⟨k_ge hp7 (by decide), k_le hp8 (by decide)⟩
         have B692 : (0 : Int) ≤ v573.toInt ∧ v573.toInt ≤ 9223372036854775807 := ⟨kL_ge hv0574 (by decide), Int.le_of_lt_add_one (rng64 v573).2⟩
         have B695 : (48 : Int) ≤ (48 : Int32).toInt ∧ (48 : Int32).toInt ≤ 48 := (by decide)
         have q694 : v619.toInt = p7.toInt - (48 : Int32).toInt := k_isubx hv619 B691 B695 (by decide) (by decide)
         have B693 : (0 : Int) ≤ v619.toInt ∧ v619.toInt ≤ 9 := ⟨k_ge hc621 (by decide), k_le hc636 (by decide)⟩
         have q697 : v651.toInt = v619.toInt := (by rw [hv651]; exact c_i2l _)
         have B696 : (0 : Int) ≤ v651.toInt ∧ v651.toInt ≤ 9 := (by rw [q697]; exact B693)
         have q698 := hc652; rw [Int64.lt_iff_toInt_lt] at q698
         have q701 : (0 ≤ v671.toInt → v672.toInt = v671.toInt / 10) ∧ (v671.toInt < 0 → v672.toInt = -((-v671.toInt) / 10)) := (by rw [hv672]; exact c_ldiv _ _ 10 (by decide) (by decide))
         have q703 : v671.toInt = p2.toInt - v651.toInt := k_lsubx hv671 B690 B696 (by decide) (by decide)
         have B702 : (-9 : Int) ≤ v671.toInt ∧ v671.toInt ≤ 9223372036854775807 := k_subB' q703 B690 B696
         have B704 : (10 : Int) ≤ (10 : Int64).toInt ∧ (10 : Int64).toInt ≤ 10 := (by decide)
         have B699 : (-9223372036854775808 : Int) ≤ v672.toInt ∧ v672.toInt ≤ 9223372036854775807 := ⟨(rng64 v672).1, Int.le_of_lt_add_one (rng64 v672).2⟩
         have q705 := hc673; rw [Int64.lt_iff_toInt_lt] at q705
         exact Or.inr ⟨rfl, by omega⟩
        ·
         refine k_iconst X0 hx 75 (D d2_74) (z := (1 : Int32)) rfl ?_
         refine k_goto X0 hx 79 (D d2_75) ?_
         refine key620 (1 : Int32) ?_
         have B722 : (0 : Int) ≤ p2.toInt ∧ p2.toInt ≤ 9223372036854775807 := ⟨kL_ge hp0 (by decide), Int.le_of_lt_add_one (rng64 p2).2⟩
         have B723 : (-128 : Int) ≤ p7.toInt ∧ p7.toInt ≤ 127 := ⟨k_ge hp7 (by decide), k_le hp8 (by decide)⟩
         have B724 : (0 : Int) ≤ v573.toInt ∧ v573.toInt ≤ 9223372036854775807 := ⟨kL_ge hv0574 (by decide), Int.le_of_lt_add_one (rng64 v573).2⟩
         have B727 : (48 : Int) ≤ (48 : Int32).toInt ∧ (48 : Int32).toInt ≤ 48 := (by decide)
         have q726 : v619.toInt = p7.toInt - (48 : Int32).toInt := k_isubx hv619 B723 B727 (by decide) (by decide)
         have B725 : (0 : Int) ≤ v619.toInt ∧ v619.toInt ≤ 9 := ⟨k_ge hc621 (by decide), k_le hc636 (by decide)⟩
         have q729 : v651.toInt = v619.toInt := (by rw [hv651]; exact c_i2l _)
         have B728 : (0 : Int) ≤ v651.toInt ∧ v651.toInt ≤ 9 := (by rw [q729]; exact B725)
         have q730 := hc652; rw [Int64.lt_iff_toInt_lt] at q730
         have q733 : (0 ≤ v671.toInt → v672.toInt = v671.toInt / 10) ∧ (v671.toInt < 0 → v672.toInt = -((-v671.toInt) / 10)) := (by rw [hv672]; exact c_ldiv _ _ 10 (by decide) (by decide))
         have q735 : v671.toInt = p2.toInt - v651.toInt := k_lsubx hv671 B722 B728 (by decide) (by decide)
         have B734 : (-9 : Int) ≤ v671.toInt ∧ v671.toInt ≤ 9223372036854775807 := k_subB' q735 B722 B728
         have B736 : (10 : Int) ≤ (10 : Int64).toInt ∧ (10 : Int64).toInt ≤ 10 := (by decide)
         have B731 : (-9223372036854775808 : Int) ≤ v672.toInt ∧ v672.toInt ≤ 9223372036854775807 := ⟨(rng64 v672).1, Int.le_of_lt_add_one (rng64 v672).2⟩
         have q737 := hc673; rw [Int64.lt_iff_toInt_lt] at q737
         exact Or.inl ⟨rfl, by omega⟩
    intro v738 hP739
    refine k_istore X0 hx 81 (D d2_79) (Ls' := #[rv a1, iv (0 : Int32), iv (4 : Int32), jv p2, s_, jv v573, s_, iv (3 : Int32), iv v619, iv v738]) rfl ?_
    refine k_iload X0 hx 83 (D d2_81) rfl ?_
    refine k_if_eq X0 hx 86 99 (D d2_83) (fun hc740 => ?_) (fun hc740 => ?_)
    ·
     refine k_ldcL X0 hx hZ hown 102 (k_w hw 10 rfl) (D d2_99) ?_
     refine k_lstore X0 hx 104 (D d2_102) (Ls' := #[rv a1, iv (0 : Int32), iv (4 : Int32), jv p2, s_, jv (-1 : Int64), s_, iv (3 : Int32), iv v619, iv v738]) rfl ?_
     refine k_iinc X0 hx 107 (D d2_104) rfl (z := (4 : Int32)) (by decide) (Ls' := #[rv a1, iv (0 : Int32), iv (4 : Int32), jv p2, s_, jv (-1 : Int64), s_, iv (4 : Int32), iv v619, iv v738]) rfl ?_
     refine k_goto X0 hx 17 (D d2_107) ?_
     refine k_iload X0 hx 19 (D d2_17) rfl ?_
     refine k_iloadN X0 hx 20 (D d2_19) rfl ?_
     refine k_icmp_ge X0 hx 23 110 (D d2_20) (fun _ => ?_) (fun hc => absurd hc (by decide))
     refine k_lload X0 hx 112 (D d2_110) rfl ?_
     refine k_retL X0 hx hret (D d2_112) hlk (by decide) (by decide) ⟨N0, e0, (-1 : Int64), rfl, ?_⟩
     have hgoal : True := trivial
     have B741 : (0 : Int) ≤ p2.toInt ∧ p2.toInt ≤ 9223372036854775807 := ⟨kL_ge hp0 (by decide), Int.le_of_lt_add_one (rng64 p2).2⟩
     have B742 : (-128 : Int) ≤ p4.toInt ∧ p4.toInt ≤ 127 := ⟨k_ge hp1 (by decide), k_le hp2 (by decide)⟩
     have B743 : (-128 : Int) ≤ p5.toInt ∧ p5.toInt ≤ 127 := ⟨k_ge hp3 (by decide), k_le hp4 (by decide)⟩
     have B744 : (-128 : Int) ≤ p6.toInt ∧ p6.toInt ≤ 127 := ⟨k_ge hp5 (by decide), k_le hp6 (by decide)⟩
     have B745 : (-128 : Int) ≤ p7.toInt ∧ p7.toInt ≤ 127 := ⟨k_ge hp7 (by decide), k_le hp8 (by decide)⟩
     have B746 : (-2147483648 : Int) ≤ v196.toInt ∧ v196.toInt ≤ 2147483647 := ⟨(rng32 v196).1, Int.le_of_lt_add_one (rng32 v196).2⟩
     have B749 : (0 : Int) ≤ (0 : Int32).toInt ∧ (0 : Int32).toInt ≤ 0 := (by decide)
     have q750 : ¬ v196.toInt = (0 : Int32).toInt := fun q => hc198 (Int32.toInt_inj.mp q)
     have B755 : (48 : Int) ≤ (48 : Int32).toInt ∧ (48 : Int32).toInt ≤ 48 := (by decide)
     have q754 : v101.toInt = p4.toInt - (48 : Int32).toInt := k_isubx hv101 B742 B755 (by decide) (by decide)
     have B753 : (-176 : Int) ≤ v101.toInt ∧ v101.toInt ≤ 79 := k_subB' q754 B742 B755
     have q752 : v213.toInt = v101.toInt := (by rw [hv213]; exact c_i2l _)
     have B751 : (-176 : Int) ≤ v213.toInt ∧ v213.toInt ≤ 79 := (by rw [q752]; exact B753)
     have B756 : (0 : Int) ≤ v213.toInt ∧ v213.toInt ≤ 79 := ⟨kL_ge hv0214 (by decide), B751.2⟩
     have B757 : (-2147483648 : Int) ≤ v351.toInt ∧ v351.toInt ≤ 2147483647 := ⟨(rng32 v351).1, Int.le_of_lt_add_one (rng32 v351).2⟩
     have q760 : ¬ v351.toInt = (0 : Int32).toInt := fun q => hc353 (Int32.toInt_inj.mp q)
     have B765 : (10 : Int) ≤ (10 : Int64).toInt ∧ (10 : Int64).toInt ≤ 10 := (by decide)
     have q764 : v377.toInt = 10 * v213.toInt := (by have q0 := c_lmul (10 : Int64) v213; have q1 := rng64 v377; have q2 := B756; rw [← hv377] at q0; rw [show (10 : Int64).toInt = 10 from (by decide)] at q0; omega)
     have B763 : (0 : Int) ≤ v377.toInt ∧ v377.toInt ≤ 790 := (by rw [q764]; exact k_mulB B756 (by decide))
     have q769 : v232.toInt = p5.toInt - (48 : Int32).toInt := k_isubx hv232 B743 B755 (by decide) (by decide)
     have B768 : (-176 : Int) ≤ v232.toInt ∧ v232.toInt ≤ 79 := k_subB' q769 B743 B755
     have q767 : v378.toInt = v232.toInt := (by rw [hv378]; exact c_i2l _)
     have B766 : (-176 : Int) ≤ v378.toInt ∧ v378.toInt ≤ 79 := (by rw [q767]; exact B768)
     have q762 : v379.toInt = v377.toInt + v378.toInt := k_laddx hv379 B763 B766 (by decide) (by decide)
     have B761 : (-176 : Int) ≤ v379.toInt ∧ v379.toInt ≤ 869 := k_addB q762 B763 B766
     have B770 : (0 : Int) ≤ v379.toInt ∧ v379.toInt ≤ 869 := ⟨kL_ge hv0380 (by decide), B761.2⟩
     have B771 : (-2147483648 : Int) ≤ v531.toInt ∧ v531.toInt ≤ 2147483647 := ⟨(rng32 v531).1, Int.le_of_lt_add_one (rng32 v531).2⟩
     have q774 : ¬ v531.toInt = (0 : Int32).toInt := fun q => hc533 (Int32.toInt_inj.mp q)
     have q778 : v571.toInt = 10 * v379.toInt := (by have q0 := c_lmul (10 : Int64) v379; have q1 := rng64 v571; have q2 := B770; rw [← hv571] at q0; rw [show (10 : Int64).toInt = 10 from (by decide)] at q0; omega)
     have B777 : (0 : Int) ≤ v571.toInt ∧ v571.toInt ≤ 8690 := (by rw [q778]; exact k_mulB B770 (by decide))
     have q782 : v412.toInt = p6.toInt - (48 : Int32).toInt := k_isubx hv412 B744 B755 (by decide) (by decide)
     have B781 : (-176 : Int) ≤ v412.toInt ∧ v412.toInt ≤ 79 := k_subB' q782 B744 B755
     have q780 : v572.toInt = v412.toInt := (by rw [hv572]; exact c_i2l _)
     have B779 : (-176 : Int) ≤ v572.toInt ∧ v572.toInt ≤ 79 := (by rw [q780]; exact B781)
     have q776 : v573.toInt = v571.toInt + v572.toInt := k_laddx hv573 B777 B779 (by decide) (by decide)
     have B775 : (-176 : Int) ≤ v573.toInt ∧ v573.toInt ≤ 8769 := k_addB q776 B777 B779
     have B783 : (0 : Int) ≤ v573.toInt ∧ v573.toInt ≤ 8769 := ⟨kL_ge hv0574 (by decide), B775.2⟩
     have B784 : (-2147483648 : Int) ≤ v738.toInt ∧ v738.toInt ≤ 2147483647 := ⟨(rng32 v738).1, Int.le_of_lt_add_one (rng32 v738).2⟩
     have q787 := congrArg Int32.toInt hc740
     have B788 : (-1 : Int) ≤ (-1 : Int64).toInt ∧ (-1 : Int64).toInt ≤ -1 := (by decide)
     have q790 : v619.toInt = p7.toInt - (48 : Int32).toInt := k_isubx hv619 B745 B755 (by decide) (by decide)
     have B789 : (-176 : Int) ≤ v619.toInt ∧ v619.toInt ≤ 79 := k_subB' q790 B745 B755
     refine ⟨fun hg => ?_, fun hg => ?_⟩ <;> omega
    ·
     refine k_ldcL X0 hx hZ hown 89 (k_w hw 12 rfl) (D d2_86) ?_
     refine k_lload X0 hx 91 (D d2_89) rfl ?_
     refine k_lmul X0 hx 92 (D d2_91) (fun v791 hv791 => ?_)
     refine k_iload X0 hx 94 (D d2_92) rfl ?_
     refine k_i2l X0 hx 95 (D d2_94) (fun v792 hv792 => ?_)
     refine k_ladd X0 hx 96 (D d2_95) (fun v793 hv793 => ?_)
     refine k_goto X0 hx 102 (D d2_96) ?_
     refine k_lstore X0 hx 104 (D d2_102) (Ls' := #[rv a1, iv (0 : Int32), iv (4 : Int32), jv p2, s_, jv v793, s_, iv (3 : Int32), iv v619, iv v738]) rfl ?_
     refine k_iinc X0 hx 107 (D d2_104) rfl (z := (4 : Int32)) (by decide) (Ls' := #[rv a1, iv (0 : Int32), iv (4 : Int32), jv p2, s_, jv v793, s_, iv (4 : Int32), iv v619, iv v738]) rfl ?_
     refine k_goto X0 hx 17 (D d2_107) ?_
     refine k_iload X0 hx 19 (D d2_17) rfl ?_
     refine k_iloadN X0 hx 20 (D d2_19) rfl ?_
     refine k_icmp_ge X0 hx 23 110 (D d2_20) (fun _ => ?_) (fun hc => absurd hc (by decide))
     refine k_lload X0 hx 112 (D d2_110) rfl ?_
     refine k_retL X0 hx hret (D d2_112) hlk (by decide) (by decide) ⟨N0, e0, v793, rfl, ?_⟩
     have hgoal : True := trivial
     have B794 : (0 : Int) ≤ p2.toInt ∧ p2.toInt ≤ 9223372036854775807 := ⟨kL_ge hp0 (by decide), Int.le_of_lt_add_one (rng64 p2).2⟩
     have B795 : (-128 : Int) ≤ p4.toInt ∧ p4.toInt ≤ 127 := ⟨k_ge hp1 (by decide), k_le hp2 (by decide)⟩
     have B796 : (-128 : Int) ≤ p5.toInt ∧ p5.toInt ≤ 127 := ⟨k_ge hp3 (by decide), k_le hp4 (by decide)⟩
     have B797 : (-128 : Int) ≤ p6.toInt ∧ p6.toInt ≤ 127 := ⟨k_ge hp5 (by decide), k_le hp6 (by decide)⟩
     have B798 : (-128 : Int) ≤ p7.toInt ∧ p7.toInt ≤ 127 := ⟨k_ge hp7 (by decide), k_le hp8 (by decide)⟩
     have B799 : (-2147483648 : Int) ≤ v196.toInt ∧ v196.toInt ≤ 2147483647 := ⟨(rng32 v196).1, Int.le_of_lt_add_one (rng32 v196).2⟩
     have B802 : (0 : Int) ≤ (0 : Int32).toInt ∧ (0 : Int32).toInt ≤ 0 := (by decide)
     have q803 : ¬ v196.toInt = (0 : Int32).toInt := fun q => hc198 (Int32.toInt_inj.mp q)
     have B808 : (48 : Int) ≤ (48 : Int32).toInt ∧ (48 : Int32).toInt ≤ 48 := (by decide)
     have q807 : v101.toInt = p4.toInt - (48 : Int32).toInt := k_isubx hv101 B795 B808 (by decide) (by decide)
     have B806 : (-176 : Int) ≤ v101.toInt ∧ v101.toInt ≤ 79 := k_subB' q807 B795 B808
     have q805 : v213.toInt = v101.toInt := (by rw [hv213]; exact c_i2l _)
     have B804 : (-176 : Int) ≤ v213.toInt ∧ v213.toInt ≤ 79 := (by rw [q805]; exact B806)
     have B809 : (0 : Int) ≤ v213.toInt ∧ v213.toInt ≤ 79 := ⟨kL_ge hv0214 (by decide), B804.2⟩
     have B810 : (-2147483648 : Int) ≤ v351.toInt ∧ v351.toInt ≤ 2147483647 := ⟨(rng32 v351).1, Int.le_of_lt_add_one (rng32 v351).2⟩
     have q813 : ¬ v351.toInt = (0 : Int32).toInt := fun q => hc353 (Int32.toInt_inj.mp q)
     have B818 : (10 : Int) ≤ (10 : Int64).toInt ∧ (10 : Int64).toInt ≤ 10 := (by decide)
     have q817 : v377.toInt = 10 * v213.toInt := (by have q0 := c_lmul (10 : Int64) v213; have q1 := rng64 v377; have q2 := B809; rw [← hv377] at q0; rw [show (10 : Int64).toInt = 10 from (by decide)] at q0; omega)
     have B816 : (0 : Int) ≤ v377.toInt ∧ v377.toInt ≤ 790 := (by rw [q817]; exact k_mulB B809 (by decide))
     have q822 : v232.toInt = p5.toInt - (48 : Int32).toInt := k_isubx hv232 B796 B808 (by decide) (by decide)
     have B821 : (-176 : Int) ≤ v232.toInt ∧ v232.toInt ≤ 79 := k_subB' q822 B796 B808
     have q820 : v378.toInt = v232.toInt := (by rw [hv378]; exact c_i2l _)
     have B819 : (-176 : Int) ≤ v378.toInt ∧ v378.toInt ≤ 79 := (by rw [q820]; exact B821)
     have q815 : v379.toInt = v377.toInt + v378.toInt := k_laddx hv379 B816 B819 (by decide) (by decide)
     have B814 : (-176 : Int) ≤ v379.toInt ∧ v379.toInt ≤ 869 := k_addB q815 B816 B819
     have B823 : (0 : Int) ≤ v379.toInt ∧ v379.toInt ≤ 869 := ⟨kL_ge hv0380 (by decide), B814.2⟩
     have B824 : (-2147483648 : Int) ≤ v531.toInt ∧ v531.toInt ≤ 2147483647 := ⟨(rng32 v531).1, Int.le_of_lt_add_one (rng32 v531).2⟩
     have q827 : ¬ v531.toInt = (0 : Int32).toInt := fun q => hc533 (Int32.toInt_inj.mp q)
     have q831 : v571.toInt = 10 * v379.toInt := (by have q0 := c_lmul (10 : Int64) v379; have q1 := rng64 v571; have q2 := B823; rw [← hv571] at q0; rw [show (10 : Int64).toInt = 10 from (by decide)] at q0; omega)
     have B830 : (0 : Int) ≤ v571.toInt ∧ v571.toInt ≤ 8690 := (by rw [q831]; exact k_mulB B823 (by decide))
     have q835 : v412.toInt = p6.toInt - (48 : Int32).toInt := k_isubx hv412 B797 B808 (by decide) (by decide)
     have B834 : (-176 : Int) ≤ v412.toInt ∧ v412.toInt ≤ 79 := k_subB' q835 B797 B808
     have q833 : v572.toInt = v412.toInt := (by rw [hv572]; exact c_i2l _)
     have B832 : (-176 : Int) ≤ v572.toInt ∧ v572.toInt ≤ 79 := (by rw [q833]; exact B834)
     have q829 : v573.toInt = v571.toInt + v572.toInt := k_laddx hv573 B830 B832 (by decide) (by decide)
     have B828 : (-176 : Int) ≤ v573.toInt ∧ v573.toInt ≤ 8769 := k_addB q829 B830 B832
     have B836 : (0 : Int) ≤ v573.toInt ∧ v573.toInt ≤ 8769 := ⟨kL_ge hv0574 (by decide), B828.2⟩
     have B837 : (-2147483648 : Int) ≤ v738.toInt ∧ v738.toInt ≤ 2147483647 := ⟨(rng32 v738).1, Int.le_of_lt_add_one (rng32 v738).2⟩
     have q840 : ¬ v738.toInt = (0 : Int32).toInt := fun q => hc740 (Int32.toInt_inj.mp q)
     have q844 : v791.toInt = 10 * v573.toInt := (by have q0 := c_lmul (10 : Int64) v573; have q1 := rng64 v791; have q2 := B836; rw [← hv791] at q0; rw [show (10 : Int64).toInt = 10 from (by decide)] at q0; omega)
     have B843 : (0 : Int) ≤ v791.toInt ∧ v791.toInt ≤ 87690 := (by rw [q844]; exact k_mulB B836 (by decide))
     have q848 : v619.toInt = p7.toInt - (48 : Int32).toInt := k_isubx hv619 B798 B808 (by decide) (by decide)
     have B847 : (-176 : Int) ≤ v619.toInt ∧ v619.toInt ≤ 79 := k_subB' q848 B798 B808
     have q846 : v792.toInt = v619.toInt := (by rw [hv792]; exact c_i2l _)
     have B845 : (-176 : Int) ≤ v792.toInt ∧ v792.toInt ≤ 79 := (by rw [q846]; exact B847)
     have q842 : v793.toInt = v791.toInt + v792.toInt := k_laddx hv793 B843 B845 (by decide) (by decide)
     have B841 : (-176 : Int) ≤ v793.toInt ∧ v793.toInt ≤ 87769 := k_addB q842 B843 B845
     refine ⟨fun hg => ?_, fun hg => ?_⟩ <;> omega
abbrev R2_13 : Room := { frames := 0, cells := 0, slots := 0, locals := 0 }
def Q2_13 (Z : State) (a1 : Addr) (p2 : Int64) (k3 : ClassId) (p4 : Int32) (p5 : Int32) (p6 : Int32) (p7 : Int32) (p8 : Int32) (h0 : Heap) (n0 : Nat) (v : Option Value) (h : Heap) (L : List Loc) : Prop := Fr n0 L ∧ h = h0 ∧ ∃ r : Int64, v = some (.long r) ∧ r.toInt = -1
theorem ef2_13 (m : MethodId) (x0 : Addr) (x3 : Int64) : entryFrame m #[(.ref x0), (.int (1 : Int32)), (.int (1 : Int32)), (.long x3)] 10 = mkF m 0 #[.val (.ref x0), .val (.int (1 : Int32)), .val (.int (1 : Int32)), .val (.long x3), .second, .unset, .unset, .unset, .unset, .unset] [] := by first | (simp [entryFrame, mkF, argsToLocals, Value.category]; done) | rfl
set_option maxRecDepth 65536 in
set_option maxHeartbeats 40000000 in
theorem rm2_13 (l : Launch) (Z : State) (a0 : Array Value) (hw : ∀ d ∈ tables_1, d.before a0 Z = true) (ws : List Jvm.Cond) (a1 : Addr) (p2 : Int64) (k3 : ClassId) (p4 : Int32) (p5 : Int32) (p6 : Int32) (p7 : Int32) (p8 : Int32) (h0 : Heap) (n0 : Nat) (Z0 : n0 ≤ h0.size) (F0_0 : Arv Z h0 a1 k3 .byte (5 : Int32) [(.int p4), (.int p5), (.int p6), (.int p7), (.int p8)] (.int (0 : Int32))) (hp0 : ¬ p2 < (0 : Int64)) :
    KMet l (⟨"com/example/knotcut/knotcut/core/InputFields", "wholeNumber", "([BIIJ)J"⟩ : MethodName) prog_44_method_6_code 10 (some .long) ws R2_13 #[(.ref a1), (.int (1 : Int32)), (.int (1 : Int32)), (.long p2)] Z h0 R2_13.cells R2_13.slots (Q2_13 Z a1 p2 k3 p4 p5 p6 p7 p8 h0 n0) := by
 refine k_body (plainFor_of_name pn_1) (fun m => ef2_13 m a1 p2) ?_
 intro p e s m below meth c s₁ hx D hml hlk hret hown hnm hZ X0 e0
 have N0 := Fr.nil n0
 refine k_iloadN X0 hx 1 (D d2_0) rfl ?_
 refine k_iloadN X0 hx 2 (D d2_1) rfl ?_
 refine k_icmp_ne X0 hx 5 11 (D d2_2) (fun hc => absurd (by decide) hc) (fun _ => ?_)
 refine k_ldcL X0 hx hZ hown 8 (k_w hw 10 rfl) (D d2_5) ?_
 refine k_goto X0 hx 12 (D d2_8) ?_
 refine k_lstore X0 hx 14 (D d2_12) (Ls' := #[rv a1, iv (1 : Int32), iv (1 : Int32), jv p2, s_, jv (-1 : Int64), s_, u_, u_, u_]) rfl ?_
 refine k_iloadN X0 hx 15 (D d2_14) rfl ?_
 refine k_istore X0 hx 17 (D d2_15) (Ls' := #[rv a1, iv (1 : Int32), iv (1 : Int32), jv p2, s_, jv (-1 : Int64), s_, iv (1 : Int32), u_, u_]) rfl ?_
 refine k_iload X0 hx 19 (D d2_17) rfl ?_
 refine k_iloadN X0 hx 20 (D d2_19) rfl ?_
 refine k_icmp_ge X0 hx 23 110 (D d2_20) (fun _ => ?_) (fun hc => absurd hc (by decide))
 refine k_lload X0 hx 112 (D d2_110) rfl ?_
 refine k_retL X0 hx hret (D d2_112) hlk (by decide) (by decide) ⟨N0, e0, (-1 : Int64), rfl, ?_⟩
 decide
abbrev R2_14 : Room := { frames := 0, cells := 0, slots := 0, locals := 0 }
def Q2_14 (Z : State) (a1 : Addr) (p2 : Int64) (k3 : ClassId) (p4 : Int32) (p5 : Int32) (p6 : Int32) (p7 : Int32) (p8 : Int32) (h0 : Heap) (n0 : Nat) (v : Option Value) (h : Heap) (L : List Loc) : Prop := Fr n0 L ∧ h = h0 ∧ ∃ r : Int64, v = some (.long r) ∧ (((48 ≤ p5.toInt ∧ p5.toInt ≤ 57) ∧ 1 * (p5.toInt - 48) ≤ p2.toInt) → r.toInt = 1 * (p5.toInt - 48)) ∧ (¬ ((48 ≤ p5.toInt ∧ p5.toInt ≤ 57) ∧ 1 * (p5.toInt - 48) ≤ p2.toInt) → r.toInt = -1)
theorem ef2_14 (m : MethodId) (x0 : Addr) (x3 : Int64) : entryFrame m #[(.ref x0), (.int (1 : Int32)), (.int (2 : Int32)), (.long x3)] 10 = mkF m 0 #[.val (.ref x0), .val (.int (1 : Int32)), .val (.int (2 : Int32)), .val (.long x3), .second, .unset, .unset, .unset, .unset, .unset] [] := by first | (simp [entryFrame, mkF, argsToLocals, Value.category]; done) | rfl
set_option maxRecDepth 65536 in
set_option maxHeartbeats 40000000 in
theorem rm2_14 (l : Launch) (Z : State) (a0 : Array Value) (hw : ∀ d ∈ tables_1, d.before a0 Z = true) (ws : List Jvm.Cond) (a1 : Addr) (p2 : Int64) (k3 : ClassId) (p4 : Int32) (p5 : Int32) (p6 : Int32) (p7 : Int32) (p8 : Int32) (h0 : Heap) (n0 : Nat) (Z0 : n0 ≤ h0.size) (F0_0 : Arv Z h0 a1 k3 .byte (5 : Int32) [(.int p4), (.int p5), (.int p6), (.int p7), (.int p8)] (.int (0 : Int32))) (hp0 : ¬ p2 < (0 : Int64)) (hp1 : ¬ p5 < (-128 : Int32)) (hp2 : ¬ (127 : Int32) < p5) :
    KMet l (⟨"com/example/knotcut/knotcut/core/InputFields", "wholeNumber", "([BIIJ)J"⟩ : MethodName) prog_44_method_6_code 10 (some .long) ws R2_14 #[(.ref a1), (.int (1 : Int32)), (.int (2 : Int32)), (.long p2)] Z h0 R2_14.cells R2_14.slots (Q2_14 Z a1 p2 k3 p4 p5 p6 p7 p8 h0 n0) := by
 refine k_body (plainFor_of_name pn_1) (fun m => ef2_14 m a1 p2) ?_
 intro p e s m below meth c s₁ hx D hml hlk hret hown hnm hZ X0 e0
 have N0 := Fr.nil n0
 refine k_iloadN X0 hx 1 (D d2_0) rfl ?_
 refine k_iloadN X0 hx 2 (D d2_1) rfl ?_
 refine k_icmp_ne X0 hx 5 11 (D d2_2) (fun _ => ?_) (fun hc => absurd hc (by decide))
 refine k_lconst X0 hx 12 (D d2_11) (z := (0 : Int64)) rfl ?_
 refine k_lstore X0 hx 14 (D d2_12) (Ls' := #[rv a1, iv (1 : Int32), iv (2 : Int32), jv p2, s_, jv (0 : Int64), s_, u_, u_, u_]) rfl ?_
 refine k_iloadN X0 hx 15 (D d2_14) rfl ?_
 refine k_istore X0 hx 17 (D d2_15) (Ls' := #[rv a1, iv (1 : Int32), iv (2 : Int32), jv p2, s_, jv (0 : Int64), s_, iv (1 : Int32), u_, u_]) rfl ?_
 refine k_iload X0 hx 19 (D d2_17) rfl ?_
 refine k_iloadN X0 hx 20 (D d2_19) rfl ?_
 refine k_icmp_ge X0 hx 23 110 (D d2_20) (fun hc => absurd (by decide) hc) (fun _ => ?_)
 refine k_lload X0 hx 25 (D d2_23) rfl ?_
 refine k_lconst X0 hx 26 (D d2_25) (z := (0 : Int64)) rfl ?_
 refine k_lcif_lt X0 hx 30 110 27 (D d2_26) (D d2_27) (fun hc => absurd hc (by decide)) (fun _ => ?_)
 refine k_aloadN X0 hx 31 (D d2_30) rfl rfl ?_
 refine k_iload X0 hx 33 (D d2_31) rfl ?_
 refine k_baload X0 hx hZ 34 e0 F0_0 ⟨by decide, by decide⟩ (v := (.int p5)) rfl (D d2_33) ?_
 refine k_bipush X0 hx 36 (D d2_34) (z := (48 : Int32)) rfl ?_
 refine k_isub X0 hx 37 (D d2_36) (fun v101 hv101 => ?_)
 refine k_istore X0 hx 39 (D d2_37) (Ls' := #[rv a1, iv (1 : Int32), iv (2 : Int32), jv p2, s_, jv (0 : Int64), s_, iv (1 : Int32), iv v101, u_]) rfl ?_
 suffices key102 : ∀ (v193 : Int32), ((v193.toInt = 1 ∧ (0 ≤ v101.toInt ∧ v101.toInt ≤ 9 ∧ 10 * (0) + v101.toInt ≤ p2.toInt)) ∨ (v193.toInt = 0 ∧ ¬ (0 ≤ v101.toInt ∧ v101.toInt ≤ 9 ∧ 10 * (0) + v101.toInt ≤ p2.toInt))) → KEnds p e below s R2_14.cells R2_14.slots (Q2_14 Z a1 p2 k3 p4 p5 p6 p7 p8 h0 n0) s₁ (mkF m 79 #[rv a1, iv (1 : Int32), iv (2 : Int32), jv p2, s_, jv (0 : Int64), s_, iv (1 : Int32), iv v101, u_] [(.int v193)]) by
  refine k_iload X0 hx 41 (D d2_39) rfl ?_
  refine k_if_lt X0 hx 44 78 (D d2_41) (fun hc103 => ?_) (fun hc103 => ?_)
  ·
   refine k_iconst X0 hx 79 (D d2_78) (z := (0 : Int32)) rfl ?_
   refine key102 (0 : Int32) ?_
   have B110 : (0 : Int) ≤ p2.toInt ∧ p2.toInt ≤ 9223372036854775807 := ⟨kL_ge hp0 (by decide), Int.le_of_lt_add_one (rng64 p2).2⟩
   have B111 : (-128 : Int) ≤ p5.toInt ∧ p5.toInt ≤ 127 := ⟨k_ge hp1 (by decide), k_le hp2 (by decide)⟩
   have B114 : (48 : Int) ≤ (48 : Int32).toInt ∧ (48 : Int32).toInt ≤ 48 := (by decide)
   have q113 : v101.toInt = p5.toInt - (48 : Int32).toInt := k_isubx hv101 B111 B114 (by decide) (by decide)
   have B112 : (-176 : Int) ≤ v101.toInt ∧ v101.toInt ≤ 79 := k_subB' q113 B111 B114
   have B115 : (-176 : Int) ≤ v101.toInt ∧ v101.toInt ≤ -1 := ⟨B112.1, k_lt hc103 (by decide)⟩
   exact Or.inr ⟨rfl, by omega⟩
  ·
   refine k_iload X0 hx 46 (D d2_44) rfl ?_
   refine k_bipush X0 hx 48 (D d2_46) (z := (9 : Int32)) rfl ?_
   refine k_icmp_gt X0 hx 51 78 (D d2_48) (fun hc116 => ?_) (fun hc116 => ?_)
   ·
    refine k_iconst X0 hx 79 (D d2_78) (z := (0 : Int32)) rfl ?_
    refine key102 (0 : Int32) ?_
    have B123 : (0 : Int) ≤ p2.toInt ∧ p2.toInt ≤ 9223372036854775807 := ⟨kL_ge hp0 (by decide), Int.le_of_lt_add_one (rng64 p2).2⟩
    have B124 : (-128 : Int) ≤ p5.toInt ∧ p5.toInt ≤ 127 := ⟨k_ge hp1 (by decide), k_le hp2 (by decide)⟩
    have B127 : (48 : Int) ≤ (48 : Int32).toInt ∧ (48 : Int32).toInt ≤ 48 := (by decide)
    have q126 : v101.toInt = p5.toInt - (48 : Int32).toInt := k_isubx hv101 B124 B127 (by decide) (by decide)
    have B125 : (-176 : Int) ≤ v101.toInt ∧ v101.toInt ≤ 79 := k_subB' q126 B124 B127
    have B128 : (10 : Int) ≤ v101.toInt ∧ v101.toInt ≤ 79 := ⟨k_gt hc116 (by decide), B125.2⟩
    exact Or.inr ⟨rfl, by omega⟩
   ·
    refine k_iload X0 hx 53 (D d2_51) rfl ?_
    refine k_i2l X0 hx 54 (D d2_53) (fun v129 hv129 => ?_)
    refine k_lloadN X0 hx 55 (D d2_54) rfl ?_
    refine k_lcif_gt X0 hx 59 78 56 (D d2_55) (D d2_56) (fun hc130 => ?_) (fun hc130 => ?_)
    ·
     refine k_iconst X0 hx 79 (D d2_78) (z := (0 : Int32)) rfl ?_
     refine key102 (0 : Int32) ?_
     have B139 : (0 : Int) ≤ p2.toInt ∧ p2.toInt ≤ 9223372036854775807 := ⟨kL_ge hp0 (by decide), Int.le_of_lt_add_one (rng64 p2).2⟩
     have B140 : (-128 : Int) ≤ p5.toInt ∧ p5.toInt ≤ 127 := ⟨k_ge hp1 (by decide), k_le hp2 (by decide)⟩
     have B143 : (48 : Int) ≤ (48 : Int32).toInt ∧ (48 : Int32).toInt ≤ 48 := (by decide)
     have q142 : v101.toInt = p5.toInt - (48 : Int32).toInt := k_isubx hv101 B140 B143 (by decide) (by decide)
     have B141 : (0 : Int) ≤ v101.toInt ∧ v101.toInt ≤ 9 := ⟨k_ge hc103 (by decide), k_le hc116 (by decide)⟩
     have q145 : v129.toInt = v101.toInt := (by rw [hv129]; exact c_i2l _)
     have B144 : (0 : Int) ≤ v129.toInt ∧ v129.toInt ≤ 9 := (by rw [q145]; exact B141)
     have q146 := hc130; rw [Int64.lt_iff_toInt_lt] at q146
     exact Or.inr ⟨rfl, by omega⟩
    ·
     refine k_lload X0 hx 61 (D d2_59) rfl ?_
     refine k_lloadN X0 hx 62 (D d2_61) rfl ?_
     refine k_iload X0 hx 64 (D d2_62) rfl ?_
     refine k_i2lL X0 hx 65 (D d2_64) (z := v129) hv129.symm ?_
     refine k_lsub X0 hx 66 (D d2_65) (fun v147 hv147 => ?_)
     refine k_ldcL X0 hx hZ hown 69 (k_w hw 12 rfl) (D d2_66) ?_
     refine k_ldiv X0 hx 70 (D d2_69) (by decide) (fun v148 hv148 => ?_)
     have hv0149 : ¬ v148 < 0 := (by intro hq150; have B151 : (0 : Int) ≤ p2.toInt ∧ p2.toInt ≤ 9223372036854775807 := ⟨kL_ge hp0 (by decide), Int.le_of_lt_add_one (rng64 p2).2⟩; have B152 : (-128 : Int) ≤ p5.toInt ∧ p5.toInt ≤ 127 := ⟨k_ge hp1 (by decide), k_le hp2 (by decide)⟩; have B155 : (48 : Int) ≤ (48 : Int32).toInt ∧ (48 : Int32).toInt ≤ 48 := (by decide); have q154 : v101.toInt = p5.toInt - (48 : Int32).toInt := k_isubx hv101 B152 B155 (by decide) (by decide); have B153 : (0 : Int) ≤ v101.toInt ∧ v101.toInt ≤ 9 := ⟨k_ge hc103 (by decide), k_le hc116 (by decide)⟩; have q157 : v129.toInt = v101.toInt := (by rw [hv129]; exact c_i2l _); have B156 : (0 : Int) ≤ v129.toInt ∧ v129.toInt ≤ 9 := (by rw [q157]; exact B153); have q158 := hc130; rw [Int64.lt_iff_toInt_lt] at q158; have q161 : (0 ≤ v147.toInt → v148.toInt = v147.toInt / 10) ∧ (v147.toInt < 0 → v148.toInt = -((-v147.toInt) / 10)) := (by rw [hv148]; exact c_ldiv _ _ 10 (by decide) (by decide)); have q163 : v147.toInt = p2.toInt - v129.toInt := k_lsubx hv147 B151 B156 (by decide) (by decide); have B162 : (-9 : Int) ≤ v147.toInt ∧ v147.toInt ≤ 9223372036854775807 := k_subB' q163 B151 B156; have B164 : (10 : Int) ≤ (10 : Int64).toInt ∧ (10 : Int64).toInt ≤ 10 := (by decide); have B159 : (-9223372036854775808 : Int) ≤ v148.toInt ∧ v148.toInt ≤ -1 := ⟨(rng64 v148).1, kL_lt hq150 (by decide)⟩; omega)
     refine k_lcif_gt X0 hx 74 78 71 (D d2_70) (D d2_71) (fun hc => absurd hc hv0149) (fun _ => ?_)
     refine k_iconst X0 hx 75 (D d2_74) (z := (1 : Int32)) rfl ?_
     refine k_goto X0 hx 79 (D d2_75) ?_
     refine key102 (1 : Int32) ?_
     have B179 : (0 : Int) ≤ p2.toInt ∧ p2.toInt ≤ 9223372036854775807 := ⟨kL_ge hp0 (by decide), Int.le_of_lt_add_one (rng64 p2).2⟩
     have B180 : (-128 : Int) ≤ p5.toInt ∧ p5.toInt ≤ 127 := ⟨k_ge hp1 (by decide), k_le hp2 (by decide)⟩
     have B183 : (48 : Int) ≤ (48 : Int32).toInt ∧ (48 : Int32).toInt ≤ 48 := (by decide)
     have q182 : v101.toInt = p5.toInt - (48 : Int32).toInt := k_isubx hv101 B180 B183 (by decide) (by decide)
     have B181 : (0 : Int) ≤ v101.toInt ∧ v101.toInt ≤ 9 := ⟨k_ge hc103 (by decide), k_le hc116 (by decide)⟩
     have q185 : v129.toInt = v101.toInt := (by rw [hv129]; exact c_i2l _)
     have B184 : (0 : Int) ≤ v129.toInt ∧ v129.toInt ≤ 9 := (by rw [q185]; exact B181)
     have q186 := hc130; rw [Int64.lt_iff_toInt_lt] at q186
     have q189 : (0 ≤ v147.toInt → v148.toInt = v147.toInt / 10) ∧ (v147.toInt < 0 → v148.toInt = -((-v147.toInt) / 10)) := (by rw [hv148]; exact c_ldiv _ _ 10 (by decide) (by decide))
     have q191 : v147.toInt = p2.toInt - v129.toInt := k_lsubx hv147 B179 B184 (by decide) (by decide)
     have B190 : (-9 : Int) ≤ v147.toInt ∧ v147.toInt ≤ 9223372036854775807 := k_subB' q191 B179 B184
     have B192 : (10 : Int) ≤ (10 : Int64).toInt ∧ (10 : Int64).toInt ≤ 10 := (by decide)
     have B187 : (0 : Int) ≤ v148.toInt ∧ v148.toInt ≤ 9223372036854775807 := ⟨kL_ge hv0149 (by decide), Int.le_of_lt_add_one (rng64 v148).2⟩
     exact Or.inl ⟨rfl, by omega⟩
 intro v193 hP194
 refine k_istore X0 hx 81 (D d2_79) (Ls' := #[rv a1, iv (1 : Int32), iv (2 : Int32), jv p2, s_, jv (0 : Int64), s_, iv (1 : Int32), iv v101, iv v193]) rfl ?_
 refine k_iload X0 hx 83 (D d2_81) rfl ?_
 refine k_if_eq X0 hx 86 99 (D d2_83) (fun hc195 => ?_) (fun hc195 => ?_)
 ·
  refine k_ldcL X0 hx hZ hown 102 (k_w hw 10 rfl) (D d2_99) ?_
  refine k_lstore X0 hx 104 (D d2_102) (Ls' := #[rv a1, iv (1 : Int32), iv (2 : Int32), jv p2, s_, jv (-1 : Int64), s_, iv (1 : Int32), iv v101, iv v193]) rfl ?_
  refine k_iinc X0 hx 107 (D d2_104) rfl (z := (2 : Int32)) (by decide) (Ls' := #[rv a1, iv (1 : Int32), iv (2 : Int32), jv p2, s_, jv (-1 : Int64), s_, iv (2 : Int32), iv v101, iv v193]) rfl ?_
  refine k_goto X0 hx 17 (D d2_107) ?_
  refine k_iload X0 hx 19 (D d2_17) rfl ?_
  refine k_iloadN X0 hx 20 (D d2_19) rfl ?_
  refine k_icmp_ge X0 hx 23 110 (D d2_20) (fun _ => ?_) (fun hc => absurd hc (by decide))
  refine k_lload X0 hx 112 (D d2_110) rfl ?_
  refine k_retL X0 hx hret (D d2_112) hlk (by decide) (by decide) ⟨N0, e0, (-1 : Int64), rfl, ?_⟩
  have hgoal : True := trivial
  have B196 : (0 : Int) ≤ p2.toInt ∧ p2.toInt ≤ 9223372036854775807 := ⟨kL_ge hp0 (by decide), Int.le_of_lt_add_one (rng64 p2).2⟩
  have B197 : (-128 : Int) ≤ p5.toInt ∧ p5.toInt ≤ 127 := ⟨k_ge hp1 (by decide), k_le hp2 (by decide)⟩
  have B198 : (-2147483648 : Int) ≤ v193.toInt ∧ v193.toInt ≤ 2147483647 := ⟨(rng32 v193).1, Int.le_of_lt_add_one (rng32 v193).2⟩
  have B201 : (0 : Int) ≤ (0 : Int32).toInt ∧ (0 : Int32).toInt ≤ 0 := (by decide)
  have q202 := congrArg Int32.toInt hc195
  have B203 : (-1 : Int) ≤ (-1 : Int64).toInt ∧ (-1 : Int64).toInt ≤ -1 := (by decide)
  have B206 : (48 : Int) ≤ (48 : Int32).toInt ∧ (48 : Int32).toInt ≤ 48 := (by decide)
  have q205 : v101.toInt = p5.toInt - (48 : Int32).toInt := k_isubx hv101 B197 B206 (by decide) (by decide)
  have B204 : (-176 : Int) ≤ v101.toInt ∧ v101.toInt ≤ 79 := k_subB' q205 B197 B206
  refine ⟨fun hg => ?_, fun hg => ?_⟩ <;> omega
 ·
  refine k_ldcL X0 hx hZ hown 89 (k_w hw 12 rfl) (D d2_86) ?_
  refine k_lload X0 hx 91 (D d2_89) rfl ?_
  refine k_lmulL X0 hx 92 (D d2_91) (z := (0 : Int64)) (by decide) ?_
  refine k_iload X0 hx 94 (D d2_92) rfl ?_
  refine k_i2l X0 hx 95 (D d2_94) (fun v207 hv207 => ?_)
  refine k_laddL X0 hx 96 (D d2_95) (z := v207) (Int64.zero_add _) ?_
  refine k_goto X0 hx 102 (D d2_96) ?_
  refine k_lstore X0 hx 104 (D d2_102) (Ls' := #[rv a1, iv (1 : Int32), iv (2 : Int32), jv p2, s_, jv v207, s_, iv (1 : Int32), iv v101, iv v193]) rfl ?_
  refine k_iinc X0 hx 107 (D d2_104) rfl (z := (2 : Int32)) (by decide) (Ls' := #[rv a1, iv (1 : Int32), iv (2 : Int32), jv p2, s_, jv v207, s_, iv (2 : Int32), iv v101, iv v193]) rfl ?_
  refine k_goto X0 hx 17 (D d2_107) ?_
  refine k_iload X0 hx 19 (D d2_17) rfl ?_
  refine k_iloadN X0 hx 20 (D d2_19) rfl ?_
  refine k_icmp_ge X0 hx 23 110 (D d2_20) (fun _ => ?_) (fun hc => absurd hc (by decide))
  refine k_lload X0 hx 112 (D d2_110) rfl ?_
  refine k_retL X0 hx hret (D d2_112) hlk (by decide) (by decide) ⟨N0, e0, v207, rfl, ?_⟩
  have hgoal : True := trivial
  have B208 : (0 : Int) ≤ p2.toInt ∧ p2.toInt ≤ 9223372036854775807 := ⟨kL_ge hp0 (by decide), Int.le_of_lt_add_one (rng64 p2).2⟩
  have B209 : (-128 : Int) ≤ p5.toInt ∧ p5.toInt ≤ 127 := ⟨k_ge hp1 (by decide), k_le hp2 (by decide)⟩
  have B210 : (-2147483648 : Int) ≤ v193.toInt ∧ v193.toInt ≤ 2147483647 := ⟨(rng32 v193).1, Int.le_of_lt_add_one (rng32 v193).2⟩
  have B213 : (0 : Int) ≤ (0 : Int32).toInt ∧ (0 : Int32).toInt ≤ 0 := (by decide)
  have q214 : ¬ v193.toInt = (0 : Int32).toInt := fun q => hc195 (Int32.toInt_inj.mp q)
  have B219 : (48 : Int) ≤ (48 : Int32).toInt ∧ (48 : Int32).toInt ≤ 48 := (by decide)
  have q218 : v101.toInt = p5.toInt - (48 : Int32).toInt := k_isubx hv101 B209 B219 (by decide) (by decide)
  have B217 : (-176 : Int) ≤ v101.toInt ∧ v101.toInt ≤ 79 := k_subB' q218 B209 B219
  have q216 : v207.toInt = v101.toInt := (by rw [hv207]; exact c_i2l _)
  have B215 : (-176 : Int) ≤ v207.toInt ∧ v207.toInt ≤ 79 := (by rw [q216]; exact B217)
  refine ⟨fun hg => ?_, fun hg => ?_⟩ <;> omega
abbrev R2_15 : Room := { frames := 0, cells := 0, slots := 0, locals := 0 }
def Q2_15 (Z : State) (a1 : Addr) (p2 : Int64) (k3 : ClassId) (p4 : Int32) (p5 : Int32) (p6 : Int32) (p7 : Int32) (p8 : Int32) (h0 : Heap) (n0 : Nat) (v : Option Value) (h : Heap) (L : List Loc) : Prop := Fr n0 L ∧ h = h0 ∧ ∃ r : Int64, v = some (.long r) ∧ (((48 ≤ p5.toInt ∧ p5.toInt ≤ 57) ∧ (48 ≤ p6.toInt ∧ p6.toInt ≤ 57) ∧ 10 * (p5.toInt - 48) + 1 * (p6.toInt - 48) ≤ p2.toInt) → r.toInt = 10 * (p5.toInt - 48) + 1 * (p6.toInt - 48)) ∧ (¬ ((48 ≤ p5.toInt ∧ p5.toInt ≤ 57) ∧ (48 ≤ p6.toInt ∧ p6.toInt ≤ 57) ∧ 10 * (p5.toInt - 48) + 1 * (p6.toInt - 48) ≤ p2.toInt) → r.toInt = -1)
theorem ef2_15 (m : MethodId) (x0 : Addr) (x3 : Int64) : entryFrame m #[(.ref x0), (.int (1 : Int32)), (.int (3 : Int32)), (.long x3)] 10 = mkF m 0 #[.val (.ref x0), .val (.int (1 : Int32)), .val (.int (3 : Int32)), .val (.long x3), .second, .unset, .unset, .unset, .unset, .unset] [] := by first | (simp [entryFrame, mkF, argsToLocals, Value.category]; done) | rfl
set_option maxRecDepth 65536 in
set_option maxHeartbeats 40000000 in
theorem rm2_15 (l : Launch) (Z : State) (a0 : Array Value) (hw : ∀ d ∈ tables_1, d.before a0 Z = true) (ws : List Jvm.Cond) (a1 : Addr) (p2 : Int64) (k3 : ClassId) (p4 : Int32) (p5 : Int32) (p6 : Int32) (p7 : Int32) (p8 : Int32) (h0 : Heap) (n0 : Nat) (Z0 : n0 ≤ h0.size) (F0_0 : Arv Z h0 a1 k3 .byte (5 : Int32) [(.int p4), (.int p5), (.int p6), (.int p7), (.int p8)] (.int (0 : Int32))) (hp0 : ¬ p2 < (0 : Int64)) (hp1 : ¬ p5 < (-128 : Int32)) (hp2 : ¬ (127 : Int32) < p5) (hp3 : ¬ p6 < (-128 : Int32)) (hp4 : ¬ (127 : Int32) < p6) :
    KMet l (⟨"com/example/knotcut/knotcut/core/InputFields", "wholeNumber", "([BIIJ)J"⟩ : MethodName) prog_44_method_6_code 10 (some .long) ws R2_15 #[(.ref a1), (.int (1 : Int32)), (.int (3 : Int32)), (.long p2)] Z h0 R2_15.cells R2_15.slots (Q2_15 Z a1 p2 k3 p4 p5 p6 p7 p8 h0 n0) := by
 refine k_body (plainFor_of_name pn_1) (fun m => ef2_15 m a1 p2) ?_
 intro p e s m below meth c s₁ hx D hml hlk hret hown hnm hZ X0 e0
 have N0 := Fr.nil n0
 refine k_iloadN X0 hx 1 (D d2_0) rfl ?_
 refine k_iloadN X0 hx 2 (D d2_1) rfl ?_
 refine k_icmp_ne X0 hx 5 11 (D d2_2) (fun _ => ?_) (fun hc => absurd hc (by decide))
 refine k_lconst X0 hx 12 (D d2_11) (z := (0 : Int64)) rfl ?_
 refine k_lstore X0 hx 14 (D d2_12) (Ls' := #[rv a1, iv (1 : Int32), iv (3 : Int32), jv p2, s_, jv (0 : Int64), s_, u_, u_, u_]) rfl ?_
 refine k_iloadN X0 hx 15 (D d2_14) rfl ?_
 refine k_istore X0 hx 17 (D d2_15) (Ls' := #[rv a1, iv (1 : Int32), iv (3 : Int32), jv p2, s_, jv (0 : Int64), s_, iv (1 : Int32), u_, u_]) rfl ?_
 refine k_iload X0 hx 19 (D d2_17) rfl ?_
 refine k_iloadN X0 hx 20 (D d2_19) rfl ?_
 refine k_icmp_ge X0 hx 23 110 (D d2_20) (fun hc => absurd (by decide) hc) (fun _ => ?_)
 refine k_lload X0 hx 25 (D d2_23) rfl ?_
 refine k_lconst X0 hx 26 (D d2_25) (z := (0 : Int64)) rfl ?_
 refine k_lcif_lt X0 hx 30 110 27 (D d2_26) (D d2_27) (fun hc => absurd hc (by decide)) (fun _ => ?_)
 refine k_aloadN X0 hx 31 (D d2_30) rfl rfl ?_
 refine k_iload X0 hx 33 (D d2_31) rfl ?_
 refine k_baload X0 hx hZ 34 e0 F0_0 ⟨by decide, by decide⟩ (v := (.int p5)) rfl (D d2_33) ?_
 refine k_bipush X0 hx 36 (D d2_34) (z := (48 : Int32)) rfl ?_
 refine k_isub X0 hx 37 (D d2_36) (fun v101 hv101 => ?_)
 refine k_istore X0 hx 39 (D d2_37) (Ls' := #[rv a1, iv (1 : Int32), iv (3 : Int32), jv p2, s_, jv (0 : Int64), s_, iv (1 : Int32), iv v101, u_]) rfl ?_
 suffices key102 : ∀ (v194 : Int32), ((v194.toInt = 1 ∧ (0 ≤ v101.toInt ∧ v101.toInt ≤ 9 ∧ 10 * (0) + v101.toInt ≤ p2.toInt)) ∨ (v194.toInt = 0 ∧ ¬ (0 ≤ v101.toInt ∧ v101.toInt ≤ 9 ∧ 10 * (0) + v101.toInt ≤ p2.toInt))) → KEnds p e below s R2_15.cells R2_15.slots (Q2_15 Z a1 p2 k3 p4 p5 p6 p7 p8 h0 n0) s₁ (mkF m 79 #[rv a1, iv (1 : Int32), iv (3 : Int32), jv p2, s_, jv (0 : Int64), s_, iv (1 : Int32), iv v101, u_] [(.int v194)]) by
  refine k_iload X0 hx 41 (D d2_39) rfl ?_
  refine k_if_lt X0 hx 44 78 (D d2_41) (fun hc103 => ?_) (fun hc103 => ?_)
  ·
   refine k_iconst X0 hx 79 (D d2_78) (z := (0 : Int32)) rfl ?_
   refine key102 (0 : Int32) ?_
   have B110 : (0 : Int) ≤ p2.toInt ∧ p2.toInt ≤ 9223372036854775807 := ⟨kL_ge hp0 (by decide), Int.le_of_lt_add_one (rng64 p2).2⟩
   have B111 : (-128 : Int) ≤ p5.toInt ∧ p5.toInt ≤ 127 := ⟨k_ge hp1 (by decide), k_le hp2 (by decide)⟩
   have B114 : (48 : Int) ≤ (48 : Int32).toInt ∧ (48 : Int32).toInt ≤ 48 := (by decide)
   have q113 : v101.toInt = p5.toInt - (48 : Int32).toInt := k_isubx hv101 B111 B114 (by decide) (by decide)
   have B112 : (-176 : Int) ≤ v101.toInt ∧ v101.toInt ≤ 79 := k_subB' q113 B111 B114
   have B115 : (-176 : Int) ≤ v101.toInt ∧ v101.toInt ≤ -1 := ⟨B112.1, k_lt hc103 (by decide)⟩
   exact Or.inr ⟨rfl, by omega⟩
  ·
   refine k_iload X0 hx 46 (D d2_44) rfl ?_
   refine k_bipush X0 hx 48 (D d2_46) (z := (9 : Int32)) rfl ?_
   refine k_icmp_gt X0 hx 51 78 (D d2_48) (fun hc116 => ?_) (fun hc116 => ?_)
   ·
    refine k_iconst X0 hx 79 (D d2_78) (z := (0 : Int32)) rfl ?_
    refine key102 (0 : Int32) ?_
    have B123 : (0 : Int) ≤ p2.toInt ∧ p2.toInt ≤ 9223372036854775807 := ⟨kL_ge hp0 (by decide), Int.le_of_lt_add_one (rng64 p2).2⟩
    have B124 : (-128 : Int) ≤ p5.toInt ∧ p5.toInt ≤ 127 := ⟨k_ge hp1 (by decide), k_le hp2 (by decide)⟩
    have B127 : (48 : Int) ≤ (48 : Int32).toInt ∧ (48 : Int32).toInt ≤ 48 := (by decide)
    have q126 : v101.toInt = p5.toInt - (48 : Int32).toInt := k_isubx hv101 B124 B127 (by decide) (by decide)
    have B125 : (-176 : Int) ≤ v101.toInt ∧ v101.toInt ≤ 79 := k_subB' q126 B124 B127
    have B128 : (10 : Int) ≤ v101.toInt ∧ v101.toInt ≤ 79 := ⟨k_gt hc116 (by decide), B125.2⟩
    exact Or.inr ⟨rfl, by omega⟩
   ·
    refine k_iload X0 hx 53 (D d2_51) rfl ?_
    refine k_i2l X0 hx 54 (D d2_53) (fun v129 hv129 => ?_)
    refine k_lloadN X0 hx 55 (D d2_54) rfl ?_
    refine k_lcif_gt X0 hx 59 78 56 (D d2_55) (D d2_56) (fun hc130 => ?_) (fun hc130 => ?_)
    ·
     refine k_iconst X0 hx 79 (D d2_78) (z := (0 : Int32)) rfl ?_
     refine key102 (0 : Int32) ?_
     have B139 : (0 : Int) ≤ p2.toInt ∧ p2.toInt ≤ 9223372036854775807 := ⟨kL_ge hp0 (by decide), Int.le_of_lt_add_one (rng64 p2).2⟩
     have B140 : (-128 : Int) ≤ p5.toInt ∧ p5.toInt ≤ 127 := ⟨k_ge hp1 (by decide), k_le hp2 (by decide)⟩
     have B143 : (48 : Int) ≤ (48 : Int32).toInt ∧ (48 : Int32).toInt ≤ 48 := (by decide)
     have q142 : v101.toInt = p5.toInt - (48 : Int32).toInt := k_isubx hv101 B140 B143 (by decide) (by decide)
     have B141 : (0 : Int) ≤ v101.toInt ∧ v101.toInt ≤ 9 := ⟨k_ge hc103 (by decide), k_le hc116 (by decide)⟩
     have q145 : v129.toInt = v101.toInt := (by rw [hv129]; exact c_i2l _)
     have B144 : (0 : Int) ≤ v129.toInt ∧ v129.toInt ≤ 9 := (by rw [q145]; exact B141)
     have q146 := hc130; rw [Int64.lt_iff_toInt_lt] at q146
     exact Or.inr ⟨rfl, by omega⟩
    ·
     refine k_lload X0 hx 61 (D d2_59) rfl ?_
     refine k_lloadN X0 hx 62 (D d2_61) rfl ?_
     refine k_iload X0 hx 64 (D d2_62) rfl ?_
     refine k_i2lL X0 hx 65 (D d2_64) (z := v129) hv129.symm ?_
     refine k_lsub X0 hx 66 (D d2_65) (fun v147 hv147 => ?_)
     refine k_ldcL X0 hx hZ hown 69 (k_w hw 12 rfl) (D d2_66) ?_
     refine k_ldiv X0 hx 70 (D d2_69) (by decide) (fun v148 hv148 => ?_)
     have hv0149 : ¬ v148 < 0 := (by intro hq150; have B151 : (0 : Int) ≤ p2.toInt ∧ p2.toInt ≤ 9223372036854775807 := ⟨kL_ge hp0 (by decide), Int.le_of_lt_add_one (rng64 p2).2⟩; have B152 : (-128 : Int) ≤ p5.toInt ∧ p5.toInt ≤ 127 := ⟨k_ge hp1 (by decide), k_le hp2 (by decide)⟩; have B153 : (-128 : Int) ≤ p6.toInt ∧ p6.toInt ≤ 127 := ⟨k_ge hp3 (by decide), k_le hp4 (by decide)⟩; have B156 : (48 : Int) ≤ (48 : Int32).toInt ∧ (48 : Int32).toInt ≤ 48 := (by decide); have q155 : v101.toInt = p5.toInt - (48 : Int32).toInt := k_isubx hv101 B152 B156 (by decide) (by decide); have B154 : (0 : Int) ≤ v101.toInt ∧ v101.toInt ≤ 9 := ⟨k_ge hc103 (by decide), k_le hc116 (by decide)⟩; have q158 : v129.toInt = v101.toInt := (by rw [hv129]; exact c_i2l _); have B157 : (0 : Int) ≤ v129.toInt ∧ v129.toInt ≤ 9 := (by rw [q158]; exact B154); have q159 := hc130; rw [Int64.lt_iff_toInt_lt] at q159; have q162 : (0 ≤ v147.toInt → v148.toInt = v147.toInt / 10) ∧ (v147.toInt < 0 → v148.toInt = -((-v147.toInt) / 10)) := (by rw [hv148]; exact c_ldiv _ _ 10 (by decide) (by decide)); have q164 : v147.toInt = p2.toInt - v129.toInt := k_lsubx hv147 B151 B157 (by decide) (by decide); have B163 : (-9 : Int) ≤ v147.toInt ∧ v147.toInt ≤ 9223372036854775807 := k_subB' q164 B151 B157; have B165 : (10 : Int) ≤ (10 : Int64).toInt ∧ (10 : Int64).toInt ≤ 10 := (by decide); have B160 : (-9223372036854775808 : Int) ≤ v148.toInt ∧ v148.toInt ≤ -1 := ⟨(rng64 v148).1, kL_lt hq150 (by decide)⟩; omega)
     refine k_lcif_gt X0 hx 74 78 71 (D d2_70) (D d2_71) (fun hc => absurd hc hv0149) (fun _ => ?_)
     refine k_iconst X0 hx 75 (D d2_74) (z := (1 : Int32)) rfl ?_
     refine k_goto X0 hx 79 (D d2_75) ?_
     refine key102 (1 : Int32) ?_
     have B180 : (0 : Int) ≤ p2.toInt ∧ p2.toInt ≤ 9223372036854775807 := ⟨kL_ge hp0 (by decide), Int.le_of_lt_add_one (rng64 p2).2⟩
     have B181 : (-128 : Int) ≤ p5.toInt ∧ p5.toInt ≤ 127 := ⟨k_ge hp1 (by decide), k_le hp2 (by decide)⟩
     have B184 : (48 : Int) ≤ (48 : Int32).toInt ∧ (48 : Int32).toInt ≤ 48 := (by decide)
     have q183 : v101.toInt = p5.toInt - (48 : Int32).toInt := k_isubx hv101 B181 B184 (by decide) (by decide)
     have B182 : (0 : Int) ≤ v101.toInt ∧ v101.toInt ≤ 9 := ⟨k_ge hc103 (by decide), k_le hc116 (by decide)⟩
     have q186 : v129.toInt = v101.toInt := (by rw [hv129]; exact c_i2l _)
     have B185 : (0 : Int) ≤ v129.toInt ∧ v129.toInt ≤ 9 := (by rw [q186]; exact B182)
     have q187 := hc130; rw [Int64.lt_iff_toInt_lt] at q187
     have q190 : (0 ≤ v147.toInt → v148.toInt = v147.toInt / 10) ∧ (v147.toInt < 0 → v148.toInt = -((-v147.toInt) / 10)) := (by rw [hv148]; exact c_ldiv _ _ 10 (by decide) (by decide))
     have q192 : v147.toInt = p2.toInt - v129.toInt := k_lsubx hv147 B180 B185 (by decide) (by decide)
     have B191 : (-9 : Int) ≤ v147.toInt ∧ v147.toInt ≤ 9223372036854775807 := k_subB' q192 B180 B185
     have B193 : (10 : Int) ≤ (10 : Int64).toInt ∧ (10 : Int64).toInt ≤ 10 := (by decide)
     have B188 : (0 : Int) ≤ v148.toInt ∧ v148.toInt ≤ 9223372036854775807 := ⟨kL_ge hv0149 (by decide), Int.le_of_lt_add_one (rng64 v148).2⟩
     exact Or.inl ⟨rfl, by omega⟩
 intro v194 hP195
 refine k_istore X0 hx 81 (D d2_79) (Ls' := #[rv a1, iv (1 : Int32), iv (3 : Int32), jv p2, s_, jv (0 : Int64), s_, iv (1 : Int32), iv v101, iv v194]) rfl ?_
 refine k_iload X0 hx 83 (D d2_81) rfl ?_
 refine k_if_eq X0 hx 86 99 (D d2_83) (fun hc196 => ?_) (fun hc196 => ?_)
 ·
  refine k_ldcL X0 hx hZ hown 102 (k_w hw 10 rfl) (D d2_99) ?_
  refine k_lstore X0 hx 104 (D d2_102) (Ls' := #[rv a1, iv (1 : Int32), iv (3 : Int32), jv p2, s_, jv (-1 : Int64), s_, iv (1 : Int32), iv v101, iv v194]) rfl ?_
  refine k_iinc X0 hx 107 (D d2_104) rfl (z := (2 : Int32)) (by decide) (Ls' := #[rv a1, iv (1 : Int32), iv (3 : Int32), jv p2, s_, jv (-1 : Int64), s_, iv (2 : Int32), iv v101, iv v194]) rfl ?_
  refine k_goto X0 hx 17 (D d2_107) ?_
  refine k_iload X0 hx 19 (D d2_17) rfl ?_
  refine k_iloadN X0 hx 20 (D d2_19) rfl ?_
  refine k_icmp_ge X0 hx 23 110 (D d2_20) (fun hc => absurd (by decide) hc) (fun _ => ?_)
  refine k_lload X0 hx 25 (D d2_23) rfl ?_
  refine k_lconst X0 hx 26 (D d2_25) (z := (0 : Int64)) rfl ?_
  refine k_lcif_lt X0 hx 30 110 27 (D d2_26) (D d2_27) (fun _ => ?_) (fun hc => absurd (by decide) hc)
  refine k_lload X0 hx 112 (D d2_110) rfl ?_
  refine k_retL X0 hx hret (D d2_112) hlk (by decide) (by decide) ⟨N0, e0, (-1 : Int64), rfl, ?_⟩
  have hgoal : True := trivial
  have B197 : (0 : Int) ≤ p2.toInt ∧ p2.toInt ≤ 9223372036854775807 := ⟨kL_ge hp0 (by decide), Int.le_of_lt_add_one (rng64 p2).2⟩
  have B198 : (-128 : Int) ≤ p5.toInt ∧ p5.toInt ≤ 127 := ⟨k_ge hp1 (by decide), k_le hp2 (by decide)⟩
  have B199 : (-128 : Int) ≤ p6.toInt ∧ p6.toInt ≤ 127 := ⟨k_ge hp3 (by decide), k_le hp4 (by decide)⟩
  have B200 : (-2147483648 : Int) ≤ v194.toInt ∧ v194.toInt ≤ 2147483647 := ⟨(rng32 v194).1, Int.le_of_lt_add_one (rng32 v194).2⟩
  have B203 : (0 : Int) ≤ (0 : Int32).toInt ∧ (0 : Int32).toInt ≤ 0 := (by decide)
  have q204 := congrArg Int32.toInt hc196
  have B205 : (-1 : Int) ≤ (-1 : Int64).toInt ∧ (-1 : Int64).toInt ≤ -1 := (by decide)
  have B208 : (48 : Int) ≤ (48 : Int32).toInt ∧ (48 : Int32).toInt ≤ 48 := (by decide)
  have q207 : v101.toInt = p5.toInt - (48 : Int32).toInt := k_isubx hv101 B198 B208 (by decide) (by decide)
  have B206 : (-176 : Int) ≤ v101.toInt ∧ v101.toInt ≤ 79 := k_subB' q207 B198 B208
  refine ⟨fun hg => ?_, fun hg => ?_⟩ <;> omega
 ·
  refine k_ldcL X0 hx hZ hown 89 (k_w hw 12 rfl) (D d2_86) ?_
  refine k_lload X0 hx 91 (D d2_89) rfl ?_
  refine k_lmulL X0 hx 92 (D d2_91) (z := (0 : Int64)) (by decide) ?_
  refine k_iload X0 hx 94 (D d2_92) rfl ?_
  refine k_i2l X0 hx 95 (D d2_94) (fun v209 hv209 => ?_)
  refine k_laddL X0 hx 96 (D d2_95) (z := v209) (Int64.zero_add _) ?_
  refine k_goto X0 hx 102 (D d2_96) ?_
  refine k_lstore X0 hx 104 (D d2_102) (Ls' := #[rv a1, iv (1 : Int32), iv (3 : Int32), jv p2, s_, jv v209, s_, iv (1 : Int32), iv v101, iv v194]) rfl ?_
  refine k_iinc X0 hx 107 (D d2_104) rfl (z := (2 : Int32)) (by decide) (Ls' := #[rv a1, iv (1 : Int32), iv (3 : Int32), jv p2, s_, jv v209, s_, iv (2 : Int32), iv v101, iv v194]) rfl ?_
  refine k_goto X0 hx 17 (D d2_107) ?_
  refine k_iload X0 hx 19 (D d2_17) rfl ?_
  refine k_iloadN X0 hx 20 (D d2_19) rfl ?_
  refine k_icmp_ge X0 hx 23 110 (D d2_20) (fun hc => absurd (by decide) hc) (fun _ => ?_)
  refine k_lload X0 hx 25 (D d2_23) rfl ?_
  refine k_lconst X0 hx 26 (D d2_25) (z := (0 : Int64)) rfl ?_
  have hv0210 : ¬ v209 < 0 := (by intro hq211; have B212 : (0 : Int) ≤ p2.toInt ∧ p2.toInt ≤ 9223372036854775807 := ⟨kL_ge hp0 (by decide), Int.le_of_lt_add_one (rng64 p2).2⟩; have B213 : (-128 : Int) ≤ p5.toInt ∧ p5.toInt ≤ 127 := ⟨k_ge hp1 (by decide), k_le hp2 (by decide)⟩; have B214 : (-128 : Int) ≤ p6.toInt ∧ p6.toInt ≤ 127 := ⟨k_ge hp3 (by decide), k_le hp4 (by decide)⟩; have B215 : (-2147483648 : Int) ≤ v194.toInt ∧ v194.toInt ≤ 2147483647 := ⟨(rng32 v194).1, Int.le_of_lt_add_one (rng32 v194).2⟩; have B218 : (0 : Int) ≤ (0 : Int32).toInt ∧ (0 : Int32).toInt ≤ 0 := (by decide); have q219 : ¬ v194.toInt = (0 : Int32).toInt := fun q => hc196 (Int32.toInt_inj.mp q); have B224 : (48 : Int) ≤ (48 : Int32).toInt ∧ (48 : Int32).toInt ≤ 48 := (by decide); have q223 : v101.toInt = p5.toInt - (48 : Int32).toInt := k_isubx hv101 B213 B224 (by decide) (by decide); have B222 : (-176 : Int) ≤ v101.toInt ∧ v101.toInt ≤ 79 := k_subB' q223 B213 B224; have q221 : v209.toInt = v101.toInt := (by rw [hv209]; exact c_i2l _); have B220 : (-176 : Int) ≤ v209.toInt ∧ v209.toInt ≤ 79 := (by rw [q221]; exact B222); have B225 : (-176 : Int) ≤ v209.toInt ∧ v209.toInt ≤ -1 := ⟨B220.1, kL_lt hq211 (by decide)⟩; omega)
  refine k_lcif_lt X0 hx 30 110 27 (D d2_26) (D d2_27) (fun hc => absurd hc hv0210) (fun _ => ?_)
  refine k_aloadN X0 hx 31 (D d2_30) rfl rfl ?_
  refine k_iload X0 hx 33 (D d2_31) rfl ?_
  refine k_baload X0 hx hZ 34 e0 F0_0 ⟨by decide, by decide⟩ (v := (.int p6)) rfl (D d2_33) ?_
  refine k_bipush X0 hx 36 (D d2_34) (z := (48 : Int32)) rfl ?_
  refine k_isub X0 hx 37 (D d2_36) (fun v226 hv226 => ?_)
  refine k_istore X0 hx 39 (D d2_37) (Ls' := #[rv a1, iv (1 : Int32), iv (3 : Int32), jv p2, s_, jv v209, s_, iv (2 : Int32), iv v226, iv v194]) rfl ?_
  suffices key227 : ∀ (v345 : Int32), ((v345.toInt = 1 ∧ (0 ≤ v226.toInt ∧ v226.toInt ≤ 9 ∧ 10 * v209.toInt + v226.toInt ≤ p2.toInt)) ∨ (v345.toInt = 0 ∧ ¬ (0 ≤ v226.toInt ∧ v226.toInt ≤ 9 ∧ 10 * v209.toInt + v226.toInt ≤ p2.toInt))) → KEnds p e below s R2_15.cells R2_15.slots (Q2_15 Z a1 p2 k3 p4 p5 p6 p7 p8 h0 n0) s₁ (mkF m 79 #[rv a1, iv (1 : Int32), iv (3 : Int32), jv p2, s_, jv v209, s_, iv (2 : Int32), iv v226, iv v194] [(.int v345)]) by
   refine k_iload X0 hx 41 (D d2_39) rfl ?_
   refine k_if_lt X0 hx 44 78 (D d2_41) (fun hc228 => ?_) (fun hc228 => ?_)
   ·
    refine k_iconst X0 hx 79 (D d2_78) (z := (0 : Int32)) rfl ?_
    refine key227 (0 : Int32) ?_
    have B236 : (0 : Int) ≤ p2.toInt ∧ p2.toInt ≤ 9223372036854775807 := ⟨kL_ge hp0 (by decide), Int.le_of_lt_add_one (rng64 p2).2⟩
    have B237 : (-128 : Int) ≤ p6.toInt ∧ p6.toInt ≤ 127 := ⟨k_ge hp3 (by decide), k_le hp4 (by decide)⟩
    have B238 : (0 : Int) ≤ v209.toInt ∧ v209.toInt ≤ 9223372036854775807 := ⟨kL_ge hv0210 (by decide), Int.le_of_lt_add_one (rng64 v209).2⟩
    have B241 : (48 : Int) ≤ (48 : Int32).toInt ∧ (48 : Int32).toInt ≤ 48 := (by decide)
    have q240 : v226.toInt = p6.toInt - (48 : Int32).toInt := k_isubx hv226 B237 B241 (by decide) (by decide)
    have B239 : (-176 : Int) ≤ v226.toInt ∧ v226.toInt ≤ 79 := k_subB' q240 B237 B241
    have B242 : (-176 : Int) ≤ v226.toInt ∧ v226.toInt ≤ -1 := ⟨B239.1, k_lt hc228 (by decide)⟩
    exact Or.inr ⟨rfl, by omega⟩
   ·
    refine k_iload X0 hx 46 (D d2_44) rfl ?_
    refine k_bipush X0 hx 48 (D d2_46) (z := (9 : Int32)) rfl ?_
    refine k_icmp_gt X0 hx 51 78 (D d2_48) (fun hc243 => ?_) (fun hc243 => ?_)
    ·
     refine k_iconst X0 hx 79 (D d2_78) (z := (0 : Int32)) rfl ?_
     refine key227 (0 : Int32) ?_
     have B251 : (0 : Int) ≤ p2.toInt ∧ p2.toInt ≤ 9223372036854775807 := ⟨kL_ge hp0 (by decide), Int.le_of_lt_add_one (rng64 p2).2⟩
     have B252 : (-128 : Int) ≤ p6.toInt ∧ p6.toInt ≤ 127 := ⟨k_ge hp3 (by decide), k_le hp4 (by decide)⟩
     have B253 : (0 : Int) ≤ v209.toInt ∧ v209.toInt ≤ 9223372036854775807 := ⟨kL_ge hv0210 (by decide), Int.le_of_lt_add_one (rng64 v209).2⟩
     have B256 : (48 : Int) ≤ (48 : Int32).toInt ∧ (48 : Int32).toInt ≤ 48 := (by decide)
     have q255 : v226.toInt = p6.toInt - (48 : Int32).toInt := k_isubx hv226 B252 B256 (by decide) (by decide)
     have B254 : (-176 : Int) ≤ v226.toInt ∧ v226.toInt ≤ 79 := k_subB' q255 B252 B256
     have B257 : (10 : Int) ≤ v226.toInt ∧ v226.toInt ≤ 79 := ⟨k_gt hc243 (by decide), B254.2⟩
     exact Or.inr ⟨rfl, by omega⟩
    ·
     refine k_iload X0 hx 53 (D d2_51) rfl ?_
     refine k_i2l X0 hx 54 (D d2_53) (fun v258 hv258 => ?_)
     refine k_lloadN X0 hx 55 (D d2_54) rfl ?_
     refine k_lcif_gt X0 hx 59 78 56 (D d2_55) (D d2_56) (fun hc259 => ?_) (fun hc259 => ?_)
     ·
      refine k_iconst X0 hx 79 (D d2_78) (z := (0 : Int32)) rfl ?_
      refine key227 (0 : Int32) ?_
      have B269 : (0 : Int) ≤ p2.toInt ∧ p2.toInt ≤ 9223372036854775807 := ⟨kL_ge hp0 (by decide), Int.le_of_lt_add_one (rng64 p2).2⟩
      have B270 : (-128 : Int) ≤ p6.toInt ∧ p6.toInt ≤ 127 := ⟨k_ge hp3 (by decide), k_le hp4 (by decide)⟩
      have B271 : (0 : Int) ≤ v209.toInt ∧ v209.toInt ≤ 9223372036854775807 := ⟨kL_ge hv0210 (by decide), Int.le_of_lt_add_one (rng64 v209).2⟩
      have B274 : (48 : Int) ≤ (48 : Int32).toInt ∧ (48 : Int32).toInt ≤ 48 := (by decide)
      have q273 : v226.toInt = p6.toInt - (48 : Int32).toInt := k_isubx hv226 B270 B274 (by decide) (by decide)
      have B272 : (0 : Int) ≤ v226.toInt ∧ v226.toInt ≤ 9 := ⟨k_ge hc228 (by decide), k_le hc243 (by decide)⟩
      have q276 : v258.toInt = v226.toInt := (by rw [hv258]; exact c_i2l _)
      have B275 : (0 : Int) ≤ v258.toInt ∧ v258.toInt ≤ 9 := (by rw [q276]; exact B272)
      have q277 := hc259; rw [Int64.lt_iff_toInt_lt] at q277
      exact Or.inr ⟨rfl, by omega⟩
     ·
      refine k_lload X0 hx 61 (D d2_59) rfl ?_
      refine k_lloadN X0 hx 62 (D d2_61) rfl ?_
      refine k_iload X0 hx 64 (D d2_62) rfl ?_
      refine k_i2lL X0 hx 65 (D d2_64) (z := v258) hv258.symm ?_
      refine k_lsub X0 hx 66 (D d2_65) (fun v278 hv278 => ?_)
      refine k_ldcL X0 hx hZ hown 69 (k_w hw 12 rfl) (D d2_66) ?_
      refine k_ldiv X0 hx 70 (D d2_69) (by decide) (fun v279 hv279 => ?_)
      refine k_lcif_gt X0 hx 74 78 71 (D d2_70) (D d2_71) (fun hc280 => ?_) (fun hc280 => ?_)
      ·
       refine k_iconst X0 hx 79 (D d2_78) (z := (0 : Int32)) rfl ?_
       refine key227 (0 : Int32) ?_
       have B297 : (0 : Int) ≤ p2.toInt ∧ p2.toInt ≤ 9223372036854775807 := ⟨kL_ge hp0 (by decide), Int.le_of_lt_add_one (rng64 p2).2⟩
       have B298 : (-128 : Int) ≤ p6.toInt ∧ p6.toInt ≤ 127 := ⟨k_ge hp3 (by decide), k_le hp4 (by decide)⟩
       have B299 : (0 : Int) ≤ v209.toInt ∧ v209.toInt ≤ 9223372036854775807 := ⟨kL_ge hv0210 (by decide), Int.le_of_lt_add_one (rng64 v209).2⟩
       have B302 : (48 : Int) ≤ (48 : Int32).toInt ∧ (48 : Int32).toInt ≤ 48 := (by decide)
       have q301 : v226.toInt = p6.toInt - (48 : Int32).toInt := k_isubx hv226 B298 B302 (by decide) (by decide)
       have B300 : (0 : Int) ≤ v226.toInt ∧ v226.toInt ≤ 9 := ⟨k_ge hc228 (by decide), k_le hc243 (by decide)⟩
       have q304 : v258.toInt = v226.toInt := (by rw [hv258]; exact c_i2l _)
       have B303 : (0 : Int) ≤ v258.toInt ∧ v258.toInt ≤ 9 := (by rw [q304]; exact B300)
       have q305 := hc259; rw [Int64.lt_iff_toInt_lt] at q305
       have q308 : (0 ≤ v278.toInt → v279.toInt = v278.toInt / 10) ∧ (v278.toInt < 0 → v279.toInt = -((-v278.toInt) / 10)) := (by rw [hv279]; exact c_ldiv _ _ 10 (by decide) (by decide))
       have q310 : v278.toInt = p2.toInt - v258.toInt := k_lsubx hv278 B297 B303 (by decide) (by decide)
       have B309 : (-9 : Int) ≤ v278.toInt ∧ v278.toInt ≤ 9223372036854775807 := k_subB' q310 B297 B303
       have B311 : (10 : Int) ≤ (10 : Int64).toInt ∧ (10 : Int64).toInt ≤ 10 := (by decide)
       have B306 : (-9223372036854775808 : Int) ≤ v279.toInt ∧ v279.toInt ≤ 9223372036854775807 := ⟨(rng64 v279).1, Int.le_of_lt_add_one (rng64 v279).2⟩
       have q312 := hc280; rw [Int64.lt_iff_toInt_lt] at q312
       exact Or.inr ⟨rfl, by omega⟩
      ·
       refine k_iconst X0 hx 75 (D d2_74) (z := (1 : Int32)) rfl ?_
       refine k_goto X0 hx 79 (D d2_75) ?_
       refine key227 (1 : Int32) ?_
       have B329 : (0 : Int) ≤ p2.toInt ∧ p2.toInt ≤ 9223372036854775807 := ⟨kL_ge hp0 (by decide), Int.le_of_lt_add_one (rng64 p2).2⟩
       have B330 : (-128 : Int) ≤ p6.toInt ∧ p6.toInt ≤ 127 := ⟨k_ge hp3 (by decide), k_le hp4 (by decide)⟩
       have B331 : (0 : Int) ≤ v209.toInt ∧ v209.toInt ≤ 9223372036854775807 := ⟨kL_ge hv0210 (by decide), Int.le_of_lt_add_one (rng64 v209).2⟩
       have B334 : (48 : Int) ≤ (48 : Int32).toInt ∧ (48 : Int32).toInt ≤ 48 := (by decide)
       have q333 : v226.toInt = p6.toInt - (48 : Int32).toInt := k_isubx hv226 B330 B334 (by decide) (by decide)
       have B332 : (0 : Int) ≤ v226.toInt ∧ v226.toInt ≤ 9 := ⟨k_ge hc228 (by decide), k_le hc243 (by decide)⟩
       have q336 : v258.toInt = v226.toInt := (by rw [hv258]; exact c_i2l _)
       have B335 : (0 : Int) ≤ v258.toInt ∧ v258.toInt ≤ 9 := (by rw [q336]; exact B332)
       have q337 := hc259; rw [Int64.lt_iff_toInt_lt] at q337
       have q340 : (0 ≤ v278.toInt → v279.toInt = v278.toInt / 10) ∧ (v278.toInt < 0 → v279.toInt = -((-v278.toInt) / 10)) := (by rw [hv279]; exact c_ldiv _ _ 10 (by decide) (by decide))
       have q342 : v278.toInt = p2.toInt - v258.toInt := k_lsubx hv278 B329 B335 (by decide) (by decide)
       have B341 : (-9 : Int) ≤ v278.toInt ∧ v278.toInt ≤ 9223372036854775807 := k_subB' q342 B329 B335
       have B343 : (10 : Int) ≤ (10 : Int64).toInt ∧ (10 : Int64).toInt ≤ 10 := (by decide)
       have B338 : (-9223372036854775808 : Int) ≤ v279.toInt ∧ v279.toInt ≤ 9223372036854775807 := ⟨(rng64 v279).1, Int.le_of_lt_add_one (rng64 v279).2⟩
       have q344 := hc280; rw [Int64.lt_iff_toInt_lt] at q344
       exact Or.inl ⟨rfl, by omega⟩
  intro v345 hP346
  refine k_istore X0 hx 81 (D d2_79) (Ls' := #[rv a1, iv (1 : Int32), iv (3 : Int32), jv p2, s_, jv v209, s_, iv (2 : Int32), iv v226, iv v345]) rfl ?_
  refine k_iload X0 hx 83 (D d2_81) rfl ?_
  refine k_if_eq X0 hx 86 99 (D d2_83) (fun hc347 => ?_) (fun hc347 => ?_)
  ·
   refine k_ldcL X0 hx hZ hown 102 (k_w hw 10 rfl) (D d2_99) ?_
   refine k_lstore X0 hx 104 (D d2_102) (Ls' := #[rv a1, iv (1 : Int32), iv (3 : Int32), jv p2, s_, jv (-1 : Int64), s_, iv (2 : Int32), iv v226, iv v345]) rfl ?_
   refine k_iinc X0 hx 107 (D d2_104) rfl (z := (3 : Int32)) (by decide) (Ls' := #[rv a1, iv (1 : Int32), iv (3 : Int32), jv p2, s_, jv (-1 : Int64), s_, iv (3 : Int32), iv v226, iv v345]) rfl ?_
   refine k_goto X0 hx 17 (D d2_107) ?_
   refine k_iload X0 hx 19 (D d2_17) rfl ?_
   refine k_iloadN X0 hx 20 (D d2_19) rfl ?_
   refine k_icmp_ge X0 hx 23 110 (D d2_20) (fun _ => ?_) (fun hc => absurd hc (by decide))
   refine k_lload X0 hx 112 (D d2_110) rfl ?_
   refine k_retL X0 hx hret (D d2_112) hlk (by decide) (by decide) ⟨N0, e0, (-1 : Int64), rfl, ?_⟩
   have hgoal : True := trivial
   have B348 : (0 : Int) ≤ p2.toInt ∧ p2.toInt ≤ 9223372036854775807 := ⟨kL_ge hp0 (by decide), Int.le_of_lt_add_one (rng64 p2).2⟩
   have B349 : (-128 : Int) ≤ p5.toInt ∧ p5.toInt ≤ 127 := ⟨k_ge hp1 (by decide), k_le hp2 (by decide)⟩
   have B350 : (-128 : Int) ≤ p6.toInt ∧ p6.toInt ≤ 127 := ⟨k_ge hp3 (by decide), k_le hp4 (by decide)⟩
   have B351 : (-2147483648 : Int) ≤ v194.toInt ∧ v194.toInt ≤ 2147483647 := ⟨(rng32 v194).1, Int.le_of_lt_add_one (rng32 v194).2⟩
   have B354 : (0 : Int) ≤ (0 : Int32).toInt ∧ (0 : Int32).toInt ≤ 0 := (by decide)
   have q355 : ¬ v194.toInt = (0 : Int32).toInt := fun q => hc196 (Int32.toInt_inj.mp q)
   have B360 : (48 : Int) ≤ (48 : Int32).toInt ∧ (48 : Int32).toInt ≤ 48 := (by decide)
   have q359 : v101.toInt = p5.toInt - (48 : Int32).toInt := k_isubx hv101 B349 B360 (by decide) (by decide)
   have B358 : (-176 : Int) ≤ v101.toInt ∧ v101.toInt ≤ 79 := k_subB' q359 B349 B360
   have q357 : v209.toInt = v101.toInt := (by rw [hv209]; exact c_i2l _)
   have B356 : (-176 : Int) ≤ v209.toInt ∧ v209.toInt ≤ 79 := (by rw [q357]; exact B358)
   have B361 : (0 : Int) ≤ v209.toInt ∧ v209.toInt ≤ 79 := ⟨kL_ge hv0210 (by decide), B356.2⟩
   have B362 : (-2147483648 : Int) ≤ v345.toInt ∧ v345.toInt ≤ 2147483647 := ⟨(rng32 v345).1, Int.le_of_lt_add_one (rng32 v345).2⟩
   have q365 := congrArg Int32.toInt hc347
   have B366 : (-1 : Int) ≤ (-1 : Int64).toInt ∧ (-1 : Int64).toInt ≤ -1 := (by decide)
   have q368 : v226.toInt = p6.toInt - (48 : Int32).toInt := k_isubx hv226 B350 B360 (by decide) (by decide)
   have B367 : (-176 : Int) ≤ v226.toInt ∧ v226.toInt ≤ 79 := k_subB' q368 B350 B360
   refine ⟨fun hg => ?_, fun hg => ?_⟩ <;> omega
  ·
   refine k_ldcL X0 hx hZ hown 89 (k_w hw 12 rfl) (D d2_86) ?_
   refine k_lload X0 hx 91 (D d2_89) rfl ?_
   refine k_lmul X0 hx 92 (D d2_91) (fun v369 hv369 => ?_)
   refine k_iload X0 hx 94 (D d2_92) rfl ?_
   refine k_i2l X0 hx 95 (D d2_94) (fun v370 hv370 => ?_)
   refine k_ladd X0 hx 96 (D d2_95) (fun v371 hv371 => ?_)
   refine k_goto X0 hx 102 (D d2_96) ?_
   refine k_lstore X0 hx 104 (D d2_102) (Ls' := #[rv a1, iv (1 : Int32), iv (3 : Int32), jv p2, s_, jv v371, s_, iv (2 : Int32), iv v226, iv v345]) rfl ?_
   refine k_iinc X0 hx 107 (D d2_104) rfl (z := (3 : Int32)) (by decide) (Ls' := #[rv a1, iv (1 : Int32), iv (3 : Int32), jv p2, s_, jv v371, s_, iv (3 : Int32), iv v226, iv v345]) rfl ?_
   refine k_goto X0 hx 17 (D d2_107) ?_
   refine k_iload X0 hx 19 (D d2_17) rfl ?_
   refine k_iloadN X0 hx 20 (D d2_19) rfl ?_
   refine k_icmp_ge X0 hx 23 110 (D d2_20) (fun _ => ?_) (fun hc => absurd hc (by decide))
   refine k_lload X0 hx 112 (D d2_110) rfl ?_
   refine k_retL X0 hx hret (D d2_112) hlk (by decide) (by decide) ⟨N0, e0, v371, rfl, ?_⟩
   have hgoal : True := trivial
   have B372 : (0 : Int) ≤ p2.toInt ∧ p2.toInt ≤ 9223372036854775807 := ⟨kL_ge hp0 (by decide), Int.le_of_lt_add_one (rng64 p2).2⟩
   have B373 : (-128 : Int) ≤ p5.toInt ∧ p5.toInt ≤ 127 := ⟨k_ge hp1 (by decide), k_le hp2 (by decide)⟩
   have B374 : (-128 : Int) ≤ p6.toInt ∧ p6.toInt ≤ 127 := ⟨k_ge hp3 (by decide), k_le hp4 (by decide)⟩
   have B375 : (-2147483648 : Int) ≤ v194.toInt ∧ v194.toInt ≤ 2147483647 := ⟨(rng32 v194).1, Int.le_of_lt_add_one (rng32 v194).2⟩
   have B378 : (0 : Int) ≤ (0 : Int32).toInt ∧ (0 : Int32).toInt ≤ 0 := (by decide)
   have q379 : ¬ v194.toInt = (0 : Int32).toInt := fun q => hc196 (Int32.toInt_inj.mp q)
   have B384 : (48 : Int) ≤ (48 : Int32).toInt ∧ (48 : Int32).toInt ≤ 48 := (by decide)
   have q383 : v101.toInt = p5.toInt - (48 : Int32).toInt := k_isubx hv101 B373 B384 (by decide) (by decide)
   have B382 : (-176 : Int) ≤ v101.toInt ∧ v101.toInt ≤ 79 := k_subB' q383 B373 B384
   have q381 : v209.toInt = v101.toInt := (by rw [hv209]; exact c_i2l _)
   have B380 : (-176 : Int) ≤ v209.toInt ∧ v209.toInt ≤ 79 := (by rw [q381]; exact B382)
   have B385 : (0 : Int) ≤ v209.toInt ∧ v209.toInt ≤ 79 := ⟨kL_ge hv0210 (by decide), B380.2⟩
   have B386 : (-2147483648 : Int) ≤ v345.toInt ∧ v345.toInt ≤ 2147483647 := ⟨(rng32 v345).1, Int.le_of_lt_add_one (rng32 v345).2⟩
   have q389 : ¬ v345.toInt = (0 : Int32).toInt := fun q => hc347 (Int32.toInt_inj.mp q)
   have B394 : (10 : Int) ≤ (10 : Int64).toInt ∧ (10 : Int64).toInt ≤ 10 := (by decide)
   have q393 : v369.toInt = 10 * v209.toInt := (by have q0 := c_lmul (10 : Int64) v209; have q1 := rng64 v369; have q2 := B385; rw [← hv369] at q0; rw [show (10 : Int64).toInt = 10 from (by decide)] at q0; omega)
   have B392 : (0 : Int) ≤ v369.toInt ∧ v369.toInt ≤ 790 := (by rw [q393]; exact k_mulB B385 (by decide))
   have q398 : v226.toInt = p6.toInt - (48 : Int32).toInt := k_isubx hv226 B374 B384 (by decide) (by decide)
   have B397 : (-176 : Int) ≤ v226.toInt ∧ v226.toInt ≤ 79 := k_subB' q398 B374 B384
   have q396 : v370.toInt = v226.toInt := (by rw [hv370]; exact c_i2l _)
   have B395 : (-176 : Int) ≤ v370.toInt ∧ v370.toInt ≤ 79 := (by rw [q396]; exact B397)
   have q391 : v371.toInt = v369.toInt + v370.toInt := k_laddx hv371 B392 B395 (by decide) (by decide)
   have B390 : (-176 : Int) ≤ v371.toInt ∧ v371.toInt ≤ 869 := k_addB q391 B392 B395
   refine ⟨fun hg => ?_, fun hg => ?_⟩ <;> omega
abbrev R2_16 : Room := { frames := 0, cells := 0, slots := 0, locals := 0 }
def Q2_16 (Z : State) (a1 : Addr) (p2 : Int64) (k3 : ClassId) (p4 : Int32) (p5 : Int32) (p6 : Int32) (p7 : Int32) (p8 : Int32) (h0 : Heap) (n0 : Nat) (v : Option Value) (h : Heap) (L : List Loc) : Prop := Fr n0 L ∧ h = h0 ∧ ∃ r : Int64, v = some (.long r) ∧ (((48 ≤ p5.toInt ∧ p5.toInt ≤ 57) ∧ (48 ≤ p6.toInt ∧ p6.toInt ≤ 57) ∧ (48 ≤ p7.toInt ∧ p7.toInt ≤ 57) ∧ 100 * (p5.toInt - 48) + 10 * (p6.toInt - 48) + 1 * (p7.toInt - 48) ≤ p2.toInt) → r.toInt = 100 * (p5.toInt - 48) + 10 * (p6.toInt - 48) + 1 * (p7.toInt - 48)) ∧ (¬ ((48 ≤ p5.toInt ∧ p5.toInt ≤ 57) ∧ (48 ≤ p6.toInt ∧ p6.toInt ≤ 57) ∧ (48 ≤ p7.toInt ∧ p7.toInt ≤ 57) ∧ 100 * (p5.toInt - 48) + 10 * (p6.toInt - 48) + 1 * (p7.toInt - 48) ≤ p2.toInt) → r.toInt = -1)
theorem ef2_16 (m : MethodId) (x0 : Addr) (x3 : Int64) : entryFrame m #[(.ref x0), (.int (1 : Int32)), (.int (4 : Int32)), (.long x3)] 10 = mkF m 0 #[.val (.ref x0), .val (.int (1 : Int32)), .val (.int (4 : Int32)), .val (.long x3), .second, .unset, .unset, .unset, .unset, .unset] [] := by first | (simp [entryFrame, mkF, argsToLocals, Value.category]; done) | rfl
set_option maxRecDepth 65536 in
set_option maxHeartbeats 40000000 in
theorem rm2_16 (l : Launch) (Z : State) (a0 : Array Value) (hw : ∀ d ∈ tables_1, d.before a0 Z = true) (ws : List Jvm.Cond) (a1 : Addr) (p2 : Int64) (k3 : ClassId) (p4 : Int32) (p5 : Int32) (p6 : Int32) (p7 : Int32) (p8 : Int32) (h0 : Heap) (n0 : Nat) (Z0 : n0 ≤ h0.size) (F0_0 : Arv Z h0 a1 k3 .byte (5 : Int32) [(.int p4), (.int p5), (.int p6), (.int p7), (.int p8)] (.int (0 : Int32))) (hp0 : ¬ p2 < (0 : Int64)) (hp1 : ¬ p5 < (-128 : Int32)) (hp2 : ¬ (127 : Int32) < p5) (hp3 : ¬ p6 < (-128 : Int32)) (hp4 : ¬ (127 : Int32) < p6) (hp5 : ¬ p7 < (-128 : Int32)) (hp6 : ¬ (127 : Int32) < p7) :
    KMet l (⟨"com/example/knotcut/knotcut/core/InputFields", "wholeNumber", "([BIIJ)J"⟩ : MethodName) prog_44_method_6_code 10 (some .long) ws R2_16 #[(.ref a1), (.int (1 : Int32)), (.int (4 : Int32)), (.long p2)] Z h0 R2_16.cells R2_16.slots (Q2_16 Z a1 p2 k3 p4 p5 p6 p7 p8 h0 n0) := by
 refine k_body (plainFor_of_name pn_1) (fun m => ef2_16 m a1 p2) ?_
 intro p e s m below meth c s₁ hx D hml hlk hret hown hnm hZ X0 e0
 have N0 := Fr.nil n0
 refine k_iloadN X0 hx 1 (D d2_0) rfl ?_
 refine k_iloadN X0 hx 2 (D d2_1) rfl ?_
 refine k_icmp_ne X0 hx 5 11 (D d2_2) (fun _ => ?_) (fun hc => absurd hc (by decide))
 refine k_lconst X0 hx 12 (D d2_11) (z := (0 : Int64)) rfl ?_
 refine k_lstore X0 hx 14 (D d2_12) (Ls' := #[rv a1, iv (1 : Int32), iv (4 : Int32), jv p2, s_, jv (0 : Int64), s_, u_, u_, u_]) rfl ?_
 refine k_iloadN X0 hx 15 (D d2_14) rfl ?_
 refine k_istore X0 hx 17 (D d2_15) (Ls' := #[rv a1, iv (1 : Int32), iv (4 : Int32), jv p2, s_, jv (0 : Int64), s_, iv (1 : Int32), u_, u_]) rfl ?_
 refine k_iload X0 hx 19 (D d2_17) rfl ?_
 refine k_iloadN X0 hx 20 (D d2_19) rfl ?_
 refine k_icmp_ge X0 hx 23 110 (D d2_20) (fun hc => absurd (by decide) hc) (fun _ => ?_)
 refine k_lload X0 hx 25 (D d2_23) rfl ?_
 refine k_lconst X0 hx 26 (D d2_25) (z := (0 : Int64)) rfl ?_
 refine k_lcif_lt X0 hx 30 110 27 (D d2_26) (D d2_27) (fun hc => absurd hc (by decide)) (fun _ => ?_)
 refine k_aloadN X0 hx 31 (D d2_30) rfl rfl ?_
 refine k_iload X0 hx 33 (D d2_31) rfl ?_
 refine k_baload X0 hx hZ 34 e0 F0_0 ⟨by decide, by decide⟩ (v := (.int p5)) rfl (D d2_33) ?_
 refine k_bipush X0 hx 36 (D d2_34) (z := (48 : Int32)) rfl ?_
 refine k_isub X0 hx 37 (D d2_36) (fun v101 hv101 => ?_)
 refine k_istore X0 hx 39 (D d2_37) (Ls' := #[rv a1, iv (1 : Int32), iv (4 : Int32), jv p2, s_, jv (0 : Int64), s_, iv (1 : Int32), iv v101, u_]) rfl ?_
 suffices key102 : ∀ (v195 : Int32), ((v195.toInt = 1 ∧ (0 ≤ v101.toInt ∧ v101.toInt ≤ 9 ∧ 10 * (0) + v101.toInt ≤ p2.toInt)) ∨ (v195.toInt = 0 ∧ ¬ (0 ≤ v101.toInt ∧ v101.toInt ≤ 9 ∧ 10 * (0) + v101.toInt ≤ p2.toInt))) → KEnds p e below s R2_16.cells R2_16.slots (Q2_16 Z a1 p2 k3 p4 p5 p6 p7 p8 h0 n0) s₁ (mkF m 79 #[rv a1, iv (1 : Int32), iv (4 : Int32), jv p2, s_, jv (0 : Int64), s_, iv (1 : Int32), iv v101, u_] [(.int v195)]) by
  refine k_iload X0 hx 41 (D d2_39) rfl ?_
  refine k_if_lt X0 hx 44 78 (D d2_41) (fun hc103 => ?_) (fun hc103 => ?_)
  ·
   refine k_iconst X0 hx 79 (D d2_78) (z := (0 : Int32)) rfl ?_
   refine key102 (0 : Int32) ?_
   have B110 : (0 : Int) ≤ p2.toInt ∧ p2.toInt ≤ 9223372036854775807 := ⟨kL_ge hp0 (by decide), Int.le_of_lt_add_one (rng64 p2).2⟩
   have B111 : (-128 : Int) ≤ p5.toInt ∧ p5.toInt ≤ 127 := ⟨k_ge hp1 (by decide), k_le hp2 (by decide)⟩
   have B114 : (48 : Int) ≤ (48 : Int32).toInt ∧ (48 : Int32).toInt ≤ 48 := (by decide)
   have q113 : v101.toInt = p5.toInt - (48 : Int32).toInt := k_isubx hv101 B111 B114 (by decide) (by decide)
   have B112 : (-176 : Int) ≤ v101.toInt ∧ v101.toInt ≤ 79 := k_subB' q113 B111 B114
   have B115 : (-176 : Int) ≤ v101.toInt ∧ v101.toInt ≤ -1 := ⟨B112.1, k_lt hc103 (by decide)⟩
   exact Or.inr ⟨rfl, by omega⟩
  ·
   refine k_iload X0 hx 46 (D d2_44) rfl ?_
   refine k_bipush X0 hx 48 (D d2_46) (z := (9 : Int32)) rfl ?_
   refine k_icmp_gt X0 hx 51 78 (D d2_48) (fun hc116 => ?_) (fun hc116 => ?_)
   ·
    refine k_iconst X0 hx 79 (D d2_78) (z := (0 : Int32)) rfl ?_
    refine key102 (0 : Int32) ?_
    have B123 : (0 : Int) ≤ p2.toInt ∧ p2.toInt ≤ 9223372036854775807 := ⟨kL_ge hp0 (by decide), Int.le_of_lt_add_one (rng64 p2).2⟩
    have B124 : (-128 : Int) ≤ p5.toInt ∧ p5.toInt ≤ 127 := ⟨k_ge hp1 (by decide), k_le hp2 (by decide)⟩
    have B127 : (48 : Int) ≤ (48 : Int32).toInt ∧ (48 : Int32).toInt ≤ 48 := (by decide)
    have q126 : v101.toInt = p5.toInt - (48 : Int32).toInt := k_isubx hv101 B124 B127 (by decide) (by decide)
    have B125 : (-176 : Int) ≤ v101.toInt ∧ v101.toInt ≤ 79 := k_subB' q126 B124 B127
    have B128 : (10 : Int) ≤ v101.toInt ∧ v101.toInt ≤ 79 := ⟨k_gt hc116 (by decide), B125.2⟩
    exact Or.inr ⟨rfl, by omega⟩
   ·
    refine k_iload X0 hx 53 (D d2_51) rfl ?_
    refine k_i2l X0 hx 54 (D d2_53) (fun v129 hv129 => ?_)
    refine k_lloadN X0 hx 55 (D d2_54) rfl ?_
    refine k_lcif_gt X0 hx 59 78 56 (D d2_55) (D d2_56) (fun hc130 => ?_) (fun hc130 => ?_)
    ·
     refine k_iconst X0 hx 79 (D d2_78) (z := (0 : Int32)) rfl ?_
     refine key102 (0 : Int32) ?_
     have B139 : (0 : Int) ≤ p2.toInt ∧ p2.toInt ≤ 9223372036854775807 := ⟨kL_ge hp0 (by decide), Int.le_of_lt_add_one (rng64 p2).2⟩
     have B140 : (-128 : Int) ≤ p5.toInt ∧ p5.toInt ≤ 127 := ⟨k_ge hp1 (by decide), k_le hp2 (by decide)⟩
     have B143 : (48 : Int) ≤ (48 : Int32).toInt ∧ (48 : Int32).toInt ≤ 48 := (by decide)
     have q142 : v101.toInt = p5.toInt - (48 : Int32).toInt := k_isubx hv101 B140 B143 (by decide) (by decide)
     have B141 : (0 : Int) ≤ v101.toInt ∧ v101.toInt ≤ 9 := ⟨k_ge hc103 (by decide), k_le hc116 (by decide)⟩
     have q145 : v129.toInt = v101.toInt := (by rw [hv129]; exact c_i2l _)
     have B144 : (0 : Int) ≤ v129.toInt ∧ v129.toInt ≤ 9 := (by rw [q145]; exact B141)
     have q146 := hc130; rw [Int64.lt_iff_toInt_lt] at q146
     exact Or.inr ⟨rfl, by omega⟩
    ·
     refine k_lload X0 hx 61 (D d2_59) rfl ?_
     refine k_lloadN X0 hx 62 (D d2_61) rfl ?_
     refine k_iload X0 hx 64 (D d2_62) rfl ?_
     refine k_i2lL X0 hx 65 (D d2_64) (z := v129) hv129.symm ?_
     refine k_lsub X0 hx 66 (D d2_65) (fun v147 hv147 => ?_)
     refine k_ldcL X0 hx hZ hown 69 (k_w hw 12 rfl) (D d2_66) ?_
     refine k_ldiv X0 hx 70 (D d2_69) (by decide) (fun v148 hv148 => ?_)
     have hv0149 : ¬ v148 < 0 := (by intro hq150; have B151 : (0 : Int) ≤ p2.toInt ∧ p2.toInt ≤ 9223372036854775807 := ⟨kL_ge hp0 (by decide), Int.le_of_lt_add_one (rng64 p2).2⟩; have B152 : (-128 : Int) ≤ p5.toInt ∧ p5.toInt ≤ 127 := ⟨k_ge hp1 (by decide), k_le hp2 (by decide)⟩; have B153 : (-128 : Int) ≤ p6.toInt ∧ p6.toInt ≤ 127 := ⟨k_ge hp3 (by decide), k_le hp4 (by decide)⟩; have B154 : (-128 : Int) ≤ p7.toInt ∧ p7.toInt ≤ 127 := ⟨k_ge hp5 (by decide), k_le hp6 (by decide)⟩; have B157 : (48 : Int) ≤ (48 : Int32).toInt ∧ (48 : Int32).toInt ≤ 48 := (by decide); have q156 : v101.toInt = p5.toInt - (48 : Int32).toInt := k_isubx hv101 B152 B157 (by decide) (by decide); have B155 : (0 : Int) ≤ v101.toInt ∧ v101.toInt ≤ 9 := ⟨k_ge hc103 (by decide), k_le hc116 (by decide)⟩; have q159 : v129.toInt = v101.toInt := (by rw [hv129]; exact c_i2l _); have B158 : (0 : Int) ≤ v129.toInt ∧ v129.toInt ≤ 9 := (by rw [q159]; exact B155); have q160 := hc130; rw [Int64.lt_iff_toInt_lt] at q160; have q163 : (0 ≤ v147.toInt → v148.toInt = v147.toInt / 10) ∧ (v147.toInt < 0 → v148.toInt = -((-v147.toInt) / 10)) := (by rw [hv148]; exact c_ldiv _ _ 10 (by decide) (by decide)); have q165 : v147.toInt = p2.toInt - v129.toInt := k_lsubx hv147 B151 B158 (by decide) (by decide); have B164 : (-9 : Int) ≤ v147.toInt ∧ v147.toInt ≤ 9223372036854775807 := k_subB' q165 B151 B158; have B166 : (10 : Int) ≤ (10 : Int64).toInt ∧ (10 : Int64).toInt ≤ 10 := (by decide); have B161 : (-9223372036854775808 : Int) ≤ v148.toInt ∧ v148.toInt ≤ -1 := ⟨(rng64 v148).1, kL_lt hq150 (by decide)⟩; omega)
     refine k_lcif_gt X0 hx 74 78 71 (D d2_70) (D d2_71) (fun hc => absurd hc hv0149) (fun _ => ?_)
     refine k_iconst X0 hx 75 (D d2_74) (z := (1 : Int32)) rfl ?_
     refine k_goto X0 hx 79 (D d2_75) ?_
     refine key102 (1 : Int32) ?_
     have B181 : (0 : Int) ≤ p2.toInt ∧ p2.toInt ≤ 9223372036854775807 := ⟨kL_ge hp0 (by decide), Int.le_of_lt_add_one (rng64 p2).2⟩
     have B182 : (-128 : Int) ≤ p5.toInt ∧ p5.toInt ≤ 127 := ⟨k_ge hp1 (by decide), k_le hp2 (by decide)⟩
     have B185 : (48 : Int) ≤ (48 : Int32).toInt ∧ (48 : Int32).toInt ≤ 48 := (by decide)
     have q184 : v101.toInt = p5.toInt - (48 : Int32).toInt := k_isubx hv101 B182 B185 (by decide) (by decide)
     have B183 : (0 : Int) ≤ v101.toInt ∧ v101.toInt ≤ 9 := ⟨k_ge hc103 (by decide), k_le hc116 (by decide)⟩
     have q187 : v129.toInt = v101.toInt := (by rw [hv129]; exact c_i2l _)
     have B186 : (0 : Int) ≤ v129.toInt ∧ v129.toInt ≤ 9 := (by rw [q187]; exact B183)
     have q188 := hc130; rw [Int64.lt_iff_toInt_lt] at q188
     have q191 : (0 ≤ v147.toInt → v148.toInt = v147.toInt / 10) ∧ (v147.toInt < 0 → v148.toInt = -((-v147.toInt) / 10)) := (by rw [hv148]; exact c_ldiv _ _ 10 (by decide) (by decide))
     have q193 : v147.toInt = p2.toInt - v129.toInt := k_lsubx hv147 B181 B186 (by decide) (by decide)
     have B192 : (-9 : Int) ≤ v147.toInt ∧ v147.toInt ≤ 9223372036854775807 := k_subB' q193 B181 B186
     have B194 : (10 : Int) ≤ (10 : Int64).toInt ∧ (10 : Int64).toInt ≤ 10 := (by decide)
     have B189 : (0 : Int) ≤ v148.toInt ∧ v148.toInt ≤ 9223372036854775807 := ⟨kL_ge hv0149 (by decide), Int.le_of_lt_add_one (rng64 v148).2⟩
     exact Or.inl ⟨rfl, by omega⟩
 intro v195 hP196
 refine k_istore X0 hx 81 (D d2_79) (Ls' := #[rv a1, iv (1 : Int32), iv (4 : Int32), jv p2, s_, jv (0 : Int64), s_, iv (1 : Int32), iv v101, iv v195]) rfl ?_
 refine k_iload X0 hx 83 (D d2_81) rfl ?_
 refine k_if_eq X0 hx 86 99 (D d2_83) (fun hc197 => ?_) (fun hc197 => ?_)
 ·
  refine k_ldcL X0 hx hZ hown 102 (k_w hw 10 rfl) (D d2_99) ?_
  refine k_lstore X0 hx 104 (D d2_102) (Ls' := #[rv a1, iv (1 : Int32), iv (4 : Int32), jv p2, s_, jv (-1 : Int64), s_, iv (1 : Int32), iv v101, iv v195]) rfl ?_
  refine k_iinc X0 hx 107 (D d2_104) rfl (z := (2 : Int32)) (by decide) (Ls' := #[rv a1, iv (1 : Int32), iv (4 : Int32), jv p2, s_, jv (-1 : Int64), s_, iv (2 : Int32), iv v101, iv v195]) rfl ?_
  refine k_goto X0 hx 17 (D d2_107) ?_
  refine k_iload X0 hx 19 (D d2_17) rfl ?_
  refine k_iloadN X0 hx 20 (D d2_19) rfl ?_
  refine k_icmp_ge X0 hx 23 110 (D d2_20) (fun hc => absurd (by decide) hc) (fun _ => ?_)
  refine k_lload X0 hx 25 (D d2_23) rfl ?_
  refine k_lconst X0 hx 26 (D d2_25) (z := (0 : Int64)) rfl ?_
  refine k_lcif_lt X0 hx 30 110 27 (D d2_26) (D d2_27) (fun _ => ?_) (fun hc => absurd (by decide) hc)
  refine k_lload X0 hx 112 (D d2_110) rfl ?_
  refine k_retL X0 hx hret (D d2_112) hlk (by decide) (by decide) ⟨N0, e0, (-1 : Int64), rfl, ?_⟩
  have hgoal : True := trivial
  have B198 : (0 : Int) ≤ p2.toInt ∧ p2.toInt ≤ 9223372036854775807 := ⟨kL_ge hp0 (by decide), Int.le_of_lt_add_one (rng64 p2).2⟩
  have B199 : (-128 : Int) ≤ p5.toInt ∧ p5.toInt ≤ 127 := ⟨k_ge hp1 (by decide), k_le hp2 (by decide)⟩
  have B200 : (-128 : Int) ≤ p6.toInt ∧ p6.toInt ≤ 127 := ⟨k_ge hp3 (by decide), k_le hp4 (by decide)⟩
  have B201 : (-128 : Int) ≤ p7.toInt ∧ p7.toInt ≤ 127 := ⟨k_ge hp5 (by decide), k_le hp6 (by decide)⟩
  have B202 : (-2147483648 : Int) ≤ v195.toInt ∧ v195.toInt ≤ 2147483647 := ⟨(rng32 v195).1, Int.le_of_lt_add_one (rng32 v195).2⟩
  have B205 : (0 : Int) ≤ (0 : Int32).toInt ∧ (0 : Int32).toInt ≤ 0 := (by decide)
  have q206 := congrArg Int32.toInt hc197
  have B207 : (-1 : Int) ≤ (-1 : Int64).toInt ∧ (-1 : Int64).toInt ≤ -1 := (by decide)
  have B210 : (48 : Int) ≤ (48 : Int32).toInt ∧ (48 : Int32).toInt ≤ 48 := (by decide)
  have q209 : v101.toInt = p5.toInt - (48 : Int32).toInt := k_isubx hv101 B199 B210 (by decide) (by decide)
  have B208 : (-176 : Int) ≤ v101.toInt ∧ v101.toInt ≤ 79 := k_subB' q209 B199 B210
  refine ⟨fun hg => ?_, fun hg => ?_⟩ <;> omega
 ·
  refine k_ldcL X0 hx hZ hown 89 (k_w hw 12 rfl) (D d2_86) ?_
  refine k_lload X0 hx 91 (D d2_89) rfl ?_
  refine k_lmulL X0 hx 92 (D d2_91) (z := (0 : Int64)) (by decide) ?_
  refine k_iload X0 hx 94 (D d2_92) rfl ?_
  refine k_i2l X0 hx 95 (D d2_94) (fun v211 hv211 => ?_)
  refine k_laddL X0 hx 96 (D d2_95) (z := v211) (Int64.zero_add _) ?_
  refine k_goto X0 hx 102 (D d2_96) ?_
  refine k_lstore X0 hx 104 (D d2_102) (Ls' := #[rv a1, iv (1 : Int32), iv (4 : Int32), jv p2, s_, jv v211, s_, iv (1 : Int32), iv v101, iv v195]) rfl ?_
  refine k_iinc X0 hx 107 (D d2_104) rfl (z := (2 : Int32)) (by decide) (Ls' := #[rv a1, iv (1 : Int32), iv (4 : Int32), jv p2, s_, jv v211, s_, iv (2 : Int32), iv v101, iv v195]) rfl ?_
  refine k_goto X0 hx 17 (D d2_107) ?_
  refine k_iload X0 hx 19 (D d2_17) rfl ?_
  refine k_iloadN X0 hx 20 (D d2_19) rfl ?_
  refine k_icmp_ge X0 hx 23 110 (D d2_20) (fun hc => absurd (by decide) hc) (fun _ => ?_)
  refine k_lload X0 hx 25 (D d2_23) rfl ?_
  refine k_lconst X0 hx 26 (D d2_25) (z := (0 : Int64)) rfl ?_
  have hv0212 : ¬ v211 < 0 := (by intro hq213; have B214 : (0 : Int) ≤ p2.toInt ∧ p2.toInt ≤ 9223372036854775807 := ⟨kL_ge hp0 (by decide), Int.le_of_lt_add_one (rng64 p2).2⟩; have B215 : (-128 : Int) ≤ p5.toInt ∧ p5.toInt ≤ 127 := ⟨k_ge hp1 (by decide), k_le hp2 (by decide)⟩; have B216 : (-128 : Int) ≤ p6.toInt ∧ p6.toInt ≤ 127 := ⟨k_ge hp3 (by decide), k_le hp4 (by decide)⟩; have B217 : (-128 : Int) ≤ p7.toInt ∧ p7.toInt ≤ 127 := ⟨k_ge hp5 (by decide), k_le hp6 (by decide)⟩; have B218 : (-2147483648 : Int) ≤ v195.toInt ∧ v195.toInt ≤ 2147483647 := ⟨(rng32 v195).1, Int.le_of_lt_add_one (rng32 v195).2⟩; have B221 : (0 : Int) ≤ (0 : Int32).toInt ∧ (0 : Int32).toInt ≤ 0 := (by decide); have q222 : ¬ v195.toInt = (0 : Int32).toInt := fun q => hc197 (Int32.toInt_inj.mp q); have B227 : (48 : Int) ≤ (48 : Int32).toInt ∧ (48 : Int32).toInt ≤ 48 := (by decide); have q226 : v101.toInt = p5.toInt - (48 : Int32).toInt := k_isubx hv101 B215 B227 (by decide) (by decide); have B225 : (-176 : Int) ≤ v101.toInt ∧ v101.toInt ≤ 79 := k_subB' q226 B215 B227; have q224 : v211.toInt = v101.toInt := (by rw [hv211]; exact c_i2l _); have B223 : (-176 : Int) ≤ v211.toInt ∧ v211.toInt ≤ 79 := (by rw [q224]; exact B225); have B228 : (-176 : Int) ≤ v211.toInt ∧ v211.toInt ≤ -1 := ⟨B223.1, kL_lt hq213 (by decide)⟩; omega)
  refine k_lcif_lt X0 hx 30 110 27 (D d2_26) (D d2_27) (fun hc => absurd hc hv0212) (fun _ => ?_)
  refine k_aloadN X0 hx 31 (D d2_30) rfl rfl ?_
  refine k_iload X0 hx 33 (D d2_31) rfl ?_
  refine k_baload X0 hx hZ 34 e0 F0_0 ⟨by decide, by decide⟩ (v := (.int p6)) rfl (D d2_33) ?_
  refine k_bipush X0 hx 36 (D d2_34) (z := (48 : Int32)) rfl ?_
  refine k_isub X0 hx 37 (D d2_36) (fun v229 hv229 => ?_)
  refine k_istore X0 hx 39 (D d2_37) (Ls' := #[rv a1, iv (1 : Int32), iv (4 : Int32), jv p2, s_, jv v211, s_, iv (2 : Int32), iv v229, iv v195]) rfl ?_
  suffices key230 : ∀ (v348 : Int32), ((v348.toInt = 1 ∧ (0 ≤ v229.toInt ∧ v229.toInt ≤ 9 ∧ 10 * v211.toInt + v229.toInt ≤ p2.toInt)) ∨ (v348.toInt = 0 ∧ ¬ (0 ≤ v229.toInt ∧ v229.toInt ≤ 9 ∧ 10 * v211.toInt + v229.toInt ≤ p2.toInt))) → KEnds p e below s R2_16.cells R2_16.slots (Q2_16 Z a1 p2 k3 p4 p5 p6 p7 p8 h0 n0) s₁ (mkF m 79 #[rv a1, iv (1 : Int32), iv (4 : Int32), jv p2, s_, jv v211, s_, iv (2 : Int32), iv v229, iv v195] [(.int v348)]) by
   refine k_iload X0 hx 41 (D d2_39) rfl ?_
   refine k_if_lt X0 hx 44 78 (D d2_41) (fun hc231 => ?_) (fun hc231 => ?_)
   ·
    refine k_iconst X0 hx 79 (D d2_78) (z := (0 : Int32)) rfl ?_
    refine key230 (0 : Int32) ?_
    have B239 : (0 : Int) ≤ p2.toInt ∧ p2.toInt ≤ 9223372036854775807 := ⟨kL_ge hp0 (by decide), Int.le_of_lt_add_one (rng64 p2).2⟩
    have B240 : (-128 : Int) ≤ p6.toInt ∧ p6.toInt ≤ 127 := ⟨k_ge hp3 (by decide), k_le hp4 (by decide)⟩
    have B241 : (0 : Int) ≤ v211.toInt ∧ v211.toInt ≤ 9223372036854775807 := ⟨kL_ge hv0212 (by decide), Int.le_of_lt_add_one (rng64 v211).2⟩
    have B244 : (48 : Int) ≤ (48 : Int32).toInt ∧ (48 : Int32).toInt ≤ 48 := (by decide)
    have q243 : v229.toInt = p6.toInt - (48 : Int32).toInt := k_isubx hv229 B240 B244 (by decide) (by decide)
    have B242 : (-176 : Int) ≤ v229.toInt ∧ v229.toInt ≤ 79 := k_subB' q243 B240 B244
    have B245 : (-176 : Int) ≤ v229.toInt ∧ v229.toInt ≤ -1 := ⟨B242.1, k_lt hc231 (by decide)⟩
    exact Or.inr ⟨rfl, by omega⟩
   ·
    refine k_iload X0 hx 46 (D d2_44) rfl ?_
    refine k_bipush X0 hx 48 (D d2_46) (z := (9 : Int32)) rfl ?_
    refine k_icmp_gt X0 hx 51 78 (D d2_48) (fun hc246 => ?_) (fun hc246 => ?_)
    ·
     refine k_iconst X0 hx 79 (D d2_78) (z := (0 : Int32)) rfl ?_
     refine key230 (0 : Int32) ?_
     have B254 : (0 : Int) ≤ p2.toInt ∧ p2.toInt ≤ 9223372036854775807 := ⟨kL_ge hp0 (by decide), Int.le_of_lt_add_one (rng64 p2).2⟩
     have B255 : (-128 : Int) ≤ p6.toInt ∧ p6.toInt ≤ 127 := ⟨k_ge hp3 (by decide), k_le hp4 (by decide)⟩
     have B256 : (0 : Int) ≤ v211.toInt ∧ v211.toInt ≤ 9223372036854775807 := ⟨kL_ge hv0212 (by decide), Int.le_of_lt_add_one (rng64 v211).2⟩
     have B259 : (48 : Int) ≤ (48 : Int32).toInt ∧ (48 : Int32).toInt ≤ 48 := (by decide)
     have q258 : v229.toInt = p6.toInt - (48 : Int32).toInt := k_isubx hv229 B255 B259 (by decide) (by decide)
     have B257 : (-176 : Int) ≤ v229.toInt ∧ v229.toInt ≤ 79 := k_subB' q258 B255 B259
     have B260 : (10 : Int) ≤ v229.toInt ∧ v229.toInt ≤ 79 := ⟨k_gt hc246 (by decide), B257.2⟩
     exact Or.inr ⟨rfl, by omega⟩
    ·
     refine k_iload X0 hx 53 (D d2_51) rfl ?_
     refine k_i2l X0 hx 54 (D d2_53) (fun v261 hv261 => ?_)
     refine k_lloadN X0 hx 55 (D d2_54) rfl ?_
     refine k_lcif_gt X0 hx 59 78 56 (D d2_55) (D d2_56) (fun hc262 => ?_) (fun hc262 => ?_)
     ·
      refine k_iconst X0 hx 79 (D d2_78) (z := (0 : Int32)) rfl ?_
      refine key230 (0 : Int32) ?_
      have B272 : (0 : Int) ≤ p2.toInt ∧ p2.toInt ≤ 9223372036854775807 := ⟨kL_ge hp0 (by decide), Int.le_of_lt_add_one (rng64 p2).2⟩
      have B273 : (-128 : Int) ≤ p6.toInt ∧ p6.toInt ≤ 127 := ⟨k_ge hp3 (by decide), k_le hp4 (by decide)⟩
      have B274 : (0 : Int) ≤ v211.toInt ∧ v211.toInt ≤ 9223372036854775807 := ⟨kL_ge hv0212 (by decide), Int.le_of_lt_add_one (rng64 v211).2⟩
      have B277 : (48 : Int) ≤ (48 : Int32).toInt ∧ (48 : Int32).toInt ≤ 48 := (by decide)
      have q276 : v229.toInt = p6.toInt - (48 : Int32).toInt := k_isubx hv229 B273 B277 (by decide) (by decide)
      have B275 : (0 : Int) ≤ v229.toInt ∧ v229.toInt ≤ 9 := ⟨k_ge hc231 (by decide), k_le hc246 (by decide)⟩
      have q279 : v261.toInt = v229.toInt := (by rw [hv261]; exact c_i2l _)
      have B278 : (0 : Int) ≤ v261.toInt ∧ v261.toInt ≤ 9 := (by rw [q279]; exact B275)
      have q280 := hc262; rw [Int64.lt_iff_toInt_lt] at q280
      exact Or.inr ⟨rfl, by omega⟩
     ·
      refine k_lload X0 hx 61 (D d2_59) rfl ?_
      refine k_lloadN X0 hx 62 (D d2_61) rfl ?_
      refine k_iload X0 hx 64 (D d2_62) rfl ?_
      refine k_i2lL X0 hx 65 (D d2_64) (z := v261) hv261.symm ?_
      refine k_lsub X0 hx 66 (D d2_65) (fun v281 hv281 => ?_)
      refine k_ldcL X0 hx hZ hown 69 (k_w hw 12 rfl) (D d2_66) ?_
      refine k_ldiv X0 hx 70 (D d2_69) (by decide) (fun v282 hv282 => ?_)
      refine k_lcif_gt X0 hx 74 78 71 (D d2_70) (D d2_71) (fun hc283 => ?_) (fun hc283 => ?_)
      ·
       refine k_iconst X0 hx 79 (D d2_78) (z := (0 : Int32)) rfl ?_
       refine key230 (0 : Int32) ?_
       have B300 : (0 : Int) ≤ p2.toInt ∧ p2.toInt ≤ 9223372036854775807 := ⟨kL_ge hp0 (by decide), Int.le_of_lt_add_one (rng64 p2).2⟩
       have B301 : (-128 : Int) ≤ p6.toInt ∧ p6.toInt ≤ 127 := ⟨k_ge hp3 (by decide), k_le hp4 (by decide)⟩
       have B302 : (0 : Int) ≤ v211.toInt ∧ v211.toInt ≤ 9223372036854775807 := ⟨kL_ge hv0212 (by decide), Int.le_of_lt_add_one (rng64 v211).2⟩
       have B305 : (48 : Int) ≤ (48 : Int32).toInt ∧ (48 : Int32).toInt ≤ 48 := (by decide)
       have q304 : v229.toInt = p6.toInt - (48 : Int32).toInt := k_isubx hv229 B301 B305 (by decide) (by decide)
       have B303 : (0 : Int) ≤ v229.toInt ∧ v229.toInt ≤ 9 := ⟨k_ge hc231 (by decide), k_le hc246 (by decide)⟩
       have q307 : v261.toInt = v229.toInt := (by rw [hv261]; exact c_i2l _)
       have B306 : (0 : Int) ≤ v261.toInt ∧ v261.toInt ≤ 9 := (by rw [q307]; exact B303)
       have q308 := hc262; rw [Int64.lt_iff_toInt_lt] at q308
       have q311 : (0 ≤ v281.toInt → v282.toInt = v281.toInt / 10) ∧ (v281.toInt < 0 → v282.toInt = -((-v281.toInt) / 10)) := (by rw [hv282]; exact c_ldiv _ _ 10 (by decide) (by decide))
       have q313 : v281.toInt = p2.toInt - v261.toInt := k_lsubx hv281 B300 B306 (by decide) (by decide)
       have B312 : (-9 : Int) ≤ v281.toInt ∧ v281.toInt ≤ 9223372036854775807 := k_subB' q313 B300 B306
       have B314 : (10 : Int) ≤ (10 : Int64).toInt ∧ (10 : Int64).toInt ≤ 10 := (by decide)
       have B309 : (-9223372036854775808 : Int) ≤ v282.toInt ∧ v282.toInt ≤ 9223372036854775807 := ⟨(rng64 v282).1, Int.le_of_lt_add_one (rng64 v282).2⟩
       have q315 := hc283; rw [Int64.lt_iff_toInt_lt] at q315
       exact Or.inr ⟨rfl, by omega⟩
      ·
       refine k_iconst X0 hx 75 (D d2_74) (z := (1 : Int32)) rfl ?_
       refine k_goto X0 hx 79 (D d2_75) ?_
       refine key230 (1 : Int32) ?_
       have B332 : (0 : Int) ≤ p2.toInt ∧ p2.toInt ≤ 9223372036854775807 := ⟨kL_ge hp0 (by decide), Int.le_of_lt_add_one (rng64 p2).2⟩
       have B333 : (-128 : Int) ≤ p6.toInt ∧ p6.toInt ≤ 127 := ⟨k_ge hp3 (by decide), k_le hp4 (by decide)⟩
       have B334 : (0 : Int) ≤ v211.toInt ∧ v211.toInt ≤ 9223372036854775807 := ⟨kL_ge hv0212 (by decide), Int.le_of_lt_add_one (rng64 v211).2⟩
       have B337 : (48 : Int) ≤ (48 : Int32).toInt ∧ (48 : Int32).toInt ≤ 48 := (by decide)
       have q336 : v229.toInt = p6.toInt - (48 : Int32).toInt := k_isubx hv229 B333 B337 (by decide) (by decide)
       have B335 : (0 : Int) ≤ v229.toInt ∧ v229.toInt ≤ 9 := ⟨k_ge hc231 (by decide), k_le hc246 (by decide)⟩
       have q339 : v261.toInt = v229.toInt := (by rw [hv261]; exact c_i2l _)
       have B338 : (0 : Int) ≤ v261.toInt ∧ v261.toInt ≤ 9 := (by rw [q339]; exact B335)
       have q340 := hc262; rw [Int64.lt_iff_toInt_lt] at q340
       have q343 : (0 ≤ v281.toInt → v282.toInt = v281.toInt / 10) ∧ (v281.toInt < 0 → v282.toInt = -((-v281.toInt) / 10)) := (by rw [hv282]; exact c_ldiv _ _ 10 (by decide) (by decide))
       have q345 : v281.toInt = p2.toInt - v261.toInt := k_lsubx hv281 B332 B338 (by decide) (by decide)
       have B344 : (-9 : Int) ≤ v281.toInt ∧ v281.toInt ≤ 9223372036854775807 := k_subB' q345 B332 B338
       have B346 : (10 : Int) ≤ (10 : Int64).toInt ∧ (10 : Int64).toInt ≤ 10 := (by decide)
       have B341 : (-9223372036854775808 : Int) ≤ v282.toInt ∧ v282.toInt ≤ 9223372036854775807 := ⟨(rng64 v282).1, Int.le_of_lt_add_one (rng64 v282).2⟩
       have q347 := hc283; rw [Int64.lt_iff_toInt_lt] at q347
       exact Or.inl ⟨rfl, by omega⟩
  intro v348 hP349
  refine k_istore X0 hx 81 (D d2_79) (Ls' := #[rv a1, iv (1 : Int32), iv (4 : Int32), jv p2, s_, jv v211, s_, iv (2 : Int32), iv v229, iv v348]) rfl ?_
  refine k_iload X0 hx 83 (D d2_81) rfl ?_
  refine k_if_eq X0 hx 86 99 (D d2_83) (fun hc350 => ?_) (fun hc350 => ?_)
  ·
   refine k_ldcL X0 hx hZ hown 102 (k_w hw 10 rfl) (D d2_99) ?_
   refine k_lstore X0 hx 104 (D d2_102) (Ls' := #[rv a1, iv (1 : Int32), iv (4 : Int32), jv p2, s_, jv (-1 : Int64), s_, iv (2 : Int32), iv v229, iv v348]) rfl ?_
   refine k_iinc X0 hx 107 (D d2_104) rfl (z := (3 : Int32)) (by decide) (Ls' := #[rv a1, iv (1 : Int32), iv (4 : Int32), jv p2, s_, jv (-1 : Int64), s_, iv (3 : Int32), iv v229, iv v348]) rfl ?_
   refine k_goto X0 hx 17 (D d2_107) ?_
   refine k_iload X0 hx 19 (D d2_17) rfl ?_
   refine k_iloadN X0 hx 20 (D d2_19) rfl ?_
   refine k_icmp_ge X0 hx 23 110 (D d2_20) (fun hc => absurd (by decide) hc) (fun _ => ?_)
   refine k_lload X0 hx 25 (D d2_23) rfl ?_
   refine k_lconst X0 hx 26 (D d2_25) (z := (0 : Int64)) rfl ?_
   refine k_lcif_lt X0 hx 30 110 27 (D d2_26) (D d2_27) (fun _ => ?_) (fun hc => absurd (by decide) hc)
   refine k_lload X0 hx 112 (D d2_110) rfl ?_
   refine k_retL X0 hx hret (D d2_112) hlk (by decide) (by decide) ⟨N0, e0, (-1 : Int64), rfl, ?_⟩
   have hgoal : True := trivial
   have B351 : (0 : Int) ≤ p2.toInt ∧ p2.toInt ≤ 9223372036854775807 := ⟨kL_ge hp0 (by decide), Int.le_of_lt_add_one (rng64 p2).2⟩
   have B352 : (-128 : Int) ≤ p5.toInt ∧ p5.toInt ≤ 127 := ⟨k_ge hp1 (by decide), k_le hp2 (by decide)⟩
   have B353 : (-128 : Int) ≤ p6.toInt ∧ p6.toInt ≤ 127 := ⟨k_ge hp3 (by decide), k_le hp4 (by decide)⟩
   have B354 : (-128 : Int) ≤ p7.toInt ∧ p7.toInt ≤ 127 := ⟨k_ge hp5 (by decide), k_le hp6 (by decide)⟩
   have B355 : (-2147483648 : Int) ≤ v195.toInt ∧ v195.toInt ≤ 2147483647 := ⟨(rng32 v195).1, Int.le_of_lt_add_one (rng32 v195).2⟩
   have B358 : (0 : Int) ≤ (0 : Int32).toInt ∧ (0 : Int32).toInt ≤ 0 := (by decide)
   have q359 : ¬ v195.toInt = (0 : Int32).toInt := fun q => hc197 (Int32.toInt_inj.mp q)
   have B364 : (48 : Int) ≤ (48 : Int32).toInt ∧ (48 : Int32).toInt ≤ 48 := (by decide)
   have q363 : v101.toInt = p5.toInt - (48 : Int32).toInt := k_isubx hv101 B352 B364 (by decide) (by decide)
   have B362 : (-176 : Int) ≤ v101.toInt ∧ v101.toInt ≤ 79 := k_subB' q363 B352 B364
   have q361 : v211.toInt = v101.toInt := (by rw [hv211]; exact c_i2l _)
   have B360 : (-176 : Int) ≤ v211.toInt ∧ v211.toInt ≤ 79 := (by rw [q361]; exact B362)
   have B365 : (0 : Int) ≤ v211.toInt ∧ v211.toInt ≤ 79 := ⟨kL_ge hv0212 (by decide), B360.2⟩
   have B366 : (-2147483648 : Int) ≤ v348.toInt ∧ v348.toInt ≤ 2147483647 := ⟨(rng32 v348).1, Int.le_of_lt_add_one (rng32 v348).2⟩
   have q369 := congrArg Int32.toInt hc350
   have B370 : (-1 : Int) ≤ (-1 : Int64).toInt ∧ (-1 : Int64).toInt ≤ -1 := (by decide)
   have q372 : v229.toInt = p6.toInt - (48 : Int32).toInt := k_isubx hv229 B353 B364 (by decide) (by decide)
   have B371 : (-176 : Int) ≤ v229.toInt ∧ v229.toInt ≤ 79 := k_subB' q372 B353 B364
   refine ⟨fun hg => ?_, fun hg => ?_⟩ <;> omega
  ·
   refine k_ldcL X0 hx hZ hown 89 (k_w hw 12 rfl) (D d2_86) ?_
   refine k_lload X0 hx 91 (D d2_89) rfl ?_
   refine k_lmul X0 hx 92 (D d2_91) (fun v373 hv373 => ?_)
   refine k_iload X0 hx 94 (D d2_92) rfl ?_
   refine k_i2l X0 hx 95 (D d2_94) (fun v374 hv374 => ?_)
   refine k_ladd X0 hx 96 (D d2_95) (fun v375 hv375 => ?_)
   refine k_goto X0 hx 102 (D d2_96) ?_
   refine k_lstore X0 hx 104 (D d2_102) (Ls' := #[rv a1, iv (1 : Int32), iv (4 : Int32), jv p2, s_, jv v375, s_, iv (2 : Int32), iv v229, iv v348]) rfl ?_
   refine k_iinc X0 hx 107 (D d2_104) rfl (z := (3 : Int32)) (by decide) (Ls' := #[rv a1, iv (1 : Int32), iv (4 : Int32), jv p2, s_, jv v375, s_, iv (3 : Int32), iv v229, iv v348]) rfl ?_
   refine k_goto X0 hx 17 (D d2_107) ?_
   refine k_iload X0 hx 19 (D d2_17) rfl ?_
   refine k_iloadN X0 hx 20 (D d2_19) rfl ?_
   refine k_icmp_ge X0 hx 23 110 (D d2_20) (fun hc => absurd (by decide) hc) (fun _ => ?_)
   refine k_lload X0 hx 25 (D d2_23) rfl ?_
   refine k_lconst X0 hx 26 (D d2_25) (z := (0 : Int64)) rfl ?_
   have hv0376 : ¬ v375 < 0 := (by intro hq377; have B378 : (0 : Int) ≤ p2.toInt ∧ p2.toInt ≤ 9223372036854775807 := ⟨kL_ge hp0 (by decide), Int.le_of_lt_add_one (rng64 p2).2⟩; have B379 : (-128 : Int) ≤ p5.toInt ∧ p5.toInt ≤ 127 := ⟨k_ge hp1 (by decide), k_le hp2 (by decide)⟩; have B380 : (-128 : Int) ≤ p6.toInt ∧ p6.toInt ≤ 127 := ⟨k_ge hp3 (by decide), k_le hp4 (by decide)⟩; have B381 : (-128 : Int) ≤ p7.toInt ∧ p7.toInt ≤ 127 := ⟨k_ge hp5 (by decide), k_le hp6 (by decide)⟩; have B382 : (-2147483648 : Int) ≤ v195.toInt ∧ v195.toInt ≤ 2147483647 := ⟨(rng32 v195).1, Int.le_of_lt_add_one (rng32 v195).2⟩; have B385 : (0 : Int) ≤ (0 : Int32).toInt ∧ (0 : Int32).toInt ≤ 0 := (by decide); have q386 : ¬ v195.toInt = (0 : Int32).toInt := fun q => hc197 (Int32.toInt_inj.mp q); have B391 : (48 : Int) ≤ (48 : Int32).toInt ∧ (48 : Int32).toInt ≤ 48 := (by decide); have q390 : v101.toInt = p5.toInt - (48 : Int32).toInt := k_isubx hv101 B379 B391 (by decide) (by decide); have B389 : (-176 : Int) ≤ v101.toInt ∧ v101.toInt ≤ 79 := k_subB' q390 B379 B391; have q388 : v211.toInt = v101.toInt := (by rw [hv211]; exact c_i2l _); have B387 : (-176 : Int) ≤ v211.toInt ∧ v211.toInt ≤ 79 := (by rw [q388]; exact B389); have B392 : (0 : Int) ≤ v211.toInt ∧ v211.toInt ≤ 79 := ⟨kL_ge hv0212 (by decide), B387.2⟩; have B393 : (-2147483648 : Int) ≤ v348.toInt ∧ v348.toInt ≤ 2147483647 := ⟨(rng32 v348).1, Int.le_of_lt_add_one (rng32 v348).2⟩; have q396 : ¬ v348.toInt = (0 : Int32).toInt := fun q => hc350 (Int32.toInt_inj.mp q); have B401 : (10 : Int) ≤ (10 : Int64).toInt ∧ (10 : Int64).toInt ≤ 10 := (by decide); have q400 : v373.toInt = 10 * v211.toInt := (by have q0 := c_lmul (10 : Int64) v211; have q1 := rng64 v373; have q2 := B392; rw [← hv373] at q0; rw [show (10 : Int64).toInt = 10 from (by decide)] at q0; omega); have B399 : (0 : Int) ≤ v373.toInt ∧ v373.toInt ≤ 790 := (by rw [q400]; exact k_mulB B392 (by decide)); have q405 : v229.toInt = p6.toInt - (48 : Int32).toInt := k_isubx hv229 B380 B391 (by decide) (by decide); have B404 : (-176 : Int) ≤ v229.toInt ∧ v229.toInt ≤ 79 := k_subB' q405 B380 B391; have q403 : v374.toInt = v229.toInt := (by rw [hv374]; exact c_i2l _); have B402 : (-176 : Int) ≤ v374.toInt ∧ v374.toInt ≤ 79 := (by rw [q403]; exact B404); have q398 : v375.toInt = v373.toInt + v374.toInt := k_laddx hv375 B399 B402 (by decide) (by decide); have B397 : (-176 : Int) ≤ v375.toInt ∧ v375.toInt ≤ 869 := k_addB q398 B399 B402; have B406 : (-176 : Int) ≤ v375.toInt ∧ v375.toInt ≤ -1 := ⟨B397.1, kL_lt hq377 (by decide)⟩; omega)
   refine k_lcif_lt X0 hx 30 110 27 (D d2_26) (D d2_27) (fun hc => absurd hc hv0376) (fun _ => ?_)
   refine k_aloadN X0 hx 31 (D d2_30) rfl rfl ?_
   refine k_iload X0 hx 33 (D d2_31) rfl ?_
   refine k_baload X0 hx hZ 34 e0 F0_0 ⟨by decide, by decide⟩ (v := (.int p7)) rfl (D d2_33) ?_
   refine k_bipush X0 hx 36 (D d2_34) (z := (48 : Int32)) rfl ?_
   refine k_isub X0 hx 37 (D d2_36) (fun v407 hv407 => ?_)
   refine k_istore X0 hx 39 (D d2_37) (Ls' := #[rv a1, iv (1 : Int32), iv (4 : Int32), jv p2, s_, jv v375, s_, iv (3 : Int32), iv v407, iv v348]) rfl ?_
   suffices key408 : ∀ (v526 : Int32), ((v526.toInt = 1 ∧ (0 ≤ v407.toInt ∧ v407.toInt ≤ 9 ∧ 10 * v375.toInt + v407.toInt ≤ p2.toInt)) ∨ (v526.toInt = 0 ∧ ¬ (0 ≤ v407.toInt ∧ v407.toInt ≤ 9 ∧ 10 * v375.toInt + v407.toInt ≤ p2.toInt))) → KEnds p e below s R2_16.cells R2_16.slots (Q2_16 Z a1 p2 k3 p4 p5 p6 p7 p8 h0 n0) s₁ (mkF m 79 #[rv a1, iv (1 : Int32), iv (4 : Int32), jv p2, s_, jv v375, s_, iv (3 : Int32), iv v407, iv v348] [(.int v526)]) by
    refine k_iload X0 hx 41 (D d2_39) rfl ?_
    refine k_if_lt X0 hx 44 78 (D d2_41) (fun hc409 => ?_) (fun hc409 => ?_)
    ·
     refine k_iconst X0 hx 79 (D d2_78) (z := (0 : Int32)) rfl ?_
     refine key408 (0 : Int32) ?_
     have B417 : (0 : Int) ≤ p2.toInt ∧ p2.toInt ≤ 9223372036854775807 := ⟨kL_ge hp0 (by decide), Int.le_of_lt_add_one (rng64 p2).2⟩
     have B418 : (-128 : Int) ≤ p7.toInt ∧ p7.toInt ≤ 127 := ⟨k_ge hp5 (by decide), k_le hp6 (by decide)⟩
     have B419 : (0 : Int) ≤ v375.toInt ∧ v375.toInt ≤ 9223372036854775807 := ⟨kL_ge hv0376 (by decide), Int.le_of_lt_add_one (rng64 v375).2⟩
     have B422 : (48 : Int) ≤ (48 : Int32).toInt ∧ (48 : Int32).toInt ≤ 48 := (by decide)
     have q421 : v407.toInt = p7.toInt - (48 : Int32).toInt := k_isubx hv407 B418 B422 (by decide) (by decide)
     have B420 : (-176 : Int) ≤ v407.toInt ∧ v407.toInt ≤ 79 := k_subB' q421 B418 B422
     have B423 : (-176 : Int) ≤ v407.toInt ∧ v407.toInt ≤ -1 := ⟨B420.1, k_lt hc409 (by decide)⟩
     exact Or.inr ⟨rfl, by omega⟩
    ·
     refine k_iload X0 hx 46 (D d2_44) rfl ?_
     refine k_bipush X0 hx 48 (D d2_46) (z := (9 : Int32)) rfl ?_
     refine k_icmp_gt X0 hx 51 78 (D d2_48) (fun hc424 => ?_) (fun hc424 => ?_)
     ·
      refine k_iconst X0 hx 79 (D d2_78) (z := (0 : Int32)) rfl ?_
      refine key408 (0 : Int32) ?_
      have B432 : (0 : Int) ≤ p2.toInt ∧ p2.toInt ≤ 9223372036854775807 := ⟨kL_ge hp0 (by decide), Int.le_of_lt_add_one (rng64 p2).2⟩
      have B433 : (-128 : Int) ≤ p7.toInt ∧ p7.toInt ≤ 127 := ⟨k_ge hp5 (by decide), k_le hp6 (by decide)⟩
      have B434 : (0 : Int) ≤ v375.toInt ∧ v375.toInt ≤ 9223372036854775807 := ⟨kL_ge hv0376 (by decide), Int.le_of_lt_add_one (rng64 v375).2⟩
      have B437 : (48 : Int) ≤ (48 : Int32).toInt ∧ (48 : Int32).toInt ≤ 48 := (by decide)
      have q436 : v407.toInt = p7.toInt - (48 : Int32).toInt := k_isubx hv407 B433 B437 (by decide) (by decide)
      have B435 : (-176 : Int) ≤ v407.toInt ∧ v407.toInt ≤ 79 := k_subB' q436 B433 B437
      have B438 : (10 : Int) ≤ v407.toInt ∧ v407.toInt ≤ 79 := ⟨k_gt hc424 (by decide), B435.2⟩
      exact Or.inr ⟨rfl, by omega⟩
     ·
      refine k_iload X0 hx 53 (D d2_51) rfl ?_
      refine k_i2l X0 hx 54 (D d2_53) (fun v439 hv439 => ?_)
      refine k_lloadN X0 hx 55 (D d2_54) rfl ?_
      refine k_lcif_gt X0 hx 59 78 56 (D d2_55) (D d2_56) (fun hc440 => ?_) (fun hc440 => ?_)
      ·
       refine k_iconst X0 hx 79 (D d2_78) (z := (0 : Int32)) rfl ?_
       refine key408 (0 : Int32) ?_
       have B450 : (0 : Int) ≤ p2.toInt ∧ p2.toInt ≤ 9223372036854775807 := ⟨kL_ge hp0 (by decide), Int.le_of_lt_add_one (rng64 p2).2⟩
       have B451 : (-128 : Int) ≤ p7.toInt ∧ p7.toInt ≤ 127 := ⟨k_ge hp5 (by decide), k_le hp6 (by decide)⟩
       have B452 : (0 : Int) ≤ v375.toInt ∧ v375.toInt ≤ 9223372036854775807 := ⟨kL_ge hv0376 (by decide), Int.le_of_lt_add_one (rng64 v375).2⟩
       have B455 : (48 : Int) ≤ (48 : Int32).toInt ∧ (48 : Int32).toInt ≤ 48 := (by decide)
       have q454 : v407.toInt = p7.toInt - (48 : Int32).toInt := k_isubx hv407 B451 B455 (by decide) (by decide)
       have B453 : (0 : Int) ≤ v407.toInt ∧ v407.toInt ≤ 9 := ⟨k_ge hc409 (by decide), k_le hc424 (by decide)⟩
       have q457 : v439.toInt = v407.toInt := (by rw [hv439]; exact c_i2l _)
       have B456 : (0 : Int) ≤ v439.toInt ∧ v439.toInt ≤ 9 := (by rw [q457]; exact B453)
       have q458 := hc440; rw [Int64.lt_iff_toInt_lt] at q458
       exact Or.inr ⟨rfl, by omega⟩
      ·
       refine k_lload X0 hx 61 (D d2_59) rfl ?_
       refine k_lloadN X0 hx 62 (D d2_61) rfl ?_
       refine k_iload X0 hx 64 (D d2_62) rfl ?_
       refine k_i2lL X0 hx 65 (D d2_64) (z := v439) hv439.symm ?_
       refine k_lsub X0 hx 66 (D d2_65) (fun v459 hv459 => ?_)
       refine k_ldcL X0 hx hZ hown 69 (k_w hw 12 rfl) (D d2_66) ?_
       refine k_ldiv X0 hx 70 (D d2_69) (by decide) (fun v460 hv460 => ?_)
       refine k_lcif_gt X0 hx 74 78 71 (D d2_70) (D d2_71) (fun hc461 => ?_) (fun hc461 => ?_)
       ·
        refine k_iconst X0 hx 79 (D d2_78) (z := (0 : Int32)) rfl ?_
        refine key408 (0 : Int32) ?_
        have B478 : (0 : Int) ≤ p2.toInt ∧ p2.toInt ≤ 9223372036854775807 := ⟨kL_ge hp0 (by decide), Int.le_of_lt_add_one (rng64 p2).2⟩
        have B479 : (-128 : Int) ≤ p7.toInt ∧ p7.toInt ≤ 127 := ⟨k_ge hp5 (by decide), k_le hp6 (by decide)⟩
        have B480 : (0 : Int) ≤ v375.toInt ∧ v375.toInt ≤ 9223372036854775807 := ⟨kL_ge hv0376 (by decide), Int.le_of_lt_add_one (rng64 v375).2⟩
        have B483 : (48 : Int) ≤ (48 : Int32).toInt ∧ (48 : Int32).toInt ≤ 48 := (by decide)
        have q482 : v407.toInt = p7.toInt - (48 : Int32).toInt := k_isubx hv407 B479 B483 (by decide) (by decide)
        have B481 : (0 : Int) ≤ v407.toInt ∧ v407.toInt ≤ 9 := ⟨k_ge hc409 (by decide), k_le hc424 (by decide)⟩
        have q485 : v439.toInt = v407.toInt := (by rw [hv439]; exact c_i2l _)
        have B484 : (0 : Int) ≤ v439.toInt ∧ v439.toInt ≤ 9 := (by rw [q485]; exact B481)
        have q486 := hc440; rw [Int64.lt_iff_toInt_lt] at q486
        have q489 : (0 ≤ v459.toInt → v460.toInt = v459.toInt / 10) ∧ (v459.toInt < 0 → v460.toInt = -((-v459.toInt) / 10)) := (by rw [hv460]; exact c_ldiv _ _ 10 (by decide) (by decide))
        have q491 : v459.toInt = p2.toInt - v439.toInt := k_lsubx hv459 B478 B484 (by decide) (by decide)
        have B490 : (-9 : Int) ≤ v459.toInt ∧ v459.toInt ≤ 9223372036854775807 := k_subB' q491 B478 B484
        have B492 : (10 : Int) ≤ (10 : Int64).toInt ∧ (10 : Int64).toInt ≤ 10 := (by decide)
        have B487 : (-9223372036854775808 : Int) ≤ v460.toInt ∧ v460.toInt ≤ 9223372036854775807 := ⟨(rng64 v460).1, Int.le_of_lt_add_one (rng64 v460).2⟩
        have q493 := hc461; rw [Int64.lt_iff_toInt_lt] at q493
        exact Or.inr ⟨rfl, by omega⟩
       ·
        refine k_iconst X0 hx 75 (D d2_74) (z := (1 : Int32)) rfl ?_
        refine k_goto X0 hx 79 (D d2_75) ?_
        refine key408 (1 : Int32) ?_
        have B510 : (0 : Int) ≤ p2.toInt ∧ p2.toInt ≤ 9223372036854775807 := ⟨kL_ge hp0 (by decide), Int.le_of_lt_add_one (rng64 p2).2⟩
        have B511 : (-128 : Int) ≤ p7.toInt ∧ p7.toInt ≤ 127 := ⟨k_ge hp5 (by decide), k_le hp6 (by decide)⟩
        have B512 : (0 : Int) ≤ v375.toInt ∧ v375.toInt ≤ 9223372036854775807 := ⟨kL_ge hv0376 (by decide), Int.le_of_lt_add_one (rng64 v375).2⟩
        have B515 : (48 : Int) ≤ (48 : Int32).toInt ∧ (48 : Int32).toInt ≤ 48 := (by decide)
        have q514 : v407.toInt = p7.toInt - (48 : Int32).toInt := k_isubx hv407 B511 B515 (by decide) (by decide)
        have B513 : (0 : Int) ≤ v407.toInt ∧ v407.toInt ≤ 9 := ⟨k_ge hc409 (by decide), k_le hc424 (by decide)⟩
        have q517 : v439.toInt = v407.toInt := (by rw [hv439]; exact c_i2l _)
        have B516 : (0 : Int) ≤ v439.toInt ∧ v439.toInt ≤ 9 := (by rw [q517]; exact B513)
        have q518 := hc440; rw [Int64.lt_iff_toInt_lt] at q518
        have q521 : (0 ≤ v459.toInt → v460.toInt = v459.toInt / 10) ∧ (v459.toInt < 0 → v460.toInt = -((-v459.toInt) / 10)) := (by rw [hv460]; exact c_ldiv _ _ 10 (by decide) (by decide))
        have q523 : v459.toInt = p2.toInt - v439.toInt := k_lsubx hv459 B510 B516 (by decide) (by decide)
        have B522 : (-9 : Int) ≤ v459.toInt ∧ v459.toInt ≤ 9223372036854775807 := k_subB' q523 B510 B516
        have B524 : (10 : Int) ≤ (10 : Int64).toInt ∧ (10 : Int64).toInt ≤ 10 := (by decide)
        have B519 : (-9223372036854775808 : Int) ≤ v460.toInt ∧ v460.toInt ≤ 9223372036854775807 := ⟨(rng64 v460).1, Int.le_of_lt_add_one (rng64 v460).2⟩
        have q525 := hc461; rw [Int64.lt_iff_toInt_lt] at q525
        exact Or.inl ⟨rfl, by omega⟩
   intro v526 hP527
   refine k_istore X0 hx 81 (D d2_79) (Ls' := #[rv a1, iv (1 : Int32), iv (4 : Int32), jv p2, s_, jv v375, s_, iv (3 : Int32), iv v407, iv v526]) rfl ?_
   refine k_iload X0 hx 83 (D d2_81) rfl ?_
   refine k_if_eq X0 hx 86 99 (D d2_83) (fun hc528 => ?_) (fun hc528 => ?_)
   ·
    refine k_ldcL X0 hx hZ hown 102 (k_w hw 10 rfl) (D d2_99) ?_
    refine k_lstore X0 hx 104 (D d2_102) (Ls' := #[rv a1, iv (1 : Int32), iv (4 : Int32), jv p2, s_, jv (-1 : Int64), s_, iv (3 : Int32), iv v407, iv v526]) rfl ?_
    refine k_iinc X0 hx 107 (D d2_104) rfl (z := (4 : Int32)) (by decide) (Ls' := #[rv a1, iv (1 : Int32), iv (4 : Int32), jv p2, s_, jv (-1 : Int64), s_, iv (4 : Int32), iv v407, iv v526]) rfl ?_
    refine k_goto X0 hx 17 (D d2_107) ?_
    refine k_iload X0 hx 19 (D d2_17) rfl ?_
    refine k_iloadN X0 hx 20 (D d2_19) rfl ?_
    refine k_icmp_ge X0 hx 23 110 (D d2_20) (fun _ => ?_) (fun hc => absurd hc (by decide))
    refine k_lload X0 hx 112 (D d2_110) rfl ?_
    refine k_retL X0 hx hret (D d2_112) hlk (by decide) (by decide) ⟨N0, e0, (-1 : Int64), rfl, ?_⟩
    have hgoal : True := trivial
    have B529 : (0 : Int) ≤ p2.toInt ∧ p2.toInt ≤ 9223372036854775807 := ⟨kL_ge hp0 (by decide), Int.le_of_lt_add_one (rng64 p2).2⟩
    have B530 : (-128 : Int) ≤ p5.toInt ∧ p5.toInt ≤ 127 := ⟨k_ge hp1 (by decide), k_le hp2 (by decide)⟩
    have B531 : (-128 : Int) ≤ p6.toInt ∧ p6.toInt ≤ 127 := ⟨k_ge hp3 (by decide), k_le hp4 (by decide)⟩
    have B532 : (-128 : Int) ≤ p7.toInt ∧ p7.toInt ≤ 127 := ⟨k_ge hp5 (by decide), k_le hp6 (by decide)⟩
    have B533 : (-2147483648 : Int) ≤ v195.toInt ∧ v195.toInt ≤ 2147483647 := ⟨(rng32 v195).1, Int.le_of_lt_add_one (rng32 v195).2⟩
    have B536 : (0 : Int) ≤ (0 : Int32).toInt ∧ (0 : Int32).toInt ≤ 0 := (by decide)
    have q537 : ¬ v195.toInt = (0 : Int32).toInt := fun q => hc197 (Int32.toInt_inj.mp q)
    have B542 : (48 : Int) ≤ (48 : Int32).toInt ∧ (48 : Int32).toInt ≤ 48 := (by decide)
    have q541 : v101.toInt = p5.toInt - (48 : Int32).toInt := k_isubx hv101 B530 B542 (by decide) (by decide)
    have B540 : (-176 : Int) ≤ v101.toInt ∧ v101.toInt ≤ 79 := k_subB' q541 B530 B542
    have q539 : v211.toInt = v101.toInt := (by rw [hv211]; exact c_i2l _)
    have B538 : (-176 : Int) ≤ v211.toInt ∧ v211.toInt ≤ 79 := (by rw [q539]; exact B540)
    have B543 : (0 : Int) ≤ v211.toInt ∧ v211.toInt ≤ 79 := ⟨kL_ge hv0212 (by decide), B538.2⟩
    have B544 : (-2147483648 : Int) ≤ v348.toInt ∧ v348.toInt ≤ 2147483647 := ⟨(rng32 v348).1, Int.le_of_lt_add_one (rng32 v348).2⟩
    have q547 : ¬ v348.toInt = (0 : Int32).toInt := fun q => hc350 (Int32.toInt_inj.mp q)
    have B552 : (10 : Int) ≤ (10 : Int64).toInt ∧ (10 : Int64).toInt ≤ 10 := (by decide)
    have q551 : v373.toInt = 10 * v211.toInt := (by have q0 := c_lmul (10 : Int64) v211; have q1 := rng64 v373; have q2 := B543; rw [← hv373] at q0; rw [show (10 : Int64).toInt = 10 from (by decide)] at q0; omega)
    have B550 : (0 : Int) ≤ v373.toInt ∧ v373.toInt ≤ 790 := (by rw [q551]; exact k_mulB B543 (by decide))
    have q556 : v229.toInt = p6.toInt - (48 : Int32).toInt := k_isubx hv229 B531 B542 (by decide) (by decide)
    have B555 : (-176 : Int) ≤ v229.toInt ∧ v229.toInt ≤ 79 := k_subB' q556 B531 B542
    have q554 : v374.toInt = v229.toInt := (by rw [hv374]; exact c_i2l _)
    have B553 : (-176 : Int) ≤ v374.toInt ∧ v374.toInt ≤ 79 := (by rw [q554]; exact B555)
    have q549 : v375.toInt = v373.toInt + v374.toInt := k_laddx hv375 B550 B553 (by decide) (by decide)
    have B548 : (-176 : Int) ≤ v375.toInt ∧ v375.toInt ≤ 869 := k_addB q549 B550 B553
    have B557 : (0 : Int) ≤ v375.toInt ∧ v375.toInt ≤ 869 := ⟨kL_ge hv0376 (by decide), B548.2⟩
    have B558 : (-2147483648 : Int) ≤ v526.toInt ∧ v526.toInt ≤ 2147483647 := ⟨(rng32 v526).1, Int.le_of_lt_add_one (rng32 v526).2⟩
    have q561 := congrArg Int32.toInt hc528
    have B562 : (-1 : Int) ≤ (-1 : Int64).toInt ∧ (-1 : Int64).toInt ≤ -1 := (by decide)
    have q564 : v407.toInt = p7.toInt - (48 : Int32).toInt := k_isubx hv407 B532 B542 (by decide) (by decide)
    have B563 : (-176 : Int) ≤ v407.toInt ∧ v407.toInt ≤ 79 := k_subB' q564 B532 B542
    refine ⟨fun hg => ?_, fun hg => ?_⟩ <;> omega
   ·
    refine k_ldcL X0 hx hZ hown 89 (k_w hw 12 rfl) (D d2_86) ?_
    refine k_lload X0 hx 91 (D d2_89) rfl ?_
    refine k_lmul X0 hx 92 (D d2_91) (fun v565 hv565 => ?_)
    refine k_iload X0 hx 94 (D d2_92) rfl ?_
    refine k_i2l X0 hx 95 (D d2_94) (fun v566 hv566 => ?_)
    refine k_ladd X0 hx 96 (D d2_95) (fun v567 hv567 => ?_)
    refine k_goto X0 hx 102 (D d2_96) ?_
    refine k_lstore X0 hx 104 (D d2_102) (Ls' := #[rv a1, iv (1 : Int32), iv (4 : Int32), jv p2, s_, jv v567, s_, iv (3 : Int32), iv v407, iv v526]) rfl ?_
    refine k_iinc X0 hx 107 (D d2_104) rfl (z := (4 : Int32)) (by decide) (Ls' := #[rv a1, iv (1 : Int32), iv (4 : Int32), jv p2, s_, jv v567, s_, iv (4 : Int32), iv v407, iv v526]) rfl ?_
    refine k_goto X0 hx 17 (D d2_107) ?_
    refine k_iload X0 hx 19 (D d2_17) rfl ?_
    refine k_iloadN X0 hx 20 (D d2_19) rfl ?_
    refine k_icmp_ge X0 hx 23 110 (D d2_20) (fun _ => ?_) (fun hc => absurd hc (by decide))
    refine k_lload X0 hx 112 (D d2_110) rfl ?_
    refine k_retL X0 hx hret (D d2_112) hlk (by decide) (by decide) ⟨N0, e0, v567, rfl, ?_⟩
    have hgoal : True := trivial
    have B568 : (0 : Int) ≤ p2.toInt ∧ p2.toInt ≤ 9223372036854775807 := ⟨kL_ge hp0 (by decide), Int.le_of_lt_add_one (rng64 p2).2⟩
    have B569 : (-128 : Int) ≤ p5.toInt ∧ p5.toInt ≤ 127 := ⟨k_ge hp1 (by decide), k_le hp2 (by decide)⟩
    have B570 : (-128 : Int) ≤ p6.toInt ∧ p6.toInt ≤ 127 := ⟨k_ge hp3 (by decide), k_le hp4 (by decide)⟩
    have B571 : (-128 : Int) ≤ p7.toInt ∧ p7.toInt ≤ 127 := ⟨k_ge hp5 (by decide), k_le hp6 (by decide)⟩
    have B572 : (-2147483648 : Int) ≤ v195.toInt ∧ v195.toInt ≤ 2147483647 := ⟨(rng32 v195).1, Int.le_of_lt_add_one (rng32 v195).2⟩
    have B575 : (0 : Int) ≤ (0 : Int32).toInt ∧ (0 : Int32).toInt ≤ 0 := (by decide)
    have q576 : ¬ v195.toInt = (0 : Int32).toInt := fun q => hc197 (Int32.toInt_inj.mp q)
    have B581 : (48 : Int) ≤ (48 : Int32).toInt ∧ (48 : Int32).toInt ≤ 48 := (by decide)
    have q580 : v101.toInt = p5.toInt - (48 : Int32).toInt := k_isubx hv101 B569 B581 (by decide) (by decide)
    have B579 : (-176 : Int) ≤ v101.toInt ∧ v101.toInt ≤ 79 := k_subB' q580 B569 B581
    have q578 : v211.toInt = v101.toInt := (by rw [hv211]; exact c_i2l _)
    have B577 : (-176 : Int) ≤ v211.toInt ∧ v211.toInt ≤ 79 := (by rw [q578]; exact B579)
    have B582 : (0 : Int) ≤ v211.toInt ∧ v211.toInt ≤ 79 := ⟨kL_ge hv0212 (by decide), B577.2⟩
    have B583 : (-2147483648 : Int) ≤ v348.toInt ∧ v348.toInt ≤ 2147483647 := ⟨(rng32 v348).1, Int.le_of_lt_add_one (rng32 v348).2⟩
    have q586 : ¬ v348.toInt = (0 : Int32).toInt := fun q => hc350 (Int32.toInt_inj.mp q)
    have B591 : (10 : Int) ≤ (10 : Int64).toInt ∧ (10 : Int64).toInt ≤ 10 := (by decide)
    have q590 : v373.toInt = 10 * v211.toInt := (by have q0 := c_lmul (10 : Int64) v211; have q1 := rng64 v373; have q2 := B582; rw [← hv373] at q0; rw [show (10 : Int64).toInt = 10 from (by decide)] at q0; omega)
    have B589 : (0 : Int) ≤ v373.toInt ∧ v373.toInt ≤ 790 := (by rw [q590]; exact k_mulB B582 (by decide))
    have q595 : v229.toInt = p6.toInt - (48 : Int32).toInt := k_isubx hv229 B570 B581 (by decide) (by decide)
    have B594 : (-176 : Int) ≤ v229.toInt ∧ v229.toInt ≤ 79 := k_subB' q595 B570 B581
    have q593 : v374.toInt = v229.toInt := (by rw [hv374]; exact c_i2l _)
    have B592 : (-176 : Int) ≤ v374.toInt ∧ v374.toInt ≤ 79 := (by rw [q593]; exact B594)
    have q588 : v375.toInt = v373.toInt + v374.toInt := k_laddx hv375 B589 B592 (by decide) (by decide)
    have B587 : (-176 : Int) ≤ v375.toInt ∧ v375.toInt ≤ 869 := k_addB q588 B589 B592
    have B596 : (0 : Int) ≤ v375.toInt ∧ v375.toInt ≤ 869 := ⟨kL_ge hv0376 (by decide), B587.2⟩
    have B597 : (-2147483648 : Int) ≤ v526.toInt ∧ v526.toInt ≤ 2147483647 := ⟨(rng32 v526).1, Int.le_of_lt_add_one (rng32 v526).2⟩
    have q600 : ¬ v526.toInt = (0 : Int32).toInt := fun q => hc528 (Int32.toInt_inj.mp q)
    have q604 : v565.toInt = 10 * v375.toInt := (by have q0 := c_lmul (10 : Int64) v375; have q1 := rng64 v565; have q2 := B596; rw [← hv565] at q0; rw [show (10 : Int64).toInt = 10 from (by decide)] at q0; omega)
    have B603 : (0 : Int) ≤ v565.toInt ∧ v565.toInt ≤ 8690 := (by rw [q604]; exact k_mulB B596 (by decide))
    have q608 : v407.toInt = p7.toInt - (48 : Int32).toInt := k_isubx hv407 B571 B581 (by decide) (by decide)
    have B607 : (-176 : Int) ≤ v407.toInt ∧ v407.toInt ≤ 79 := k_subB' q608 B571 B581
    have q606 : v566.toInt = v407.toInt := (by rw [hv566]; exact c_i2l _)
    have B605 : (-176 : Int) ≤ v566.toInt ∧ v566.toInt ≤ 79 := (by rw [q606]; exact B607)
    have q602 : v567.toInt = v565.toInt + v566.toInt := k_laddx hv567 B603 B605 (by decide) (by decide)
    have B601 : (-176 : Int) ≤ v567.toInt ∧ v567.toInt ≤ 8769 := k_addB q602 B603 B605
    refine ⟨fun hg => ?_, fun hg => ?_⟩ <;> omega
abbrev R2_17 : Room := { frames := 0, cells := 0, slots := 0, locals := 0 }
def Q2_17 (Z : State) (a1 : Addr) (p2 : Int64) (k3 : ClassId) (p4 : Int32) (p5 : Int32) (p6 : Int32) (p7 : Int32) (p8 : Int32) (h0 : Heap) (n0 : Nat) (v : Option Value) (h : Heap) (L : List Loc) : Prop := Fr n0 L ∧ h = h0 ∧ ∃ r : Int64, v = some (.long r) ∧ (((48 ≤ p5.toInt ∧ p5.toInt ≤ 57) ∧ (48 ≤ p6.toInt ∧ p6.toInt ≤ 57) ∧ (48 ≤ p7.toInt ∧ p7.toInt ≤ 57) ∧ (48 ≤ p8.toInt ∧ p8.toInt ≤ 57) ∧ 1000 * (p5.toInt - 48) + 100 * (p6.toInt - 48) + 10 * (p7.toInt - 48) + 1 * (p8.toInt - 48) ≤ p2.toInt) → r.toInt = 1000 * (p5.toInt - 48) + 100 * (p6.toInt - 48) + 10 * (p7.toInt - 48) + 1 * (p8.toInt - 48)) ∧ (¬ ((48 ≤ p5.toInt ∧ p5.toInt ≤ 57) ∧ (48 ≤ p6.toInt ∧ p6.toInt ≤ 57) ∧ (48 ≤ p7.toInt ∧ p7.toInt ≤ 57) ∧ (48 ≤ p8.toInt ∧ p8.toInt ≤ 57) ∧ 1000 * (p5.toInt - 48) + 100 * (p6.toInt - 48) + 10 * (p7.toInt - 48) + 1 * (p8.toInt - 48) ≤ p2.toInt) → r.toInt = -1)
theorem ef2_17 (m : MethodId) (x0 : Addr) (x3 : Int64) : entryFrame m #[(.ref x0), (.int (1 : Int32)), (.int (5 : Int32)), (.long x3)] 10 = mkF m 0 #[.val (.ref x0), .val (.int (1 : Int32)), .val (.int (5 : Int32)), .val (.long x3), .second, .unset, .unset, .unset, .unset, .unset] [] := by first | (simp [entryFrame, mkF, argsToLocals, Value.category]; done) | rfl
set_option maxRecDepth 65536 in
set_option maxHeartbeats 40000000 in
theorem rm2_17 (l : Launch) (Z : State) (a0 : Array Value) (hw : ∀ d ∈ tables_1, d.before a0 Z = true) (ws : List Jvm.Cond) (a1 : Addr) (p2 : Int64) (k3 : ClassId) (p4 : Int32) (p5 : Int32) (p6 : Int32) (p7 : Int32) (p8 : Int32) (h0 : Heap) (n0 : Nat) (Z0 : n0 ≤ h0.size) (F0_0 : Arv Z h0 a1 k3 .byte (5 : Int32) [(.int p4), (.int p5), (.int p6), (.int p7), (.int p8)] (.int (0 : Int32))) (hp0 : ¬ p2 < (0 : Int64)) (hp1 : ¬ p5 < (-128 : Int32)) (hp2 : ¬ (127 : Int32) < p5) (hp3 : ¬ p6 < (-128 : Int32)) (hp4 : ¬ (127 : Int32) < p6) (hp5 : ¬ p7 < (-128 : Int32)) (hp6 : ¬ (127 : Int32) < p7) (hp7 : ¬ p8 < (-128 : Int32)) (hp8 : ¬ (127 : Int32) < p8) :
    KMet l (⟨"com/example/knotcut/knotcut/core/InputFields", "wholeNumber", "([BIIJ)J"⟩ : MethodName) prog_44_method_6_code 10 (some .long) ws R2_17 #[(.ref a1), (.int (1 : Int32)), (.int (5 : Int32)), (.long p2)] Z h0 R2_17.cells R2_17.slots (Q2_17 Z a1 p2 k3 p4 p5 p6 p7 p8 h0 n0) := by
 refine k_body (plainFor_of_name pn_1) (fun m => ef2_17 m a1 p2) ?_
 intro p e s m below meth c s₁ hx D hml hlk hret hown hnm hZ X0 e0
 have N0 := Fr.nil n0
 refine k_iloadN X0 hx 1 (D d2_0) rfl ?_
 refine k_iloadN X0 hx 2 (D d2_1) rfl ?_
 refine k_icmp_ne X0 hx 5 11 (D d2_2) (fun _ => ?_) (fun hc => absurd hc (by decide))
 refine k_lconst X0 hx 12 (D d2_11) (z := (0 : Int64)) rfl ?_
 refine k_lstore X0 hx 14 (D d2_12) (Ls' := #[rv a1, iv (1 : Int32), iv (5 : Int32), jv p2, s_, jv (0 : Int64), s_, u_, u_, u_]) rfl ?_
 refine k_iloadN X0 hx 15 (D d2_14) rfl ?_
 refine k_istore X0 hx 17 (D d2_15) (Ls' := #[rv a1, iv (1 : Int32), iv (5 : Int32), jv p2, s_, jv (0 : Int64), s_, iv (1 : Int32), u_, u_]) rfl ?_
 refine k_iload X0 hx 19 (D d2_17) rfl ?_
 refine k_iloadN X0 hx 20 (D d2_19) rfl ?_
 refine k_icmp_ge X0 hx 23 110 (D d2_20) (fun hc => absurd (by decide) hc) (fun _ => ?_)
 refine k_lload X0 hx 25 (D d2_23) rfl ?_
 refine k_lconst X0 hx 26 (D d2_25) (z := (0 : Int64)) rfl ?_
 refine k_lcif_lt X0 hx 30 110 27 (D d2_26) (D d2_27) (fun hc => absurd hc (by decide)) (fun _ => ?_)
 refine k_aloadN X0 hx 31 (D d2_30) rfl rfl ?_
 refine k_iload X0 hx 33 (D d2_31) rfl ?_
 refine k_baload X0 hx hZ 34 e0 F0_0 ⟨by decide, by decide⟩ (v := (.int p5)) rfl (D d2_33) ?_
 refine k_bipush X0 hx 36 (D d2_34) (z := (48 : Int32)) rfl ?_
 refine k_isub X0 hx 37 (D d2_36) (fun v101 hv101 => ?_)
 refine k_istore X0 hx 39 (D d2_37) (Ls' := #[rv a1, iv (1 : Int32), iv (5 : Int32), jv p2, s_, jv (0 : Int64), s_, iv (1 : Int32), iv v101, u_]) rfl ?_
 suffices key102 : ∀ (v196 : Int32), ((v196.toInt = 1 ∧ (0 ≤ v101.toInt ∧ v101.toInt ≤ 9 ∧ 10 * (0) + v101.toInt ≤ p2.toInt)) ∨ (v196.toInt = 0 ∧ ¬ (0 ≤ v101.toInt ∧ v101.toInt ≤ 9 ∧ 10 * (0) + v101.toInt ≤ p2.toInt))) → KEnds p e below s R2_17.cells R2_17.slots (Q2_17 Z a1 p2 k3 p4 p5 p6 p7 p8 h0 n0) s₁ (mkF m 79 #[rv a1, iv (1 : Int32), iv (5 : Int32), jv p2, s_, jv (0 : Int64), s_, iv (1 : Int32), iv v101, u_] [(.int v196)]) by
  refine k_iload X0 hx 41 (D d2_39) rfl ?_
  refine k_if_lt X0 hx 44 78 (D d2_41) (fun hc103 => ?_) (fun hc103 => ?_)
  ·
   refine k_iconst X0 hx 79 (D d2_78) (z := (0 : Int32)) rfl ?_
   refine key102 (0 : Int32) ?_
   have B110 : (0 : Int) ≤ p2.toInt ∧ p2.toInt ≤ 9223372036854775807 := ⟨kL_ge hp0 (by decide), Int.le_of_lt_add_one (rng64 p2).2⟩
   have B111 : (-128 : Int) ≤ p5.toInt ∧ p5.toInt ≤ 127 := ⟨k_ge hp1 (by decide), k_le hp2 (by decide)⟩
   have B114 : (48 : Int) ≤ (48 : Int32).toInt ∧ (48 : Int32).toInt ≤ 48 := (by decide)
   have q113 : v101.toInt = p5.toInt - (48 : Int32).toInt := k_isubx hv101 B111 B114 (by decide) (by decide)
   have B112 : (-176 : Int) ≤ v101.toInt ∧ v101.toInt ≤ 79 := k_subB' q113 B111 B114
   have B115 : (-176 : Int) ≤ v101.toInt ∧ v101.toInt ≤ -1 := ⟨B112.1, k_lt hc103 (by decide)⟩
   exact Or.inr ⟨rfl, by omega⟩
  ·
   refine k_iload X0 hx 46 (D d2_44) rfl ?_
   refine k_bipush X0 hx 48 (D d2_46) (z := (9 : Int32)) rfl ?_
   refine k_icmp_gt X0 hx 51 78 (D d2_48) (fun hc116 => ?_) (fun hc116 => ?_)
   ·
    refine k_iconst X0 hx 79 (D d2_78) (z := (0 : Int32)) rfl ?_
    refine key102 (0 : Int32) ?_
    have B123 : (0 : Int) ≤ p2.toInt ∧ p2.toInt ≤ 9223372036854775807 := ⟨kL_ge hp0 (by decide), Int.le_of_lt_add_one (rng64 p2).2⟩
    have B124 : (-128 : Int) ≤ p5.toInt ∧ p5.toInt ≤ 127 := ⟨k_ge hp1 (by decide), k_le hp2 (by decide)⟩
    have B127 : (48 : Int) ≤ (48 : Int32).toInt ∧ (48 : Int32).toInt ≤ 48 := (by decide)
    have q126 : v101.toInt = p5.toInt - (48 : Int32).toInt := k_isubx hv101 B124 B127 (by decide) (by decide)
    have B125 : (-176 : Int) ≤ v101.toInt ∧ v101.toInt ≤ 79 := k_subB' q126 B124 B127
    have B128 : (10 : Int) ≤ v101.toInt ∧ v101.toInt ≤ 79 := ⟨k_gt hc116 (by decide), B125.2⟩
    exact Or.inr ⟨rfl, by omega⟩
   ·
    refine k_iload X0 hx 53 (D d2_51) rfl ?_
    refine k_i2l X0 hx 54 (D d2_53) (fun v129 hv129 => ?_)
    refine k_lloadN X0 hx 55 (D d2_54) rfl ?_
    refine k_lcif_gt X0 hx 59 78 56 (D d2_55) (D d2_56) (fun hc130 => ?_) (fun hc130 => ?_)
    ·
     refine k_iconst X0 hx 79 (D d2_78) (z := (0 : Int32)) rfl ?_
     refine key102 (0 : Int32) ?_
     have B139 : (0 : Int) ≤ p2.toInt ∧ p2.toInt ≤ 9223372036854775807 := ⟨kL_ge hp0 (by decide), Int.le_of_lt_add_one (rng64 p2).2⟩
     have B140 : (-128 : Int) ≤ p5.toInt ∧ p5.toInt ≤ 127 := ⟨k_ge hp1 (by decide), k_le hp2 (by decide)⟩
     have B143 : (48 : Int) ≤ (48 : Int32).toInt ∧ (48 : Int32).toInt ≤ 48 := (by decide)
     have q142 : v101.toInt = p5.toInt - (48 : Int32).toInt := k_isubx hv101 B140 B143 (by decide) (by decide)
     have B141 : (0 : Int) ≤ v101.toInt ∧ v101.toInt ≤ 9 := ⟨k_ge hc103 (by decide), k_le hc116 (by decide)⟩
     have q145 : v129.toInt = v101.toInt := (by rw [hv129]; exact c_i2l _)
     have B144 : (0 : Int) ≤ v129.toInt ∧ v129.toInt ≤ 9 := (by rw [q145]; exact B141)
     have q146 := hc130; rw [Int64.lt_iff_toInt_lt] at q146
     exact Or.inr ⟨rfl, by omega⟩
    ·
     refine k_lload X0 hx 61 (D d2_59) rfl ?_
     refine k_lloadN X0 hx 62 (D d2_61) rfl ?_
     refine k_iload X0 hx 64 (D d2_62) rfl ?_
     refine k_i2lL X0 hx 65 (D d2_64) (z := v129) hv129.symm ?_
     refine k_lsub X0 hx 66 (D d2_65) (fun v147 hv147 => ?_)
     refine k_ldcL X0 hx hZ hown 69 (k_w hw 12 rfl) (D d2_66) ?_
     refine k_ldiv X0 hx 70 (D d2_69) (by decide) (fun v148 hv148 => ?_)
     have hv0149 : ¬ v148 < 0 := (by intro hq150; have B151 : (0 : Int) ≤ p2.toInt ∧ p2.toInt ≤ 9223372036854775807 := ⟨kL_ge hp0 (by decide), Int.le_of_lt_add_one (rng64 p2).2⟩; have B152 : (-128 : Int) ≤ p5.toInt ∧ p5.toInt ≤ 127 := ⟨k_ge hp1 (by decide), k_le hp2 (by decide)⟩; have B153 : (-128 : Int) ≤ p6.toInt ∧ p6.toInt ≤ 127 := ⟨k_ge hp3 (by decide), k_le hp4 (by decide)⟩; have B154 : (-128 : Int) ≤ p7.toInt ∧ p7.toInt ≤ 127 := ⟨k_ge hp5 (by decide), k_le hp6 (by decide)⟩; have B155 : (-128 : Int) ≤ p8.toInt ∧ p8.toInt ≤ 127 := ⟨k_ge hp7 (by decide), k_le hp8 (by decide)⟩; have B158 : (48 : Int) ≤ (48 : Int32).toInt ∧ (48 : Int32).toInt ≤ 48 := (by decide); have q157 : v101.toInt = p5.toInt - (48 : Int32).toInt := k_isubx hv101 B152 B158 (by decide) (by decide); have B156 : (0 : Int) ≤ v101.toInt ∧ v101.toInt ≤ 9 := ⟨k_ge hc103 (by decide), k_le hc116 (by decide)⟩; have q160 : v129.toInt = v101.toInt := (by rw [hv129]; exact c_i2l _); have B159 : (0 : Int) ≤ v129.toInt ∧ v129.toInt ≤ 9 := (by rw [q160]; exact B156); have q161 := hc130; rw [Int64.lt_iff_toInt_lt] at q161; have q164 : (0 ≤ v147.toInt → v148.toInt = v147.toInt / 10) ∧ (v147.toInt < 0 → v148.toInt = -((-v147.toInt) / 10)) := (by rw [hv148]; exact c_ldiv _ _ 10 (by decide) (by decide)); have q166 : v147.toInt = p2.toInt - v129.toInt := k_lsubx hv147 B151 B159 (by decide) (by decide); have B165 : (-9 : Int) ≤ v147.toInt ∧ v147.toInt ≤ 9223372036854775807 := k_subB' q166 B151 B159; have B167 : (10 : Int) ≤ (10 : Int64).toInt ∧ (10 : Int64).toInt ≤ 10 := (by decide); have B162 : (-9223372036854775808 : Int) ≤ v148.toInt ∧ v148.toInt ≤ -1 := ⟨(rng64 v148).1, kL_lt hq150 (by decide)⟩; omega)
     refine k_lcif_gt X0 hx 74 78 71 (D d2_70) (D d2_71) (fun hc => absurd hc hv0149) (fun _ => ?_)
     refine k_iconst X0 hx 75 (D d2_74) (z := (1 : Int32)) rfl ?_
     refine k_goto X0 hx 79 (D d2_75) ?_
     refine key102 (1 : Int32) ?_
     have B182 : (0 : Int) ≤ p2.toInt ∧ p2.toInt ≤ 9223372036854775807 := ⟨kL_ge hp0 (by decide), Int.le_of_lt_add_one (rng64 p2).2⟩
     have B183 : (-128 : Int) ≤ p5.toInt ∧ p5.toInt ≤ 127 := ⟨k_ge hp1 (by decide), k_le hp2 (by decide)⟩
     have B186 : (48 : Int) ≤ (48 : Int32).toInt ∧ (48 : Int32).toInt ≤ 48 := (by decide)
     have q185 : v101.toInt = p5.toInt - (48 : Int32).toInt := k_isubx hv101 B183 B186 (by decide) (by decide)
     have B184 : (0 : Int) ≤ v101.toInt ∧ v101.toInt ≤ 9 := ⟨k_ge hc103 (by decide), k_le hc116 (by decide)⟩
     have q188 : v129.toInt = v101.toInt := (by rw [hv129]; exact c_i2l _)
     have B187 : (0 : Int) ≤ v129.toInt ∧ v129.toInt ≤ 9 := (by rw [q188]; exact B184)
     have q189 := hc130; rw [Int64.lt_iff_toInt_lt] at q189
     have q192 : (0 ≤ v147.toInt → v148.toInt = v147.toInt / 10) ∧ (v147.toInt < 0 → v148.toInt = -((-v147.toInt) / 10)) := (by rw [hv148]; exact c_ldiv _ _ 10 (by decide) (by decide))
     have q194 : v147.toInt = p2.toInt - v129.toInt := k_lsubx hv147 B182 B187 (by decide) (by decide)
     have B193 : (-9 : Int) ≤ v147.toInt ∧ v147.toInt ≤ 9223372036854775807 := k_subB' q194 B182 B187
     have B195 : (10 : Int) ≤ (10 : Int64).toInt ∧ (10 : Int64).toInt ≤ 10 := (by decide)
     have B190 : (0 : Int) ≤ v148.toInt ∧ v148.toInt ≤ 9223372036854775807 := ⟨kL_ge hv0149 (by decide), Int.le_of_lt_add_one (rng64 v148).2⟩
     exact Or.inl ⟨rfl, by omega⟩
 intro v196 hP197
 refine k_istore X0 hx 81 (D d2_79) (Ls' := #[rv a1, iv (1 : Int32), iv (5 : Int32), jv p2, s_, jv (0 : Int64), s_, iv (1 : Int32), iv v101, iv v196]) rfl ?_
 refine k_iload X0 hx 83 (D d2_81) rfl ?_
 refine k_if_eq X0 hx 86 99 (D d2_83) (fun hc198 => ?_) (fun hc198 => ?_)
 ·
  refine k_ldcL X0 hx hZ hown 102 (k_w hw 10 rfl) (D d2_99) ?_
  refine k_lstore X0 hx 104 (D d2_102) (Ls' := #[rv a1, iv (1 : Int32), iv (5 : Int32), jv p2, s_, jv (-1 : Int64), s_, iv (1 : Int32), iv v101, iv v196]) rfl ?_
  refine k_iinc X0 hx 107 (D d2_104) rfl (z := (2 : Int32)) (by decide) (Ls' := #[rv a1, iv (1 : Int32), iv (5 : Int32), jv p2, s_, jv (-1 : Int64), s_, iv (2 : Int32), iv v101, iv v196]) rfl ?_
  refine k_goto X0 hx 17 (D d2_107) ?_
  refine k_iload X0 hx 19 (D d2_17) rfl ?_
  refine k_iloadN X0 hx 20 (D d2_19) rfl ?_
  refine k_icmp_ge X0 hx 23 110 (D d2_20) (fun hc => absurd (by decide) hc) (fun _ => ?_)
  refine k_lload X0 hx 25 (D d2_23) rfl ?_
  refine k_lconst X0 hx 26 (D d2_25) (z := (0 : Int64)) rfl ?_
  refine k_lcif_lt X0 hx 30 110 27 (D d2_26) (D d2_27) (fun _ => ?_) (fun hc => absurd (by decide) hc)
  refine k_lload X0 hx 112 (D d2_110) rfl ?_
  refine k_retL X0 hx hret (D d2_112) hlk (by decide) (by decide) ⟨N0, e0, (-1 : Int64), rfl, ?_⟩
  have hgoal : True := trivial
  have B199 : (0 : Int) ≤ p2.toInt ∧ p2.toInt ≤ 9223372036854775807 := ⟨kL_ge hp0 (by decide), Int.le_of_lt_add_one (rng64 p2).2⟩
  have B200 : (-128 : Int) ≤ p5.toInt ∧ p5.toInt ≤ 127 := ⟨k_ge hp1 (by decide), k_le hp2 (by decide)⟩
  have B201 : (-128 : Int) ≤ p6.toInt ∧ p6.toInt ≤ 127 := ⟨k_ge hp3 (by decide), k_le hp4 (by decide)⟩
  have B202 : (-128 : Int) ≤ p7.toInt ∧ p7.toInt ≤ 127 := ⟨k_ge hp5 (by decide), k_le hp6 (by decide)⟩
  have B203 : (-128 : Int) ≤ p8.toInt ∧ p8.toInt ≤ 127 := ⟨k_ge hp7 (by decide), k_le hp8 (by decide)⟩
  have B204 : (-2147483648 : Int) ≤ v196.toInt ∧ v196.toInt ≤ 2147483647 := ⟨(rng32 v196).1, Int.le_of_lt_add_one (rng32 v196).2⟩
  have B207 : (0 : Int) ≤ (0 : Int32).toInt ∧ (0 : Int32).toInt ≤ 0 := (by decide)
  have q208 := congrArg Int32.toInt hc198
  have B209 : (-1 : Int) ≤ (-1 : Int64).toInt ∧ (-1 : Int64).toInt ≤ -1 := (by decide)
  have B212 : (48 : Int) ≤ (48 : Int32).toInt ∧ (48 : Int32).toInt ≤ 48 := (by decide)
  have q211 : v101.toInt = p5.toInt - (48 : Int32).toInt := k_isubx hv101 B200 B212 (by decide) (by decide)
  have B210 : (-176 : Int) ≤ v101.toInt ∧ v101.toInt ≤ 79 := k_subB' q211 B200 B212
  refine ⟨fun hg => ?_, fun hg => ?_⟩ <;> omega
 ·
  refine k_ldcL X0 hx hZ hown 89 (k_w hw 12 rfl) (D d2_86) ?_
  refine k_lload X0 hx 91 (D d2_89) rfl ?_
  refine k_lmulL X0 hx 92 (D d2_91) (z := (0 : Int64)) (by decide) ?_
  refine k_iload X0 hx 94 (D d2_92) rfl ?_
  refine k_i2l X0 hx 95 (D d2_94) (fun v213 hv213 => ?_)
  refine k_laddL X0 hx 96 (D d2_95) (z := v213) (Int64.zero_add _) ?_
  refine k_goto X0 hx 102 (D d2_96) ?_
  refine k_lstore X0 hx 104 (D d2_102) (Ls' := #[rv a1, iv (1 : Int32), iv (5 : Int32), jv p2, s_, jv v213, s_, iv (1 : Int32), iv v101, iv v196]) rfl ?_
  refine k_iinc X0 hx 107 (D d2_104) rfl (z := (2 : Int32)) (by decide) (Ls' := #[rv a1, iv (1 : Int32), iv (5 : Int32), jv p2, s_, jv v213, s_, iv (2 : Int32), iv v101, iv v196]) rfl ?_
  refine k_goto X0 hx 17 (D d2_107) ?_
  refine k_iload X0 hx 19 (D d2_17) rfl ?_
  refine k_iloadN X0 hx 20 (D d2_19) rfl ?_
  refine k_icmp_ge X0 hx 23 110 (D d2_20) (fun hc => absurd (by decide) hc) (fun _ => ?_)
  refine k_lload X0 hx 25 (D d2_23) rfl ?_
  refine k_lconst X0 hx 26 (D d2_25) (z := (0 : Int64)) rfl ?_
  have hv0214 : ¬ v213 < 0 := (by intro hq215; have B216 : (0 : Int) ≤ p2.toInt ∧ p2.toInt ≤ 9223372036854775807 := ⟨kL_ge hp0 (by decide), Int.le_of_lt_add_one (rng64 p2).2⟩; have B217 : (-128 : Int) ≤ p5.toInt ∧ p5.toInt ≤ 127 := ⟨k_ge hp1 (by decide), k_le hp2 (by decide)⟩; have B218 : (-128 : Int) ≤ p6.toInt ∧ p6.toInt ≤ 127 := ⟨k_ge hp3 (by decide), k_le hp4 (by decide)⟩; have B219 : (-128 : Int) ≤ p7.toInt ∧ p7.toInt ≤ 127 := ⟨k_ge hp5 (by decide), k_le hp6 (by decide)⟩; have B220 : (-128 : Int) ≤ p8.toInt ∧ p8.toInt ≤ 127 := ⟨k_ge hp7 (by decide), k_le hp8 (by decide)⟩; have B221 : (-2147483648 : Int) ≤ v196.toInt ∧ v196.toInt ≤ 2147483647 := ⟨(rng32 v196).1, Int.le_of_lt_add_one (rng32 v196).2⟩; have B224 : (0 : Int) ≤ (0 : Int32).toInt ∧ (0 : Int32).toInt ≤ 0 := (by decide); have q225 : ¬ v196.toInt = (0 : Int32).toInt := fun q => hc198 (Int32.toInt_inj.mp q); have B230 : (48 : Int) ≤ (48 : Int32).toInt ∧ (48 : Int32).toInt ≤ 48 := (by decide); have q229 : v101.toInt = p5.toInt - (48 : Int32).toInt := k_isubx hv101 B217 B230 (by decide) (by decide); have B228 : (-176 : Int) ≤ v101.toInt ∧ v101.toInt ≤ 79 := k_subB' q229 B217 B230; have q227 : v213.toInt = v101.toInt := (by rw [hv213]; exact c_i2l _); have B226 : (-176 : Int) ≤ v213.toInt ∧ v213.toInt ≤ 79 := (by rw [q227]; exact B228); have B231 : (-176 : Int) ≤ v213.toInt ∧ v213.toInt ≤ -1 := ⟨B226.1, kL_lt hq215 (by decide)⟩; omega)
  refine k_lcif_lt X0 hx 30 110 27 (D d2_26) (D d2_27) (fun hc => absurd hc hv0214) (fun _ => ?_)
  refine k_aloadN X0 hx 31 (D d2_30) rfl rfl ?_
  refine k_iload X0 hx 33 (D d2_31) rfl ?_
  refine k_baload X0 hx hZ 34 e0 F0_0 ⟨by decide, by decide⟩ (v := (.int p6)) rfl (D d2_33) ?_
  refine k_bipush X0 hx 36 (D d2_34) (z := (48 : Int32)) rfl ?_
  refine k_isub X0 hx 37 (D d2_36) (fun v232 hv232 => ?_)
  refine k_istore X0 hx 39 (D d2_37) (Ls' := #[rv a1, iv (1 : Int32), iv (5 : Int32), jv p2, s_, jv v213, s_, iv (2 : Int32), iv v232, iv v196]) rfl ?_
  suffices key233 : ∀ (v351 : Int32), ((v351.toInt = 1 ∧ (0 ≤ v232.toInt ∧ v232.toInt ≤ 9 ∧ 10 * v213.toInt + v232.toInt ≤ p2.toInt)) ∨ (v351.toInt = 0 ∧ ¬ (0 ≤ v232.toInt ∧ v232.toInt ≤ 9 ∧ 10 * v213.toInt + v232.toInt ≤ p2.toInt))) → KEnds p e below s R2_17.cells R2_17.slots (Q2_17 Z a1 p2 k3 p4 p5 p6 p7 p8 h0 n0) s₁ (mkF m 79 #[rv a1, iv (1 : Int32), iv (5 : Int32), jv p2, s_, jv v213, s_, iv (2 : Int32), iv v232, iv v196] [(.int v351)]) by
   refine k_iload X0 hx 41 (D d2_39) rfl ?_
   refine k_if_lt X0 hx 44 78 (D d2_41) (fun hc234 => ?_) (fun hc234 => ?_)
   ·
    refine k_iconst X0 hx 79 (D d2_78) (z := (0 : Int32)) rfl ?_
    refine key233 (0 : Int32) ?_
    have B242 : (0 : Int) ≤ p2.toInt ∧ p2.toInt ≤ 9223372036854775807 := ⟨kL_ge hp0 (by decide), Int.le_of_lt_add_one (rng64 p2).2⟩
    have B243 : (-128 : Int) ≤ p6.toInt ∧ p6.toInt ≤ 127 := ⟨k_ge hp3 (by decide), k_le hp4 (by decide)⟩
    have B244 : (0 : Int) ≤ v213.toInt ∧ v213.toInt ≤ 9223372036854775807 := ⟨kL_ge hv0214 (by decide), Int.le_of_lt_add_one (rng64 v213).2⟩
    have B247 : (48 : Int) ≤ (48 : Int32).toInt ∧ (48 : Int32).toInt ≤ 48 := (by decide)
    have q246 : v232.toInt = p6.toInt - (48 : Int32).toInt := k_isubx hv232 B243 B247 (by decide) (by decide)
    have B245 : (-176 : Int) ≤ v232.toInt ∧ v232.toInt ≤ 79 := k_subB' q246 B243 B247
    have B248 : (-176 : Int) ≤ v232.toInt ∧ v232.toInt ≤ -1 := ⟨B245.1, k_lt hc234 (by decide)⟩
    exact Or.inr ⟨rfl, by omega⟩
   ·
    refine k_iload X0 hx 46 (D d2_44) rfl ?_
    refine k_bipush X0 hx 48 (D d2_46) (z := (9 : Int32)) rfl ?_
    refine k_icmp_gt X0 hx 51 78 (D d2_48) (fun hc249 => ?_) (fun hc249 => ?_)
    ·
     refine k_iconst X0 hx 79 (D d2_78) (z := (0 : Int32)) rfl ?_
     refine key233 (0 : Int32) ?_
     have B257 : (0 : Int) ≤ p2.toInt ∧ p2.toInt ≤ 9223372036854775807 := ⟨kL_ge hp0 (by decide), Int.le_of_lt_add_one (rng64 p2).2⟩
     have B258 : (-128 : Int) ≤ p6.toInt ∧ p6.toInt ≤ 127 := ⟨k_ge hp3 (by decide), k_le hp4 (by decide)⟩
     have B259 : (0 : Int) ≤ v213.toInt ∧ v213.toInt ≤ 9223372036854775807 := ⟨kL_ge hv0214 (by decide), Int.le_of_lt_add_one (rng64 v213).2⟩
     have B262 : (48 : Int) ≤ (48 : Int32).toInt ∧ (48 : Int32).toInt ≤ 48 := (by decide)
     have q261 : v232.toInt = p6.toInt - (48 : Int32).toInt := k_isubx hv232 B258 B262 (by decide) (by decide)
     have B260 : (-176 : Int) ≤ v232.toInt ∧ v232.toInt ≤ 79 := k_subB' q261 B258 B262
     have B263 : (10 : Int) ≤ v232.toInt ∧ v232.toInt ≤ 79 := ⟨k_gt hc249 (by decide), B260.2⟩
     exact Or.inr ⟨rfl, by omega⟩
    ·
     refine k_iload X0 hx 53 (D d2_51) rfl ?_
     refine k_i2l X0 hx 54 (D d2_53) (fun v264 hv264 => ?_)
     refine k_lloadN X0 hx 55 (D d2_54) rfl ?_
     refine k_lcif_gt X0 hx 59 78 56 (D d2_55) (D d2_56) (fun hc265 => ?_) (fun hc265 => ?_)
     ·
      refine k_iconst X0 hx 79 (D d2_78) (z := (0 : Int32)) rfl ?_
      refine key233 (0 : Int32) ?_
      have B275 : (0 : Int) ≤ p2.toInt ∧ p2.toInt ≤ 9223372036854775807 := ⟨kL_ge hp0 (by decide), Int.le_of_lt_add_one (rng64 p2).2⟩
      have B276 : (-128 : Int) ≤ p6.toInt ∧ p6.toInt ≤ 127 := ⟨k_ge hp3 (by decide), k_le hp4 (by decide)⟩
      have B277 : (0 : Int) ≤ v213.toInt ∧ v213.toInt ≤ 9223372036854775807 := ⟨kL_ge hv0214 (by decide), Int.le_of_lt_add_one (rng64 v213).2⟩
      have B280 : (48 : Int) ≤ (48 : Int32).toInt ∧ (48 : Int32).toInt ≤ 48 := (by decide)
      have q279 : v232.toInt = p6.toInt - (48 : Int32).toInt := k_isubx hv232 B276 B280 (by decide) (by decide)
      have B278 : (0 : Int) ≤ v232.toInt ∧ v232.toInt ≤ 9 := ⟨k_ge hc234 (by decide), k_le hc249 (by decide)⟩
      have q282 : v264.toInt = v232.toInt := (by rw [hv264]; exact c_i2l _)
      have B281 : (0 : Int) ≤ v264.toInt ∧ v264.toInt ≤ 9 := (by rw [q282]; exact B278)
      have q283 := hc265; rw [Int64.lt_iff_toInt_lt] at q283
      exact Or.inr ⟨rfl, by omega⟩
     ·
      refine k_lload X0 hx 61 (D d2_59) rfl ?_
      refine k_lloadN X0 hx 62 (D d2_61) rfl ?_
      refine k_iload X0 hx 64 (D d2_62) rfl ?_
      refine k_i2lL X0 hx 65 (D d2_64) (z := v264) hv264.symm ?_
      refine k_lsub X0 hx 66 (D d2_65) (fun v284 hv284 => ?_)
      refine k_ldcL X0 hx hZ hown 69 (k_w hw 12 rfl) (D d2_66) ?_
      refine k_ldiv X0 hx 70 (D d2_69) (by decide) (fun v285 hv285 => ?_)
      refine k_lcif_gt X0 hx 74 78 71 (D d2_70) (D d2_71) (fun hc286 => ?_) (fun hc286 => ?_)
      ·
       refine k_iconst X0 hx 79 (D d2_78) (z := (0 : Int32)) rfl ?_
       refine key233 (0 : Int32) ?_
       have B303 : (0 : Int) ≤ p2.toInt ∧ p2.toInt ≤ 9223372036854775807 := ⟨kL_ge hp0 (by decide), Int.le_of_lt_add_one (rng64 p2).2⟩
       have B304 : (-128 : Int) ≤ p6.toInt ∧ p6.toInt ≤ 127 := ⟨k_ge hp3 (by decide), k_le hp4 (by decide)⟩
       have B305 : (0 : Int) ≤ v213.toInt ∧ v213.toInt ≤ 9223372036854775807 := ⟨kL_ge hv0214 (by decide), Int.le_of_lt_add_one (rng64 v213).2⟩
       have B308 : (48 : Int) ≤ (48 : Int32).toInt ∧ (48 : Int32).toInt ≤ 48 := (by decide)
       have q307 : v232.toInt = p6.toInt - (48 : Int32).toInt := k_isubx hv232 B304 B308 (by decide) (by decide)
       have B306 : (0 : Int) ≤ v232.toInt ∧ v232.toInt ≤ 9 := ⟨k_ge hc234 (by decide), k_le hc249 (by decide)⟩
       have q310 : v264.toInt = v232.toInt := (by rw [hv264]; exact c_i2l _)
       have B309 : (0 : Int) ≤ v264.toInt ∧ v264.toInt ≤ 9 := (by rw [q310]; exact B306)
       have q311 := hc265; rw [Int64.lt_iff_toInt_lt] at q311
       have q314 : (0 ≤ v284.toInt → v285.toInt = v284.toInt / 10) ∧ (v284.toInt < 0 → v285.toInt = -((-v284.toInt) / 10)) := (by rw [hv285]; exact c_ldiv _ _ 10 (by decide) (by decide))
       have q316 : v284.toInt = p2.toInt - v264.toInt := k_lsubx hv284 B303 B309 (by decide) (by decide)
       have B315 : (-9 : Int) ≤ v284.toInt ∧ v284.toInt ≤ 9223372036854775807 := k_subB' q316 B303 B309
       have B317 : (10 : Int) ≤ (10 : Int64).toInt ∧ (10 : Int64).toInt ≤ 10 := (by decide)
       have B312 : (-9223372036854775808 : Int) ≤ v285.toInt ∧ v285.toInt ≤ 9223372036854775807 := ⟨(rng64 v285).1, Int.le_of_lt_add_one (rng64 v285).2⟩
       have q318 := hc286; rw [Int64.lt_iff_toInt_lt] at q318
       exact Or.inr ⟨rfl, by omega⟩
      ·
       refine k_iconst X0 hx 75 (D d2_74) (z := (1 : Int32)) rfl ?_
       refine k_goto X0 hx 79 (D d2_75) ?_
       refine key233 (1 : Int32) ?_
       have B335 : (0 : Int) ≤ p2.toInt ∧ p2.toInt ≤ 9223372036854775807 := ⟨kL_ge hp0 (by decide), Int.le_of_lt_add_one (rng64 p2).2⟩
       have B336 : (-128 : Int) ≤ p6.toInt ∧ p6.toInt ≤ 127 := ⟨k_ge hp3 (by decide), k_le hp4 (by decide)⟩
       have B337 : (0 : Int) ≤ v213.toInt ∧ v213.toInt ≤ 9223372036854775807 := ⟨kL_ge hv0214 (by decide), Int.le_of_lt_add_one (rng64 v213).2⟩
       have B340 : (48 : Int) ≤ (48 : Int32).toInt ∧ (48 : Int32).toInt ≤ 48 := (by decide)
       have q339 : v232.toInt = p6.toInt - (48 : Int32).toInt := k_isubx hv232 B336 B340 (by decide) (by decide)
       have B338 : (0 : Int) ≤ v232.toInt ∧ v232.toInt ≤ 9 := ⟨k_ge hc234 (by decide), k_le hc249 (by decide)⟩
       have q342 : v264.toInt = v232.toInt := (by rw [hv264]; exact c_i2l _)
       have B341 : (0 : Int) ≤ v264.toInt ∧ v264.toInt ≤ 9 := (by rw [q342]; exact B338)
       have q343 := hc265; rw [Int64.lt_iff_toInt_lt] at q343
       have q346 : (0 ≤ v284.toInt → v285.toInt = v284.toInt / 10) ∧ (v284.toInt < 0 → v285.toInt = -((-v284.toInt) / 10)) := (by rw [hv285]; exact c_ldiv _ _ 10 (by decide) (by decide))
       have q348 : v284.toInt = p2.toInt - v264.toInt := k_lsubx hv284 B335 B341 (by decide) (by decide)
       have B347 : (-9 : Int) ≤ v284.toInt ∧ v284.toInt ≤ 9223372036854775807 := k_subB' q348 B335 B341
       have B349 : (10 : Int) ≤ (10 : Int64).toInt ∧ (10 : Int64).toInt ≤ 10 := (by decide)
       have B344 : (-9223372036854775808 : Int) ≤ v285.toInt ∧ v285.toInt ≤ 9223372036854775807 := ⟨(rng64 v285).1, Int.le_of_lt_add_one (rng64 v285).2⟩
       have q350 := hc286; rw [Int64.lt_iff_toInt_lt] at q350
       exact Or.inl ⟨rfl, by omega⟩
  intro v351 hP352
  refine k_istore X0 hx 81 (D d2_79) (Ls' := #[rv a1, iv (1 : Int32), iv (5 : Int32), jv p2, s_, jv v213, s_, iv (2 : Int32), iv v232, iv v351]) rfl ?_
  refine k_iload X0 hx 83 (D d2_81) rfl ?_
  refine k_if_eq X0 hx 86 99 (D d2_83) (fun hc353 => ?_) (fun hc353 => ?_)
  ·
   refine k_ldcL X0 hx hZ hown 102 (k_w hw 10 rfl) (D d2_99) ?_
   refine k_lstore X0 hx 104 (D d2_102) (Ls' := #[rv a1, iv (1 : Int32), iv (5 : Int32), jv p2, s_, jv (-1 : Int64), s_, iv (2 : Int32), iv v232, iv v351]) rfl ?_
   refine k_iinc X0 hx 107 (D d2_104) rfl (z := (3 : Int32)) (by decide) (Ls' := #[rv a1, iv (1 : Int32), iv (5 : Int32), jv p2, s_, jv (-1 : Int64), s_, iv (3 : Int32), iv v232, iv v351]) rfl ?_
   refine k_goto X0 hx 17 (D d2_107) ?_
   refine k_iload X0 hx 19 (D d2_17) rfl ?_
   refine k_iloadN X0 hx 20 (D d2_19) rfl ?_
   refine k_icmp_ge X0 hx 23 110 (D d2_20) (fun hc => absurd (by decide) hc) (fun _ => ?_)
   refine k_lload X0 hx 25 (D d2_23) rfl ?_
   refine k_lconst X0 hx 26 (D d2_25) (z := (0 : Int64)) rfl ?_
   refine k_lcif_lt X0 hx 30 110 27 (D d2_26) (D d2_27) (fun _ => ?_) (fun hc => absurd (by decide) hc)
   refine k_lload X0 hx 112 (D d2_110) rfl ?_
   refine k_retL X0 hx hret (D d2_112) hlk (by decide) (by decide) ⟨N0, e0, (-1 : Int64), rfl, ?_⟩
   have hgoal : True := trivial
   have B354 : (0 : Int) ≤ p2.toInt ∧ p2.toInt ≤ 9223372036854775807 := ⟨kL_ge hp0 (by decide), Int.le_of_lt_add_one (rng64 p2).2⟩
   have B355 : (-128 : Int) ≤ p5.toInt ∧ p5.toInt ≤ 127 := ⟨k_ge hp1 (by decide), k_le hp2 (by decide)⟩
   have B356 : (-128 : Int) ≤ p6.toInt ∧ p6.toInt ≤ 127 := ⟨k_ge hp3 (by decide), k_le hp4 (by decide)⟩
   have B357 : (-128 : Int) ≤ p7.toInt ∧ p7.toInt ≤ 127 := ⟨k_ge hp5 (by decide), k_le hp6 (by decide)⟩
   have B358 : (-128 : Int) ≤ p8.toInt ∧ p8.toInt ≤ 127 := ⟨k_ge hp7 (by decide), k_le hp8 (by decide)⟩
   have B359 : (-2147483648 : Int) ≤ v196.toInt ∧ v196.toInt ≤ 2147483647 := ⟨(rng32 v196).1, Int.le_of_lt_add_one (rng32 v196).2⟩
   have B362 : (0 : Int) ≤ (0 : Int32).toInt ∧ (0 : Int32).toInt ≤ 0 := (by decide)
   have q363 : ¬ v196.toInt = (0 : Int32).toInt := fun q => hc198 (Int32.toInt_inj.mp q)
   have B368 : (48 : Int) ≤ (48 : Int32).toInt ∧ (48 : Int32).toInt ≤ 48 := (by decide)
   have q367 : v101.toInt = p5.toInt - (48 : Int32).toInt := k_isubx hv101 B355 B368 (by decide) (by decide)
   have B366 : (-176 : Int) ≤ v101.toInt ∧ v101.toInt ≤ 79 := k_subB' q367 B355 B368
   have q365 : v213.toInt = v101.toInt := (by rw [hv213]; exact c_i2l _)
   have B364 : (-176 : Int) ≤ v213.toInt ∧ v213.toInt ≤ 79 := (by rw [q365]; exact B366)
   have B369 : (0 : Int) ≤ v213.toInt ∧ v213.toInt ≤ 79 := ⟨kL_ge hv0214 (by decide), B364.2⟩
   have B370 : (-2147483648 : Int) ≤ v351.toInt ∧ v351.toInt ≤ 2147483647 := ⟨(rng32 v351).1, Int.le_of_lt_add_one (rng32 v351).2⟩
   have q373 := congrArg Int32.toInt hc353
   have B374 : (-1 : Int) ≤ (-1 : Int64).toInt ∧ (-1 : Int64).toInt ≤ -1 := (by decide)
   have q376 : v232.toInt = p6.toInt - (48 : Int32).toInt := k_isubx hv232 B356 B368 (by decide) (by decide)
   have B375 : (-176 : Int) ≤ v232.toInt ∧ v232.toInt ≤ 79 := k_subB' q376 B356 B368
   refine ⟨fun hg => ?_, fun hg => ?_⟩ <;> omega
  ·
   refine k_ldcL X0 hx hZ hown 89 (k_w hw 12 rfl) (D d2_86) ?_
   refine k_lload X0 hx 91 (D d2_89) rfl ?_
   refine k_lmul X0 hx 92 (D d2_91) (fun v377 hv377 => ?_)
   refine k_iload X0 hx 94 (D d2_92) rfl ?_
   refine k_i2l X0 hx 95 (D d2_94) (fun v378 hv378 => ?_)
   refine k_ladd X0 hx 96 (D d2_95) (fun v379 hv379 => ?_)
   refine k_goto X0 hx 102 (D d2_96) ?_
   refine k_lstore X0 hx 104 (D d2_102) (Ls' := #[rv a1, iv (1 : Int32), iv (5 : Int32), jv p2, s_, jv v379, s_, iv (2 : Int32), iv v232, iv v351]) rfl ?_
   refine k_iinc X0 hx 107 (D d2_104) rfl (z := (3 : Int32)) (by decide) (Ls' := #[rv a1, iv (1 : Int32), iv (5 : Int32), jv p2, s_, jv v379, s_, iv (3 : Int32), iv v232, iv v351]) rfl ?_
   refine k_goto X0 hx 17 (D d2_107) ?_
   refine k_iload X0 hx 19 (D d2_17) rfl ?_
   refine k_iloadN X0 hx 20 (D d2_19) rfl ?_
   refine k_icmp_ge X0 hx 23 110 (D d2_20) (fun hc => absurd (by decide) hc) (fun _ => ?_)
   refine k_lload X0 hx 25 (D d2_23) rfl ?_
   refine k_lconst X0 hx 26 (D d2_25) (z := (0 : Int64)) rfl ?_
   have hv0380 : ¬ v379 < 0 := (by intro hq381; have B382 : (0 : Int) ≤ p2.toInt ∧ p2.toInt ≤ 9223372036854775807 := ⟨kL_ge hp0 (by decide), Int.le_of_lt_add_one (rng64 p2).2⟩; have B383 : (-128 : Int) ≤ p5.toInt ∧ p5.toInt ≤ 127 := ⟨k_ge hp1 (by decide), k_le hp2 (by decide)⟩; have B384 : (-128 : Int) ≤ p6.toInt ∧ p6.toInt ≤ 127 := ⟨k_ge hp3 (by decide), k_le hp4 (by decide)⟩; have B385 : (-128 : Int) ≤ p7.toInt ∧ p7.toInt ≤ 127 := ⟨k_ge hp5 (by decide), k_le hp6 (by decide)⟩; have B386 : (-128 : Int) ≤ p8.toInt ∧ p8.toInt ≤ 127 := ⟨k_ge hp7 (by decide), k_le hp8 (by decide)⟩; have B387 : (-2147483648 : Int) ≤ v196.toInt ∧ v196.toInt ≤ 2147483647 := ⟨(rng32 v196).1, Int.le_of_lt_add_one (rng32 v196).2⟩; have B390 : (0 : Int) ≤ (0 : Int32).toInt ∧ (0 : Int32).toInt ≤ 0 := (by decide); have q391 : ¬ v196.toInt = (0 : Int32).toInt := fun q => hc198 (Int32.toInt_inj.mp q); have B396 : (48 : Int) ≤ (48 : Int32).toInt ∧ (48 : Int32).toInt ≤ 48 := (by decide); have q395 : v101.toInt = p5.toInt - (48 : Int32).toInt := k_isubx hv101 B383 B396 (by decide) (by decide); have B394 : (-176 : Int) ≤ v101.toInt ∧ v101.toInt ≤ 79 := k_subB' q395 B383 B396; have q393 : v213.toInt = v101.toInt := (by rw [hv213]; exact c_i2l _); have B392 : (-176 : Int) ≤ v213.toInt ∧ v213.toInt ≤ 79 := (by rw [q393]; exact B394); have B397 : (0 : Int) ≤ v213.toInt ∧ v213.toInt ≤ 79 := ⟨kL_ge hv0214 (by decide), B392.2⟩; have B398 : (-2147483648 : Int) ≤ v351.toInt ∧ v351.toInt ≤ 2147483647 := ⟨(rng32 v351).1, Int.le_of_lt_add_one (rng32 v351).2⟩; have q401 : ¬ v351.toInt = (0 : Int32).toInt := fun q => hc353 (Int32.toInt_inj.mp q); have B406 : (10 : Int) ≤ (10 : Int64).toInt ∧ (10 : Int64).toInt ≤ 10 := (by decide); have q405 : v377.toInt = 10 * v213.toInt := (by have q0 := c_lmul (10 : Int64) v213; have q1 := rng64 v377; have q2 := B397; rw [← hv377] at q0; rw [show (10 : Int64).toInt = 10 from (by decide)] at q0; omega); have B404 : (0 : Int) ≤ v377.toInt ∧ v377.toInt ≤ 790 := (by rw [q405]; exact k_mulB B397 (by decide)); have q410 : v232.toInt = p6.toInt - (48 : Int32).toInt := k_isubx hv232 B384 B396 (by decide) (by decide); have B409 : (-176 : Int) ≤ v232.toInt ∧ v232.toInt ≤ 79 := k_subB' q410 B384 B396; have q408 : v378.toInt = v232.toInt := (by rw [hv378]; exact c_i2l _); have B407 : (-176 : Int) ≤ v378.toInt ∧ v378.toInt ≤ 79 := (by rw [q408]; exact B409); have q403 : v379.toInt = v377.toInt + v378.toInt := k_laddx hv379 B404 B407 (by decide) (by decide); have B402 : (-176 : Int) ≤ v379.toInt ∧ v379.toInt ≤ 869 := k_addB q403 B404 B407; have B411 : (-176 : Int) ≤ v379.toInt ∧ v379.toInt ≤ -1 := ⟨B402.1, kL_lt hq381 (by decide)⟩; omega)
   refine k_lcif_lt X0 hx 30 110 27 (D d2_26) (D d2_27) (fun hc => absurd hc hv0380) (fun _ => ?_)
   refine k_aloadN X0 hx 31 (D d2_30) rfl rfl ?_
   refine k_iload X0 hx 33 (D d2_31) rfl ?_
   refine k_baload X0 hx hZ 34 e0 F0_0 ⟨by decide, by decide⟩ (v := (.int p7)) rfl (D d2_33) ?_
   refine k_bipush X0 hx 36 (D d2_34) (z := (48 : Int32)) rfl ?_
   refine k_isub X0 hx 37 (D d2_36) (fun v412 hv412 => ?_)
   refine k_istore X0 hx 39 (D d2_37) (Ls' := #[rv a1, iv (1 : Int32), iv (5 : Int32), jv p2, s_, jv v379, s_, iv (3 : Int32), iv v412, iv v351]) rfl ?_
   suffices key413 : ∀ (v531 : Int32), ((v531.toInt = 1 ∧ (0 ≤ v412.toInt ∧ v412.toInt ≤ 9 ∧ 10 * v379.toInt + v412.toInt ≤ p2.toInt)) ∨ (v531.toInt = 0 ∧ ¬ (0 ≤ v412.toInt ∧ v412.toInt ≤ 9 ∧ 10 * v379.toInt + v412.toInt ≤ p2.toInt))) → KEnds p e below s R2_17.cells R2_17.slots (Q2_17 Z a1 p2 k3 p4 p5 p6 p7 p8 h0 n0) s₁ (mkF m 79 #[rv a1, iv (1 : Int32), iv (5 : Int32), jv p2, s_, jv v379, s_, iv (3 : Int32), iv v412, iv v351] [(.int v531)]) by
    refine k_iload X0 hx 41 (D d2_39) rfl ?_
    refine k_if_lt X0 hx 44 78 (D d2_41) (fun hc414 => ?_) (fun hc414 => ?_)
    ·
     refine k_iconst X0 hx 79 (D d2_78) (z := (0 : Int32)) rfl ?_
     refine key413 (0 : Int32) ?_
     have B422 : (0 : Int) ≤ p2.toInt ∧ p2.toInt ≤ 9223372036854775807 := ⟨kL_ge hp0 (by decide), Int.le_of_lt_add_one (rng64 p2).2⟩
     have B423 : (-128 : Int) ≤ p7.toInt ∧ p7.toInt ≤ 127 := ⟨k_ge hp5 (by decide), k_le hp6 (by decide)⟩
     have B424 : (0 : Int) ≤ v379.toInt ∧ v379.toInt ≤ 9223372036854775807 := ⟨kL_ge hv0380 (by decide), Int.le_of_lt_add_one (rng64 v379).2⟩
     have B427 : (48 : Int) ≤ (48 : Int32).toInt ∧ (48 : Int32).toInt ≤ 48 := (by decide)
     have q426 : v412.toInt = p7.toInt - (48 : Int32).toInt := k_isubx hv412 B423 B427 (by decide) (by decide)
     have B425 : (-176 : Int) ≤ v412.toInt ∧ v412.toInt ≤ 79 := k_subB' q426 B423 B427
     have B428 : (-176 : Int) ≤ v412.toInt ∧ v412.toInt ≤ -1 := ⟨B425.1, k_lt hc414 (by decide)⟩
     exact Or.inr ⟨rfl, by omega⟩
    ·
     refine k_iload X0 hx 46 (D d2_44) rfl ?_
     refine k_bipush X0 hx 48 (D d2_46) (z := (9 : Int32)) rfl ?_
     refine k_icmp_gt X0 hx 51 78 (D d2_48) (fun hc429 => ?_) (fun hc429 => ?_)
     ·
      refine k_iconst X0 hx 79 (D d2_78) (z := (0 : Int32)) rfl ?_
      refine key413 (0 : Int32) ?_
      have B437 : (0 : Int) ≤ p2.toInt ∧ p2.toInt ≤ 9223372036854775807 := ⟨kL_ge hp0 (by decide), Int.le_of_lt_add_one (rng64 p2).2⟩
      have B438 : (-128 : Int) ≤ p7.toInt ∧ p7.toInt ≤ 127 := ⟨k_ge hp5 (by decide), k_le hp6 (by decide)⟩
      have B439 : (0 : Int) ≤ v379.toInt ∧ v379.toInt ≤ 9223372036854775807 := ⟨kL_ge hv0380 (by decide), Int.le_of_lt_add_one (rng64 v379).2⟩
      have B442 : (48 : Int) ≤ (48 : Int32).toInt ∧ (48 : Int32).toInt ≤ 48 := (by decide)
      have q441 : v412.toInt = p7.toInt - (48 : Int32).toInt := k_isubx hv412 B438 B442 (by decide) (by decide)
      have B440 : (-176 : Int) ≤ v412.toInt ∧ v412.toInt ≤ 79 := k_subB' q441 B438 B442
      have B443 : (10 : Int) ≤ v412.toInt ∧ v412.toInt ≤ 79 := ⟨k_gt hc429 (by decide), B440.2⟩
      exact Or.inr ⟨rfl, by omega⟩
     ·
      refine k_iload X0 hx 53 (D d2_51) rfl ?_
      refine k_i2l X0 hx 54 (D d2_53) (fun v444 hv444 => ?_)
      refine k_lloadN X0 hx 55 (D d2_54) rfl ?_
      refine k_lcif_gt X0 hx 59 78 56 (D d2_55) (D d2_56) (fun hc445 => ?_) (fun hc445 => ?_)
      ·
       refine k_iconst X0 hx 79 (D d2_78) (z := (0 : Int32)) rfl ?_
       refine key413 (0 : Int32) ?_
       have B455 : (0 : Int) ≤ p2.toInt ∧ p2.toInt ≤ 9223372036854775807 := ⟨kL_ge hp0 (by decide), Int.le_of_lt_add_one (rng64 p2).2⟩
       have B456 : (-128 : Int) ≤ p7.toInt ∧ p7.toInt ≤ 127 := ⟨k_ge hp5 (by decide), k_le hp6 (by decide)⟩
       have B457 : (0 : Int) ≤ v379.toInt ∧ v379.toInt ≤ 9223372036854775807 := ⟨kL_ge hv0380 (by decide), Int.le_of_lt_add_one (rng64 v379).2⟩
       have B460 : (48 : Int) ≤ (48 : Int32).toInt ∧ (48 : Int32).toInt ≤ 48 := (by decide)
       have q459 : v412.toInt = p7.toInt - (48 : Int32).toInt := k_isubx hv412 B456 B460 (by decide) (by decide)
       have B458 : (0 : Int) ≤ v412.toInt ∧ v412.toInt ≤ 9 := ⟨k_ge hc414 (by decide), k_le hc429 (by decide)⟩
       have q462 : v444.toInt = v412.toInt := (by rw [hv444]; exact c_i2l _)
       have B461 : (0 : Int) ≤ v444.toInt ∧ v444.toInt ≤ 9 := (by rw [q462]; exact B458)
       have q463 := hc445; rw [Int64.lt_iff_toInt_lt] at q463
       exact Or.inr ⟨rfl, by omega⟩
      ·
       refine k_lload X0 hx 61 (D d2_59) rfl ?_
       refine k_lloadN X0 hx 62 (D d2_61) rfl ?_
       refine k_iload X0 hx 64 (D d2_62) rfl ?_
       refine k_i2lL X0 hx 65 (D d2_64) (z := v444) hv444.symm ?_
       refine k_lsub X0 hx 66 (D d2_65) (fun v464 hv464 => ?_)
       refine k_ldcL X0 hx hZ hown 69 (k_w hw 12 rfl) (D d2_66) ?_
       refine k_ldiv X0 hx 70 (D d2_69) (by decide) (fun v465 hv465 => ?_)
       refine k_lcif_gt X0 hx 74 78 71 (D d2_70) (D d2_71) (fun hc466 => ?_) (fun hc466 => ?_)
       ·
        refine k_iconst X0 hx 79 (D d2_78) (z := (0 : Int32)) rfl ?_
        refine key413 (0 : Int32) ?_
        have B483 : (0 : Int) ≤ p2.toInt ∧ p2.toInt ≤ 9223372036854775807 := ⟨kL_ge hp0 (by decide), Int.le_of_lt_add_one (rng64 p2).2⟩
        have B484 : (-128 : Int) ≤ p7.toInt ∧ p7.toInt ≤ 127 := ⟨k_ge hp5 (by decide), k_le hp6 (by decide)⟩
        have B485 : (0 : Int) ≤ v379.toInt ∧ v379.toInt ≤ 9223372036854775807 := ⟨kL_ge hv0380 (by decide), Int.le_of_lt_add_one (rng64 v379).2⟩
        have B488 : (48 : Int) ≤ (48 : Int32).toInt ∧ (48 : Int32).toInt ≤ 48 := (by decide)
        have q487 : v412.toInt = p7.toInt - (48 : Int32).toInt := k_isubx hv412 B484 B488 (by decide) (by decide)
        have B486 : (0 : Int) ≤ v412.toInt ∧ v412.toInt ≤ 9 := ⟨k_ge hc414 (by decide), k_le hc429 (by decide)⟩
        have q490 : v444.toInt = v412.toInt := (by rw [hv444]; exact c_i2l _)
        have B489 : (0 : Int) ≤ v444.toInt ∧ v444.toInt ≤ 9 := (by rw [q490]; exact B486)
        have q491 := hc445; rw [Int64.lt_iff_toInt_lt] at q491
        have q494 : (0 ≤ v464.toInt → v465.toInt = v464.toInt / 10) ∧ (v464.toInt < 0 → v465.toInt = -((-v464.toInt) / 10)) := (by rw [hv465]; exact c_ldiv _ _ 10 (by decide) (by decide))
        have q496 : v464.toInt = p2.toInt - v444.toInt := k_lsubx hv464 B483 B489 (by decide) (by decide)
        have B495 : (-9 : Int) ≤ v464.toInt ∧ v464.toInt ≤ 9223372036854775807 := k_subB' q496 B483 B489
        have B497 : (10 : Int) ≤ (10 : Int64).toInt ∧ (10 : Int64).toInt ≤ 10 := (by decide)
        have B492 : (-9223372036854775808 : Int) ≤ v465.toInt ∧ v465.toInt ≤ 9223372036854775807 := ⟨(rng64 v465).1, Int.le_of_lt_add_one (rng64 v465).2⟩
        have q498 := hc466; rw [Int64.lt_iff_toInt_lt] at q498
        exact Or.inr ⟨rfl, by omega⟩
       ·
        refine k_iconst X0 hx 75 (D d2_74) (z := (1 : Int32)) rfl ?_
        refine k_goto X0 hx 79 (D d2_75) ?_
        refine key413 (1 : Int32) ?_
        have B515 : (0 : Int) ≤ p2.toInt ∧ p2.toInt ≤ 9223372036854775807 := ⟨kL_ge hp0 (by decide), Int.le_of_lt_add_one (rng64 p2).2⟩
        have B516 : (-128 : Int) ≤ p7.toInt ∧ p7.toInt ≤ 127 := ⟨k_ge hp5 (by decide), k_le hp6 (by decide)⟩
        have B517 : (0 : Int) ≤ v379.toInt ∧ v379.toInt ≤ 9223372036854775807 := ⟨kL_ge hv0380 (by decide), Int.le_of_lt_add_one (rng64 v379).2⟩
        have B520 : (48 : Int) ≤ (48 : Int32).toInt ∧ (48 : Int32).toInt ≤ 48 := (by decide)
        have q519 : v412.toInt = p7.toInt - (48 : Int32).toInt := k_isubx hv412 B516 B520 (by decide) (by decide)
        have B518 : (0 : Int) ≤ v412.toInt ∧ v412.toInt ≤ 9 := ⟨k_ge hc414 (by decide), k_le hc429 (by decide)⟩
        have q522 : v444.toInt = v412.toInt := (by rw [hv444]; exact c_i2l _)
        have B521 : (0 : Int) ≤ v444.toInt ∧ v444.toInt ≤ 9 := (by rw [q522]; exact B518)
        have q523 := hc445; rw [Int64.lt_iff_toInt_lt] at q523
        have q526 : (0 ≤ v464.toInt → v465.toInt = v464.toInt / 10) ∧ (v464.toInt < 0 → v465.toInt = -((-v464.toInt) / 10)) := (by rw [hv465]; exact c_ldiv _ _ 10 (by decide) (by decide))
        have q528 : v464.toInt = p2.toInt - v444.toInt := k_lsubx hv464 B515 B521 (by decide) (by decide)
        have B527 : (-9 : Int) ≤ v464.toInt ∧ v464.toInt ≤ 9223372036854775807 := k_subB' q528 B515 B521
        have B529 : (10 : Int) ≤ (10 : Int64).toInt ∧ (10 : Int64).toInt ≤ 10 := (by decide)
        have B524 : (-9223372036854775808 : Int) ≤ v465.toInt ∧ v465.toInt ≤ 9223372036854775807 := ⟨(rng64 v465).1, Int.le_of_lt_add_one (rng64 v465).2⟩
        have q530 := hc466; rw [Int64.lt_iff_toInt_lt] at q530
        exact Or.inl ⟨rfl, by omega⟩
   intro v531 hP532
   refine k_istore X0 hx 81 (D d2_79) (Ls' := #[rv a1, iv (1 : Int32), iv (5 : Int32), jv p2, s_, jv v379, s_, iv (3 : Int32), iv v412, iv v531]) rfl ?_
   refine k_iload X0 hx 83 (D d2_81) rfl ?_
   refine k_if_eq X0 hx 86 99 (D d2_83) (fun hc533 => ?_) (fun hc533 => ?_)
   ·
    refine k_ldcL X0 hx hZ hown 102 (k_w hw 10 rfl) (D d2_99) ?_
    refine k_lstore X0 hx 104 (D d2_102) (Ls' := #[rv a1, iv (1 : Int32), iv (5 : Int32), jv p2, s_, jv (-1 : Int64), s_, iv (3 : Int32), iv v412, iv v531]) rfl ?_
    refine k_iinc X0 hx 107 (D d2_104) rfl (z := (4 : Int32)) (by decide) (Ls' := #[rv a1, iv (1 : Int32), iv (5 : Int32), jv p2, s_, jv (-1 : Int64), s_, iv (4 : Int32), iv v412, iv v531]) rfl ?_
    refine k_goto X0 hx 17 (D d2_107) ?_
    refine k_iload X0 hx 19 (D d2_17) rfl ?_
    refine k_iloadN X0 hx 20 (D d2_19) rfl ?_
    refine k_icmp_ge X0 hx 23 110 (D d2_20) (fun hc => absurd (by decide) hc) (fun _ => ?_)
    refine k_lload X0 hx 25 (D d2_23) rfl ?_
    refine k_lconst X0 hx 26 (D d2_25) (z := (0 : Int64)) rfl ?_
    refine k_lcif_lt X0 hx 30 110 27 (D d2_26) (D d2_27) (fun _ => ?_) (fun hc => absurd (by decide) hc)
    refine k_lload X0 hx 112 (D d2_110) rfl ?_
    refine k_retL X0 hx hret (D d2_112) hlk (by decide) (by decide) ⟨N0, e0, (-1 : Int64), rfl, ?_⟩
    have hgoal : True := trivial
    have B534 : (0 : Int) ≤ p2.toInt ∧ p2.toInt ≤ 9223372036854775807 := ⟨kL_ge hp0 (by decide), Int.le_of_lt_add_one (rng64 p2).2⟩
    have B535 : (-128 : Int) ≤ p5.toInt ∧ p5.toInt ≤ 127 := ⟨k_ge hp1 (by decide), k_le hp2 (by decide)⟩
    have B536 : (-128 : Int) ≤ p6.toInt ∧ p6.toInt ≤ 127 := ⟨k_ge hp3 (by decide), k_le hp4 (by decide)⟩
    have B537 : (-128 : Int) ≤ p7.toInt ∧ p7.toInt ≤ 127 := ⟨k_ge hp5 (by decide), k_le hp6 (by decide)⟩
    have B538 : (-128 : Int) ≤ p8.toInt ∧ p8.toInt ≤ 127 := ⟨k_ge hp7 (by decide), k_le hp8 (by decide)⟩
    have B539 : (-2147483648 : Int) ≤ v196.toInt ∧ v196.toInt ≤ 2147483647 := ⟨(rng32 v196).1, Int.le_of_lt_add_one (rng32 v196).2⟩
    have B542 : (0 : Int) ≤ (0 : Int32).toInt ∧ (0 : Int32).toInt ≤ 0 := (by decide)
    have q543 : ¬ v196.toInt = (0 : Int32).toInt := fun q => hc198 (Int32.toInt_inj.mp q)
    have B548 : (48 : Int) ≤ (48 : Int32).toInt ∧ (48 : Int32).toInt ≤ 48 := (by decide)
    have q547 : v101.toInt = p5.toInt - (48 : Int32).toInt := k_isubx hv101 B535 B548 (by decide) (by decide)
    have B546 : (-176 : Int) ≤ v101.toInt ∧ v101.toInt ≤ 79 := k_subB' q547 B535 B548
    have q545 : v213.toInt = v101.toInt := (by rw [hv213]; exact c_i2l _)
    have B544 : (-176 : Int) ≤ v213.toInt ∧ v213.toInt ≤ 79 := (by rw [q545]; exact B546)
    have B549 : (0 : Int) ≤ v213.toInt ∧ v213.toInt ≤ 79 := ⟨kL_ge hv0214 (by decide), B544.2⟩
    have B550 : (-2147483648 : Int) ≤ v351.toInt ∧ v351.toInt ≤ 2147483647 := ⟨(rng32 v351).1, Int.le_of_lt_add_one (rng32 v351).2⟩
    have q553 : ¬ v351.toInt = (0 : Int32).toInt := fun q => hc353 (Int32.toInt_inj.mp q)
    have B558 : (10 : Int) ≤ (10 : Int64).toInt ∧ (10 : Int64).toInt ≤ 10 := (by decide)
    have q557 : v377.toInt = 10 * v213.toInt := (by have q0 := c_lmul (10 : Int64) v213; have q1 := rng64 v377; have q2 := B549; rw [← hv377] at q0; rw [show (10 : Int64).toInt = 10 from (by decide)] at q0; omega)
    have B556 : (0 : Int) ≤ v377.toInt ∧ v377.toInt ≤ 790 := (by rw [q557]; exact k_mulB B549 (by decide))
    have q562 : v232.toInt = p6.toInt - (48 : Int32).toInt := k_isubx hv232 B536 B548 (by decide) (by decide)
    have B561 : (-176 : Int) ≤ v232.toInt ∧ v232.toInt ≤ 79 := k_subB' q562 B536 B548
    have q560 : v378.toInt = v232.toInt := (by rw [hv378]; exact c_i2l _)
    have B559 : (-176 : Int) ≤ v378.toInt ∧ v378.toInt ≤ 79 := (by rw [q560]; exact B561)
    have q555 : v379.toInt = v377.toInt + v378.toInt := k_laddx hv379 B556 B559 (by decide) (by decide)
    have B554 : (-176 : Int) ≤ v379.toInt ∧ v379.toInt ≤ 869 := k_addB q555 B556 B559
    have B563 : (0 : Int) ≤ v379.toInt ∧ v379.toInt ≤ 869 := ⟨kL_ge hv0380 (by decide), B554.2⟩
    have B564 : (-2147483648 : Int) ≤ v531.toInt ∧ v531.toInt ≤ 2147483647 := ⟨(rng32 v531).1, Int.le_of_lt_add_one (rng32 v531).2⟩
    have q567 := congrArg Int32.toInt hc533
    have B568 : (-1 : Int) ≤ (-1 : Int64).toInt ∧ (-1 : Int64).toInt ≤ -1 := (by decide)
    have q570 : v412.toInt = p7.toInt - (48 : Int32).toInt := k_isubx hv412 B537 B548 (by decide) (by decide)
    have B569 : (-176 : Int) ≤ v412.toInt ∧ v412.toInt ≤ 79 := k_subB' q570 B537 B548
    refine ⟨fun hg => ?_, fun hg => ?_⟩ <;> omega
   ·
    refine k_ldcL X0 hx hZ hown 89 (k_w hw 12 rfl) (D d2_86) ?_
    refine k_lload X0 hx 91 (D d2_89) rfl ?_
    refine k_lmul X0 hx 92 (D d2_91) (fun v571 hv571 => ?_)
    refine k_iload X0 hx 94 (D d2_92) rfl ?_
    refine k_i2l X0 hx 95 (D d2_94) (fun v572 hv572 => ?_)
    refine k_ladd X0 hx 96 (D d2_95) (fun v573 hv573 => ?_)
    refine k_goto X0 hx 102 (D d2_96) ?_
    refine k_lstore X0 hx 104 (D d2_102) (Ls' := #[rv a1, iv (1 : Int32), iv (5 : Int32), jv p2, s_, jv v573, s_, iv (3 : Int32), iv v412, iv v531]) rfl ?_
    refine k_iinc X0 hx 107 (D d2_104) rfl (z := (4 : Int32)) (by decide) (Ls' := #[rv a1, iv (1 : Int32), iv (5 : Int32), jv p2, s_, jv v573, s_, iv (4 : Int32), iv v412, iv v531]) rfl ?_
    refine k_goto X0 hx 17 (D d2_107) ?_
    refine k_iload X0 hx 19 (D d2_17) rfl ?_
    refine k_iloadN X0 hx 20 (D d2_19) rfl ?_
    refine k_icmp_ge X0 hx 23 110 (D d2_20) (fun hc => absurd (by decide) hc) (fun _ => ?_)
    refine k_lload X0 hx 25 (D d2_23) rfl ?_
    refine k_lconst X0 hx 26 (D d2_25) (z := (0 : Int64)) rfl ?_
    have hv0574 : ¬ v573 < 0 := (by intro hq575; have B576 : (0 : Int) ≤ p2.toInt ∧ p2.toInt ≤ 9223372036854775807 := ⟨kL_ge hp0 (by decide), Int.le_of_lt_add_one (rng64 p2).2⟩; have B577 : (-128 : Int) ≤ p5.toInt ∧ p5.toInt ≤ 127 := ⟨k_ge hp1 (by decide), k_le hp2 (by decide)⟩; have B578 : (-128 : Int) ≤ p6.toInt ∧ p6.toInt ≤ 127 := ⟨k_ge hp3 (by decide), k_le hp4 (by decide)⟩; have B579 : (-128 : Int) ≤ p7.toInt ∧ p7.toInt ≤ 127 := ⟨k_ge hp5 (by decide), k_le hp6 (by decide)⟩; have B580 : (-128 : Int) ≤ p8.toInt ∧ p8.toInt ≤ 127 := ⟨k_ge hp7 (by decide), k_le hp8 (by decide)⟩; have B581 : (-2147483648 : Int) ≤ v196.toInt ∧ v196.toInt ≤ 2147483647 := ⟨(rng32 v196).1, Int.le_of_lt_add_one (rng32 v196).2⟩; have B584 : (0 : Int) ≤ (0 : Int32).toInt ∧ (0 : Int32).toInt ≤ 0 := (by decide); have q585 : ¬ v196.toInt = (0 : Int32).toInt := fun q => hc198 (Int32.toInt_inj.mp q); have B590 : (48 : Int) ≤ (48 : Int32).toInt ∧ (48 : Int32).toInt ≤ 48 := (by decide); have q589 : v101.toInt = p5.toInt - (48 : Int32).toInt := k_isubx hv101 B577 B590 (by decide) (by decide); have B588 : (-176 : Int) ≤ v101.toInt ∧ v101.toInt ≤ 79 := k_subB' q589 B577 B590; have q587 : v213.toInt = v101.toInt := (by rw [hv213]; exact c_i2l _); have B586 : (-176 : Int) ≤ v213.toInt ∧ v213.toInt ≤ 79 := (by rw [q587]; exact B588); have B591 : (0 : Int) ≤ v213.toInt ∧ v213.toInt ≤ 79 := ⟨kL_ge hv0214 (by decide), B586.2⟩; have B592 : (-2147483648 : Int) ≤ v351.toInt ∧ v351.toInt ≤ 2147483647 := ⟨(rng32 v351).1, Int.le_of_lt_add_one (rng32 v351).2⟩; have q595 : ¬ v351.toInt = (0 : Int32).toInt := fun q => hc353 (Int32.toInt_inj.mp q); have B600 : (10 : Int) ≤ (10 : Int64).toInt ∧ (10 : Int64).toInt ≤ 10 := (by decide); have q599 : v377.toInt = 10 * v213.toInt := (by have q0 := c_lmul (10 : Int64) v213; have q1 := rng64 v377; have q2 := B591; rw [← hv377] at q0; rw [show (10 : Int64).toInt = 10 from (by decide)] at q0; omega); have B598 : (0 : Int) ≤ v377.toInt ∧ v377.toInt ≤ 790 := (by rw [q599]; exact k_mulB B591 (by decide)); have q604 : v232.toInt = p6.toInt - (48 : Int32).toInt := k_isubx hv232 B578 B590 (by decide) (by decide); have B603 : (-176 : Int) ≤ v232.toInt ∧ v232.toInt ≤ 79 := k_subB' q604 B578 B590; have q602 : v378.toInt = v232.toInt := (by rw [hv378]; exact c_i2l _); have B601 : (-176 : Int) ≤ v378.toInt ∧ v378.toInt ≤ 79 := (by rw [q602]; exact B603); have q597 : v379.toInt = v377.toInt + v378.toInt := k_laddx hv379 B598 B601 (by decide) (by decide); have B596 : (-176 : Int) ≤ v379.toInt ∧ v379.toInt ≤ 869 := k_addB q597 B598 B601; have B605 : (0 : Int) ≤ v379.toInt ∧ v379.toInt ≤ 869 := ⟨kL_ge hv0380 (by decide), B596.2⟩; have B606 : (-2147483648 : Int) ≤ v531.toInt ∧ v531.toInt ≤ 2147483647 := ⟨(rng32 v531).1, Int.le_of_lt_add_one (rng32 v531).2⟩; have q609 : ¬ v531.toInt = (0 : Int32).toInt := fun q => hc533 (Int32.toInt_inj.mp q); have q613 : v571.toInt = 10 * v379.toInt := (by have q0 := c_lmul (10 : Int64) v379; have q1 := rng64 v571; have q2 := B605; rw [← hv571] at q0; rw [show (10 : Int64).toInt = 10 from (by decide)] at q0; omega); have B612 : (0 : Int) ≤ v571.toInt ∧ v571.toInt ≤ 8690 := (by rw [q613]; exact k_mulB B605 (by decide)); have q617 : v412.toInt = p7.toInt - (48 : Int32).toInt := k_isubx hv412 B579 B590 (by decide) (by decide); have B616 : (-176 : Int) ≤ v412.toInt ∧ v412.toInt ≤ 79 := k_subB' q617 B579 B590; have q615 : v572.toInt = v412.toInt := (by rw [hv572]; exact c_i2l _); have B614 : (-176 : Int) ≤ v572.toInt ∧ v572.toInt ≤ 79 := (by rw [q615]; exact B616); have q611 : v573.toInt = v571.toInt + v572.toInt := k_laddx hv573 B612 B614 (by decide) (by decide); have B610 : (-176 : Int) ≤ v573.toInt ∧ v573.toInt ≤ 8769 := k_addB q611 B612 B614; have B618 : (-176 : Int) ≤ v573.toInt ∧ v573.toInt ≤ -1 := ⟨B610.1, kL_lt hq575 (by decide)⟩; omega)
    refine k_lcif_lt X0 hx 30 110 27 (D d2_26) (D d2_27) (fun hc => absurd hc hv0574) (fun _ => ?_)
    refine k_aloadN X0 hx 31 (D d2_30) rfl rfl ?_
    refine k_iload X0 hx 33 (D d2_31) rfl ?_
    refine k_baload X0 hx hZ 34 e0 F0_0 ⟨by decide, by decide⟩ (v := (.int p8)) rfl (D d2_33) ?_
    refine k_bipush X0 hx 36 (D d2_34) (z := (48 : Int32)) rfl ?_
    refine k_isub X0 hx 37 (D d2_36) (fun v619 hv619 => ?_)
    refine k_istore X0 hx 39 (D d2_37) (Ls' := #[rv a1, iv (1 : Int32), iv (5 : Int32), jv p2, s_, jv v573, s_, iv (4 : Int32), iv v619, iv v531]) rfl ?_
    suffices key620 : ∀ (v738 : Int32), ((v738.toInt = 1 ∧ (0 ≤ v619.toInt ∧ v619.toInt ≤ 9 ∧ 10 * v573.toInt + v619.toInt ≤ p2.toInt)) ∨ (v738.toInt = 0 ∧ ¬ (0 ≤ v619.toInt ∧ v619.toInt ≤ 9 ∧ 10 * v573.toInt + v619.toInt ≤ p2.toInt))) → KEnds p e below s R2_17.cells R2_17.slots (Q2_17 Z a1 p2 k3 p4 p5 p6 p7 p8 h0 n0) s₁ (mkF m 79 #[rv a1, iv (1 : Int32), iv (5 : Int32), jv p2, s_, jv v573, s_, iv (4 : Int32), iv v619, iv v531] [(.int v738)]) by
     refine k_iload X0 hx 41 (D d2_39) rfl ?_
     refine k_if_lt X0 hx 44 78 (D d2_41) (fun hc621 => ?_) (fun hc621 => ?_)
     ·
      refine k_iconst X0 hx 79 (D d2_78) (z := (0 : Int32)) rfl ?_
      refine key620 (0 : Int32) ?_
      have B629 : (0 : Int) ≤ p2.toInt ∧ p2.toInt ≤ 9223372036854775807 := ⟨kL_ge hp0 (by decide), Int.le_of_lt_add_one (rng64 p2).2⟩
      have B630 : (-128 : Int) ≤ p8.toInt ∧ p8.toInt ≤ 127 := ⟨k_ge hp7 (by decide), k_le hp8 (by decide)⟩
      have B631 : (0 : Int) ≤ v573.toInt ∧ v573.toInt ≤ 9223372036854775807 := ⟨kL_ge hv0574 (by decide), Int.le_of_lt_add_one (rng64 v573).2⟩
      have B634 : (48 : Int) ≤ (48 : Int32).toInt ∧ (48 : Int32).toInt ≤ 48 := (by decide)
      have q633 : v619.toInt = p8.toInt - (48 : Int32).toInt := k_isubx hv619 B630 B634 (by decide) (by decide)
      have B632 : (-176 : Int) ≤ v619.toInt ∧ v619.toInt ≤ 79 := k_subB' q633 B630 B634
      have B635 : (-176 : Int) ≤ v619.toInt ∧ v619.toInt ≤ -1 := ⟨B632.1, k_lt hc621 (by decide)⟩
      exact Or.inr ⟨rfl, by omega⟩
     ·
      refine k_iload X0 hx 46 (D d2_44) rfl ?_
      refine k_bipush X0 hx 48 (D d2_46) (z := (9 : Int32)) rfl ?_
      refine k_icmp_gt X0 hx 51 78 (D d2_48) (fun hc636 => ?_) (fun hc636 => ?_)
      ·
       refine k_iconst X0 hx 79 (D d2_78) (z := (0 : Int32)) rfl ?_
       refine key620 (0 : Int32) ?_
       have B644 : (0 : Int) ≤ p2.toInt ∧ p2.toInt ≤ 9223372036854775807 := ⟨kL_ge hp0 (by decide), Int.le_of_lt_add_one (rng64 p2).2⟩
       have B645 : (-128 : Int) ≤ p8.toInt ∧ p8.toInt ≤ 127 := ⟨k_ge hp7 (by decide), k_le hp8 (by decide)⟩
       have B646 : (0 : Int) ≤ v573.toInt ∧ v573.toInt ≤ 9223372036854775807 := ⟨kL_ge hv0574 (by decide), Int.le_of_lt_add_one (rng64 v573).2⟩
       have B649 : (48 : Int) ≤ (48 : Int32).toInt ∧ (48 : Int32).toInt ≤ 48 := (by decide)
       have q648 : v619.toInt = p8.toInt - (48 : Int32).toInt := k_isubx hv619 B645 B649 (by decide) (by decide)
       have B647 : (-176 : Int) ≤ v619.toInt ∧ v619.toInt ≤ 79 := k_subB' q648 B645 B649
       have B650 : (10 : Int) ≤ v619.toInt ∧ v619.toInt ≤ 79 := ⟨k_gt hc636 (by decide), B647.2⟩
       exact Or.inr ⟨rfl, by omega⟩
      ·
       refine k_iload X0 hx 53 (D d2_51) rfl ?_
       refine k_i2l X0 hx 54 (D d2_53) (fun v651 hv651 => ?_)
       refine k_lloadN X0 hx 55 (D d2_54) rfl ?_
       refine k_lcif_gt X0 hx 59 78 56 (D d2_55) (D d2_56) (fun hc652 => ?_) (fun hc652 => ?_)
       ·
        refine k_iconst X0 hx 79 (D d2_78) (z := (0 : Int32)) rfl ?_
        refine key620 (0 : Int32) ?_
        have B662 : (0 : Int) ≤ p2.toInt ∧ p2.toInt ≤ 9223372036854775807 := ⟨kL_ge hp0 (by decide), Int.le_of_lt_add_one (rng64 p2).2⟩
        have B663 : (-128 : Int) ≤ p8.toInt ∧ p8.toInt ≤ 127 := ⟨k_ge hp7 (by decide), k_le hp8 (by decide)⟩
        have B664 : (0 : Int) ≤ v573.toInt ∧ v573.toInt ≤ 9223372036854775807 := ⟨kL_ge hv0574 (by decide), Int.le_of_lt_add_one (rng64 v573).2⟩
        have B667 : (48 : Int) ≤ (48 : Int32).toInt ∧ (48 : Int32).toInt ≤ 48 := (by decide)
        have q666 : v619.toInt = p8.toInt - (48 : Int32).toInt := k_isubx hv619 B663 B667 (by decide) (by decide)
        have B665 : (0 : Int) ≤ v619.toInt ∧ v619.toInt ≤ 9 := ⟨k_ge hc621 (by decide), k_le hc636 (by decide)⟩
        have q669 : v651.toInt = v619.toInt := (by rw [hv651]; exact c_i2l _)
        have B668 : (0 : Int) ≤ v651.toInt ∧ v651.toInt ≤ 9 := (by rw [q669]; exact B665)
        have q670 := hc652; rw [Int64.lt_iff_toInt_lt] at q670
        exact Or.inr ⟨rfl, by omega⟩
       ·
        refine k_lload X0 hx 61 (D d2_59) rfl ?_
        refine k_lloadN X0 hx 62 (D d2_61) rfl ?_
        refine k_iload X0 hx 64 (D d2_62) rfl ?_
        refine k_i2lL X0 hx 65 (D d2_64) (z := v651) hv651.symm ?_
        refine k_lsub X0 hx 66 (D d2_65) (fun v671 hv671 => ?_)
        refine k_ldcL X0 hx hZ hown 69 (k_w hw 12 rfl) (D d2_66) ?_
        refine k_ldiv X0 hx 70 (D d2_69) (by decide) (fun v672 hv672 => ?_)
        refine k_lcif_gt X0 hx 74 78 71 (D d2_70) (D d2_71) (fun hc673 => ?_) (fun hc673 => ?_)
        ·
         refine k_iconst X0 hx 79 (D d2_78) (z := (0 : Int32)) rfl ?_
         refine key620 (0 : Int32) ?_
         have B690 : (0 : Int) ≤ p2.toInt ∧ p2.toInt ≤ 9223372036854775807 := ⟨kL_ge hp0 (by decide), Int.le_of_lt_add_one (rng64 p2).2⟩
         have B691 : (-128 : Int) ≤ p8.toInt ∧ p8.toInt ≤ 127 := ⟨k_ge hp7 (by decide), k_le hp8 (by decide)⟩
         have B692 : (0 : Int) ≤ v573.toInt ∧ v573.toInt ≤ 9223372036854775807 := ⟨kL_ge hv0574 (by decide), Int.le_of_lt_add_one (rng64 v573).2⟩
         have B695 : (48 : Int) ≤ (48 : Int32).toInt ∧ (48 : Int32).toInt ≤ 48 := (by decide)
         have q694 : v619.toInt = p8.toInt - (48 : Int32).toInt := k_isubx hv619 B691 B695 (by decide) (by decide)
         have B693 : (0 : Int) ≤ v619.toInt ∧ v619.toInt ≤ 9 := ⟨k_ge hc621 (by decide), k_le hc636 (by decide)⟩
         have q697 : v651.toInt = v619.toInt := (by rw [hv651]; exact c_i2l _)
         have B696 : (0 : Int) ≤ v651.toInt ∧ v651.toInt ≤ 9 := (by rw [q697]; exact B693)
         have q698 := hc652; rw [Int64.lt_iff_toInt_lt] at q698
         have q701 : (0 ≤ v671.toInt → v672.toInt = v671.toInt / 10) ∧ (v671.toInt < 0 → v672.toInt = -((-v671.toInt) / 10)) := (by rw [hv672]; exact c_ldiv _ _ 10 (by decide) (by decide))
         have q703 : v671.toInt = p2.toInt - v651.toInt := k_lsubx hv671 B690 B696 (by decide) (by decide)
         have B702 : (-9 : Int) ≤ v671.toInt ∧ v671.toInt ≤ 9223372036854775807 := k_subB' q703 B690 B696
         have B704 : (10 : Int) ≤ (10 : Int64).toInt ∧ (10 : Int64).toInt ≤ 10 := (by decide)
         have B699 : (-9223372036854775808 : Int) ≤ v672.toInt ∧ v672.toInt ≤ 9223372036854775807 := ⟨(rng64 v672).1, Int.le_of_lt_add_one (rng64 v672).2⟩
         have q705 := hc673; rw [Int64.lt_iff_toInt_lt] at q705
         exact Or.inr ⟨rfl, by omega⟩
        ·
         refine k_iconst X0 hx 75 (D d2_74) (z := (1 : Int32)) rfl ?_
         refine k_goto X0 hx 79 (D d2_75) ?_
         refine key620 (1 : Int32) ?_
         have B722 : (0 : Int) ≤ p2.toInt ∧ p2.toInt ≤ 9223372036854775807 := ⟨kL_ge hp0 (by decide), Int.le_of_lt_add_one (rng64 p2).2⟩
         have B723 : (-128 : Int) ≤ p8.toInt ∧ p8.toInt ≤ 127 := ⟨k_ge hp7 (by decide), k_le hp8 (by decide)⟩
         have B724 : (0 : Int) ≤ v573.toInt ∧ v573.toInt ≤ 9223372036854775807 := ⟨kL_ge hv0574 (by decide), Int.le_of_lt_add_one (rng64 v573).2⟩
         have B727 : (48 : Int) ≤ (48 : Int32).toInt ∧ (48 : Int32).toInt ≤ 48 := (by decide)
         have q726 : v619.toInt = p8.toInt - (48 : Int32).toInt := k_isubx hv619 B723 B727 (by decide) (by decide)
         have B725 : (0 : Int) ≤ v619.toInt ∧ v619.toInt ≤ 9 := ⟨k_ge hc621 (by decide), k_le hc636 (by decide)⟩
         have q729 : v651.toInt = v619.toInt := (by rw [hv651]; exact c_i2l _)
         have B728 : (0 : Int) ≤ v651.toInt ∧ v651.toInt ≤ 9 := (by rw [q729]; exact B725)
         have q730 := hc652; rw [Int64.lt_iff_toInt_lt] at q730
         have q733 : (0 ≤ v671.toInt → v672.toInt = v671.toInt / 10) ∧ (v671.toInt < 0 → v672.toInt = -((-v671.toInt) / 10)) := (by rw [hv672]; exact c_ldiv _ _ 10 (by decide) (by decide))
         have q735 : v671.toInt = p2.toInt - v651.toInt := k_lsubx hv671 B722 B728 (by decide) (by decide)
         have B734 : (-9 : Int) ≤ v671.toInt ∧ v671.toInt ≤ 9223372036854775807 := k_subB' q735 B722 B728
         have B736 : (10 : Int) ≤ (10 : Int64).toInt ∧ (10 : Int64).toInt ≤ 10 := (by decide)
         have B731 : (-9223372036854775808 : Int) ≤ v672.toInt ∧ v672.toInt ≤ 9223372036854775807 := ⟨(rng64 v672).1, Int.le_of_lt_add_one (rng64 v672).2⟩
         have q737 := hc673; rw [Int64.lt_iff_toInt_lt] at q737
         exact Or.inl ⟨rfl, by omega⟩
    intro v738 hP739
    refine k_istore X0 hx 81 (D d2_79) (Ls' := #[rv a1, iv (1 : Int32), iv (5 : Int32), jv p2, s_, jv v573, s_, iv (4 : Int32), iv v619, iv v738]) rfl ?_
    refine k_iload X0 hx 83 (D d2_81) rfl ?_
    refine k_if_eq X0 hx 86 99 (D d2_83) (fun hc740 => ?_) (fun hc740 => ?_)
    ·
     refine k_ldcL X0 hx hZ hown 102 (k_w hw 10 rfl) (D d2_99) ?_
     refine k_lstore X0 hx 104 (D d2_102) (Ls' := #[rv a1, iv (1 : Int32), iv (5 : Int32), jv p2, s_, jv (-1 : Int64), s_, iv (4 : Int32), iv v619, iv v738]) rfl ?_
     refine k_iinc X0 hx 107 (D d2_104) rfl (z := (5 : Int32)) (by decide) (Ls' := #[rv a1, iv (1 : Int32), iv (5 : Int32), jv p2, s_, jv (-1 : Int64), s_, iv (5 : Int32), iv v619, iv v738]) rfl ?_
     refine k_goto X0 hx 17 (D d2_107) ?_
     refine k_iload X0 hx 19 (D d2_17) rfl ?_
     refine k_iloadN X0 hx 20 (D d2_19) rfl ?_
     refine k_icmp_ge X0 hx 23 110 (D d2_20) (fun _ => ?_) (fun hc => absurd hc (by decide))
     refine k_lload X0 hx 112 (D d2_110) rfl ?_
     refine k_retL X0 hx hret (D d2_112) hlk (by decide) (by decide) ⟨N0, e0, (-1 : Int64), rfl, ?_⟩
     have hgoal : True := trivial
     have B741 : (0 : Int) ≤ p2.toInt ∧ p2.toInt ≤ 9223372036854775807 := ⟨kL_ge hp0 (by decide), Int.le_of_lt_add_one (rng64 p2).2⟩
     have B742 : (-128 : Int) ≤ p5.toInt ∧ p5.toInt ≤ 127 := ⟨k_ge hp1 (by decide), k_le hp2 (by decide)⟩
     have B743 : (-128 : Int) ≤ p6.toInt ∧ p6.toInt ≤ 127 := ⟨k_ge hp3 (by decide), k_le hp4 (by decide)⟩
     have B744 : (-128 : Int) ≤ p7.toInt ∧ p7.toInt ≤ 127 := ⟨k_ge hp5 (by decide), k_le hp6 (by decide)⟩
     have B745 : (-128 : Int) ≤ p8.toInt ∧ p8.toInt ≤ 127 := ⟨k_ge hp7 (by decide), k_le hp8 (by decide)⟩
     have B746 : (-2147483648 : Int) ≤ v196.toInt ∧ v196.toInt ≤ 2147483647 := ⟨(rng32 v196).1, Int.le_of_lt_add_one (rng32 v196).2⟩
     have B749 : (0 : Int) ≤ (0 : Int32).toInt ∧ (0 : Int32).toInt ≤ 0 := (by decide)
     have q750 : ¬ v196.toInt = (0 : Int32).toInt := fun q => hc198 (Int32.toInt_inj.mp q)
     have B755 : (48 : Int) ≤ (48 : Int32).toInt ∧ (48 : Int32).toInt ≤ 48 := (by decide)
     have q754 : v101.toInt = p5.toInt - (48 : Int32).toInt := k_isubx hv101 B742 B755 (by decide) (by decide)
     have B753 : (-176 : Int) ≤ v101.toInt ∧ v101.toInt ≤ 79 := k_subB' q754 B742 B755
     have q752 : v213.toInt = v101.toInt := (by rw [hv213]; exact c_i2l _)
     have B751 : (-176 : Int) ≤ v213.toInt ∧ v213.toInt ≤ 79 := (by rw [q752]; exact B753)
     have B756 : (0 : Int) ≤ v213.toInt ∧ v213.toInt ≤ 79 := ⟨kL_ge hv0214 (by decide), B751.2⟩
     have B757 : (-2147483648 : Int) ≤ v351.toInt ∧ v351.toInt ≤ 2147483647 := ⟨(rng32 v351).1, Int.le_of_lt_add_one (rng32 v351).2⟩
     have q760 : ¬ v351.toInt = (0 : Int32).toInt := fun q => hc353 (Int32.toInt_inj.mp q)
     have B765 : (10 : Int) ≤ (10 : Int64).toInt ∧ (10 : Int64).toInt ≤ 10 := (by decide)
     have q764 : v377.toInt = 10 * v213.toInt := (by have q0 := c_lmul (10 : Int64) v213; have q1 := rng64 v377; have q2 := B756; rw [← hv377] at q0; rw [show (10 : Int64).toInt = 10 from (by decide)] at q0; omega)
     have B763 : (0 : Int) ≤ v377.toInt ∧ v377.toInt ≤ 790 := (by rw [q764]; exact k_mulB B756 (by decide))
     have q769 : v232.toInt = p6.toInt - (48 : Int32).toInt := k_isubx hv232 B743 B755 (by decide) (by decide)
     have B768 : (-176 : Int) ≤ v232.toInt ∧ v232.toInt ≤ 79 := k_subB' q769 B743 B755
     have q767 : v378.toInt = v232.toInt := (by rw [hv378]; exact c_i2l _)
     have B766 : (-176 : Int) ≤ v378.toInt ∧ v378.toInt ≤ 79 := (by rw [q767]; exact B768)
     have q762 : v379.toInt = v377.toInt + v378.toInt := k_laddx hv379 B763 B766 (by decide) (by decide)
     have B761 : (-176 : Int) ≤ v379.toInt ∧ v379.toInt ≤ 869 := k_addB q762 B763 B766
     have B770 : (0 : Int) ≤ v379.toInt ∧ v379.toInt ≤ 869 := ⟨kL_ge hv0380 (by decide), B761.2⟩
     have B771 : (-2147483648 : Int) ≤ v531.toInt ∧ v531.toInt ≤ 2147483647 := ⟨(rng32 v531).1, Int.le_of_lt_add_one (rng32 v531).2⟩
     have q774 : ¬ v531.toInt = (0 : Int32).toInt := fun q => hc533 (Int32.toInt_inj.mp q)
     have q778 : v571.toInt = 10 * v379.toInt := (by have q0 := c_lmul (10 : Int64) v379; have q1 := rng64 v571; have q2 := B770; rw [← hv571] at q0; rw [show (10 : Int64).toInt = 10 from (by decide)] at q0; omega)
     have B777 : (0 : Int) ≤ v571.toInt ∧ v571.toInt ≤ 8690 := (by rw [q778]; exact k_mulB B770 (by decide))
     have q782 : v412.toInt = p7.toInt - (48 : Int32).toInt := k_isubx hv412 B744 B755 (by decide) (by decide)
     have B781 : (-176 : Int) ≤ v412.toInt ∧ v412.toInt ≤ 79 := k_subB' q782 B744 B755
     have q780 : v572.toInt = v412.toInt := (by rw [hv572]; exact c_i2l _)
     have B779 : (-176 : Int) ≤ v572.toInt ∧ v572.toInt ≤ 79 := (by rw [q780]; exact B781)
     have q776 : v573.toInt = v571.toInt + v572.toInt := k_laddx hv573 B777 B779 (by decide) (by decide)
     have B775 : (-176 : Int) ≤ v573.toInt ∧ v573.toInt ≤ 8769 := k_addB q776 B777 B779
     have B783 : (0 : Int) ≤ v573.toInt ∧ v573.toInt ≤ 8769 := ⟨kL_ge hv0574 (by decide), B775.2⟩
     have B784 : (-2147483648 : Int) ≤ v738.toInt ∧ v738.toInt ≤ 2147483647 := ⟨(rng32 v738).1, Int.le_of_lt_add_one (rng32 v738).2⟩
     have q787 := congrArg Int32.toInt hc740
     have B788 : (-1 : Int) ≤ (-1 : Int64).toInt ∧ (-1 : Int64).toInt ≤ -1 := (by decide)
     have q790 : v619.toInt = p8.toInt - (48 : Int32).toInt := k_isubx hv619 B745 B755 (by decide) (by decide)
     have B789 : (-176 : Int) ≤ v619.toInt ∧ v619.toInt ≤ 79 := k_subB' q790 B745 B755
     refine ⟨fun hg => ?_, fun hg => ?_⟩ <;> omega
    ·
     refine k_ldcL X0 hx hZ hown 89 (k_w hw 12 rfl) (D d2_86) ?_
     refine k_lload X0 hx 91 (D d2_89) rfl ?_
     refine k_lmul X0 hx 92 (D d2_91) (fun v791 hv791 => ?_)
     refine k_iload X0 hx 94 (D d2_92) rfl ?_
     refine k_i2l X0 hx 95 (D d2_94) (fun v792 hv792 => ?_)
     refine k_ladd X0 hx 96 (D d2_95) (fun v793 hv793 => ?_)
     refine k_goto X0 hx 102 (D d2_96) ?_
     refine k_lstore X0 hx 104 (D d2_102) (Ls' := #[rv a1, iv (1 : Int32), iv (5 : Int32), jv p2, s_, jv v793, s_, iv (4 : Int32), iv v619, iv v738]) rfl ?_
     refine k_iinc X0 hx 107 (D d2_104) rfl (z := (5 : Int32)) (by decide) (Ls' := #[rv a1, iv (1 : Int32), iv (5 : Int32), jv p2, s_, jv v793, s_, iv (5 : Int32), iv v619, iv v738]) rfl ?_
     refine k_goto X0 hx 17 (D d2_107) ?_
     refine k_iload X0 hx 19 (D d2_17) rfl ?_
     refine k_iloadN X0 hx 20 (D d2_19) rfl ?_
     refine k_icmp_ge X0 hx 23 110 (D d2_20) (fun _ => ?_) (fun hc => absurd hc (by decide))
     refine k_lload X0 hx 112 (D d2_110) rfl ?_
     refine k_retL X0 hx hret (D d2_112) hlk (by decide) (by decide) ⟨N0, e0, v793, rfl, ?_⟩
     have hgoal : True := trivial
     have B794 : (0 : Int) ≤ p2.toInt ∧ p2.toInt ≤ 9223372036854775807 := ⟨kL_ge hp0 (by decide), Int.le_of_lt_add_one (rng64 p2).2⟩
     have B795 : (-128 : Int) ≤ p5.toInt ∧ p5.toInt ≤ 127 := ⟨k_ge hp1 (by decide), k_le hp2 (by decide)⟩
     have B796 : (-128 : Int) ≤ p6.toInt ∧ p6.toInt ≤ 127 := ⟨k_ge hp3 (by decide), k_le hp4 (by decide)⟩
     have B797 : (-128 : Int) ≤ p7.toInt ∧ p7.toInt ≤ 127 := ⟨k_ge hp5 (by decide), k_le hp6 (by decide)⟩
     have B798 : (-128 : Int) ≤ p8.toInt ∧ p8.toInt ≤ 127 := ⟨k_ge hp7 (by decide), k_le hp8 (by decide)⟩
     have B799 : (-2147483648 : Int) ≤ v196.toInt ∧ v196.toInt ≤ 2147483647 := ⟨(rng32 v196).1, Int.le_of_lt_add_one (rng32 v196).2⟩
     have B802 : (0 : Int) ≤ (0 : Int32).toInt ∧ (0 : Int32).toInt ≤ 0 := (by decide)
     have q803 : ¬ v196.toInt = (0 : Int32).toInt := fun q => hc198 (Int32.toInt_inj.mp q)
     have B808 : (48 : Int) ≤ (48 : Int32).toInt ∧ (48 : Int32).toInt ≤ 48 := (by decide)
     have q807 : v101.toInt = p5.toInt - (48 : Int32).toInt := k_isubx hv101 B795 B808 (by decide) (by decide)
     have B806 : (-176 : Int) ≤ v101.toInt ∧ v101.toInt ≤ 79 := k_subB' q807 B795 B808
     have q805 : v213.toInt = v101.toInt := (by rw [hv213]; exact c_i2l _)
     have B804 : (-176 : Int) ≤ v213.toInt ∧ v213.toInt ≤ 79 := (by rw [q805]; exact B806)
     have B809 : (0 : Int) ≤ v213.toInt ∧ v213.toInt ≤ 79 := ⟨kL_ge hv0214 (by decide), B804.2⟩
     have B810 : (-2147483648 : Int) ≤ v351.toInt ∧ v351.toInt ≤ 2147483647 := ⟨(rng32 v351).1, Int.le_of_lt_add_one (rng32 v351).2⟩
     have q813 : ¬ v351.toInt = (0 : Int32).toInt := fun q => hc353 (Int32.toInt_inj.mp q)
     have B818 : (10 : Int) ≤ (10 : Int64).toInt ∧ (10 : Int64).toInt ≤ 10 := (by decide)
     have q817 : v377.toInt = 10 * v213.toInt := (by have q0 := c_lmul (10 : Int64) v213; have q1 := rng64 v377; have q2 := B809; rw [← hv377] at q0; rw [show (10 : Int64).toInt = 10 from (by decide)] at q0; omega)
     have B816 : (0 : Int) ≤ v377.toInt ∧ v377.toInt ≤ 790 := (by rw [q817]; exact k_mulB B809 (by decide))
     have q822 : v232.toInt = p6.toInt - (48 : Int32).toInt := k_isubx hv232 B796 B808 (by decide) (by decide)
     have B821 : (-176 : Int) ≤ v232.toInt ∧ v232.toInt ≤ 79 := k_subB' q822 B796 B808
     have q820 : v378.toInt = v232.toInt := (by rw [hv378]; exact c_i2l _)
     have B819 : (-176 : Int) ≤ v378.toInt ∧ v378.toInt ≤ 79 := (by rw [q820]; exact B821)
     have q815 : v379.toInt = v377.toInt + v378.toInt := k_laddx hv379 B816 B819 (by decide) (by decide)
     have B814 : (-176 : Int) ≤ v379.toInt ∧ v379.toInt ≤ 869 := k_addB q815 B816 B819
     have B823 : (0 : Int) ≤ v379.toInt ∧ v379.toInt ≤ 869 := ⟨kL_ge hv0380 (by decide), B814.2⟩
     have B824 : (-2147483648 : Int) ≤ v531.toInt ∧ v531.toInt ≤ 2147483647 := ⟨(rng32 v531).1, Int.le_of_lt_add_one (rng32 v531).2⟩
     have q827 : ¬ v531.toInt = (0 : Int32).toInt := fun q => hc533 (Int32.toInt_inj.mp q)
     have q831 : v571.toInt = 10 * v379.toInt := (by have q0 := c_lmul (10 : Int64) v379; have q1 := rng64 v571; have q2 := B823; rw [← hv571] at q0; rw [show (10 : Int64).toInt = 10 from (by decide)] at q0; omega)
     have B830 : (0 : Int) ≤ v571.toInt ∧ v571.toInt ≤ 8690 := (by rw [q831]; exact k_mulB B823 (by decide))
     have q835 : v412.toInt = p7.toInt - (48 : Int32).toInt := k_isubx hv412 B797 B808 (by decide) (by decide)
     have B834 : (-176 : Int) ≤ v412.toInt ∧ v412.toInt ≤ 79 := k_subB' q835 B797 B808
     have q833 : v572.toInt = v412.toInt := (by rw [hv572]; exact c_i2l _)
     have B832 : (-176 : Int) ≤ v572.toInt ∧ v572.toInt ≤ 79 := (by rw [q833]; exact B834)
     have q829 : v573.toInt = v571.toInt + v572.toInt := k_laddx hv573 B830 B832 (by decide) (by decide)
     have B828 : (-176 : Int) ≤ v573.toInt ∧ v573.toInt ≤ 8769 := k_addB q829 B830 B832
     have B836 : (0 : Int) ≤ v573.toInt ∧ v573.toInt ≤ 8769 := ⟨kL_ge hv0574 (by decide), B828.2⟩
     have B837 : (-2147483648 : Int) ≤ v738.toInt ∧ v738.toInt ≤ 2147483647 := ⟨(rng32 v738).1, Int.le_of_lt_add_one (rng32 v738).2⟩
     have q840 : ¬ v738.toInt = (0 : Int32).toInt := fun q => hc740 (Int32.toInt_inj.mp q)
     have q844 : v791.toInt = 10 * v573.toInt := (by have q0 := c_lmul (10 : Int64) v573; have q1 := rng64 v791; have q2 := B836; rw [← hv791] at q0; rw [show (10 : Int64).toInt = 10 from (by decide)] at q0; omega)
     have B843 : (0 : Int) ≤ v791.toInt ∧ v791.toInt ≤ 87690 := (by rw [q844]; exact k_mulB B836 (by decide))
     have q848 : v619.toInt = p8.toInt - (48 : Int32).toInt := k_isubx hv619 B798 B808 (by decide) (by decide)
     have B847 : (-176 : Int) ≤ v619.toInt ∧ v619.toInt ≤ 79 := k_subB' q848 B798 B808
     have q846 : v792.toInt = v619.toInt := (by rw [hv792]; exact c_i2l _)
     have B845 : (-176 : Int) ≤ v792.toInt ∧ v792.toInt ≤ 79 := (by rw [q846]; exact B847)
     have q842 : v793.toInt = v791.toInt + v792.toInt := k_laddx hv793 B843 B845 (by decide) (by decide)
     have B841 : (-176 : Int) ≤ v793.toInt ∧ v793.toInt ≤ 87769 := k_addB q842 B843 B845
     refine ⟨fun hg => ?_, fun hg => ?_⟩ <;> omega
theorem ef0 (m : MethodId) (x0 : Int32) (x1 : Int32) (x2 : Int32) (x3 : Int64) : entryFrame m #[(.int x0), (.int x1), (.int x2), (.long x3)] maxLocals = mkF m 0 #[.val (.int x0), .val (.int x1), .val (.int x2), .val (.long x3), .second, .unset, .unset, .unset, .unset, .unset, .unset, .unset, .unset, .unset, .unset, .unset, .unset, .unset, .unset] [] := by first | (simp [entryFrame, mkF, argsToLocals, Value.category, maxLocals]; done) | rfl
def Q0 (n0 : Nat) (v : Option Value) (h : Heap) (L : List Loc) : Prop := v = some (.int 1) ∧ Fr n0 L
set_option maxRecDepth 65536 in
set_option maxHeartbeats 40000000 in
theorem rm0 (l : Launch) (Z : State) (a0 : Array Value) (hw : ∀ d ∈ tables_1, d.before a0 Z = true) (ws : List Jvm.Cond) (i0 : Int32) (i1 : Int32) (i2 : Int32) (i3 : Int64) (h0 : Heap) (n0 : Nat) (Z0 : n0 ≤ h0.size) :
    KMet l x code maxLocals ret ws room_1 #[(.int i0), (.int i1), (.int i2), (.long i3)] Z h0 16 128 (Q0 n0) := by
 refine k_body (plainFor_of_name pn_0) (fun m => ef0 m i0 i1 i2 i3) ?_
 intro p e s m below meth c s₁ hx D hml hlk hret hown hnm hZ X0 e0
 have N0 := Fr.nil n0
 refine k_iconst X0 hx 1 (D at_0) (z := (5 : Int32)) rfl ?_
 refine k_newA X0 hx hZ 3 (k_w hw 0 rfl) e0 (D at_1) (by decide) (cap := 5) (by decide) (by decide) (by decide) (by decide) 5 (fun T1 h1 b1 k1 g1 X1 e1 E1 V1 => ?_)
 have g_b1 : n0 ≤ b1 := Nat.le_trans Z0 (Nat.le_of_eq g1.symm)
 have Z1 : n0 ≤ h1.size := Nat.le_trans Z0 E1.1
 have Vw1 : Arv Z h1 b1 k1 .byte (5 : Int32) [(.int (0 : Int32)), (.int (0 : Int32)), (.int (0 : Int32)), (.int (0 : Int32)), (.int (0 : Int32))] (.int (0 : Int32)) := V1
 refine k_astore X1 hx 5 (D at_3) rfl (Ls' := #[iv i0, iv i1, iv i2, jv i3, s_, rv b1, u_, u_, u_, u_, u_, u_, u_, u_, u_, u_, u_, u_, u_]) rfl ?_
 refine k_aload X1 hx 7 (D at_5) rfl rfl ?_
 refine k_iconst X1 hx 8 (D at_7) (z := (0 : Int32)) rfl ?_
 refine k_iloadN X1 hx 9 (D at_8) rfl ?_
 refine k_iconst X1 hx 10 (D at_9) (z := (0 : Int32)) rfl ?_
 refine k_iloadN X1 hx 11 (D at_10) rfl ?_
 refine k_iloadN X1 hx 12 (D at_11) rfl ?_
 refine k_callS X1 hx hZ hown 15 (k_w hw 1 rfl) (k_w hw 2 rfl) (k_w hw 3 rfl) (k_w hw 4 rfl) (by decide) (rm1_1 l Z a0 hw [] i2 i0 i1 h1 n0 Z1 ) (by decide) (by decide) e1 (by rw [hml]; rfl) (argsL := [(.int i2), (.int (0 : Int32)), (.int i0), (.int i1)]) (rest := [(.int (0 : Int32)), (.ref b1)]) (lenOf pd_0 rfl) rfl (W := 2) (Nat.le_refl _) rfl (D at_12) (by decide) (by decide) (fun T2 L2 r2 X2 q2 => ?_)
 obtain ⟨N2, e2, rfl⟩ := q2
 have N2' := Fr.app N0 N2
 show KEnds p e below s _ _ _ T2 (mkF m 15 #[iv i0, iv i1, iv i2, jv i3, s_, rv b1, u_, u_, u_, u_, u_, u_, u_, u_, u_, u_, u_, u_, u_] ((.int (f1_1 i2 i0 i1)) :: (.int (0 : Int32)) :: (.ref b1) :: []))
 obtain ⟨v3, hv3⟩ : ∃ z, z = f1_1 i2 i0 i1 := ⟨_, rfl⟩
 rw [← hv3]
 have hb4 : v3.toInt8.toInt32 = v3 := by rw [hv3]; exact f1_1_byte i2 i0 i1
 refine k_bastore X2 hx hZ 16 e2 Vw1 ⟨by decide, by decide⟩ (i := 0) rfl (Nat.le_of_ble_eq_true rfl) (D at_15) (fun T5 h5 X5 e5 W5 V5 => ?_)
 rw [hb4] at V5
 have Vw5 : Arv Z h5 b1 k1 .byte (5 : Int32) [(.int v3), (.int (0 : Int32)), (.int (0 : Int32)), (.int (0 : Int32)), (.int (0 : Int32))] (.int (0 : Int32)) := V5
 have N5 := Fr.snoc X5 N2' g_b1
 have Z5 : n0 ≤ h5.size := Nat.le_trans Z1 (Nat.le_of_eq W5.size.symm)
 refine k_aload X5 hx 18 (D at_16) rfl rfl ?_
 refine k_iconst X5 hx 19 (D at_18) (z := (1 : Int32)) rfl ?_
 refine k_iloadN X5 hx 20 (D at_19) rfl ?_
 refine k_iconst X5 hx 21 (D at_20) (z := (1 : Int32)) rfl ?_
 refine k_iloadN X5 hx 22 (D at_21) rfl ?_
 refine k_iloadN X5 hx 23 (D at_22) rfl ?_
 refine k_callS X5 hx hZ hown 26 (k_w hw 1 rfl) (k_w hw 2 rfl) (k_w hw 3 rfl) (k_w hw 4 rfl) (by decide) (rm1_2 l Z a0 hw [] i2 i0 i1 h5 n0 Z5 ) (by decide) (by decide) e5 (by rw [hml]; rfl) (argsL := [(.int i2), (.int (1 : Int32)), (.int i0), (.int i1)]) (rest := [(.int (1 : Int32)), (.ref b1)]) (lenOf pd_0 rfl) rfl (W := 2) (Nat.le_refl _) rfl (D at_23) (by decide) (by decide) (fun T6 L6 r6 X6 q6 => ?_)
 obtain ⟨N6, e6, rfl⟩ := q6
 have N6' := Fr.app N5 N6
 show KEnds p e below s _ _ _ T6 (mkF m 26 #[iv i0, iv i1, iv i2, jv i3, s_, rv b1, u_, u_, u_, u_, u_, u_, u_, u_, u_, u_, u_, u_, u_] ((.int (f1_2 i2 i0 i1)) :: (.int (1 : Int32)) :: (.ref b1) :: []))
 obtain ⟨v7, hv7⟩ : ∃ z, z = f1_2 i2 i0 i1 := ⟨_, rfl⟩
 rw [← hv7]
 have hb8 : v7.toInt8.toInt32 = v7 := by rw [hv7]; exact f1_2_byte i2 i0 i1
 refine k_bastore X6 hx hZ 27 e6 Vw5 ⟨by decide, by decide⟩ (i := 1) rfl (Nat.le_of_ble_eq_true rfl) (D at_26) (fun T9 h9 X9 e9 W9 V9 => ?_)
 rw [hb8] at V9
 have Vw9 : Arv Z h9 b1 k1 .byte (5 : Int32) [(.int v3), (.int v7), (.int (0 : Int32)), (.int (0 : Int32)), (.int (0 : Int32))] (.int (0 : Int32)) := V9
 have N9 := Fr.snoc X9 N6' g_b1
 have Z9 : n0 ≤ h9.size := Nat.le_trans Z5 (Nat.le_of_eq W9.size.symm)
 refine k_aload X9 hx 29 (D at_27) rfl rfl ?_
 refine k_iconst X9 hx 30 (D at_29) (z := (2 : Int32)) rfl ?_
 refine k_iloadN X9 hx 31 (D at_30) rfl ?_
 refine k_iconst X9 hx 32 (D at_31) (z := (2 : Int32)) rfl ?_
 refine k_iloadN X9 hx 33 (D at_32) rfl ?_
 refine k_iloadN X9 hx 34 (D at_33) rfl ?_
 refine k_callS X9 hx hZ hown 37 (k_w hw 1 rfl) (k_w hw 2 rfl) (k_w hw 3 rfl) (k_w hw 4 rfl) (by decide) (rm1_3 l Z a0 hw [] i2 i0 i1 h9 n0 Z9 ) (by decide) (by decide) e9 (by rw [hml]; rfl) (argsL := [(.int i2), (.int (2 : Int32)), (.int i0), (.int i1)]) (rest := [(.int (2 : Int32)), (.ref b1)]) (lenOf pd_0 rfl) rfl (W := 2) (Nat.le_refl _) rfl (D at_34) (by decide) (by decide) (fun T10 L10 r10 X10 q10 => ?_)
 obtain ⟨N10, e10, rfl⟩ := q10
 have N10' := Fr.app N9 N10
 show KEnds p e below s _ _ _ T10 (mkF m 37 #[iv i0, iv i1, iv i2, jv i3, s_, rv b1, u_, u_, u_, u_, u_, u_, u_, u_, u_, u_, u_, u_, u_] ((.int (f1_3 i2 i0 i1)) :: (.int (2 : Int32)) :: (.ref b1) :: []))
 obtain ⟨v11, hv11⟩ : ∃ z, z = f1_3 i2 i0 i1 := ⟨_, rfl⟩
 rw [← hv11]
 have hb12 : v11.toInt8.toInt32 = v11 := by rw [hv11]; exact f1_3_byte i2 i0 i1
 refine k_bastore X10 hx hZ 38 e10 Vw9 ⟨by decide, by decide⟩ (i := 2) rfl (Nat.le_of_ble_eq_true rfl) (D at_37) (fun T13 h13 X13 e13 W13 V13 => ?_)
 rw [hb12] at V13
 have Vw13 : Arv Z h13 b1 k1 .byte (5 : Int32) [(.int v3), (.int v7), (.int v11), (.int (0 : Int32)), (.int (0 : Int32))] (.int (0 : Int32)) := V13
 have N13 := Fr.snoc X13 N10' g_b1
 have Z13 : n0 ≤ h13.size := Nat.le_trans Z9 (Nat.le_of_eq W13.size.symm)
 refine k_aload X13 hx 40 (D at_38) rfl rfl ?_
 refine k_iconst X13 hx 41 (D at_40) (z := (3 : Int32)) rfl ?_
 refine k_iloadN X13 hx 42 (D at_41) rfl ?_
 refine k_iconst X13 hx 43 (D at_42) (z := (3 : Int32)) rfl ?_
 refine k_iloadN X13 hx 44 (D at_43) rfl ?_
 refine k_iloadN X13 hx 45 (D at_44) rfl ?_
 refine k_callS X13 hx hZ hown 48 (k_w hw 1 rfl) (k_w hw 2 rfl) (k_w hw 3 rfl) (k_w hw 4 rfl) (by decide) (rm1_4 l Z a0 hw [] i2 i0 i1 h13 n0 Z13 ) (by decide) (by decide) e13 (by rw [hml]; rfl) (argsL := [(.int i2), (.int (3 : Int32)), (.int i0), (.int i1)]) (rest := [(.int (3 : Int32)), (.ref b1)]) (lenOf pd_0 rfl) rfl (W := 2) (Nat.le_refl _) rfl (D at_45) (by decide) (by decide) (fun T14 L14 r14 X14 q14 => ?_)
 obtain ⟨N14, e14, rfl⟩ := q14
 have N14' := Fr.app N13 N14
 show KEnds p e below s _ _ _ T14 (mkF m 48 #[iv i0, iv i1, iv i2, jv i3, s_, rv b1, u_, u_, u_, u_, u_, u_, u_, u_, u_, u_, u_, u_, u_] ((.int (f1_4 i2 i0 i1)) :: (.int (3 : Int32)) :: (.ref b1) :: []))
 obtain ⟨v15, hv15⟩ : ∃ z, z = f1_4 i2 i0 i1 := ⟨_, rfl⟩
 rw [← hv15]
 have hb16 : v15.toInt8.toInt32 = v15 := by rw [hv15]; exact f1_4_byte i2 i0 i1
 refine k_bastore X14 hx hZ 49 e14 Vw13 ⟨by decide, by decide⟩ (i := 3) rfl (Nat.le_of_ble_eq_true rfl) (D at_48) (fun T17 h17 X17 e17 W17 V17 => ?_)
 rw [hb16] at V17
 have Vw17 : Arv Z h17 b1 k1 .byte (5 : Int32) [(.int v3), (.int v7), (.int v11), (.int v15), (.int (0 : Int32))] (.int (0 : Int32)) := V17
 have N17 := Fr.snoc X17 N14' g_b1
 have Z17 : n0 ≤ h17.size := Nat.le_trans Z13 (Nat.le_of_eq W17.size.symm)
 refine k_aload X17 hx 51 (D at_49) rfl rfl ?_
 refine k_iconst X17 hx 52 (D at_51) (z := (4 : Int32)) rfl ?_
 refine k_iloadN X17 hx 53 (D at_52) rfl ?_
 refine k_iconst X17 hx 54 (D at_53) (z := (4 : Int32)) rfl ?_
 refine k_iloadN X17 hx 55 (D at_54) rfl ?_
 refine k_iloadN X17 hx 56 (D at_55) rfl ?_
 refine k_callS X17 hx hZ hown 59 (k_w hw 1 rfl) (k_w hw 2 rfl) (k_w hw 3 rfl) (k_w hw 4 rfl) (by decide) (rm1_5 l Z a0 hw [] i2 i0 i1 h17 n0 Z17 ) (by decide) (by decide) e17 (by rw [hml]; rfl) (argsL := [(.int i2), (.int (4 : Int32)), (.int i0), (.int i1)]) (rest := [(.int (4 : Int32)), (.ref b1)]) (lenOf pd_0 rfl) rfl (W := 2) (Nat.le_refl _) rfl (D at_56) (by decide) (by decide) (fun T18 L18 r18 X18 q18 => ?_)
 obtain ⟨N18, e18, rfl⟩ := q18
 have N18' := Fr.app N17 N18
 show KEnds p e below s _ _ _ T18 (mkF m 59 #[iv i0, iv i1, iv i2, jv i3, s_, rv b1, u_, u_, u_, u_, u_, u_, u_, u_, u_, u_, u_, u_, u_] ((.int (f1_5 i2 i0 i1)) :: (.int (4 : Int32)) :: (.ref b1) :: []))
 obtain ⟨v19, hv19⟩ : ∃ z, z = f1_5 i2 i0 i1 := ⟨_, rfl⟩
 rw [← hv19]
 have hb20 : v19.toInt8.toInt32 = v19 := by rw [hv19]; exact f1_5_byte i2 i0 i1
 refine k_bastore X18 hx hZ 60 e18 Vw17 ⟨by decide, by decide⟩ (i := 4) rfl (Nat.le_of_ble_eq_true rfl) (D at_59) (fun T21 h21 X21 e21 W21 V21 => ?_)
 rw [hb20] at V21
 have Vw21 : Arv Z h21 b1 k1 .byte (5 : Int32) [(.int v3), (.int v7), (.int v11), (.int v15), (.int v19)] (.int (0 : Int32)) := V21
 have N21 := Fr.snoc X21 N18' g_b1
 have Z21 : n0 ≤ h21.size := Nat.le_trans Z17 (Nat.le_of_eq W21.size.symm)
 refine k_iloadN X21 hx 61 (D at_60) rfl ?_
 refine k_iconst X21 hx 62 (D at_61) (z := (5 : Int32)) rfl ?_
 refine k_iushr X21 hx 63 (D at_62) (fun v22 hv22 => ?_)
 refine k_iconst X21 hx 64 (D at_63) (z := (1 : Int32)) rfl ?_
 refine k_iand X21 hx 65 (D at_64) (fun v23 hv23 => ?_)
 have hs24 : v23 = (0 : Int32) ∨ v23 = (1 : Int32) := by
  have B29 : (-2147483648 : Int) ≤ i2.toInt ∧ i2.toInt ≤ 2147483647 := ⟨(rng32 i2).1, Int.le_of_lt_add_one (rng32 i2).2⟩
  have q28 : v22.toInt = (i2.toInt % 4294967296) / 32 := (by rw [hv22]; exact c_iushr _ _ 5 (by decide) (by decide))
  have B27 : (0 : Int) ≤ v22.toInt ∧ v22.toInt ≤ 134217727 := (by rw [q28]; exact k_divmodB (by decide) (by decide) (by decide))
  have q26 : v23.toInt = v22.toInt % 2 := (by rw [hv23]; exact c_mask _ _ 1 (by decide) (by decide))
  have B25 : (0 : Int) ≤ v23.toInt ∧ v23.toInt ≤ 1 := (by rw [q26]; exact k_modB (by decide))
  rcases (by omega : v23.toInt = 0 ∨ v23.toInt = 1) with hq | hq
  · exact Or.inl (Int32.toInt_inj.mp hq)
  · exact Or.inr ((Int32.toInt_inj.mp hq))
 rcases hs24 with rfl | rfl
 ·
  show KEnds p e below s _ _ _ T21 (mkF m 65 #[iv i0, iv i1, iv i2, jv i3, s_, rv b1, u_, u_, u_, u_, u_, u_, u_, u_, u_, u_, u_, u_, u_] [(.int (0 : Int32))])
  refine k_istore X21 hx 67 (D at_65) (Ls' := #[iv i0, iv i1, iv i2, jv i3, s_, rv b1, iv (0 : Int32), u_, u_, u_, u_, u_, u_, u_, u_, u_, u_, u_, u_]) rfl ?_
  refine k_iloadN X21 hx 68 (D at_67) rfl ?_
  refine k_bipush X21 hx 70 (D at_68) (z := (6 : Int32)) rfl ?_
  refine k_iushr X21 hx 71 (D at_70) (fun v31 hv31 => ?_)
  refine k_bipush X21 hx 73 (D at_71) (z := (7 : Int32)) rfl ?_
  refine k_iand X21 hx 74 (D at_73) (fun v32 hv32 => ?_)
  refine k_iconst X21 hx 75 (D at_74) (z := (5 : Int32)) rfl ?_
  refine k_irem X21 hx 76 (D at_75) (by decide) (fun v33 hv33 => ?_)
  have hs34 : v33 = (0 : Int32) ∨ v33 = (1 : Int32) ∨ v33 = (2 : Int32) ∨ v33 = (3 : Int32) ∨ v33 = (4 : Int32) := by
   have B41 : (-2147483648 : Int) ≤ i2.toInt ∧ i2.toInt ≤ 2147483647 := ⟨(rng32 i2).1, Int.le_of_lt_add_one (rng32 i2).2⟩
   have q40 : v31.toInt = (i2.toInt % 4294967296) / 64 := (by rw [hv31]; exact c_iushr _ _ 6 (by decide) (by decide))
   have B39 : (0 : Int) ≤ v31.toInt ∧ v31.toInt ≤ 67108863 := (by rw [q40]; exact k_divmodB (by decide) (by decide) (by decide))
   have q38 : v32.toInt = v31.toInt % 8 := (by rw [hv32]; exact c_mask _ _ 3 (by decide) (by decide))
   have B37 : (0 : Int) ≤ v32.toInt ∧ v32.toInt ≤ 7 := (by rw [q38]; exact k_modB (by decide))
   have q36 : v33.toInt = v32.toInt % 5 := (by rw [hv33]; exact (c_irem _ _ 5 (by decide)).1 (Int.le_trans (by decide) B37.1))
   have B35 : (0 : Int) ≤ v33.toInt ∧ v33.toInt ≤ 4 := (by rw [q36]; exact k_modB (by decide))
   rcases (by omega : v33.toInt = 0 ∨ v33.toInt = 1 ∨ v33.toInt = 2 ∨ v33.toInt = 3 ∨ v33.toInt = 4) with hq | hq | hq | hq | hq
   · exact Or.inl (Int32.toInt_inj.mp hq)
   · exact Or.inr (Or.inl (Int32.toInt_inj.mp hq))
   · exact Or.inr (Or.inr (Or.inl (Int32.toInt_inj.mp hq)))
   · exact Or.inr (Or.inr (Or.inr (Or.inl (Int32.toInt_inj.mp hq))))
   · exact Or.inr (Or.inr (Or.inr (Or.inr ((Int32.toInt_inj.mp hq)))))
  rcases hs34 with rfl | rfl | rfl | rfl | rfl
  ·
   show KEnds p e below s _ _ _ T21 (mkF m 76 #[iv i0, iv i1, iv i2, jv i3, s_, rv b1, iv (0 : Int32), u_, u_, u_, u_, u_, u_, u_, u_, u_, u_, u_, u_] [(.int (0 : Int32))])
   refine k_istore X21 hx 78 (D at_76) (Ls' := #[iv i0, iv i1, iv i2, jv i3, s_, rv b1, iv (0 : Int32), iv (0 : Int32), u_, u_, u_, u_, u_, u_, u_, u_, u_, u_, u_]) rfl ?_
   refine k_iload X21 hx 80 (D at_78) rfl ?_
   refine k_iload X21 hx 82 (D at_80) rfl ?_
   refine k_iaddL X21 hx 83 (D at_82) (z := (0 : Int32)) (by decide) ?_
   refine k_istore X21 hx 85 (D at_83) (Ls' := #[iv i0, iv i1, iv i2, jv i3, s_, rv b1, iv (0 : Int32), iv (0 : Int32), iv (0 : Int32), u_, u_, u_, u_, u_, u_, u_, u_, u_, u_]) rfl ?_
   refine k_iloadN X21 hx 86 (D at_85) rfl ?_
   refine k_bipush X21 hx 88 (D at_86) (z := (9 : Int32)) rfl ?_
   refine k_iushr X21 hx 89 (D at_88) (fun v43 hv43 => ?_)
   refine k_iconst X21 hx 90 (D at_89) (z := (3 : Int32)) rfl ?_
   refine k_iand X21 hx 91 (D at_90) (fun v44 hv44 => ?_)
   refine k_istore X21 hx 93 (D at_91) (Ls' := #[iv i0, iv i1, iv i2, jv i3, s_, rv b1, iv (0 : Int32), iv (0 : Int32), iv (0 : Int32), iv v44, u_, u_, u_, u_, u_, u_, u_, u_, u_]) rfl ?_
   suffices key45 : ∀ (v93 : Int64), (¬ v93 < 0) → KEnds p e below s 16 128 (Q0 n0) T21 (mkF m 147 #[iv i0, iv i1, iv i2, jv i3, s_, rv b1, iv (0 : Int32), iv (0 : Int32), iv (0 : Int32), iv v44, jv v93, s_, u_, u_, u_, u_, u_, u_, u_] []) by
    refine k_iload X21 hx 95 (D at_93) rfl ?_
    refine k_if_ne X21 hx 98 108 (D at_95) (fun hc46 => ?_) (fun hc46 => ?_)
    ·
     refine k_iload X21 hx 110 (D at_108) rfl ?_
     refine k_iconst X21 hx 111 (D at_110) (z := (1 : Int32)) rfl ?_
     refine k_icmp_ne X21 hx 114 124 (D at_111) (fun hc47 => ?_) (fun hc47 => ?_)
     ·
      refine k_iload X21 hx 126 (D at_124) rfl ?_
      refine k_iconst X21 hx 127 (D at_126) (z := (2 : Int32)) rfl ?_
      refine k_icmp_ne X21 hx 130 140 (D at_127) (fun hc48 => ?_) (fun hc48 => ?_)
      ·
       refine k_lloadN X21 hx 141 (D at_140) rfl ?_
       refine k_ldcL X21 hx hZ hown 144 (k_w hw 21 rfl) (D at_141) ?_
       refine k_land X21 hx 145 (D at_144) (fun v49 hv49 => ?_)
       refine k_lstore X21 hx 147 (D at_145) (Ls' := #[iv i0, iv i1, iv i2, jv i3, s_, rv b1, iv (0 : Int32), iv (0 : Int32), iv (0 : Int32), iv v44, jv v49, s_, u_, u_, u_, u_, u_, u_, u_]) rfl ?_
       refine key45 v49 ?_
       intro hq55
       have B58 : (-9223372036854775808 : Int) ≤ i3.toInt ∧ i3.toInt ≤ 9223372036854775807 := ⟨(rng64 i3).1, Int.le_of_lt_add_one (rng64 i3).2⟩
       have q57 : v49.toInt = i3.toInt % 16 := (by rw [hv49]; exact c_maskL _ _ 4 (by decide) (by decide))
       have B56 : (0 : Int) ≤ v49.toInt ∧ v49.toInt ≤ 15 := (by rw [q57]; exact k_modB (by decide))
       have B59 : (0 : Int) ≤ v49.toInt ∧ v49.toInt ≤ -1 := ⟨B56.1, kL_lt hq55 (by decide)⟩
       omega
      ·
       refine k_lloadN X21 hx 131 (D at_130) rfl ?_
       refine k_ldcL X21 hx hZ hown 134 (k_w hw 23 rfl) (D at_131) ?_
       refine k_land X21 hx 135 (D at_134) (fun v60 hv60 => ?_)
       refine k_lstore X21 hx 137 (D at_135) (Ls' := #[iv i0, iv i1, iv i2, jv i3, s_, rv b1, iv (0 : Int32), iv (0 : Int32), iv (0 : Int32), iv v44, jv v60, s_, u_, u_, u_, u_, u_, u_, u_]) rfl ?_
       refine k_goto X21 hx 147 (D at_137) ?_
       refine key45 v60 ?_
       intro hq66
       have B69 : (-9223372036854775808 : Int) ≤ i3.toInt ∧ i3.toInt ≤ 9223372036854775807 := ⟨(rng64 i3).1, Int.le_of_lt_add_one (rng64 i3).2⟩
       have q68 : v60.toInt = i3.toInt % 128 := (by rw [hv60]; exact c_maskL _ _ 7 (by decide) (by decide))
       have B67 : (0 : Int) ≤ v60.toInt ∧ v60.toInt ≤ 127 := (by rw [q68]; exact k_modB (by decide))
       have B70 : (0 : Int) ≤ v60.toInt ∧ v60.toInt ≤ -1 := ⟨B67.1, kL_lt hq66 (by decide)⟩
       omega
     ·
      refine k_lloadN X21 hx 115 (D at_114) rfl ?_
      refine k_ldcL X21 hx hZ hown 118 (k_w hw 22 rfl) (D at_115) ?_
      refine k_land X21 hx 119 (D at_118) (fun v71 hv71 => ?_)
      refine k_lstore X21 hx 121 (D at_119) (Ls' := #[iv i0, iv i1, iv i2, jv i3, s_, rv b1, iv (0 : Int32), iv (0 : Int32), iv (0 : Int32), iv v44, jv v71, s_, u_, u_, u_, u_, u_, u_, u_]) rfl ?_
      refine k_goto X21 hx 147 (D at_121) ?_
      refine key45 v71 ?_
      intro hq77
      have B80 : (-9223372036854775808 : Int) ≤ i3.toInt ∧ i3.toInt ≤ 9223372036854775807 := ⟨(rng64 i3).1, Int.le_of_lt_add_one (rng64 i3).2⟩
      have q79 : v71.toInt = i3.toInt % 16384 := (by rw [hv71]; exact c_maskL _ _ 14 (by decide) (by decide))
      have B78 : (0 : Int) ≤ v71.toInt ∧ v71.toInt ≤ 16383 := (by rw [q79]; exact k_modB (by decide))
      have B81 : (0 : Int) ≤ v71.toInt ∧ v71.toInt ≤ -1 := ⟨B78.1, kL_lt hq77 (by decide)⟩
      omega
    ·
     refine k_lloadN X21 hx 99 (D at_98) rfl ?_
     refine k_ldcL X21 hx hZ hown 102 (k_w hw 5 rfl) (D at_99) ?_
     refine k_land X21 hx 103 (D at_102) (fun v82 hv82 => ?_)
     refine k_lstore X21 hx 105 (D at_103) (Ls' := #[iv i0, iv i1, iv i2, jv i3, s_, rv b1, iv (0 : Int32), iv (0 : Int32), iv (0 : Int32), iv v44, jv v82, s_, u_, u_, u_, u_, u_, u_, u_]) rfl ?_
     refine k_goto X21 hx 147 (D at_105) ?_
     refine key45 v82 ?_
     intro hq88
     have B91 : (-9223372036854775808 : Int) ≤ i3.toInt ∧ i3.toInt ≤ 9223372036854775807 := ⟨(rng64 i3).1, Int.le_of_lt_add_one (rng64 i3).2⟩
     have q90 : v82.toInt = i3.toInt % 9223372036854775808 := (by rw [hv82]; exact c_maskL _ _ 63 (by decide) (by decide))
     have B89 : (0 : Int) ≤ v82.toInt ∧ v82.toInt ≤ 9223372036854775807 := (by rw [q90]; exact k_modB (by decide))
     have B92 : (0 : Int) ≤ v82.toInt ∧ v82.toInt ≤ -1 := ⟨B89.1, kL_lt hq88 (by decide)⟩
     omega
   intro v93 hP94
   refine k_aload X21 hx 149 (D at_147) rfl rfl ?_
   refine k_iload X21 hx 151 (D at_149) rfl ?_
   refine k_iload X21 hx 153 (D at_151) rfl ?_
   refine k_lload X21 hx 155 (D at_153) rfl ?_
   refine k_callS X21 hx hZ hown 158 (k_w hw 6 rfl) (k_w hw 7 rfl) (k_w hw 8 rfl) (k_w hw 9 rfl) (by decide) (rm2_6 l Z a0 hw [] b1 v93 k1 v3 v7 v11 v15 v19 h21 n0 Z21 Vw21 hP94) (by decide) (by decide) e21 (by rw [hml]; rfl) (argsL := [(.ref b1), (.int (0 : Int32)), (.int (0 : Int32)), (.long v93)]) (rest := []) (lenOf pd_1 rfl) rfl (W := 0) (Nat.le_refl _) rfl (D at_155) (by decide) (by decide) (fun T95 L95 r95 X95 q95 => ?_)
   obtain ⟨N95, e95, v96, rfl, hS97⟩ := q95
   have N95' := Fr.app N21 N95
   show KEnds p e below s _ _ _ T95 (mkF m 158 #[iv i0, iv i1, iv i2, jv i3, s_, rv b1, iv (0 : Int32), iv (0 : Int32), iv (0 : Int32), iv v44, jv v93, s_, u_, u_, u_, u_, u_, u_, u_] [(.long v96)])
   refine k_lstore X95 hx 160 (D at_158) (Ls' := #[iv i0, iv i1, iv i2, jv i3, s_, rv b1, iv (0 : Int32), iv (0 : Int32), iv (0 : Int32), iv v44, jv v93, s_, jv v96, s_, u_, u_, u_, u_, u_]) rfl ?_
   refine k_iload X95 hx 162 (D at_160) rfl ?_
   refine k_if_le X95 hx 165 169 (D at_162) (fun _ => ?_) (fun hc => absurd hc (by decide))
   refine k_iconst X95 hx 170 (D at_169) (z := (0 : Int32)) rfl ?_
   refine k_istore X95 hx 172 (D at_170) (Ls' := #[iv i0, iv i1, iv i2, jv i3, s_, rv b1, iv (0 : Int32), iv (0 : Int32), iv (0 : Int32), iv v44, jv v93, s_, jv v96, s_, iv (0 : Int32), u_, u_, u_, u_]) rfl ?_
   refine k_lconst X95 hx 173 (D at_172) (z := (0 : Int64)) rfl ?_
   refine k_lstore X95 hx 175 (D at_173) (Ls' := #[iv i0, iv i1, iv i2, jv i3, s_, rv b1, iv (0 : Int32), iv (0 : Int32), iv (0 : Int32), iv v44, jv v93, s_, jv v96, s_, iv (0 : Int32), jv (0 : Int64), s_, u_, u_]) rfl ?_
   refine k_iload X95 hx 177 (D at_175) rfl ?_
   refine k_if_le X95 hx 180 223 (D at_177) (fun _ => ?_) (fun hc => absurd hc (by decide))
   refine k_iload X95 hx 225 (D at_223) rfl ?_
   refine k_iconst X95 hx 226 (D at_225) (z := (1 : Int32)) rfl ?_
   refine k_icmp_le X95 hx 229 274 (D at_226) (fun _ => ?_) (fun hc => absurd hc (by decide))
   refine k_iload X95 hx 276 (D at_274) rfl ?_
   refine k_iconst X95 hx 277 (D at_276) (z := (2 : Int32)) rfl ?_
   refine k_icmp_le X95 hx 280 325 (D at_277) (fun _ => ?_) (fun hc => absurd hc (by decide))
   refine k_iload X95 hx 327 (D at_325) rfl ?_
   refine k_iconst X95 hx 328 (D at_327) (z := (3 : Int32)) rfl ?_
   refine k_icmp_le X95 hx 331 376 (D at_328) (fun _ => ?_) (fun hc => absurd hc (by decide))
   refine k_iload X95 hx 378 (D at_376) rfl ?_
   refine k_if_eq X95 hx 381 394 (D at_378) (fun _ => ?_) (fun hc => absurd (by decide) hc)
   refine k_ldcL X95 hx hZ hown 397 (k_w hw 11 rfl) (D at_394) ?_
   refine k_lstore X95 hx 399 (D at_397) (Ls' := #[iv i0, iv i1, iv i2, jv i3, s_, rv b1, iv (0 : Int32), iv (0 : Int32), iv (0 : Int32), iv v44, jv v93, s_, jv v96, s_, iv (0 : Int32), jv (0 : Int64), s_, jv (-1 : Int64), s_]) rfl ?_
   refine k_lload X95 hx 401 (D at_399) rfl ?_
   refine k_lload X95 hx 403 (D at_401) rfl ?_
   refine k_lcif_ne X95 hx 407 411 404 (D at_403) (D at_404) (fun hc => absurd (Classical.byContradiction (fun hq98 => by have B99 : (0 : Int) ≤ v93.toInt ∧ v93.toInt ≤ 9223372036854775807 := ⟨kL_ge hP94 (by decide), Int.le_of_lt_add_one (rng64 v93).2⟩; have B100 : (-9223372036854775808 : Int) ≤ v96.toInt ∧ v96.toInt ≤ 9223372036854775807 := ⟨(rng64 v96).1, Int.le_of_lt_add_one (rng64 v96).2⟩; have B101 : (-1 : Int) ≤ (-1 : Int64).toInt ∧ (-1 : Int64).toInt ≤ -1 := (by decide); have q102 : ¬ v96.toInt = (-1 : Int64).toInt := fun q => hq98 (Int64.toInt_inj.mp q); omega)) hc) (fun _ => ?_)
   refine k_iconst X95 hx 408 (D at_407) (z := (1 : Int32)) rfl ?_
   refine k_goto X95 hx 412 (D at_408) ?_
   exact k_retN X95 hx (t := .boolean) hret (by simp) (D at_412) hlk (by decide) (by decide) (z' := (1 : Int32)) rfl ⟨rfl, N95'⟩
  ·
   show KEnds p e below s _ _ _ T21 (mkF m 76 #[iv i0, iv i1, iv i2, jv i3, s_, rv b1, iv (0 : Int32), u_, u_, u_, u_, u_, u_, u_, u_, u_, u_, u_, u_] [(.int (1 : Int32))])
   refine k_istore X21 hx 78 (D at_76) (Ls' := #[iv i0, iv i1, iv i2, jv i3, s_, rv b1, iv (0 : Int32), iv (1 : Int32), u_, u_, u_, u_, u_, u_, u_, u_, u_, u_, u_]) rfl ?_
   refine k_iload X21 hx 80 (D at_78) rfl ?_
   refine k_iload X21 hx 82 (D at_80) rfl ?_
   refine k_iaddL X21 hx 83 (D at_82) (z := (1 : Int32)) (by decide) ?_
   refine k_istore X21 hx 85 (D at_83) (Ls' := #[iv i0, iv i1, iv i2, jv i3, s_, rv b1, iv (0 : Int32), iv (1 : Int32), iv (1 : Int32), u_, u_, u_, u_, u_, u_, u_, u_, u_, u_]) rfl ?_
   refine k_iloadN X21 hx 86 (D at_85) rfl ?_
   refine k_bipush X21 hx 88 (D at_86) (z := (9 : Int32)) rfl ?_
   refine k_iushr X21 hx 89 (D at_88) (fun v104 hv104 => ?_)
   refine k_iconst X21 hx 90 (D at_89) (z := (3 : Int32)) rfl ?_
   refine k_iand X21 hx 91 (D at_90) (fun v105 hv105 => ?_)
   refine k_istore X21 hx 93 (D at_91) (Ls' := #[iv i0, iv i1, iv i2, jv i3, s_, rv b1, iv (0 : Int32), iv (1 : Int32), iv (1 : Int32), iv v105, u_, u_, u_, u_, u_, u_, u_, u_, u_]) rfl ?_
   suffices key106 : ∀ (v154 : Int64), (¬ v154 < 0) → KEnds p e below s 16 128 (Q0 n0) T21 (mkF m 147 #[iv i0, iv i1, iv i2, jv i3, s_, rv b1, iv (0 : Int32), iv (1 : Int32), iv (1 : Int32), iv v105, jv v154, s_, u_, u_, u_, u_, u_, u_, u_] []) by
    refine k_iload X21 hx 95 (D at_93) rfl ?_
    refine k_if_ne X21 hx 98 108 (D at_95) (fun hc107 => ?_) (fun hc107 => ?_)
    ·
     refine k_iload X21 hx 110 (D at_108) rfl ?_
     refine k_iconst X21 hx 111 (D at_110) (z := (1 : Int32)) rfl ?_
     refine k_icmp_ne X21 hx 114 124 (D at_111) (fun hc108 => ?_) (fun hc108 => ?_)
     ·
      refine k_iload X21 hx 126 (D at_124) rfl ?_
      refine k_iconst X21 hx 127 (D at_126) (z := (2 : Int32)) rfl ?_
      refine k_icmp_ne X21 hx 130 140 (D at_127) (fun hc109 => ?_) (fun hc109 => ?_)
      ·
       refine k_lloadN X21 hx 141 (D at_140) rfl ?_
       refine k_ldcL X21 hx hZ hown 144 (k_w hw 21 rfl) (D at_141) ?_
       refine k_land X21 hx 145 (D at_144) (fun v110 hv110 => ?_)
       refine k_lstore X21 hx 147 (D at_145) (Ls' := #[iv i0, iv i1, iv i2, jv i3, s_, rv b1, iv (0 : Int32), iv (1 : Int32), iv (1 : Int32), iv v105, jv v110, s_, u_, u_, u_, u_, u_, u_, u_]) rfl ?_
       refine key106 v110 ?_
       intro hq116
       have B119 : (-9223372036854775808 : Int) ≤ i3.toInt ∧ i3.toInt ≤ 9223372036854775807 := ⟨(rng64 i3).1, Int.le_of_lt_add_one (rng64 i3).2⟩
       have q118 : v110.toInt = i3.toInt % 16 := (by rw [hv110]; exact c_maskL _ _ 4 (by decide) (by decide))
       have B117 : (0 : Int) ≤ v110.toInt ∧ v110.toInt ≤ 15 := (by rw [q118]; exact k_modB (by decide))
       have B120 : (0 : Int) ≤ v110.toInt ∧ v110.toInt ≤ -1 := ⟨B117.1, kL_lt hq116 (by decide)⟩
       omega
      ·
       refine k_lloadN X21 hx 131 (D at_130) rfl ?_
       refine k_ldcL X21 hx hZ hown 134 (k_w hw 23 rfl) (D at_131) ?_
       refine k_land X21 hx 135 (D at_134) (fun v121 hv121 => ?_)
       refine k_lstore X21 hx 137 (D at_135) (Ls' := #[iv i0, iv i1, iv i2, jv i3, s_, rv b1, iv (0 : Int32), iv (1 : Int32), iv (1 : Int32), iv v105, jv v121, s_, u_, u_, u_, u_, u_, u_, u_]) rfl ?_
       refine k_goto X21 hx 147 (D at_137) ?_
       refine key106 v121 ?_
       intro hq127
       have B130 : (-9223372036854775808 : Int) ≤ i3.toInt ∧ i3.toInt ≤ 9223372036854775807 := ⟨(rng64 i3).1, Int.le_of_lt_add_one (rng64 i3).2⟩
       have q129 : v121.toInt = i3.toInt % 128 := (by rw [hv121]; exact c_maskL _ _ 7 (by decide) (by decide))
       have B128 : (0 : Int) ≤ v121.toInt ∧ v121.toInt ≤ 127 := (by rw [q129]; exact k_modB (by decide))
       have B131 : (0 : Int) ≤ v121.toInt ∧ v121.toInt ≤ -1 := ⟨B128.1, kL_lt hq127 (by decide)⟩
       omega
     ·
      refine k_lloadN X21 hx 115 (D at_114) rfl ?_
      refine k_ldcL X21 hx hZ hown 118 (k_w hw 22 rfl) (D at_115) ?_
      refine k_land X21 hx 119 (D at_118) (fun v132 hv132 => ?_)
      refine k_lstore X21 hx 121 (D at_119) (Ls' := #[iv i0, iv i1, iv i2, jv i3, s_, rv b1, iv (0 : Int32), iv (1 : Int32), iv (1 : Int32), iv v105, jv v132, s_, u_, u_, u_, u_, u_, u_, u_]) rfl ?_
      refine k_goto X21 hx 147 (D at_121) ?_
      refine key106 v132 ?_
      intro hq138
      have B141 : (-9223372036854775808 : Int) ≤ i3.toInt ∧ i3.toInt ≤ 9223372036854775807 := ⟨(rng64 i3).1, Int.le_of_lt_add_one (rng64 i3).2⟩
      have q140 : v132.toInt = i3.toInt % 16384 := (by rw [hv132]; exact c_maskL _ _ 14 (by decide) (by decide))
      have B139 : (0 : Int) ≤ v132.toInt ∧ v132.toInt ≤ 16383 := (by rw [q140]; exact k_modB (by decide))
      have B142 : (0 : Int) ≤ v132.toInt ∧ v132.toInt ≤ -1 := ⟨B139.1, kL_lt hq138 (by decide)⟩
      omega
    ·
     refine k_lloadN X21 hx 99 (D at_98) rfl ?_
     refine k_ldcL X21 hx hZ hown 102 (k_w hw 5 rfl) (D at_99) ?_
     refine k_land X21 hx 103 (D at_102) (fun v143 hv143 => ?_)
     refine k_lstore X21 hx 105 (D at_103) (Ls' := #[iv i0, iv i1, iv i2, jv i3, s_, rv b1, iv (0 : Int32), iv (1 : Int32), iv (1 : Int32), iv v105, jv v143, s_, u_, u_, u_, u_, u_, u_, u_]) rfl ?_
     refine k_goto X21 hx 147 (D at_105) ?_
     refine key106 v143 ?_
     intro hq149
     have B152 : (-9223372036854775808 : Int) ≤ i3.toInt ∧ i3.toInt ≤ 9223372036854775807 := ⟨(rng64 i3).1, Int.le_of_lt_add_one (rng64 i3).2⟩
     have q151 : v143.toInt = i3.toInt % 9223372036854775808 := (by rw [hv143]; exact c_maskL _ _ 63 (by decide) (by decide))
     have B150 : (0 : Int) ≤ v143.toInt ∧ v143.toInt ≤ 9223372036854775807 := (by rw [q151]; exact k_modB (by decide))
     have B153 : (0 : Int) ≤ v143.toInt ∧ v143.toInt ≤ -1 := ⟨B150.1, kL_lt hq149 (by decide)⟩
     omega
   intro v154 hP155
   refine k_aload X21 hx 149 (D at_147) rfl rfl ?_
   refine k_iload X21 hx 151 (D at_149) rfl ?_
   refine k_iload X21 hx 153 (D at_151) rfl ?_
   refine k_lload X21 hx 155 (D at_153) rfl ?_
   refine k_callS X21 hx hZ hown 158 (k_w hw 6 rfl) (k_w hw 7 rfl) (k_w hw 8 rfl) (k_w hw 9 rfl) (by decide) (rm2_7 l Z a0 hw [] b1 v154 k1 v3 v7 v11 v15 v19 h21 n0 Z21 Vw21 hP155 (k_by1 hb4) (k_by2 hb4)) (by decide) (by decide) e21 (by rw [hml]; rfl) (argsL := [(.ref b1), (.int (0 : Int32)), (.int (1 : Int32)), (.long v154)]) (rest := []) (lenOf pd_1 rfl) rfl (W := 0) (Nat.le_refl _) rfl (D at_155) (by decide) (by decide) (fun T156 L156 r156 X156 q156 => ?_)
   obtain ⟨N156, e156, v157, rfl, hS158⟩ := q156
   have N156' := Fr.app N21 N156
   show KEnds p e below s _ _ _ T156 (mkF m 158 #[iv i0, iv i1, iv i2, jv i3, s_, rv b1, iv (0 : Int32), iv (1 : Int32), iv (1 : Int32), iv v105, jv v154, s_, u_, u_, u_, u_, u_, u_, u_] [(.long v157)])
   refine k_lstore X156 hx 160 (D at_158) (Ls' := #[iv i0, iv i1, iv i2, jv i3, s_, rv b1, iv (0 : Int32), iv (1 : Int32), iv (1 : Int32), iv v105, jv v154, s_, jv v157, s_, u_, u_, u_, u_, u_]) rfl ?_
   refine k_iload X156 hx 162 (D at_160) rfl ?_
   refine k_if_le X156 hx 165 169 (D at_162) (fun hc => absurd (by decide) hc) (fun _ => ?_)
   refine k_iconst X156 hx 166 (D at_165) (z := (1 : Int32)) rfl ?_
   refine k_goto X156 hx 170 (D at_166) ?_
   refine k_istore X156 hx 172 (D at_170) (Ls' := #[iv i0, iv i1, iv i2, jv i3, s_, rv b1, iv (0 : Int32), iv (1 : Int32), iv (1 : Int32), iv v105, jv v154, s_, jv v157, s_, iv (1 : Int32), u_, u_, u_, u_]) rfl ?_
   refine k_lconst X156 hx 173 (D at_172) (z := (0 : Int64)) rfl ?_
   refine k_lstore X156 hx 175 (D at_173) (Ls' := #[iv i0, iv i1, iv i2, jv i3, s_, rv b1, iv (0 : Int32), iv (1 : Int32), iv (1 : Int32), iv v105, jv v154, s_, jv v157, s_, iv (1 : Int32), jv (0 : Int64), s_, u_, u_]) rfl ?_
   refine k_iload X156 hx 177 (D at_175) rfl ?_
   refine k_if_le X156 hx 180 223 (D at_177) (fun hc => absurd (by decide) hc) (fun _ => ?_)
   suffices key159 : ∀ (T199 : State) (lo199 : List Loc) (ce199 sl199 : Nat) (v200 : Int32) (v201 : Int64) (v202 : Int32), Stand p l e room_1 s m #[(.int i0), (.int i1), (.int i2), (.long i3)] below meth c T199 lo199 ce199 sl199 → T199.heap = h21 → Fr n0 lo199 → ce199 ≤ 16 → sl199 ≤ 128 → ((¬ v201 < 0 ∧ ¬ (9 : Int64) < v201) ∧ ((v200.toInt = 1 ∧ ((48 ≤ v3.toInt ∧ v3.toInt ≤ 57)) ∧ v201.toInt = 1 * (v3.toInt - 48)) ∨ (v200.toInt = 0 ∧ ¬ ((48 ≤ v3.toInt ∧ v3.toInt ≤ 57))))) → KEnds p e below s 16 128 (Q0 n0) T199 (mkF m 223 #[iv i0, iv i1, iv i2, jv i3, s_, rv b1, iv (0 : Int32), iv (1 : Int32), iv (1 : Int32), iv v105, jv v154, s_, jv v157, s_, iv v200, jv v201, s_, iv v202, u_] []) by
    refine k_aload X156 hx 182 (D at_180) rfl rfl ?_
    refine k_iload X156 hx 184 (D at_182) rfl ?_
    refine k_baload X156 hx hZ 185 e156 Vw21 ⟨by decide, by decide⟩ (v := (.int v3)) rfl (D at_184) ?_
    refine k_callS X156 hx hZ hown 188 (k_w hw 13 rfl) (k_w hw 14 rfl) (k_w hw 3 rfl) (k_w hw 15 rfl) (by decide) (rm3_8 l Z a0 hw [] v3 h21 n0 Z21 ) (by decide) (by decide) e156 (by rw [hml]; rfl) (argsL := [(.int v3)]) (rest := []) (lenOf pd_2 rfl) rfl (W := 0) (Nat.le_refl _) rfl (D at_185) (by decide) (by decide) (fun T160 L160 r160 X160 q160 => ?_)
    obtain ⟨N160, e160, rfl⟩ := q160
    have N160' := Fr.app N156' N160
    show KEnds p e below s _ _ _ T160 (mkF m 188 #[iv i0, iv i1, iv i2, jv i3, s_, rv b1, iv (0 : Int32), iv (1 : Int32), iv (1 : Int32), iv v105, jv v154, s_, jv v157, s_, iv (1 : Int32), jv (0 : Int64), s_, u_, u_] ((.int (f3_8 v3)) :: []))
    obtain ⟨v161, hv161⟩ : ∃ z, z = f3_8 v3 := ⟨_, rfl⟩
    rw [← hv161]
    refine k_istore X160 hx 190 (D at_188) (Ls' := #[iv i0, iv i1, iv i2, jv i3, s_, rv b1, iv (0 : Int32), iv (1 : Int32), iv (1 : Int32), iv v105, jv v154, s_, jv v157, s_, iv (1 : Int32), jv (0 : Int64), s_, iv v161, u_]) rfl ?_
    refine k_iload X160 hx 192 (D at_190) rfl ?_
    refine k_if_eq X160 hx 195 204 (D at_192) (fun hc => absurd hc (by decide)) (fun _ => ?_)
    refine k_iload X160 hx 197 (D at_195) rfl ?_
    refine k_if_lt X160 hx 200 204 (D at_197) (fun hc162 => ?_) (fun hc162 => ?_)
    ·
     refine k_iconst X160 hx 205 (D at_204) (z := (0 : Int32)) rfl ?_
     refine k_istore X160 hx 207 (D at_205) (Ls' := #[iv i0, iv i1, iv i2, jv i3, s_, rv b1, iv (0 : Int32), iv (1 : Int32), iv (1 : Int32), iv v105, jv v154, s_, jv v157, s_, iv (0 : Int32), jv (0 : Int64), s_, iv v161, u_]) rfl ?_
     refine k_ldcL X160 hx hZ hown 210 (k_w hw 16 rfl) (D at_207) ?_
     refine k_lload X160 hx 212 (D at_210) rfl ?_
     refine k_lmulL X160 hx 213 (D at_212) (z := (0 : Int64)) (by decide) ?_
     refine k_iload X160 hx 215 (D at_213) rfl ?_
     refine k_iconst X160 hx 216 (D at_215) (z := (0 : Int32)) rfl ?_
     refine k_callS X160 hx hZ hown 219 (k_w hw 17 rfl) (k_w hw 18 rfl) (k_w hw 19 rfl) (k_w hw 20 rfl) (by decide) (rm4_9 l Z a0 hw [] v161 h21 n0 Z21 ) (by decide) (by decide) e160 (by rw [hml]; rfl) (argsL := [(.int v161), (.int (0 : Int32))]) (rest := [(.long (0 : Int64))]) (lenOf pd_3 rfl) rfl (W := 2) (Nat.le_refl _) rfl (D at_216) (by decide) (by decide) (fun T163 L163 r163 X163 q163 => ?_)
     obtain ⟨N163, e163, rfl⟩ := q163
     have N163' := Fr.app N160' N163
     show KEnds p e below s _ _ _ T163 (mkF m 219 #[iv i0, iv i1, iv i2, jv i3, s_, rv b1, iv (0 : Int32), iv (1 : Int32), iv (1 : Int32), iv v105, jv v154, s_, jv v157, s_, iv (0 : Int32), jv (0 : Int64), s_, iv v161, u_] ((.int (f4_9 v161)) :: (.long (0 : Int64)) :: []))
     obtain ⟨v164, hv164⟩ : ∃ z, z = f4_9 v161 := ⟨_, rfl⟩
     rw [← hv164]
     refine k_i2l X163 hx 220 (D at_219) (fun v165 hv165 => ?_)
     refine k_laddL X163 hx 221 (D at_220) (z := v165) (Int64.zero_add _) ?_
     refine k_lstore X163 hx 223 (D at_221) (Ls' := #[iv i0, iv i1, iv i2, jv i3, s_, rv b1, iv (0 : Int32), iv (1 : Int32), iv (1 : Int32), iv v105, jv v154, s_, jv v157, s_, iv (0 : Int32), jv v165, s_, iv v161, u_]) rfl ?_
     refine key159 T163 _ _ _ (0 : Int32) v165 v161 X163 e163 N163' (by decide) (by decide) ?_
     have B171 : (-2147483648 : Int) ≤ i2.toInt ∧ i2.toInt ≤ 2147483647 := ⟨(rng32 i2).1, Int.le_of_lt_add_one (rng32 i2).2⟩
     have B172 : (-2147483648 : Int) ≤ i0.toInt ∧ i0.toInt ≤ 2147483647 := ⟨(rng32 i0).1, Int.le_of_lt_add_one (rng32 i0).2⟩
     have B173 : (-2147483648 : Int) ≤ i1.toInt ∧ i1.toInt ≤ 2147483647 := ⟨(rng32 i1).1, Int.le_of_lt_add_one (rng32 i1).2⟩
     have B168 : (-128 : Int) ≤ v3.toInt ∧ v3.toInt ≤ 127 := (by rw [← hb4]; exact ⟨(c_i2b _).2.1, Int.le_of_lt_add_one (c_i2b _).2.2⟩)
     have q167 := own_fd v3 ⟨Int.le_trans (by decide) B168.1, Int.le_trans B168.2 (by decide)⟩; rw [← hv161] at q167
     have B166 : (-1 : Int) ≤ v161.toInt ∧ v161.toInt ≤ 9 := q167.2
     have B174 : (-1 : Int) ≤ v161.toInt ∧ v161.toInt ≤ -1 := ⟨B166.1, k_lt hc162 (by decide)⟩
     have q178 := own_mx v161 ⟨Int.le_trans (by decide) B174.1, Int.le_trans B174.2 (by decide)⟩; rw [← hv164] at q178
     have B177 : (0 : Int) ≤ v164.toInt ∧ v164.toInt ≤ 9 := q178.2
     have q176 : v165.toInt = v164.toInt := (by rw [hv165]; exact c_i2l _)
     have B175 : (0 : Int) ≤ v165.toInt ∧ v165.toInt ≤ 9 := (by rw [q176]; exact B177)
     refine ⟨⟨fun hq179 => ?_, fun hq180 => ?_⟩, ?_⟩
     · rw [Int64.lt_iff_toInt_lt, show (0 : Int64).toInt = 0 from rfl] at hq179; omega
     · rw [Int64.lt_iff_toInt_lt, show (9 : Int64).toInt = 9 from rfl] at hq180; omega
     · exact Or.inr ⟨rfl, by omega⟩
    ·
     refine k_iconst X160 hx 201 (D at_200) (z := (1 : Int32)) rfl ?_
     refine k_goto X160 hx 205 (D at_201) ?_
     refine k_istore X160 hx 207 (D at_205) (Ls' := #[iv i0, iv i1, iv i2, jv i3, s_, rv b1, iv (0 : Int32), iv (1 : Int32), iv (1 : Int32), iv v105, jv v154, s_, jv v157, s_, iv (1 : Int32), jv (0 : Int64), s_, iv v161, u_]) rfl ?_
     refine k_ldcL X160 hx hZ hown 210 (k_w hw 16 rfl) (D at_207) ?_
     refine k_lload X160 hx 212 (D at_210) rfl ?_
     refine k_lmulL X160 hx 213 (D at_212) (z := (0 : Int64)) (by decide) ?_
     refine k_iload X160 hx 215 (D at_213) rfl ?_
     refine k_iconst X160 hx 216 (D at_215) (z := (0 : Int32)) rfl ?_
     refine k_callS X160 hx hZ hown 219 (k_w hw 17 rfl) (k_w hw 18 rfl) (k_w hw 19 rfl) (k_w hw 20 rfl) (by decide) (rm4_9 l Z a0 hw [] v161 h21 n0 Z21 ) (by decide) (by decide) e160 (by rw [hml]; rfl) (argsL := [(.int v161), (.int (0 : Int32))]) (rest := [(.long (0 : Int64))]) (lenOf pd_3 rfl) rfl (W := 2) (Nat.le_refl _) rfl (D at_216) (by decide) (by decide) (fun T181 L181 r181 X181 q181 => ?_)
     obtain ⟨N181, e181, rfl⟩ := q181
     have N181' := Fr.app N160' N181
     show KEnds p e below s _ _ _ T181 (mkF m 219 #[iv i0, iv i1, iv i2, jv i3, s_, rv b1, iv (0 : Int32), iv (1 : Int32), iv (1 : Int32), iv v105, jv v154, s_, jv v157, s_, iv (1 : Int32), jv (0 : Int64), s_, iv v161, u_] ((.int (f4_9 v161)) :: (.long (0 : Int64)) :: []))
     obtain ⟨v182, hv182⟩ : ∃ z, z = f4_9 v161 := ⟨_, rfl⟩
     rw [← hv182]
     refine k_i2l X181 hx 220 (D at_219) (fun v183 hv183 => ?_)
     refine k_laddL X181 hx 221 (D at_220) (z := v183) (Int64.zero_add _) ?_
     refine k_lstore X181 hx 223 (D at_221) (Ls' := #[iv i0, iv i1, iv i2, jv i3, s_, rv b1, iv (0 : Int32), iv (1 : Int32), iv (1 : Int32), iv v105, jv v154, s_, jv v157, s_, iv (1 : Int32), jv v183, s_, iv v161, u_]) rfl ?_
     refine key159 T181 _ _ _ (1 : Int32) v183 v161 X181 e181 N181' (by decide) (by decide) ?_
     have B189 : (-2147483648 : Int) ≤ i2.toInt ∧ i2.toInt ≤ 2147483647 := ⟨(rng32 i2).1, Int.le_of_lt_add_one (rng32 i2).2⟩
     have B190 : (-2147483648 : Int) ≤ i0.toInt ∧ i0.toInt ≤ 2147483647 := ⟨(rng32 i0).1, Int.le_of_lt_add_one (rng32 i0).2⟩
     have B191 : (-2147483648 : Int) ≤ i1.toInt ∧ i1.toInt ≤ 2147483647 := ⟨(rng32 i1).1, Int.le_of_lt_add_one (rng32 i1).2⟩
     have B186 : (-128 : Int) ≤ v3.toInt ∧ v3.toInt ≤ 127 := (by rw [← hb4]; exact ⟨(c_i2b _).2.1, Int.le_of_lt_add_one (c_i2b _).2.2⟩)
     have q185 := own_fd v3 ⟨Int.le_trans (by decide) B186.1, Int.le_trans B186.2 (by decide)⟩; rw [← hv161] at q185
     have B184 : (-1 : Int) ≤ v161.toInt ∧ v161.toInt ≤ 9 := q185.2
     have B192 : (0 : Int) ≤ v161.toInt ∧ v161.toInt ≤ 9 := ⟨k_ge hc162 (by decide), B184.2⟩
     have q196 := own_mx v161 ⟨Int.le_trans (by decide) B192.1, Int.le_trans B192.2 (by decide)⟩; rw [← hv182] at q196
     have B195 : (0 : Int) ≤ v182.toInt ∧ v182.toInt ≤ 9 := q196.2
     have q194 : v183.toInt = v182.toInt := (by rw [hv183]; exact c_i2l _)
     have B193 : (0 : Int) ≤ v183.toInt ∧ v183.toInt ≤ 9 := (by rw [q194]; exact B195)
     refine ⟨⟨fun hq197 => ?_, fun hq198 => ?_⟩, ?_⟩
     · rw [Int64.lt_iff_toInt_lt, show (0 : Int64).toInt = 0 from rfl] at hq197; omega
     · rw [Int64.lt_iff_toInt_lt, show (9 : Int64).toInt = 9 from rfl] at hq198; omega
     · exact Or.inl ⟨rfl, by omega⟩
   intro T199 lo199 ce199 sl199 v200 v201 v202 X199 e199 N199 hce199 hsl199 hP203
   refine k_iload X199 hx 225 (D at_223) rfl ?_
   refine k_iconst X199 hx 226 (D at_225) (z := (1 : Int32)) rfl ?_
   refine k_icmp_le X199 hx 229 274 (D at_226) (fun _ => ?_) (fun hc => absurd hc (by decide))
   refine k_iload X199 hx 276 (D at_274) rfl ?_
   refine k_iconst X199 hx 277 (D at_276) (z := (2 : Int32)) rfl ?_
   refine k_icmp_le X199 hx 280 325 (D at_277) (fun _ => ?_) (fun hc => absurd hc (by decide))
   refine k_iload X199 hx 327 (D at_325) rfl ?_
   refine k_iconst X199 hx 328 (D at_327) (z := (3 : Int32)) rfl ?_
   refine k_icmp_le X199 hx 331 376 (D at_328) (fun _ => ?_) (fun hc => absurd hc (by decide))
   refine k_iload X199 hx 378 (D at_376) rfl ?_
   refine k_if_eq X199 hx 381 394 (D at_378) (fun hc204 => ?_) (fun hc204 => ?_)
   ·
    refine k_ldcL X199 hx hZ hown 397 (k_w hw 11 rfl) (D at_394) ?_
    refine k_lstore X199 hx 399 (D at_397) (Ls' := #[iv i0, iv i1, iv i2, jv i3, s_, rv b1, iv (0 : Int32), iv (1 : Int32), iv (1 : Int32), iv v105, jv v154, s_, jv v157, s_, iv v200, jv v201, s_, jv (-1 : Int64), s_]) rfl ?_
    refine k_lload X199 hx 401 (D at_399) rfl ?_
    refine k_lload X199 hx 403 (D at_401) rfl ?_
    refine k_lcif_ne X199 hx 407 411 404 (D at_403) (D at_404) (fun hc => absurd (Classical.byContradiction (fun hq205 => by have B206 : (0 : Int) ≤ v154.toInt ∧ v154.toInt ≤ 9223372036854775807 := ⟨kL_ge hP155 (by decide), Int.le_of_lt_add_one (rng64 v154).2⟩; have B207 : (0 : Int) ≤ v201.toInt ∧ v201.toInt ≤ 9 := ⟨kL_ge hP203.1.1 (by decide), kL_le hP203.1.2 (by decide)⟩; have B208 : (-2147483648 : Int) ≤ v200.toInt ∧ v200.toInt ≤ 2147483647 := ⟨(rng32 v200).1, Int.le_of_lt_add_one (rng32 v200).2⟩; have B209 : (0 : Int) ≤ (0 : Int32).toInt ∧ (0 : Int32).toInt ≤ 0 := (by decide); have q210 := congrArg Int32.toInt hc204; have B211 : (-9223372036854775808 : Int) ≤ v157.toInt ∧ v157.toInt ≤ 9223372036854775807 := ⟨(rng64 v157).1, Int.le_of_lt_add_one (rng64 v157).2⟩; have B212 : (-1 : Int) ≤ (-1 : Int64).toInt ∧ (-1 : Int64).toInt ≤ -1 := (by decide); have q213 : ¬ v157.toInt = (-1 : Int64).toInt := fun q => hq205 (Int64.toInt_inj.mp q); omega)) hc) (fun _ => ?_)
    refine k_iconst X199 hx 408 (D at_407) (z := (1 : Int32)) rfl ?_
    refine k_goto X199 hx 412 (D at_408) ?_
    exact k_retN X199 hx (t := .boolean) hret (by simp) (D at_412) hlk (by first | exact hce199 | exact Nat.le_trans (Nat.le_refl _) hce199) (by first | exact hsl199 | exact Nat.le_trans (Nat.le_refl _) hsl199) (z' := (1 : Int32)) rfl ⟨rfl, N199⟩
   ·
    refine k_lload X199 hx 383 (D at_381) rfl ?_
    refine k_lload X199 hx 385 (D at_383) rfl ?_
    refine k_lcif_gt X199 hx 389 394 386 (D at_385) (D at_386) (fun hc214 => ?_) (fun hc214 => ?_)
    ·
     refine k_ldcL X199 hx hZ hown 397 (k_w hw 11 rfl) (D at_394) ?_
     refine k_lstore X199 hx 399 (D at_397) (Ls' := #[iv i0, iv i1, iv i2, jv i3, s_, rv b1, iv (0 : Int32), iv (1 : Int32), iv (1 : Int32), iv v105, jv v154, s_, jv v157, s_, iv v200, jv v201, s_, jv (-1 : Int64), s_]) rfl ?_
     refine k_lload X199 hx 401 (D at_399) rfl ?_
     refine k_lload X199 hx 403 (D at_401) rfl ?_
     refine k_lcif_ne X199 hx 407 411 404 (D at_403) (D at_404) (fun hc => absurd (Classical.byContradiction (fun hq215 => by have B216 : (0 : Int) ≤ v154.toInt ∧ v154.toInt ≤ 9223372036854775807 := ⟨kL_ge hP155 (by decide), Int.le_of_lt_add_one (rng64 v154).2⟩; have B217 : (0 : Int) ≤ v201.toInt ∧ v201.toInt ≤ 9 := ⟨kL_ge hP203.1.1 (by decide), kL_le hP203.1.2 (by decide)⟩; have B218 : (-2147483648 : Int) ≤ v200.toInt ∧ v200.toInt ≤ 2147483647 := ⟨(rng32 v200).1, Int.le_of_lt_add_one (rng32 v200).2⟩; have B219 : (0 : Int) ≤ (0 : Int32).toInt ∧ (0 : Int32).toInt ≤ 0 := (by decide); have q220 : ¬ v200.toInt = (0 : Int32).toInt := fun q => hc204 (Int32.toInt_inj.mp q); have q221 := hc214; rw [Int64.lt_iff_toInt_lt] at q221; have B222 : (-9223372036854775808 : Int) ≤ v157.toInt ∧ v157.toInt ≤ 9223372036854775807 := ⟨(rng64 v157).1, Int.le_of_lt_add_one (rng64 v157).2⟩; have B223 : (-1 : Int) ≤ (-1 : Int64).toInt ∧ (-1 : Int64).toInt ≤ -1 := (by decide); have q224 : ¬ v157.toInt = (-1 : Int64).toInt := fun q => hq215 (Int64.toInt_inj.mp q); omega)) hc) (fun _ => ?_)
     refine k_iconst X199 hx 408 (D at_407) (z := (1 : Int32)) rfl ?_
     refine k_goto X199 hx 412 (D at_408) ?_
     exact k_retN X199 hx (t := .boolean) hret (by simp) (D at_412) hlk (by first | exact hce199 | exact Nat.le_trans (Nat.le_refl _) hce199) (by first | exact hsl199 | exact Nat.le_trans (Nat.le_refl _) hsl199) (z' := (1 : Int32)) rfl ⟨rfl, N199⟩
    ·
     refine k_lload X199 hx 391 (D at_389) rfl ?_
     refine k_goto X199 hx 397 (D at_391) ?_
     refine k_lstore X199 hx 399 (D at_397) (Ls' := #[iv i0, iv i1, iv i2, jv i3, s_, rv b1, iv (0 : Int32), iv (1 : Int32), iv (1 : Int32), iv v105, jv v154, s_, jv v157, s_, iv v200, jv v201, s_, jv v201, s_]) rfl ?_
     refine k_lload X199 hx 401 (D at_399) rfl ?_
     refine k_lload X199 hx 403 (D at_401) rfl ?_
     refine k_lcif_ne X199 hx 407 411 404 (D at_403) (D at_404) (fun hc => absurd (Classical.byContradiction (fun hq225 => by have B226 : (0 : Int) ≤ v154.toInt ∧ v154.toInt ≤ 9223372036854775807 := ⟨kL_ge hP155 (by decide), Int.le_of_lt_add_one (rng64 v154).2⟩; have B227 : (0 : Int) ≤ v201.toInt ∧ v201.toInt ≤ 9 := ⟨kL_ge hP203.1.1 (by decide), kL_le hP203.1.2 (by decide)⟩; have B228 : (-2147483648 : Int) ≤ v200.toInt ∧ v200.toInt ≤ 2147483647 := ⟨(rng32 v200).1, Int.le_of_lt_add_one (rng32 v200).2⟩; have B229 : (0 : Int) ≤ (0 : Int32).toInt ∧ (0 : Int32).toInt ≤ 0 := (by decide); have q230 : ¬ v200.toInt = (0 : Int32).toInt := fun q => hc204 (Int32.toInt_inj.mp q); have q231 := hc214; rw [Int64.lt_iff_toInt_lt] at q231; have B232 : (-9223372036854775808 : Int) ≤ v157.toInt ∧ v157.toInt ≤ 9223372036854775807 := ⟨(rng64 v157).1, Int.le_of_lt_add_one (rng64 v157).2⟩; have q233 : ¬ v157.toInt = v201.toInt := fun q => hq225 (Int64.toInt_inj.mp q); omega)) hc) (fun _ => ?_)
     refine k_iconst X199 hx 408 (D at_407) (z := (1 : Int32)) rfl ?_
     refine k_goto X199 hx 412 (D at_408) ?_
     exact k_retN X199 hx (t := .boolean) hret (by simp) (D at_412) hlk (by first | exact hce199 | exact Nat.le_trans (Nat.le_refl _) hce199) (by first | exact hsl199 | exact Nat.le_trans (Nat.le_refl _) hsl199) (z' := (1 : Int32)) rfl ⟨rfl, N199⟩
  ·
   show KEnds p e below s _ _ _ T21 (mkF m 76 #[iv i0, iv i1, iv i2, jv i3, s_, rv b1, iv (0 : Int32), u_, u_, u_, u_, u_, u_, u_, u_, u_, u_, u_, u_] [(.int (2 : Int32))])
   refine k_istore X21 hx 78 (D at_76) (Ls' := #[iv i0, iv i1, iv i2, jv i3, s_, rv b1, iv (0 : Int32), iv (2 : Int32), u_, u_, u_, u_, u_, u_, u_, u_, u_, u_, u_]) rfl ?_
   refine k_iload X21 hx 80 (D at_78) rfl ?_
   refine k_iload X21 hx 82 (D at_80) rfl ?_
   refine k_iaddL X21 hx 83 (D at_82) (z := (2 : Int32)) (by decide) ?_
   refine k_istore X21 hx 85 (D at_83) (Ls' := #[iv i0, iv i1, iv i2, jv i3, s_, rv b1, iv (0 : Int32), iv (2 : Int32), iv (2 : Int32), u_, u_, u_, u_, u_, u_, u_, u_, u_, u_]) rfl ?_
   refine k_iloadN X21 hx 86 (D at_85) rfl ?_
   refine k_bipush X21 hx 88 (D at_86) (z := (9 : Int32)) rfl ?_
   refine k_iushr X21 hx 89 (D at_88) (fun v235 hv235 => ?_)
   refine k_iconst X21 hx 90 (D at_89) (z := (3 : Int32)) rfl ?_
   refine k_iand X21 hx 91 (D at_90) (fun v236 hv236 => ?_)
   refine k_istore X21 hx 93 (D at_91) (Ls' := #[iv i0, iv i1, iv i2, jv i3, s_, rv b1, iv (0 : Int32), iv (2 : Int32), iv (2 : Int32), iv v236, u_, u_, u_, u_, u_, u_, u_, u_, u_]) rfl ?_
   suffices key237 : ∀ (v285 : Int64), (¬ v285 < 0) → KEnds p e below s 16 128 (Q0 n0) T21 (mkF m 147 #[iv i0, iv i1, iv i2, jv i3, s_, rv b1, iv (0 : Int32), iv (2 : Int32), iv (2 : Int32), iv v236, jv v285, s_, u_, u_, u_, u_, u_, u_, u_] []) by
    refine k_iload X21 hx 95 (D at_93) rfl ?_
    refine k_if_ne X21 hx 98 108 (D at_95) (fun hc238 => ?_) (fun hc238 => ?_)
    ·
     refine k_iload X21 hx 110 (D at_108) rfl ?_
     refine k_iconst X21 hx 111 (D at_110) (z := (1 : Int32)) rfl ?_
     refine k_icmp_ne X21 hx 114 124 (D at_111) (fun hc239 => ?_) (fun hc239 => ?_)
     ·
      refine k_iload X21 hx 126 (D at_124) rfl ?_
      refine k_iconst X21 hx 127 (D at_126) (z := (2 : Int32)) rfl ?_
      refine k_icmp_ne X21 hx 130 140 (D at_127) (fun hc240 => ?_) (fun hc240 => ?_)
      ·
       refine k_lloadN X21 hx 141 (D at_140) rfl ?_
       refine k_ldcL X21 hx hZ hown 144 (k_w hw 21 rfl) (D at_141) ?_
       refine k_land X21 hx 145 (D at_144) (fun v241 hv241 => ?_)
       refine k_lstore X21 hx 147 (D at_145) (Ls' := #[iv i0, iv i1, iv i2, jv i3, s_, rv b1, iv (0 : Int32), iv (2 : Int32), iv (2 : Int32), iv v236, jv v241, s_, u_, u_, u_, u_, u_, u_, u_]) rfl ?_
       refine key237 v241 ?_
       intro hq247
       have B250 : (-9223372036854775808 : Int) ≤ i3.toInt ∧ i3.toInt ≤ 9223372036854775807 := ⟨(rng64 i3).1, Int.le_of_lt_add_one (rng64 i3).2⟩
       have q249 : v241.toInt = i3.toInt % 16 := (by rw [hv241]; exact c_maskL _ _ 4 (by decide) (by decide))
       have B248 : (0 : Int) ≤ v241.toInt ∧ v241.toInt ≤ 15 := (by rw [q249]; exact k_modB (by decide))
       have B251 : (0 : Int) ≤ v241.toInt ∧ v241.toInt ≤ -1 := ⟨B248.1, kL_lt hq247 (by decide)⟩
       omega
      ·
       refine k_lloadN X21 hx 131 (D at_130) rfl ?_
       refine k_ldcL X21 hx hZ hown 134 (k_w hw 23 rfl) (D at_131) ?_
       refine k_land X21 hx 135 (D at_134) (fun v252 hv252 => ?_)
       refine k_lstore X21 hx 137 (D at_135) (Ls' := #[iv i0, iv i1, iv i2, jv i3, s_, rv b1, iv (0 : Int32), iv (2 : Int32), iv (2 : Int32), iv v236, jv v252, s_, u_, u_, u_, u_, u_, u_, u_]) rfl ?_
       refine k_goto X21 hx 147 (D at_137) ?_
       refine key237 v252 ?_
       intro hq258
       have B261 : (-9223372036854775808 : Int) ≤ i3.toInt ∧ i3.toInt ≤ 9223372036854775807 := ⟨(rng64 i3).1, Int.le_of_lt_add_one (rng64 i3).2⟩
       have q260 : v252.toInt = i3.toInt % 128 := (by rw [hv252]; exact c_maskL _ _ 7 (by decide) (by decide))
       have B259 : (0 : Int) ≤ v252.toInt ∧ v252.toInt ≤ 127 := (by rw [q260]; exact k_modB (by decide))
       have B262 : (0 : Int) ≤ v252.toInt ∧ v252.toInt ≤ -1 := ⟨B259.1, kL_lt hq258 (by decide)⟩
       omega
     ·
      refine k_lloadN X21 hx 115 (D at_114) rfl ?_
      refine k_ldcL X21 hx hZ hown 118 (k_w hw 22 rfl) (D at_115) ?_
      refine k_land X21 hx 119 (D at_118) (fun v263 hv263 => ?_)
      refine k_lstore X21 hx 121 (D at_119) (Ls' := #[iv i0, iv i1, iv i2, jv i3, s_, rv b1, iv (0 : Int32), iv (2 : Int32), iv (2 : Int32), iv v236, jv v263, s_, u_, u_, u_, u_, u_, u_, u_]) rfl ?_
      refine k_goto X21 hx 147 (D at_121) ?_
      refine key237 v263 ?_
      intro hq269
      have B272 : (-9223372036854775808 : Int) ≤ i3.toInt ∧ i3.toInt ≤ 9223372036854775807 := ⟨(rng64 i3).1, Int.le_of_lt_add_one (rng64 i3).2⟩
      have q271 : v263.toInt = i3.toInt % 16384 := (by rw [hv263]; exact c_maskL _ _ 14 (by decide) (by decide))
      have B270 : (0 : Int) ≤ v263.toInt ∧ v263.toInt ≤ 16383 := (by rw [q271]; exact k_modB (by decide))
      have B273 : (0 : Int) ≤ v263.toInt ∧ v263.toInt ≤ -1 := ⟨B270.1, kL_lt hq269 (by decide)⟩
      omega
    ·
     refine k_lloadN X21 hx 99 (D at_98) rfl ?_
     refine k_ldcL X21 hx hZ hown 102 (k_w hw 5 rfl) (D at_99) ?_
     refine k_land X21 hx 103 (D at_102) (fun v274 hv274 => ?_)
     refine k_lstore X21 hx 105 (D at_103) (Ls' := #[iv i0, iv i1, iv i2, jv i3, s_, rv b1, iv (0 : Int32), iv (2 : Int32), iv (2 : Int32), iv v236, jv v274, s_, u_, u_, u_, u_, u_, u_, u_]) rfl ?_
     refine k_goto X21 hx 147 (D at_105) ?_
     refine key237 v274 ?_
     intro hq280
     have B283 : (-9223372036854775808 : Int) ≤ i3.toInt ∧ i3.toInt ≤ 9223372036854775807 := ⟨(rng64 i3).1, Int.le_of_lt_add_one (rng64 i3).2⟩
     have q282 : v274.toInt = i3.toInt % 9223372036854775808 := (by rw [hv274]; exact c_maskL _ _ 63 (by decide) (by decide))
     have B281 : (0 : Int) ≤ v274.toInt ∧ v274.toInt ≤ 9223372036854775807 := (by rw [q282]; exact k_modB (by decide))
     have B284 : (0 : Int) ≤ v274.toInt ∧ v274.toInt ≤ -1 := ⟨B281.1, kL_lt hq280 (by decide)⟩
     omega
   intro v285 hP286
   refine k_aload X21 hx 149 (D at_147) rfl rfl ?_
   refine k_iload X21 hx 151 (D at_149) rfl ?_
   refine k_iload X21 hx 153 (D at_151) rfl ?_
   refine k_lload X21 hx 155 (D at_153) rfl ?_
   refine k_callS X21 hx hZ hown 158 (k_w hw 6 rfl) (k_w hw 7 rfl) (k_w hw 8 rfl) (k_w hw 9 rfl) (by decide) (rm2_10 l Z a0 hw [] b1 v285 k1 v3 v7 v11 v15 v19 h21 n0 Z21 Vw21 hP286 (k_by1 hb4) (k_by2 hb4) (k_by1 hb8) (k_by2 hb8)) (by decide) (by decide) e21 (by rw [hml]; rfl) (argsL := [(.ref b1), (.int (0 : Int32)), (.int (2 : Int32)), (.long v285)]) (rest := []) (lenOf pd_1 rfl) rfl (W := 0) (Nat.le_refl _) rfl (D at_155) (by decide) (by decide) (fun T287 L287 r287 X287 q287 => ?_)
   obtain ⟨N287, e287, v288, rfl, hS289⟩ := q287
   have N287' := Fr.app N21 N287
   show KEnds p e below s _ _ _ T287 (mkF m 158 #[iv i0, iv i1, iv i2, jv i3, s_, rv b1, iv (0 : Int32), iv (2 : Int32), iv (2 : Int32), iv v236, jv v285, s_, u_, u_, u_, u_, u_, u_, u_] [(.long v288)])
   refine k_lstore X287 hx 160 (D at_158) (Ls' := #[iv i0, iv i1, iv i2, jv i3, s_, rv b1, iv (0 : Int32), iv (2 : Int32), iv (2 : Int32), iv v236, jv v285, s_, jv v288, s_, u_, u_, u_, u_, u_]) rfl ?_
   refine k_iload X287 hx 162 (D at_160) rfl ?_
   refine k_if_le X287 hx 165 169 (D at_162) (fun hc => absurd (by decide) hc) (fun _ => ?_)
   refine k_iconst X287 hx 166 (D at_165) (z := (1 : Int32)) rfl ?_
   refine k_goto X287 hx 170 (D at_166) ?_
   refine k_istore X287 hx 172 (D at_170) (Ls' := #[iv i0, iv i1, iv i2, jv i3, s_, rv b1, iv (0 : Int32), iv (2 : Int32), iv (2 : Int32), iv v236, jv v285, s_, jv v288, s_, iv (1 : Int32), u_, u_, u_, u_]) rfl ?_
   refine k_lconst X287 hx 173 (D at_172) (z := (0 : Int64)) rfl ?_
   refine k_lstore X287 hx 175 (D at_173) (Ls' := #[iv i0, iv i1, iv i2, jv i3, s_, rv b1, iv (0 : Int32), iv (2 : Int32), iv (2 : Int32), iv v236, jv v285, s_, jv v288, s_, iv (1 : Int32), jv (0 : Int64), s_, u_, u_]) rfl ?_
   refine k_iload X287 hx 177 (D at_175) rfl ?_
   refine k_if_le X287 hx 180 223 (D at_177) (fun hc => absurd (by decide) hc) (fun _ => ?_)
   suffices key290 : ∀ (T330 : State) (lo330 : List Loc) (ce330 sl330 : Nat) (v331 : Int32) (v332 : Int64) (v333 : Int32), Stand p l e room_1 s m #[(.int i0), (.int i1), (.int i2), (.long i3)] below meth c T330 lo330 ce330 sl330 → T330.heap = h21 → Fr n0 lo330 → ce330 ≤ 16 → sl330 ≤ 128 → ((¬ v332 < 0 ∧ ¬ (9 : Int64) < v332) ∧ ((v331.toInt = 1 ∧ ((48 ≤ v3.toInt ∧ v3.toInt ≤ 57)) ∧ v332.toInt = 1 * (v3.toInt - 48)) ∨ (v331.toInt = 0 ∧ ¬ ((48 ≤ v3.toInt ∧ v3.toInt ≤ 57))))) → KEnds p e below s 16 128 (Q0 n0) T330 (mkF m 223 #[iv i0, iv i1, iv i2, jv i3, s_, rv b1, iv (0 : Int32), iv (2 : Int32), iv (2 : Int32), iv v236, jv v285, s_, jv v288, s_, iv v331, jv v332, s_, iv v333, u_] []) by
    refine k_aload X287 hx 182 (D at_180) rfl rfl ?_
    refine k_iload X287 hx 184 (D at_182) rfl ?_
    refine k_baload X287 hx hZ 185 e287 Vw21 ⟨by decide, by decide⟩ (v := (.int v3)) rfl (D at_184) ?_
    refine k_callS X287 hx hZ hown 188 (k_w hw 13 rfl) (k_w hw 14 rfl) (k_w hw 3 rfl) (k_w hw 15 rfl) (by decide) (rm3_8 l Z a0 hw [] v3 h21 n0 Z21 ) (by decide) (by decide) e287 (by rw [hml]; rfl) (argsL := [(.int v3)]) (rest := []) (lenOf pd_2 rfl) rfl (W := 0) (Nat.le_refl _) rfl (D at_185) (by decide) (by decide) (fun T291 L291 r291 X291 q291 => ?_)
    obtain ⟨N291, e291, rfl⟩ := q291
    have N291' := Fr.app N287' N291
    show KEnds p e below s _ _ _ T291 (mkF m 188 #[iv i0, iv i1, iv i2, jv i3, s_, rv b1, iv (0 : Int32), iv (2 : Int32), iv (2 : Int32), iv v236, jv v285, s_, jv v288, s_, iv (1 : Int32), jv (0 : Int64), s_, u_, u_] ((.int (f3_8 v3)) :: []))
    obtain ⟨v292, hv292⟩ : ∃ z, z = f3_8 v3 := ⟨_, rfl⟩
    rw [← hv292]
    refine k_istore X291 hx 190 (D at_188) (Ls' := #[iv i0, iv i1, iv i2, jv i3, s_, rv b1, iv (0 : Int32), iv (2 : Int32), iv (2 : Int32), iv v236, jv v285, s_, jv v288, s_, iv (1 : Int32), jv (0 : Int64), s_, iv v292, u_]) rfl ?_
    refine k_iload X291 hx 192 (D at_190) rfl ?_
    refine k_if_eq X291 hx 195 204 (D at_192) (fun hc => absurd hc (by decide)) (fun _ => ?_)
    refine k_iload X291 hx 197 (D at_195) rfl ?_
    refine k_if_lt X291 hx 200 204 (D at_197) (fun hc293 => ?_) (fun hc293 => ?_)
    ·
     refine k_iconst X291 hx 205 (D at_204) (z := (0 : Int32)) rfl ?_
     refine k_istore X291 hx 207 (D at_205) (Ls' := #[iv i0, iv i1, iv i2, jv i3, s_, rv b1, iv (0 : Int32), iv (2 : Int32), iv (2 : Int32), iv v236, jv v285, s_, jv v288, s_, iv (0 : Int32), jv (0 : Int64), s_, iv v292, u_]) rfl ?_
     refine k_ldcL X291 hx hZ hown 210 (k_w hw 16 rfl) (D at_207) ?_
     refine k_lload X291 hx 212 (D at_210) rfl ?_
     refine k_lmulL X291 hx 213 (D at_212) (z := (0 : Int64)) (by decide) ?_
     refine k_iload X291 hx 215 (D at_213) rfl ?_
     refine k_iconst X291 hx 216 (D at_215) (z := (0 : Int32)) rfl ?_
     refine k_callS X291 hx hZ hown 219 (k_w hw 17 rfl) (k_w hw 18 rfl) (k_w hw 19 rfl) (k_w hw 20 rfl) (by decide) (rm4_9 l Z a0 hw [] v292 h21 n0 Z21 ) (by decide) (by decide) e291 (by rw [hml]; rfl) (argsL := [(.int v292), (.int (0 : Int32))]) (rest := [(.long (0 : Int64))]) (lenOf pd_3 rfl) rfl (W := 2) (Nat.le_refl _) rfl (D at_216) (by decide) (by decide) (fun T294 L294 r294 X294 q294 => ?_)
     obtain ⟨N294, e294, rfl⟩ := q294
     have N294' := Fr.app N291' N294
     show KEnds p e below s _ _ _ T294 (mkF m 219 #[iv i0, iv i1, iv i2, jv i3, s_, rv b1, iv (0 : Int32), iv (2 : Int32), iv (2 : Int32), iv v236, jv v285, s_, jv v288, s_, iv (0 : Int32), jv (0 : Int64), s_, iv v292, u_] ((.int (f4_9 v292)) :: (.long (0 : Int64)) :: []))
     obtain ⟨v295, hv295⟩ : ∃ z, z = f4_9 v292 := ⟨_, rfl⟩
     rw [← hv295]
     refine k_i2l X294 hx 220 (D at_219) (fun v296 hv296 => ?_)
     refine k_laddL X294 hx 221 (D at_220) (z := v296) (Int64.zero_add _) ?_
     refine k_lstore X294 hx 223 (D at_221) (Ls' := #[iv i0, iv i1, iv i2, jv i3, s_, rv b1, iv (0 : Int32), iv (2 : Int32), iv (2 : Int32), iv v236, jv v285, s_, jv v288, s_, iv (0 : Int32), jv v296, s_, iv v292, u_]) rfl ?_
     refine key290 T294 _ _ _ (0 : Int32) v296 v292 X294 e294 N294' (by decide) (by decide) ?_
     have B302 : (-2147483648 : Int) ≤ i2.toInt ∧ i2.toInt ≤ 2147483647 := ⟨(rng32 i2).1, Int.le_of_lt_add_one (rng32 i2).2⟩
     have B303 : (-2147483648 : Int) ≤ i0.toInt ∧ i0.toInt ≤ 2147483647 := ⟨(rng32 i0).1, Int.le_of_lt_add_one (rng32 i0).2⟩
     have B304 : (-2147483648 : Int) ≤ i1.toInt ∧ i1.toInt ≤ 2147483647 := ⟨(rng32 i1).1, Int.le_of_lt_add_one (rng32 i1).2⟩
     have B299 : (-128 : Int) ≤ v3.toInt ∧ v3.toInt ≤ 127 := (by rw [← hb4]; exact ⟨(c_i2b _).2.1, Int.le_of_lt_add_one (c_i2b _).2.2⟩)
     have q298 := own_fd v3 ⟨Int.le_trans (by decide) B299.1, Int.le_trans B299.2 (by decide)⟩; rw [← hv292] at q298
     have B297 : (-1 : Int) ≤ v292.toInt ∧ v292.toInt ≤ 9 := q298.2
     have B305 : (-1 : Int) ≤ v292.toInt ∧ v292.toInt ≤ -1 := ⟨B297.1, k_lt hc293 (by decide)⟩
     have q309 := own_mx v292 ⟨Int.le_trans (by decide) B305.1, Int.le_trans B305.2 (by decide)⟩; rw [← hv295] at q309
     have B308 : (0 : Int) ≤ v295.toInt ∧ v295.toInt ≤ 9 := q309.2
     have q307 : v296.toInt = v295.toInt := (by rw [hv296]; exact c_i2l _)
     have B306 : (0 : Int) ≤ v296.toInt ∧ v296.toInt ≤ 9 := (by rw [q307]; exact B308)
     refine ⟨⟨fun hq310 => ?_, fun hq311 => ?_⟩, ?_⟩
     · rw [Int64.lt_iff_toInt_lt, show (0 : Int64).toInt = 0 from rfl] at hq310; omega
     · rw [Int64.lt_iff_toInt_lt, show (9 : Int64).toInt = 9 from rfl] at hq311; omega
     · exact Or.inr ⟨rfl, by omega⟩
    ·
     refine k_iconst X291 hx 201 (D at_200) (z := (1 : Int32)) rfl ?_
     refine k_goto X291 hx 205 (D at_201) ?_
     refine k_istore X291 hx 207 (D at_205) (Ls' := #[iv i0, iv i1, iv i2, jv i3, s_, rv b1, iv (0 : Int32), iv (2 : Int32), iv (2 : Int32), iv v236, jv v285, s_, jv v288, s_, iv (1 : Int32), jv (0 : Int64), s_, iv v292, u_]) rfl ?_
     refine k_ldcL X291 hx hZ hown 210 (k_w hw 16 rfl) (D at_207) ?_
     refine k_lload X291 hx 212 (D at_210) rfl ?_
     refine k_lmulL X291 hx 213 (D at_212) (z := (0 : Int64)) (by decide) ?_
     refine k_iload X291 hx 215 (D at_213) rfl ?_
     refine k_iconst X291 hx 216 (D at_215) (z := (0 : Int32)) rfl ?_
     refine k_callS X291 hx hZ hown 219 (k_w hw 17 rfl) (k_w hw 18 rfl) (k_w hw 19 rfl) (k_w hw 20 rfl) (by decide) (rm4_9 l Z a0 hw [] v292 h21 n0 Z21 ) (by decide) (by decide) e291 (by rw [hml]; rfl) (argsL := [(.int v292), (.int (0 : Int32))]) (rest := [(.long (0 : Int64))]) (lenOf pd_3 rfl) rfl (W := 2) (Nat.le_refl _) rfl (D at_216) (by decide) (by decide) (fun T312 L312 r312 X312 q312 => ?_)
     obtain ⟨N312, e312, rfl⟩ := q312
     have N312' := Fr.app N291' N312
     show KEnds p e below s _ _ _ T312 (mkF m 219 #[iv i0, iv i1, iv i2, jv i3, s_, rv b1, iv (0 : Int32), iv (2 : Int32), iv (2 : Int32), iv v236, jv v285, s_, jv v288, s_, iv (1 : Int32), jv (0 : Int64), s_, iv v292, u_] ((.int (f4_9 v292)) :: (.long (0 : Int64)) :: []))
     obtain ⟨v313, hv313⟩ : ∃ z, z = f4_9 v292 := ⟨_, rfl⟩
     rw [← hv313]
     refine k_i2l X312 hx 220 (D at_219) (fun v314 hv314 => ?_)
     refine k_laddL X312 hx 221 (D at_220) (z := v314) (Int64.zero_add _) ?_
     refine k_lstore X312 hx 223 (D at_221) (Ls' := #[iv i0, iv i1, iv i2, jv i3, s_, rv b1, iv (0 : Int32), iv (2 : Int32), iv (2 : Int32), iv v236, jv v285, s_, jv v288, s_, iv (1 : Int32), jv v314, s_, iv v292, u_]) rfl ?_
     refine key290 T312 _ _ _ (1 : Int32) v314 v292 X312 e312 N312' (by decide) (by decide) ?_
     have B320 : (-2147483648 : Int) ≤ i2.toInt ∧ i2.toInt ≤ 2147483647 := ⟨(rng32 i2).1, Int.le_of_lt_add_one (rng32 i2).2⟩
     have B321 : (-2147483648 : Int) ≤ i0.toInt ∧ i0.toInt ≤ 2147483647 := ⟨(rng32 i0).1, Int.le_of_lt_add_one (rng32 i0).2⟩
     have B322 : (-2147483648 : Int) ≤ i1.toInt ∧ i1.toInt ≤ 2147483647 := ⟨(rng32 i1).1, Int.le_of_lt_add_one (rng32 i1).2⟩
     have B317 : (-128 : Int) ≤ v3.toInt ∧ v3.toInt ≤ 127 := (by rw [← hb4]; exact ⟨(c_i2b _).2.1, Int.le_of_lt_add_one (c_i2b _).2.2⟩)
     have q316 := own_fd v3 ⟨Int.le_trans (by decide) B317.1, Int.le_trans B317.2 (by decide)⟩; rw [← hv292] at q316
     have B315 : (-1 : Int) ≤ v292.toInt ∧ v292.toInt ≤ 9 := q316.2
     have B323 : (0 : Int) ≤ v292.toInt ∧ v292.toInt ≤ 9 := ⟨k_ge hc293 (by decide), B315.2⟩
     have q327 := own_mx v292 ⟨Int.le_trans (by decide) B323.1, Int.le_trans B323.2 (by decide)⟩; rw [← hv313] at q327
     have B326 : (0 : Int) ≤ v313.toInt ∧ v313.toInt ≤ 9 := q327.2
     have q325 : v314.toInt = v313.toInt := (by rw [hv314]; exact c_i2l _)
     have B324 : (0 : Int) ≤ v314.toInt ∧ v314.toInt ≤ 9 := (by rw [q325]; exact B326)
     refine ⟨⟨fun hq328 => ?_, fun hq329 => ?_⟩, ?_⟩
     · rw [Int64.lt_iff_toInt_lt, show (0 : Int64).toInt = 0 from rfl] at hq328; omega
     · rw [Int64.lt_iff_toInt_lt, show (9 : Int64).toInt = 9 from rfl] at hq329; omega
     · exact Or.inl ⟨rfl, by omega⟩
   intro T330 lo330 ce330 sl330 v331 v332 v333 X330 e330 N330 hce330 hsl330 hP334
   refine k_iload X330 hx 225 (D at_223) rfl ?_
   refine k_iconst X330 hx 226 (D at_225) (z := (1 : Int32)) rfl ?_
   refine k_icmp_le X330 hx 229 274 (D at_226) (fun hc => absurd (by decide) hc) (fun _ => ?_)
   suffices key335 : ∀ (T426 : State) (lo426 : List Loc) (ce426 sl426 : Nat) (v427 : Int32) (v428 : Int64) (v429 : Int32), Stand p l e room_1 s m #[(.int i0), (.int i1), (.int i2), (.long i3)] below meth c T426 lo426 ce426 sl426 → T426.heap = h21 → Fr n0 lo426 → ce426 ≤ 16 → sl426 ≤ 128 → ((¬ v428 < 0 ∧ ¬ (99 : Int64) < v428) ∧ ((v427.toInt = 1 ∧ ((48 ≤ v3.toInt ∧ v3.toInt ≤ 57) ∧ (48 ≤ v7.toInt ∧ v7.toInt ≤ 57)) ∧ v428.toInt = 10 * (v3.toInt - 48) + 1 * (v7.toInt - 48)) ∨ (v427.toInt = 0 ∧ ¬ ((48 ≤ v3.toInt ∧ v3.toInt ≤ 57) ∧ (48 ≤ v7.toInt ∧ v7.toInt ≤ 57))))) → KEnds p e below s 16 128 (Q0 n0) T426 (mkF m 274 #[iv i0, iv i1, iv i2, jv i3, s_, rv b1, iv (0 : Int32), iv (2 : Int32), iv (2 : Int32), iv v236, jv v285, s_, jv v288, s_, iv v427, jv v428, s_, iv v429, u_] []) by
    refine k_aload X330 hx 231 (D at_229) rfl rfl ?_
    refine k_iload X330 hx 233 (D at_231) rfl ?_
    refine k_iconst X330 hx 234 (D at_233) (z := (1 : Int32)) rfl ?_
    refine k_iaddL X330 hx 235 (D at_234) (z := (1 : Int32)) (by decide) ?_
    refine k_baload X330 hx hZ 236 e330 Vw21 ⟨by decide, by decide⟩ (v := (.int v7)) rfl (D at_235) ?_
    refine k_callS X330 hx hZ hown 239 (k_w hw 13 rfl) (k_w hw 14 rfl) (k_w hw 3 rfl) (k_w hw 15 rfl) (by decide) (rm3_8 l Z a0 hw [] v7 h21 n0 Z21 ) (by decide) (by decide) e330 (by rw [hml]; rfl) (argsL := [(.int v7)]) (rest := []) (lenOf pd_2 rfl) rfl (W := 0) (Nat.le_refl _) rfl (D at_236) (by show _ + 0 ≤ _; exact Nat.le_trans hce330 (by decide)) (by show _ + 0 ≤ _; exact Nat.le_trans hsl330 (by decide)) (fun T336 L336 r336 X336 q336 => ?_)
    obtain ⟨N336, e336, rfl⟩ := q336
    have N336' := Fr.app N330 N336
    show KEnds p e below s _ _ _ T336 (mkF m 239 #[iv i0, iv i1, iv i2, jv i3, s_, rv b1, iv (0 : Int32), iv (2 : Int32), iv (2 : Int32), iv v236, jv v285, s_, jv v288, s_, iv v331, jv v332, s_, iv v333, u_] ((.int (f3_8 v7)) :: []))
    obtain ⟨v337, hv337⟩ : ∃ z, z = f3_8 v7 := ⟨_, rfl⟩
    rw [← hv337]
    refine k_istore X336 hx 241 (D at_239) (Ls' := #[iv i0, iv i1, iv i2, jv i3, s_, rv b1, iv (0 : Int32), iv (2 : Int32), iv (2 : Int32), iv v236, jv v285, s_, jv v288, s_, iv v331, jv v332, s_, iv v337, u_]) rfl ?_
    refine k_iload X336 hx 243 (D at_241) rfl ?_
    refine k_if_eq X336 hx 246 255 (D at_243) (fun hc338 => ?_) (fun hc338 => ?_)
    ·
     refine k_iconst X336 hx 256 (D at_255) (z := (0 : Int32)) rfl ?_
     refine k_istore X336 hx 258 (D at_256) (Ls' := #[iv i0, iv i1, iv i2, jv i3, s_, rv b1, iv (0 : Int32), iv (2 : Int32), iv (2 : Int32), iv v236, jv v285, s_, jv v288, s_, iv (0 : Int32), jv v332, s_, iv v337, u_]) rfl ?_
     refine k_ldcL X336 hx hZ hown 261 (k_w hw 16 rfl) (D at_258) ?_
     refine k_lload X336 hx 263 (D at_261) rfl ?_
     refine k_lmul X336 hx 264 (D at_263) (fun v339 hv339 => ?_)
     refine k_iload X336 hx 266 (D at_264) rfl ?_
     refine k_iconst X336 hx 267 (D at_266) (z := (0 : Int32)) rfl ?_
     refine k_callS X336 hx hZ hown 270 (k_w hw 17 rfl) (k_w hw 18 rfl) (k_w hw 19 rfl) (k_w hw 20 rfl) (by decide) (rm4_9 l Z a0 hw [] v337 h21 n0 Z21 ) (by decide) (by decide) e336 (by rw [hml]; rfl) (argsL := [(.int v337), (.int (0 : Int32))]) (rest := [(.long v339)]) (lenOf pd_3 rfl) rfl (W := 2) (Nat.le_refl _) rfl (D at_267) (by show _ + 0 ≤ _; exact Nat.le_trans hce330 (by decide)) (by show _ + 0 ≤ _; exact Nat.le_trans hsl330 (by decide)) (fun T340 L340 r340 X340 q340 => ?_)
     obtain ⟨N340, e340, rfl⟩ := q340
     have N340' := Fr.app N336' N340
     show KEnds p e below s _ _ _ T340 (mkF m 270 #[iv i0, iv i1, iv i2, jv i3, s_, rv b1, iv (0 : Int32), iv (2 : Int32), iv (2 : Int32), iv v236, jv v285, s_, jv v288, s_, iv (0 : Int32), jv v332, s_, iv v337, u_] ((.int (f4_9 v337)) :: (.long v339) :: []))
     obtain ⟨v341, hv341⟩ : ∃ z, z = f4_9 v337 := ⟨_, rfl⟩
     rw [← hv341]
     refine k_i2l X340 hx 271 (D at_270) (fun v342 hv342 => ?_)
     refine k_ladd X340 hx 272 (D at_271) (fun v343 hv343 => ?_)
     refine k_lstore X340 hx 274 (D at_272) (Ls' := #[iv i0, iv i1, iv i2, jv i3, s_, rv b1, iv (0 : Int32), iv (2 : Int32), iv (2 : Int32), iv v236, jv v285, s_, jv v288, s_, iv (0 : Int32), jv v343, s_, iv v337, u_]) rfl ?_
     refine key335 T340 _ _ _ (0 : Int32) v343 v337 X340 e340 N340' hce330 hsl330 ?_
     have B344 : (0 : Int) ≤ v332.toInt ∧ v332.toInt ≤ 9 := ⟨kL_ge hP334.1.1 (by decide), kL_le hP334.1.2 (by decide)⟩
     have B345 : (-2147483648 : Int) ≤ v331.toInt ∧ v331.toInt ≤ 2147483647 := ⟨(rng32 v331).1, Int.le_of_lt_add_one (rng32 v331).2⟩
     have B346 : (0 : Int) ≤ (0 : Int32).toInt ∧ (0 : Int32).toInt ≤ 0 := (by decide)
     have q347 := congrArg Int32.toInt hc338
     have B352 : (10 : Int) ≤ (10 : Int64).toInt ∧ (10 : Int64).toInt ≤ 10 := (by decide)
     have q351 : v339.toInt = 10 * v332.toInt := (by have q0 := c_lmul (10 : Int64) v332; have q1 := rng64 v339; have q2 := B344; rw [← hv339] at q0; rw [show (10 : Int64).toInt = 10 from (by decide)] at q0; omega)
     have B350 : (0 : Int) ≤ v339.toInt ∧ v339.toInt ≤ 90 := (by rw [q351]; exact k_mulB B344 (by decide))
     have B362 : (-2147483648 : Int) ≤ i2.toInt ∧ i2.toInt ≤ 2147483647 := ⟨(rng32 i2).1, Int.le_of_lt_add_one (rng32 i2).2⟩
     have B363 : (-2147483648 : Int) ≤ i0.toInt ∧ i0.toInt ≤ 2147483647 := ⟨(rng32 i0).1, Int.le_of_lt_add_one (rng32 i0).2⟩
     have B364 : (-2147483648 : Int) ≤ i1.toInt ∧ i1.toInt ≤ 2147483647 := ⟨(rng32 i1).1, Int.le_of_lt_add_one (rng32 i1).2⟩
     have B359 : (-128 : Int) ≤ v7.toInt ∧ v7.toInt ≤ 127 := (by rw [← hb8]; exact ⟨(c_i2b _).2.1, Int.le_of_lt_add_one (c_i2b _).2.2⟩)
     have q358 := own_fd v7 ⟨Int.le_trans (by decide) B359.1, Int.le_trans B359.2 (by decide)⟩; rw [← hv337] at q358
     have B357 : (-1 : Int) ≤ v337.toInt ∧ v337.toInt ≤ 9 := q358.2
     have q356 := own_mx v337 ⟨Int.le_trans (by decide) B357.1, Int.le_trans B357.2 (by decide)⟩; rw [← hv341] at q356
     have B355 : (0 : Int) ≤ v341.toInt ∧ v341.toInt ≤ 9 := q356.2
     have q354 : v342.toInt = v341.toInt := (by rw [hv342]; exact c_i2l _)
     have B353 : (0 : Int) ≤ v342.toInt ∧ v342.toInt ≤ 9 := (by rw [q354]; exact B355)
     have q349 : v343.toInt = v339.toInt + v342.toInt := k_laddx hv343 B350 B353 (by decide) (by decide)
     have B348 : (0 : Int) ≤ v343.toInt ∧ v343.toInt ≤ 99 := k_addB q349 B350 B353
     refine ⟨⟨fun hq365 => ?_, fun hq366 => ?_⟩, ?_⟩
     · rw [Int64.lt_iff_toInt_lt, show (0 : Int64).toInt = 0 from rfl] at hq365; omega
     · rw [Int64.lt_iff_toInt_lt, show (99 : Int64).toInt = 99 from rfl] at hq366; omega
     · exact Or.inr ⟨rfl, by omega⟩
    ·
     refine k_iload X336 hx 248 (D at_246) rfl ?_
     refine k_if_lt X336 hx 251 255 (D at_248) (fun hc367 => ?_) (fun hc367 => ?_)
     ·
      refine k_iconst X336 hx 256 (D at_255) (z := (0 : Int32)) rfl ?_
      refine k_istore X336 hx 258 (D at_256) (Ls' := #[iv i0, iv i1, iv i2, jv i3, s_, rv b1, iv (0 : Int32), iv (2 : Int32), iv (2 : Int32), iv v236, jv v285, s_, jv v288, s_, iv (0 : Int32), jv v332, s_, iv v337, u_]) rfl ?_
      refine k_ldcL X336 hx hZ hown 261 (k_w hw 16 rfl) (D at_258) ?_
      refine k_lload X336 hx 263 (D at_261) rfl ?_
      refine k_lmul X336 hx 264 (D at_263) (fun v368 hv368 => ?_)
      refine k_iload X336 hx 266 (D at_264) rfl ?_
      refine k_iconst X336 hx 267 (D at_266) (z := (0 : Int32)) rfl ?_
      refine k_callS X336 hx hZ hown 270 (k_w hw 17 rfl) (k_w hw 18 rfl) (k_w hw 19 rfl) (k_w hw 20 rfl) (by decide) (rm4_9 l Z a0 hw [] v337 h21 n0 Z21 ) (by decide) (by decide) e336 (by rw [hml]; rfl) (argsL := [(.int v337), (.int (0 : Int32))]) (rest := [(.long v368)]) (lenOf pd_3 rfl) rfl (W := 2) (Nat.le_refl _) rfl (D at_267) (by show _ + 0 ≤ _; exact Nat.le_trans hce330 (by decide)) (by show _ + 0 ≤ _; exact Nat.le_trans hsl330 (by decide)) (fun T369 L369 r369 X369 q369 => ?_)
      obtain ⟨N369, e369, rfl⟩ := q369
      have N369' := Fr.app N336' N369
      show KEnds p e below s _ _ _ T369 (mkF m 270 #[iv i0, iv i1, iv i2, jv i3, s_, rv b1, iv (0 : Int32), iv (2 : Int32), iv (2 : Int32), iv v236, jv v285, s_, jv v288, s_, iv (0 : Int32), jv v332, s_, iv v337, u_] ((.int (f4_9 v337)) :: (.long v368) :: []))
      obtain ⟨v370, hv370⟩ : ∃ z, z = f4_9 v337 := ⟨_, rfl⟩
      rw [← hv370]
      refine k_i2l X369 hx 271 (D at_270) (fun v371 hv371 => ?_)
      refine k_ladd X369 hx 272 (D at_271) (fun v372 hv372 => ?_)
      refine k_lstore X369 hx 274 (D at_272) (Ls' := #[iv i0, iv i1, iv i2, jv i3, s_, rv b1, iv (0 : Int32), iv (2 : Int32), iv (2 : Int32), iv v236, jv v285, s_, jv v288, s_, iv (0 : Int32), jv v372, s_, iv v337, u_]) rfl ?_
      refine key335 T369 _ _ _ (0 : Int32) v372 v337 X369 e369 N369' hce330 hsl330 ?_
      have B373 : (0 : Int) ≤ v332.toInt ∧ v332.toInt ≤ 9 := ⟨kL_ge hP334.1.1 (by decide), kL_le hP334.1.2 (by decide)⟩
      have B374 : (-2147483648 : Int) ≤ v331.toInt ∧ v331.toInt ≤ 2147483647 := ⟨(rng32 v331).1, Int.le_of_lt_add_one (rng32 v331).2⟩
      have B375 : (0 : Int) ≤ (0 : Int32).toInt ∧ (0 : Int32).toInt ≤ 0 := (by decide)
      have q376 : ¬ v331.toInt = (0 : Int32).toInt := fun q => hc338 (Int32.toInt_inj.mp q)
      have B382 : (-2147483648 : Int) ≤ i2.toInt ∧ i2.toInt ≤ 2147483647 := ⟨(rng32 i2).1, Int.le_of_lt_add_one (rng32 i2).2⟩
      have B383 : (-2147483648 : Int) ≤ i0.toInt ∧ i0.toInt ≤ 2147483647 := ⟨(rng32 i0).1, Int.le_of_lt_add_one (rng32 i0).2⟩
      have B384 : (-2147483648 : Int) ≤ i1.toInt ∧ i1.toInt ≤ 2147483647 := ⟨(rng32 i1).1, Int.le_of_lt_add_one (rng32 i1).2⟩
      have B379 : (-128 : Int) ≤ v7.toInt ∧ v7.toInt ≤ 127 := (by rw [← hb8]; exact ⟨(c_i2b _).2.1, Int.le_of_lt_add_one (c_i2b _).2.2⟩)
      have q378 := own_fd v7 ⟨Int.le_trans (by decide) B379.1, Int.le_trans B379.2 (by decide)⟩; rw [← hv337] at q378
      have B377 : (-1 : Int) ≤ v337.toInt ∧ v337.toInt ≤ 9 := q378.2
      have B385 : (-1 : Int) ≤ v337.toInt ∧ v337.toInt ≤ -1 := ⟨B377.1, k_lt hc367 (by decide)⟩
      have B390 : (10 : Int) ≤ (10 : Int64).toInt ∧ (10 : Int64).toInt ≤ 10 := (by decide)
      have q389 : v368.toInt = 10 * v332.toInt := (by have q0 := c_lmul (10 : Int64) v332; have q1 := rng64 v368; have q2 := B373; rw [← hv368] at q0; rw [show (10 : Int64).toInt = 10 from (by decide)] at q0; omega)
      have B388 : (0 : Int) ≤ v368.toInt ∧ v368.toInt ≤ 90 := (by rw [q389]; exact k_mulB B373 (by decide))
      have q394 := own_mx v337 ⟨Int.le_trans (by decide) B385.1, Int.le_trans B385.2 (by decide)⟩; rw [← hv370] at q394
      have B393 : (0 : Int) ≤ v370.toInt ∧ v370.toInt ≤ 9 := q394.2
      have q392 : v371.toInt = v370.toInt := (by rw [hv371]; exact c_i2l _)
      have B391 : (0 : Int) ≤ v371.toInt ∧ v371.toInt ≤ 9 := (by rw [q392]; exact B393)
      have q387 : v372.toInt = v368.toInt + v371.toInt := k_laddx hv372 B388 B391 (by decide) (by decide)
      have B386 : (0 : Int) ≤ v372.toInt ∧ v372.toInt ≤ 99 := k_addB q387 B388 B391
      refine ⟨⟨fun hq395 => ?_, fun hq396 => ?_⟩, ?_⟩
      · rw [Int64.lt_iff_toInt_lt, show (0 : Int64).toInt = 0 from rfl] at hq395; omega
      · rw [Int64.lt_iff_toInt_lt, show (99 : Int64).toInt = 99 from rfl] at hq396; omega
      · exact Or.inr ⟨rfl, by omega⟩
     ·
      refine k_iconst X336 hx 252 (D at_251) (z := (1 : Int32)) rfl ?_
      refine k_goto X336 hx 256 (D at_252) ?_
      refine k_istore X336 hx 258 (D at_256) (Ls' := #[iv i0, iv i1, iv i2, jv i3, s_, rv b1, iv (0 : Int32), iv (2 : Int32), iv (2 : Int32), iv v236, jv v285, s_, jv v288, s_, iv (1 : Int32), jv v332, s_, iv v337, u_]) rfl ?_
      refine k_ldcL X336 hx hZ hown 261 (k_w hw 16 rfl) (D at_258) ?_
      refine k_lload X336 hx 263 (D at_261) rfl ?_
      refine k_lmul X336 hx 264 (D at_263) (fun v397 hv397 => ?_)
      refine k_iload X336 hx 266 (D at_264) rfl ?_
      refine k_iconst X336 hx 267 (D at_266) (z := (0 : Int32)) rfl ?_
      refine k_callS X336 hx hZ hown 270 (k_w hw 17 rfl) (k_w hw 18 rfl) (k_w hw 19 rfl) (k_w hw 20 rfl) (by decide) (rm4_9 l Z a0 hw [] v337 h21 n0 Z21 ) (by decide) (by decide) e336 (by rw [hml]; rfl) (argsL := [(.int v337), (.int (0 : Int32))]) (rest := [(.long v397)]) (lenOf pd_3 rfl) rfl (W := 2) (Nat.le_refl _) rfl (D at_267) (by show _ + 0 ≤ _; exact Nat.le_trans hce330 (by decide)) (by show _ + 0 ≤ _; exact Nat.le_trans hsl330 (by decide)) (fun T398 L398 r398 X398 q398 => ?_)
      obtain ⟨N398, e398, rfl⟩ := q398
      have N398' := Fr.app N336' N398
      show KEnds p e below s _ _ _ T398 (mkF m 270 #[iv i0, iv i1, iv i2, jv i3, s_, rv b1, iv (0 : Int32), iv (2 : Int32), iv (2 : Int32), iv v236, jv v285, s_, jv v288, s_, iv (1 : Int32), jv v332, s_, iv v337, u_] ((.int (f4_9 v337)) :: (.long v397) :: []))
      obtain ⟨v399, hv399⟩ : ∃ z, z = f4_9 v337 := ⟨_, rfl⟩
      rw [← hv399]
      refine k_i2l X398 hx 271 (D at_270) (fun v400 hv400 => ?_)
      refine k_ladd X398 hx 272 (D at_271) (fun v401 hv401 => ?_)
      refine k_lstore X398 hx 274 (D at_272) (Ls' := #[iv i0, iv i1, iv i2, jv i3, s_, rv b1, iv (0 : Int32), iv (2 : Int32), iv (2 : Int32), iv v236, jv v285, s_, jv v288, s_, iv (1 : Int32), jv v401, s_, iv v337, u_]) rfl ?_
      refine key335 T398 _ _ _ (1 : Int32) v401 v337 X398 e398 N398' hce330 hsl330 ?_
      have B402 : (0 : Int) ≤ v332.toInt ∧ v332.toInt ≤ 9 := ⟨kL_ge hP334.1.1 (by decide), kL_le hP334.1.2 (by decide)⟩
      have B403 : (-2147483648 : Int) ≤ v331.toInt ∧ v331.toInt ≤ 2147483647 := ⟨(rng32 v331).1, Int.le_of_lt_add_one (rng32 v331).2⟩
      have B404 : (0 : Int) ≤ (0 : Int32).toInt ∧ (0 : Int32).toInt ≤ 0 := (by decide)
      have q405 : ¬ v331.toInt = (0 : Int32).toInt := fun q => hc338 (Int32.toInt_inj.mp q)
      have B411 : (-2147483648 : Int) ≤ i2.toInt ∧ i2.toInt ≤ 2147483647 := ⟨(rng32 i2).1, Int.le_of_lt_add_one (rng32 i2).2⟩
      have B412 : (-2147483648 : Int) ≤ i0.toInt ∧ i0.toInt ≤ 2147483647 := ⟨(rng32 i0).1, Int.le_of_lt_add_one (rng32 i0).2⟩
      have B413 : (-2147483648 : Int) ≤ i1.toInt ∧ i1.toInt ≤ 2147483647 := ⟨(rng32 i1).1, Int.le_of_lt_add_one (rng32 i1).2⟩
      have B408 : (-128 : Int) ≤ v7.toInt ∧ v7.toInt ≤ 127 := (by rw [← hb8]; exact ⟨(c_i2b _).2.1, Int.le_of_lt_add_one (c_i2b _).2.2⟩)
      have q407 := own_fd v7 ⟨Int.le_trans (by decide) B408.1, Int.le_trans B408.2 (by decide)⟩; rw [← hv337] at q407
      have B406 : (-1 : Int) ≤ v337.toInt ∧ v337.toInt ≤ 9 := q407.2
      have B414 : (0 : Int) ≤ v337.toInt ∧ v337.toInt ≤ 9 := ⟨k_ge hc367 (by decide), B406.2⟩
      have B419 : (10 : Int) ≤ (10 : Int64).toInt ∧ (10 : Int64).toInt ≤ 10 := (by decide)
      have q418 : v397.toInt = 10 * v332.toInt := (by have q0 := c_lmul (10 : Int64) v332; have q1 := rng64 v397; have q2 := B402; rw [← hv397] at q0; rw [show (10 : Int64).toInt = 10 from (by decide)] at q0; omega)
      have B417 : (0 : Int) ≤ v397.toInt ∧ v397.toInt ≤ 90 := (by rw [q418]; exact k_mulB B402 (by decide))
      have q423 := own_mx v337 ⟨Int.le_trans (by decide) B414.1, Int.le_trans B414.2 (by decide)⟩; rw [← hv399] at q423
      have B422 : (0 : Int) ≤ v399.toInt ∧ v399.toInt ≤ 9 := q423.2
      have q421 : v400.toInt = v399.toInt := (by rw [hv400]; exact c_i2l _)
      have B420 : (0 : Int) ≤ v400.toInt ∧ v400.toInt ≤ 9 := (by rw [q421]; exact B422)
      have q416 : v401.toInt = v397.toInt + v400.toInt := k_laddx hv401 B417 B420 (by decide) (by decide)
      have B415 : (0 : Int) ≤ v401.toInt ∧ v401.toInt ≤ 99 := k_addB q416 B417 B420
      refine ⟨⟨fun hq424 => ?_, fun hq425 => ?_⟩, ?_⟩
      · rw [Int64.lt_iff_toInt_lt, show (0 : Int64).toInt = 0 from rfl] at hq424; omega
      · rw [Int64.lt_iff_toInt_lt, show (99 : Int64).toInt = 99 from rfl] at hq425; omega
      · exact Or.inl ⟨rfl, by omega⟩
   intro T426 lo426 ce426 sl426 v427 v428 v429 X426 e426 N426 hce426 hsl426 hP430
   refine k_iload X426 hx 276 (D at_274) rfl ?_
   refine k_iconst X426 hx 277 (D at_276) (z := (2 : Int32)) rfl ?_
   refine k_icmp_le X426 hx 280 325 (D at_277) (fun _ => ?_) (fun hc => absurd hc (by decide))
   refine k_iload X426 hx 327 (D at_325) rfl ?_
   refine k_iconst X426 hx 328 (D at_327) (z := (3 : Int32)) rfl ?_
   refine k_icmp_le X426 hx 331 376 (D at_328) (fun _ => ?_) (fun hc => absurd hc (by decide))
   refine k_iload X426 hx 378 (D at_376) rfl ?_
   refine k_if_eq X426 hx 381 394 (D at_378) (fun hc431 => ?_) (fun hc431 => ?_)
   ·
    refine k_ldcL X426 hx hZ hown 397 (k_w hw 11 rfl) (D at_394) ?_
    refine k_lstore X426 hx 399 (D at_397) (Ls' := #[iv i0, iv i1, iv i2, jv i3, s_, rv b1, iv (0 : Int32), iv (2 : Int32), iv (2 : Int32), iv v236, jv v285, s_, jv v288, s_, iv v427, jv v428, s_, jv (-1 : Int64), s_]) rfl ?_
    refine k_lload X426 hx 401 (D at_399) rfl ?_
    refine k_lload X426 hx 403 (D at_401) rfl ?_
    refine k_lcif_ne X426 hx 407 411 404 (D at_403) (D at_404) (fun hc => absurd (Classical.byContradiction (fun hq432 => by have B433 : (0 : Int) ≤ v285.toInt ∧ v285.toInt ≤ 9223372036854775807 := ⟨kL_ge hP286 (by decide), Int.le_of_lt_add_one (rng64 v285).2⟩; have B434 : (0 : Int) ≤ v428.toInt ∧ v428.toInt ≤ 99 := ⟨kL_ge hP430.1.1 (by decide), kL_le hP430.1.2 (by decide)⟩; have B435 : (-2147483648 : Int) ≤ v427.toInt ∧ v427.toInt ≤ 2147483647 := ⟨(rng32 v427).1, Int.le_of_lt_add_one (rng32 v427).2⟩; have B436 : (0 : Int) ≤ (0 : Int32).toInt ∧ (0 : Int32).toInt ≤ 0 := (by decide); have q437 := congrArg Int32.toInt hc431; have B438 : (-9223372036854775808 : Int) ≤ v288.toInt ∧ v288.toInt ≤ 9223372036854775807 := ⟨(rng64 v288).1, Int.le_of_lt_add_one (rng64 v288).2⟩; have B439 : (-1 : Int) ≤ (-1 : Int64).toInt ∧ (-1 : Int64).toInt ≤ -1 := (by decide); have q440 : ¬ v288.toInt = (-1 : Int64).toInt := fun q => hq432 (Int64.toInt_inj.mp q); omega)) hc) (fun _ => ?_)
    refine k_iconst X426 hx 408 (D at_407) (z := (1 : Int32)) rfl ?_
    refine k_goto X426 hx 412 (D at_408) ?_
    exact k_retN X426 hx (t := .boolean) hret (by simp) (D at_412) hlk (by first | exact hce426 | exact Nat.le_trans (Nat.le_refl _) hce426) (by first | exact hsl426 | exact Nat.le_trans (Nat.le_refl _) hsl426) (z' := (1 : Int32)) rfl ⟨rfl, N426⟩
   ·
    refine k_lload X426 hx 383 (D at_381) rfl ?_
    refine k_lload X426 hx 385 (D at_383) rfl ?_
    refine k_lcif_gt X426 hx 389 394 386 (D at_385) (D at_386) (fun hc441 => ?_) (fun hc441 => ?_)
    ·
     refine k_ldcL X426 hx hZ hown 397 (k_w hw 11 rfl) (D at_394) ?_
     refine k_lstore X426 hx 399 (D at_397) (Ls' := #[iv i0, iv i1, iv i2, jv i3, s_, rv b1, iv (0 : Int32), iv (2 : Int32), iv (2 : Int32), iv v236, jv v285, s_, jv v288, s_, iv v427, jv v428, s_, jv (-1 : Int64), s_]) rfl ?_
     refine k_lload X426 hx 401 (D at_399) rfl ?_
     refine k_lload X426 hx 403 (D at_401) rfl ?_
     refine k_lcif_ne X426 hx 407 411 404 (D at_403) (D at_404) (fun hc => absurd (Classical.byContradiction (fun hq442 => by have B443 : (0 : Int) ≤ v285.toInt ∧ v285.toInt ≤ 9223372036854775807 := ⟨kL_ge hP286 (by decide), Int.le_of_lt_add_one (rng64 v285).2⟩; have B444 : (0 : Int) ≤ v428.toInt ∧ v428.toInt ≤ 99 := ⟨kL_ge hP430.1.1 (by decide), kL_le hP430.1.2 (by decide)⟩; have B445 : (-2147483648 : Int) ≤ v427.toInt ∧ v427.toInt ≤ 2147483647 := ⟨(rng32 v427).1, Int.le_of_lt_add_one (rng32 v427).2⟩; have B446 : (0 : Int) ≤ (0 : Int32).toInt ∧ (0 : Int32).toInt ≤ 0 := (by decide); have q447 : ¬ v427.toInt = (0 : Int32).toInt := fun q => hc431 (Int32.toInt_inj.mp q); have q448 := hc441; rw [Int64.lt_iff_toInt_lt] at q448; have B449 : (-9223372036854775808 : Int) ≤ v288.toInt ∧ v288.toInt ≤ 9223372036854775807 := ⟨(rng64 v288).1, Int.le_of_lt_add_one (rng64 v288).2⟩; have B450 : (-1 : Int) ≤ (-1 : Int64).toInt ∧ (-1 : Int64).toInt ≤ -1 := (by decide); have q451 : ¬ v288.toInt = (-1 : Int64).toInt := fun q => hq442 (Int64.toInt_inj.mp q); omega)) hc) (fun _ => ?_)
     refine k_iconst X426 hx 408 (D at_407) (z := (1 : Int32)) rfl ?_
     refine k_goto X426 hx 412 (D at_408) ?_
     exact k_retN X426 hx (t := .boolean) hret (by simp) (D at_412) hlk (by first | exact hce426 | exact Nat.le_trans (Nat.le_refl _) hce426) (by first | exact hsl426 | exact Nat.le_trans (Nat.le_refl _) hsl426) (z' := (1 : Int32)) rfl ⟨rfl, N426⟩
    ·
     refine k_lload X426 hx 391 (D at_389) rfl ?_
     refine k_goto X426 hx 397 (D at_391) ?_
     refine k_lstore X426 hx 399 (D at_397) (Ls' := #[iv i0, iv i1, iv i2, jv i3, s_, rv b1, iv (0 : Int32), iv (2 : Int32), iv (2 : Int32), iv v236, jv v285, s_, jv v288, s_, iv v427, jv v428, s_, jv v428, s_]) rfl ?_
     refine k_lload X426 hx 401 (D at_399) rfl ?_
     refine k_lload X426 hx 403 (D at_401) rfl ?_
     refine k_lcif_ne X426 hx 407 411 404 (D at_403) (D at_404) (fun hc => absurd (Classical.byContradiction (fun hq452 => by have B453 : (0 : Int) ≤ v285.toInt ∧ v285.toInt ≤ 9223372036854775807 := ⟨kL_ge hP286 (by decide), Int.le_of_lt_add_one (rng64 v285).2⟩; have B454 : (0 : Int) ≤ v428.toInt ∧ v428.toInt ≤ 99 := ⟨kL_ge hP430.1.1 (by decide), kL_le hP430.1.2 (by decide)⟩; have B455 : (-2147483648 : Int) ≤ v427.toInt ∧ v427.toInt ≤ 2147483647 := ⟨(rng32 v427).1, Int.le_of_lt_add_one (rng32 v427).2⟩; have B456 : (0 : Int) ≤ (0 : Int32).toInt ∧ (0 : Int32).toInt ≤ 0 := (by decide); have q457 : ¬ v427.toInt = (0 : Int32).toInt := fun q => hc431 (Int32.toInt_inj.mp q); have q458 := hc441; rw [Int64.lt_iff_toInt_lt] at q458; have B459 : (-9223372036854775808 : Int) ≤ v288.toInt ∧ v288.toInt ≤ 9223372036854775807 := ⟨(rng64 v288).1, Int.le_of_lt_add_one (rng64 v288).2⟩; have q460 : ¬ v288.toInt = v428.toInt := fun q => hq452 (Int64.toInt_inj.mp q); omega)) hc) (fun _ => ?_)
     refine k_iconst X426 hx 408 (D at_407) (z := (1 : Int32)) rfl ?_
     refine k_goto X426 hx 412 (D at_408) ?_
     exact k_retN X426 hx (t := .boolean) hret (by simp) (D at_412) hlk (by first | exact hce426 | exact Nat.le_trans (Nat.le_refl _) hce426) (by first | exact hsl426 | exact Nat.le_trans (Nat.le_refl _) hsl426) (z' := (1 : Int32)) rfl ⟨rfl, N426⟩
  ·
   show KEnds p e below s _ _ _ T21 (mkF m 76 #[iv i0, iv i1, iv i2, jv i3, s_, rv b1, iv (0 : Int32), u_, u_, u_, u_, u_, u_, u_, u_, u_, u_, u_, u_] [(.int (3 : Int32))])
   refine k_istore X21 hx 78 (D at_76) (Ls' := #[iv i0, iv i1, iv i2, jv i3, s_, rv b1, iv (0 : Int32), iv (3 : Int32), u_, u_, u_, u_, u_, u_, u_, u_, u_, u_, u_]) rfl ?_
   refine k_iload X21 hx 80 (D at_78) rfl ?_
   refine k_iload X21 hx 82 (D at_80) rfl ?_
   refine k_iaddL X21 hx 83 (D at_82) (z := (3 : Int32)) (by decide) ?_
   refine k_istore X21 hx 85 (D at_83) (Ls' := #[iv i0, iv i1, iv i2, jv i3, s_, rv b1, iv (0 : Int32), iv (3 : Int32), iv (3 : Int32), u_, u_, u_, u_, u_, u_, u_, u_, u_, u_]) rfl ?_
   refine k_iloadN X21 hx 86 (D at_85) rfl ?_
   refine k_bipush X21 hx 88 (D at_86) (z := (9 : Int32)) rfl ?_
   refine k_iushr X21 hx 89 (D at_88) (fun v462 hv462 => ?_)
   refine k_iconst X21 hx 90 (D at_89) (z := (3 : Int32)) rfl ?_
   refine k_iand X21 hx 91 (D at_90) (fun v463 hv463 => ?_)
   refine k_istore X21 hx 93 (D at_91) (Ls' := #[iv i0, iv i1, iv i2, jv i3, s_, rv b1, iv (0 : Int32), iv (3 : Int32), iv (3 : Int32), iv v463, u_, u_, u_, u_, u_, u_, u_, u_, u_]) rfl ?_
   suffices key464 : ∀ (v512 : Int64), (¬ v512 < 0) → KEnds p e below s 16 128 (Q0 n0) T21 (mkF m 147 #[iv i0, iv i1, iv i2, jv i3, s_, rv b1, iv (0 : Int32), iv (3 : Int32), iv (3 : Int32), iv v463, jv v512, s_, u_, u_, u_, u_, u_, u_, u_] []) by
    refine k_iload X21 hx 95 (D at_93) rfl ?_
    refine k_if_ne X21 hx 98 108 (D at_95) (fun hc465 => ?_) (fun hc465 => ?_)
    ·
     refine k_iload X21 hx 110 (D at_108) rfl ?_
     refine k_iconst X21 hx 111 (D at_110) (z := (1 : Int32)) rfl ?_
     refine k_icmp_ne X21 hx 114 124 (D at_111) (fun hc466 => ?_) (fun hc466 => ?_)
     ·
      refine k_iload X21 hx 126 (D at_124) rfl ?_
      refine k_iconst X21 hx 127 (D at_126) (z := (2 : Int32)) rfl ?_
      refine k_icmp_ne X21 hx 130 140 (D at_127) (fun hc467 => ?_) (fun hc467 => ?_)
      ·
       refine k_lloadN X21 hx 141 (D at_140) rfl ?_
       refine k_ldcL X21 hx hZ hown 144 (k_w hw 21 rfl) (D at_141) ?_
       refine k_land X21 hx 145 (D at_144) (fun v468 hv468 => ?_)
       refine k_lstore X21 hx 147 (D at_145) (Ls' := #[iv i0, iv i1, iv i2, jv i3, s_, rv b1, iv (0 : Int32), iv (3 : Int32), iv (3 : Int32), iv v463, jv v468, s_, u_, u_, u_, u_, u_, u_, u_]) rfl ?_
       refine key464 v468 ?_
       intro hq474
       have B477 : (-9223372036854775808 : Int) ≤ i3.toInt ∧ i3.toInt ≤ 9223372036854775807 := ⟨(rng64 i3).1, Int.le_of_lt_add_one (rng64 i3).2⟩
       have q476 : v468.toInt = i3.toInt % 16 := (by rw [hv468]; exact c_maskL _ _ 4 (by decide) (by decide))
       have B475 : (0 : Int) ≤ v468.toInt ∧ v468.toInt ≤ 15 := (by rw [q476]; exact k_modB (by decide))
       have B478 : (0 : Int) ≤ v468.toInt ∧ v468.toInt ≤ -1 := ⟨B475.1, kL_lt hq474 (by decide)⟩
       omega
      ·
       refine k_lloadN X21 hx 131 (D at_130) rfl ?_
       refine k_ldcL X21 hx hZ hown 134 (k_w hw 23 rfl) (D at_131) ?_
       refine k_land X21 hx 135 (D at_134) (fun v479 hv479 => ?_)
       refine k_lstore X21 hx 137 (D at_135) (Ls' := #[iv i0, iv i1, iv i2, jv i3, s_, rv b1, iv (0 : Int32), iv (3 : Int32), iv (3 : Int32), iv v463, jv v479, s_, u_, u_, u_, u_, u_, u_, u_]) rfl ?_
       refine k_goto X21 hx 147 (D at_137) ?_
       refine key464 v479 ?_
       intro hq485
       have B488 : (-9223372036854775808 : Int) ≤ i3.toInt ∧ i3.toInt ≤ 9223372036854775807 := ⟨(rng64 i3).1, Int.le_of_lt_add_one (rng64 i3).2⟩
       have q487 : v479.toInt = i3.toInt % 128 := (by rw [hv479]; exact c_maskL _ _ 7 (by decide) (by decide))
       have B486 : (0 : Int) ≤ v479.toInt ∧ v479.toInt ≤ 127 := (by rw [q487]; exact k_modB (by decide))
       have B489 : (0 : Int) ≤ v479.toInt ∧ v479.toInt ≤ -1 := ⟨B486.1, kL_lt hq485 (by decide)⟩
       omega
     ·
      refine k_lloadN X21 hx 115 (D at_114) rfl ?_
      refine k_ldcL X21 hx hZ hown 118 (k_w hw 22 rfl) (D at_115) ?_
      refine k_land X21 hx 119 (D at_118) (fun v490 hv490 => ?_)
      refine k_lstore X21 hx 121 (D at_119) (Ls' := #[iv i0, iv i1, iv i2, jv i3, s_, rv b1, iv (0 : Int32), iv (3 : Int32), iv (3 : Int32), iv v463, jv v490, s_, u_, u_, u_, u_, u_, u_, u_]) rfl ?_
      refine k_goto X21 hx 147 (D at_121) ?_
      refine key464 v490 ?_
      intro hq496
      have B499 : (-9223372036854775808 : Int) ≤ i3.toInt ∧ i3.toInt ≤ 9223372036854775807 := ⟨(rng64 i3).1, Int.le_of_lt_add_one (rng64 i3).2⟩
      have q498 : v490.toInt = i3.toInt % 16384 := (by rw [hv490]; exact c_maskL _ _ 14 (by decide) (by decide))
      have B497 : (0 : Int) ≤ v490.toInt ∧ v490.toInt ≤ 16383 := (by rw [q498]; exact k_modB (by decide))
      have B500 : (0 : Int) ≤ v490.toInt ∧ v490.toInt ≤ -1 := ⟨B497.1, kL_lt hq496 (by decide)⟩
      omega
    ·
     refine k_lloadN X21 hx 99 (D at_98) rfl ?_
     refine k_ldcL X21 hx hZ hown 102 (k_w hw 5 rfl) (D at_99) ?_
     refine k_land X21 hx 103 (D at_102) (fun v501 hv501 => ?_)
     refine k_lstore X21 hx 105 (D at_103) (Ls' := #[iv i0, iv i1, iv i2, jv i3, s_, rv b1, iv (0 : Int32), iv (3 : Int32), iv (3 : Int32), iv v463, jv v501, s_, u_, u_, u_, u_, u_, u_, u_]) rfl ?_
     refine k_goto X21 hx 147 (D at_105) ?_
     refine key464 v501 ?_
     intro hq507
     have B510 : (-9223372036854775808 : Int) ≤ i3.toInt ∧ i3.toInt ≤ 9223372036854775807 := ⟨(rng64 i3).1, Int.le_of_lt_add_one (rng64 i3).2⟩
     have q509 : v501.toInt = i3.toInt % 9223372036854775808 := (by rw [hv501]; exact c_maskL _ _ 63 (by decide) (by decide))
     have B508 : (0 : Int) ≤ v501.toInt ∧ v501.toInt ≤ 9223372036854775807 := (by rw [q509]; exact k_modB (by decide))
     have B511 : (0 : Int) ≤ v501.toInt ∧ v501.toInt ≤ -1 := ⟨B508.1, kL_lt hq507 (by decide)⟩
     omega
   intro v512 hP513
   refine k_aload X21 hx 149 (D at_147) rfl rfl ?_
   refine k_iload X21 hx 151 (D at_149) rfl ?_
   refine k_iload X21 hx 153 (D at_151) rfl ?_
   refine k_lload X21 hx 155 (D at_153) rfl ?_
   refine k_callS X21 hx hZ hown 158 (k_w hw 6 rfl) (k_w hw 7 rfl) (k_w hw 8 rfl) (k_w hw 9 rfl) (by decide) (rm2_11 l Z a0 hw [] b1 v512 k1 v3 v7 v11 v15 v19 h21 n0 Z21 Vw21 hP513 (k_by1 hb4) (k_by2 hb4) (k_by1 hb8) (k_by2 hb8) (k_by1 hb12) (k_by2 hb12)) (by decide) (by decide) e21 (by rw [hml]; rfl) (argsL := [(.ref b1), (.int (0 : Int32)), (.int (3 : Int32)), (.long v512)]) (rest := []) (lenOf pd_1 rfl) rfl (W := 0) (Nat.le_refl _) rfl (D at_155) (by decide) (by decide) (fun T514 L514 r514 X514 q514 => ?_)
   obtain ⟨N514, e514, v515, rfl, hS516⟩ := q514
   have N514' := Fr.app N21 N514
   show KEnds p e below s _ _ _ T514 (mkF m 158 #[iv i0, iv i1, iv i2, jv i3, s_, rv b1, iv (0 : Int32), iv (3 : Int32), iv (3 : Int32), iv v463, jv v512, s_, u_, u_, u_, u_, u_, u_, u_] [(.long v515)])
   refine k_lstore X514 hx 160 (D at_158) (Ls' := #[iv i0, iv i1, iv i2, jv i3, s_, rv b1, iv (0 : Int32), iv (3 : Int32), iv (3 : Int32), iv v463, jv v512, s_, jv v515, s_, u_, u_, u_, u_, u_]) rfl ?_
   refine k_iload X514 hx 162 (D at_160) rfl ?_
   refine k_if_le X514 hx 165 169 (D at_162) (fun hc => absurd (by decide) hc) (fun _ => ?_)
   refine k_iconst X514 hx 166 (D at_165) (z := (1 : Int32)) rfl ?_
   refine k_goto X514 hx 170 (D at_166) ?_
   refine k_istore X514 hx 172 (D at_170) (Ls' := #[iv i0, iv i1, iv i2, jv i3, s_, rv b1, iv (0 : Int32), iv (3 : Int32), iv (3 : Int32), iv v463, jv v512, s_, jv v515, s_, iv (1 : Int32), u_, u_, u_, u_]) rfl ?_
   refine k_lconst X514 hx 173 (D at_172) (z := (0 : Int64)) rfl ?_
   refine k_lstore X514 hx 175 (D at_173) (Ls' := #[iv i0, iv i1, iv i2, jv i3, s_, rv b1, iv (0 : Int32), iv (3 : Int32), iv (3 : Int32), iv v463, jv v512, s_, jv v515, s_, iv (1 : Int32), jv (0 : Int64), s_, u_, u_]) rfl ?_
   refine k_iload X514 hx 177 (D at_175) rfl ?_
   refine k_if_le X514 hx 180 223 (D at_177) (fun hc => absurd (by decide) hc) (fun _ => ?_)
   suffices key517 : ∀ (T557 : State) (lo557 : List Loc) (ce557 sl557 : Nat) (v558 : Int32) (v559 : Int64) (v560 : Int32), Stand p l e room_1 s m #[(.int i0), (.int i1), (.int i2), (.long i3)] below meth c T557 lo557 ce557 sl557 → T557.heap = h21 → Fr n0 lo557 → ce557 ≤ 16 → sl557 ≤ 128 → ((¬ v559 < 0 ∧ ¬ (9 : Int64) < v559) ∧ ((v558.toInt = 1 ∧ ((48 ≤ v3.toInt ∧ v3.toInt ≤ 57)) ∧ v559.toInt = 1 * (v3.toInt - 48)) ∨ (v558.toInt = 0 ∧ ¬ ((48 ≤ v3.toInt ∧ v3.toInt ≤ 57))))) → KEnds p e below s 16 128 (Q0 n0) T557 (mkF m 223 #[iv i0, iv i1, iv i2, jv i3, s_, rv b1, iv (0 : Int32), iv (3 : Int32), iv (3 : Int32), iv v463, jv v512, s_, jv v515, s_, iv v558, jv v559, s_, iv v560, u_] []) by
    refine k_aload X514 hx 182 (D at_180) rfl rfl ?_
    refine k_iload X514 hx 184 (D at_182) rfl ?_
    refine k_baload X514 hx hZ 185 e514 Vw21 ⟨by decide, by decide⟩ (v := (.int v3)) rfl (D at_184) ?_
    refine k_callS X514 hx hZ hown 188 (k_w hw 13 rfl) (k_w hw 14 rfl) (k_w hw 3 rfl) (k_w hw 15 rfl) (by decide) (rm3_8 l Z a0 hw [] v3 h21 n0 Z21 ) (by decide) (by decide) e514 (by rw [hml]; rfl) (argsL := [(.int v3)]) (rest := []) (lenOf pd_2 rfl) rfl (W := 0) (Nat.le_refl _) rfl (D at_185) (by decide) (by decide) (fun T518 L518 r518 X518 q518 => ?_)
    obtain ⟨N518, e518, rfl⟩ := q518
    have N518' := Fr.app N514' N518
    show KEnds p e below s _ _ _ T518 (mkF m 188 #[iv i0, iv i1, iv i2, jv i3, s_, rv b1, iv (0 : Int32), iv (3 : Int32), iv (3 : Int32), iv v463, jv v512, s_, jv v515, s_, iv (1 : Int32), jv (0 : Int64), s_, u_, u_] ((.int (f3_8 v3)) :: []))
    obtain ⟨v519, hv519⟩ : ∃ z, z = f3_8 v3 := ⟨_, rfl⟩
    rw [← hv519]
    refine k_istore X518 hx 190 (D at_188) (Ls' := #[iv i0, iv i1, iv i2, jv i3, s_, rv b1, iv (0 : Int32), iv (3 : Int32), iv (3 : Int32), iv v463, jv v512, s_, jv v515, s_, iv (1 : Int32), jv (0 : Int64), s_, iv v519, u_]) rfl ?_
    refine k_iload X518 hx 192 (D at_190) rfl ?_
    refine k_if_eq X518 hx 195 204 (D at_192) (fun hc => absurd hc (by decide)) (fun _ => ?_)
    refine k_iload X518 hx 197 (D at_195) rfl ?_
    refine k_if_lt X518 hx 200 204 (D at_197) (fun hc520 => ?_) (fun hc520 => ?_)
    ·
     refine k_iconst X518 hx 205 (D at_204) (z := (0 : Int32)) rfl ?_
     refine k_istore X518 hx 207 (D at_205) (Ls' := #[iv i0, iv i1, iv i2, jv i3, s_, rv b1, iv (0 : Int32), iv (3 : Int32), iv (3 : Int32), iv v463, jv v512, s_, jv v515, s_, iv (0 : Int32), jv (0 : Int64), s_, iv v519, u_]) rfl ?_
     refine k_ldcL X518 hx hZ hown 210 (k_w hw 16 rfl) (D at_207) ?_
     refine k_lload X518 hx 212 (D at_210) rfl ?_
     refine k_lmulL X518 hx 213 (D at_212) (z := (0 : Int64)) (by decide) ?_
     refine k_iload X518 hx 215 (D at_213) rfl ?_
     refine k_iconst X518 hx 216 (D at_215) (z := (0 : Int32)) rfl ?_
     refine k_callS X518 hx hZ hown 219 (k_w hw 17 rfl) (k_w hw 18 rfl) (k_w hw 19 rfl) (k_w hw 20 rfl) (by decide) (rm4_9 l Z a0 hw [] v519 h21 n0 Z21 ) (by decide) (by decide) e518 (by rw [hml]; rfl) (argsL := [(.int v519), (.int (0 : Int32))]) (rest := [(.long (0 : Int64))]) (lenOf pd_3 rfl) rfl (W := 2) (Nat.le_refl _) rfl (D at_216) (by decide) (by decide) (fun T521 L521 r521 X521 q521 => ?_)
     obtain ⟨N521, e521, rfl⟩ := q521
     have N521' := Fr.app N518' N521
     show KEnds p e below s _ _ _ T521 (mkF m 219 #[iv i0, iv i1, iv i2, jv i3, s_, rv b1, iv (0 : Int32), iv (3 : Int32), iv (3 : Int32), iv v463, jv v512, s_, jv v515, s_, iv (0 : Int32), jv (0 : Int64), s_, iv v519, u_] ((.int (f4_9 v519)) :: (.long (0 : Int64)) :: []))
     obtain ⟨v522, hv522⟩ : ∃ z, z = f4_9 v519 := ⟨_, rfl⟩
     rw [← hv522]
     refine k_i2l X521 hx 220 (D at_219) (fun v523 hv523 => ?_)
     refine k_laddL X521 hx 221 (D at_220) (z := v523) (Int64.zero_add _) ?_
     refine k_lstore X521 hx 223 (D at_221) (Ls' := #[iv i0, iv i1, iv i2, jv i3, s_, rv b1, iv (0 : Int32), iv (3 : Int32), iv (3 : Int32), iv v463, jv v512, s_, jv v515, s_, iv (0 : Int32), jv v523, s_, iv v519, u_]) rfl ?_
     refine key517 T521 _ _ _ (0 : Int32) v523 v519 X521 e521 N521' (by decide) (by decide) ?_
     have B529 : (-2147483648 : Int) ≤ i2.toInt ∧ i2.toInt ≤ 2147483647 := ⟨(rng32 i2).1, Int.le_of_lt_add_one (rng32 i2).2⟩
     have B530 : (-2147483648 : Int) ≤ i0.toInt ∧ i0.toInt ≤ 2147483647 := ⟨(rng32 i0).1, Int.le_of_lt_add_one (rng32 i0).2⟩
     have B531 : (-2147483648 : Int) ≤ i1.toInt ∧ i1.toInt ≤ 2147483647 := ⟨(rng32 i1).1, Int.le_of_lt_add_one (rng32 i1).2⟩
     have B526 : (-128 : Int) ≤ v3.toInt ∧ v3.toInt ≤ 127 := (by rw [← hb4]; exact ⟨(c_i2b _).2.1, Int.le_of_lt_add_one (c_i2b _).2.2⟩)
     have q525 := own_fd v3 ⟨Int.le_trans (by decide) B526.1, Int.le_trans B526.2 (by decide)⟩; rw [← hv519] at q525
     have B524 : (-1 : Int) ≤ v519.toInt ∧ v519.toInt ≤ 9 := q525.2
     have B532 : (-1 : Int) ≤ v519.toInt ∧ v519.toInt ≤ -1 := ⟨B524.1, k_lt hc520 (by decide)⟩
     have q536 := own_mx v519 ⟨Int.le_trans (by decide) B532.1, Int.le_trans B532.2 (by decide)⟩; rw [← hv522] at q536
     have B535 : (0 : Int) ≤ v522.toInt ∧ v522.toInt ≤ 9 := q536.2
     have q534 : v523.toInt = v522.toInt := (by rw [hv523]; exact c_i2l _)
     have B533 : (0 : Int) ≤ v523.toInt ∧ v523.toInt ≤ 9 := (by rw [q534]; exact B535)
     refine ⟨⟨fun hq537 => ?_, fun hq538 => ?_⟩, ?_⟩
     · rw [Int64.lt_iff_toInt_lt, show (0 : Int64).toInt = 0 from rfl] at hq537; omega
     · rw [Int64.lt_iff_toInt_lt, show (9 : Int64).toInt = 9 from rfl] at hq538; omega
     · exact Or.inr ⟨rfl, by omega⟩
    ·
     refine k_iconst X518 hx 201 (D at_200) (z := (1 : Int32)) rfl ?_
     refine k_goto X518 hx 205 (D at_201) ?_
     refine k_istore X518 hx 207 (D at_205) (Ls' := #[iv i0, iv i1, iv i2, jv i3, s_, rv b1, iv (0 : Int32), iv (3 : Int32), iv (3 : Int32), iv v463, jv v512, s_, jv v515, s_, iv (1 : Int32), jv (0 : Int64), s_, iv v519, u_]) rfl ?_
     refine k_ldcL X518 hx hZ hown 210 (k_w hw 16 rfl) (D at_207) ?_
     refine k_lload X518 hx 212 (D at_210) rfl ?_
     refine k_lmulL X518 hx 213 (D at_212) (z := (0 : Int64)) (by decide) ?_
     refine k_iload X518 hx 215 (D at_213) rfl ?_
     refine k_iconst X518 hx 216 (D at_215) (z := (0 : Int32)) rfl ?_
     refine k_callS X518 hx hZ hown 219 (k_w hw 17 rfl) (k_w hw 18 rfl) (k_w hw 19 rfl) (k_w hw 20 rfl) (by decide) (rm4_9 l Z a0 hw [] v519 h21 n0 Z21 ) (by decide) (by decide) e518 (by rw [hml]; rfl) (argsL := [(.int v519), (.int (0 : Int32))]) (rest := [(.long (0 : Int64))]) (lenOf pd_3 rfl) rfl (W := 2) (Nat.le_refl _) rfl (D at_216) (by decide) (by decide) (fun T539 L539 r539 X539 q539 => ?_)
     obtain ⟨N539, e539, rfl⟩ := q539
     have N539' := Fr.app N518' N539
     show KEnds p e below s _ _ _ T539 (mkF m 219 #[iv i0, iv i1, iv i2, jv i3, s_, rv b1, iv (0 : Int32), iv (3 : Int32), iv (3 : Int32), iv v463, jv v512, s_, jv v515, s_, iv (1 : Int32), jv (0 : Int64), s_, iv v519, u_] ((.int (f4_9 v519)) :: (.long (0 : Int64)) :: []))
     obtain ⟨v540, hv540⟩ : ∃ z, z = f4_9 v519 := ⟨_, rfl⟩
     rw [← hv540]
     refine k_i2l X539 hx 220 (D at_219) (fun v541 hv541 => ?_)
     refine k_laddL X539 hx 221 (D at_220) (z := v541) (Int64.zero_add _) ?_
     refine k_lstore X539 hx 223 (D at_221) (Ls' := #[iv i0, iv i1, iv i2, jv i3, s_, rv b1, iv (0 : Int32), iv (3 : Int32), iv (3 : Int32), iv v463, jv v512, s_, jv v515, s_, iv (1 : Int32), jv v541, s_, iv v519, u_]) rfl ?_
     refine key517 T539 _ _ _ (1 : Int32) v541 v519 X539 e539 N539' (by decide) (by decide) ?_
     have B547 : (-2147483648 : Int) ≤ i2.toInt ∧ i2.toInt ≤ 2147483647 := ⟨(rng32 i2).1, Int.le_of_lt_add_one (rng32 i2).2⟩
     have B548 : (-2147483648 : Int) ≤ i0.toInt ∧ i0.toInt ≤ 2147483647 := ⟨(rng32 i0).1, Int.le_of_lt_add_one (rng32 i0).2⟩
     have B549 : (-2147483648 : Int) ≤ i1.toInt ∧ i1.toInt ≤ 2147483647 := ⟨(rng32 i1).1, Int.le_of_lt_add_one (rng32 i1).2⟩
     have B544 : (-128 : Int) ≤ v3.toInt ∧ v3.toInt ≤ 127 := (by rw [← hb4]; exact ⟨(c_i2b _).2.1, Int.le_of_lt_add_one (c_i2b _).2.2⟩)
     have q543 := own_fd v3 ⟨Int.le_trans (by decide) B544.1, Int.le_trans B544.2 (by decide)⟩; rw [← hv519] at q543
     have B542 : (-1 : Int) ≤ v519.toInt ∧ v519.toInt ≤ 9 := q543.2
     have B550 : (0 : Int) ≤ v519.toInt ∧ v519.toInt ≤ 9 := ⟨k_ge hc520 (by decide), B542.2⟩
     have q554 := own_mx v519 ⟨Int.le_trans (by decide) B550.1, Int.le_trans B550.2 (by decide)⟩; rw [← hv540] at q554
     have B553 : (0 : Int) ≤ v540.toInt ∧ v540.toInt ≤ 9 := q554.2
     have q552 : v541.toInt = v540.toInt := (by rw [hv541]; exact c_i2l _)
     have B551 : (0 : Int) ≤ v541.toInt ∧ v541.toInt ≤ 9 := (by rw [q552]; exact B553)
     refine ⟨⟨fun hq555 => ?_, fun hq556 => ?_⟩, ?_⟩
     · rw [Int64.lt_iff_toInt_lt, show (0 : Int64).toInt = 0 from rfl] at hq555; omega
     · rw [Int64.lt_iff_toInt_lt, show (9 : Int64).toInt = 9 from rfl] at hq556; omega
     · exact Or.inl ⟨rfl, by omega⟩
   intro T557 lo557 ce557 sl557 v558 v559 v560 X557 e557 N557 hce557 hsl557 hP561
   refine k_iload X557 hx 225 (D at_223) rfl ?_
   refine k_iconst X557 hx 226 (D at_225) (z := (1 : Int32)) rfl ?_
   refine k_icmp_le X557 hx 229 274 (D at_226) (fun hc => absurd (by decide) hc) (fun _ => ?_)
   suffices key562 : ∀ (T653 : State) (lo653 : List Loc) (ce653 sl653 : Nat) (v654 : Int32) (v655 : Int64) (v656 : Int32), Stand p l e room_1 s m #[(.int i0), (.int i1), (.int i2), (.long i3)] below meth c T653 lo653 ce653 sl653 → T653.heap = h21 → Fr n0 lo653 → ce653 ≤ 16 → sl653 ≤ 128 → ((¬ v655 < 0 ∧ ¬ (99 : Int64) < v655) ∧ ((v654.toInt = 1 ∧ ((48 ≤ v3.toInt ∧ v3.toInt ≤ 57) ∧ (48 ≤ v7.toInt ∧ v7.toInt ≤ 57)) ∧ v655.toInt = 10 * (v3.toInt - 48) + 1 * (v7.toInt - 48)) ∨ (v654.toInt = 0 ∧ ¬ ((48 ≤ v3.toInt ∧ v3.toInt ≤ 57) ∧ (48 ≤ v7.toInt ∧ v7.toInt ≤ 57))))) → KEnds p e below s 16 128 (Q0 n0) T653 (mkF m 274 #[iv i0, iv i1, iv i2, jv i3, s_, rv b1, iv (0 : Int32), iv (3 : Int32), iv (3 : Int32), iv v463, jv v512, s_, jv v515, s_, iv v654, jv v655, s_, iv v656, u_] []) by
    refine k_aload X557 hx 231 (D at_229) rfl rfl ?_
    refine k_iload X557 hx 233 (D at_231) rfl ?_
    refine k_iconst X557 hx 234 (D at_233) (z := (1 : Int32)) rfl ?_
    refine k_iaddL X557 hx 235 (D at_234) (z := (1 : Int32)) (by decide) ?_
    refine k_baload X557 hx hZ 236 e557 Vw21 ⟨by decide, by decide⟩ (v := (.int v7)) rfl (D at_235) ?_
    refine k_callS X557 hx hZ hown 239 (k_w hw 13 rfl) (k_w hw 14 rfl) (k_w hw 3 rfl) (k_w hw 15 rfl) (by decide) (rm3_8 l Z a0 hw [] v7 h21 n0 Z21 ) (by decide) (by decide) e557 (by rw [hml]; rfl) (argsL := [(.int v7)]) (rest := []) (lenOf pd_2 rfl) rfl (W := 0) (Nat.le_refl _) rfl (D at_236) (by show _ + 0 ≤ _; exact Nat.le_trans hce557 (by decide)) (by show _ + 0 ≤ _; exact Nat.le_trans hsl557 (by decide)) (fun T563 L563 r563 X563 q563 => ?_)
    obtain ⟨N563, e563, rfl⟩ := q563
    have N563' := Fr.app N557 N563
    show KEnds p e below s _ _ _ T563 (mkF m 239 #[iv i0, iv i1, iv i2, jv i3, s_, rv b1, iv (0 : Int32), iv (3 : Int32), iv (3 : Int32), iv v463, jv v512, s_, jv v515, s_, iv v558, jv v559, s_, iv v560, u_] ((.int (f3_8 v7)) :: []))
    obtain ⟨v564, hv564⟩ : ∃ z, z = f3_8 v7 := ⟨_, rfl⟩
    rw [← hv564]
    refine k_istore X563 hx 241 (D at_239) (Ls' := #[iv i0, iv i1, iv i2, jv i3, s_, rv b1, iv (0 : Int32), iv (3 : Int32), iv (3 : Int32), iv v463, jv v512, s_, jv v515, s_, iv v558, jv v559, s_, iv v564, u_]) rfl ?_
    refine k_iload X563 hx 243 (D at_241) rfl ?_
    refine k_if_eq X563 hx 246 255 (D at_243) (fun hc565 => ?_) (fun hc565 => ?_)
    ·
     refine k_iconst X563 hx 256 (D at_255) (z := (0 : Int32)) rfl ?_
     refine k_istore X563 hx 258 (D at_256) (Ls' := #[iv i0, iv i1, iv i2, jv i3, s_, rv b1, iv (0 : Int32), iv (3 : Int32), iv (3 : Int32), iv v463, jv v512, s_, jv v515, s_, iv (0 : Int32), jv v559, s_, iv v564, u_]) rfl ?_
     refine k_ldcL X563 hx hZ hown 261 (k_w hw 16 rfl) (D at_258) ?_
     refine k_lload X563 hx 263 (D at_261) rfl ?_
     refine k_lmul X563 hx 264 (D at_263) (fun v566 hv566 => ?_)
     refine k_iload X563 hx 266 (D at_264) rfl ?_
     refine k_iconst X563 hx 267 (D at_266) (z := (0 : Int32)) rfl ?_
     refine k_callS X563 hx hZ hown 270 (k_w hw 17 rfl) (k_w hw 18 rfl) (k_w hw 19 rfl) (k_w hw 20 rfl) (by decide) (rm4_9 l Z a0 hw [] v564 h21 n0 Z21 ) (by decide) (by decide) e563 (by rw [hml]; rfl) (argsL := [(.int v564), (.int (0 : Int32))]) (rest := [(.long v566)]) (lenOf pd_3 rfl) rfl (W := 2) (Nat.le_refl _) rfl (D at_267) (by show _ + 0 ≤ _; exact Nat.le_trans hce557 (by decide)) (by show _ + 0 ≤ _; exact Nat.le_trans hsl557 (by decide)) (fun T567 L567 r567 X567 q567 => ?_)
     obtain ⟨N567, e567, rfl⟩ := q567
     have N567' := Fr.app N563' N567
     show KEnds p e below s _ _ _ T567 (mkF m 270 #[iv i0, iv i1, iv i2, jv i3, s_, rv b1, iv (0 : Int32), iv (3 : Int32), iv (3 : Int32), iv v463, jv v512, s_, jv v515, s_, iv (0 : Int32), jv v559, s_, iv v564, u_] ((.int (f4_9 v564)) :: (.long v566) :: []))
     obtain ⟨v568, hv568⟩ : ∃ z, z = f4_9 v564 := ⟨_, rfl⟩
     rw [← hv568]
     refine k_i2l X567 hx 271 (D at_270) (fun v569 hv569 => ?_)
     refine k_ladd X567 hx 272 (D at_271) (fun v570 hv570 => ?_)
     refine k_lstore X567 hx 274 (D at_272) (Ls' := #[iv i0, iv i1, iv i2, jv i3, s_, rv b1, iv (0 : Int32), iv (3 : Int32), iv (3 : Int32), iv v463, jv v512, s_, jv v515, s_, iv (0 : Int32), jv v570, s_, iv v564, u_]) rfl ?_
     refine key562 T567 _ _ _ (0 : Int32) v570 v564 X567 e567 N567' hce557 hsl557 ?_
     have B571 : (0 : Int) ≤ v559.toInt ∧ v559.toInt ≤ 9 := ⟨kL_ge hP561.1.1 (by decide), kL_le hP561.1.2 (by decide)⟩
     have B572 : (-2147483648 : Int) ≤ v558.toInt ∧ v558.toInt ≤ 2147483647 := ⟨(rng32 v558).1, Int.le_of_lt_add_one (rng32 v558).2⟩
     have B573 : (0 : Int) ≤ (0 : Int32).toInt ∧ (0 : Int32).toInt ≤ 0 := (by decide)
     have q574 := congrArg Int32.toInt hc565
     have B579 : (10 : Int) ≤ (10 : Int64).toInt ∧ (10 : Int64).toInt ≤ 10 := (by decide)
     have q578 : v566.toInt = 10 * v559.toInt := (by have q0 := c_lmul (10 : Int64) v559; have q1 := rng64 v566; have q2 := B571; rw [← hv566] at q0; rw [show (10 : Int64).toInt = 10 from (by decide)] at q0; omega)
     have B577 : (0 : Int) ≤ v566.toInt ∧ v566.toInt ≤ 90 := (by rw [q578]; exact k_mulB B571 (by decide))
     have B589 : (-2147483648 : Int) ≤ i2.toInt ∧ i2.toInt ≤ 2147483647 := ⟨(rng32 i2).1, Int.le_of_lt_add_one (rng32 i2).2⟩
     have B590 : (-2147483648 : Int) ≤ i0.toInt ∧ i0.toInt ≤ 2147483647 := ⟨(rng32 i0).1, Int.le_of_lt_add_one (rng32 i0).2⟩
     have B591 : (-2147483648 : Int) ≤ i1.toInt ∧ i1.toInt ≤ 2147483647 := ⟨(rng32 i1).1, Int.le_of_lt_add_one (rng32 i1).2⟩
     have B586 : (-128 : Int) ≤ v7.toInt ∧ v7.toInt ≤ 127 := (by rw [← hb8]; exact ⟨(c_i2b _).2.1, Int.le_of_lt_add_one (c_i2b _).2.2⟩)
     have q585 := own_fd v7 ⟨Int.le_trans (by decide) B586.1, Int.le_trans B586.2 (by decide)⟩; rw [← hv564] at q585
     have B584 : (-1 : Int) ≤ v564.toInt ∧ v564.toInt ≤ 9 := q585.2
     have q583 := own_mx v564 ⟨Int.le_trans (by decide) B584.1, Int.le_trans B584.2 (by decide)⟩; rw [← hv568] at q583
     have B582 : (0 : Int) ≤ v568.toInt ∧ v568.toInt ≤ 9 := q583.2
     have q581 : v569.toInt = v568.toInt := (by rw [hv569]; exact c_i2l _)
     have B580 : (0 : Int) ≤ v569.toInt ∧ v569.toInt ≤ 9 := (by rw [q581]; exact B582)
     have q576 : v570.toInt = v566.toInt + v569.toInt := k_laddx hv570 B577 B580 (by decide) (by decide)
     have B575 : (0 : Int) ≤ v570.toInt ∧ v570.toInt ≤ 99 := k_addB q576 B577 B580
     refine ⟨⟨fun hq592 => ?_, fun hq593 => ?_⟩, ?_⟩
     · rw [Int64.lt_iff_toInt_lt, show (0 : Int64).toInt = 0 from rfl] at hq592; omega
     · rw [Int64.lt_iff_toInt_lt, show (99 : Int64).toInt = 99 from rfl] at hq593; omega
     · exact Or.inr ⟨rfl, by omega⟩
    ·
     refine k_iload X563 hx 248 (D at_246) rfl ?_
     refine k_if_lt X563 hx 251 255 (D at_248) (fun hc594 => ?_) (fun hc594 => ?_)
     ·
      refine k_iconst X563 hx 256 (D at_255) (z := (0 : Int32)) rfl ?_
      refine k_istore X563 hx 258 (D at_256) (Ls' := #[iv i0, iv i1, iv i2, jv i3, s_, rv b1, iv (0 : Int32), iv (3 : Int32), iv (3 : Int32), iv v463, jv v512, s_, jv v515, s_, iv (0 : Int32), jv v559, s_, iv v564, u_]) rfl ?_
      refine k_ldcL X563 hx hZ hown 261 (k_w hw 16 rfl) (D at_258) ?_
      refine k_lload X563 hx 263 (D at_261) rfl ?_
      refine k_lmul X563 hx 264 (D at_263) (fun v595 hv595 => ?_)
      refine k_iload X563 hx 266 (D at_264) rfl ?_
      refine k_iconst X563 hx 267 (D at_266) (z := (0 : Int32)) rfl ?_
      refine k_callS X563 hx hZ hown 270 (k_w hw 17 rfl) (k_w hw 18 rfl) (k_w hw 19 rfl) (k_w hw 20 rfl) (by decide) (rm4_9 l Z a0 hw [] v564 h21 n0 Z21 ) (by decide) (by decide) e563 (by rw [hml]; rfl) (argsL := [(.int v564), (.int (0 : Int32))]) (rest := [(.long v595)]) (lenOf pd_3 rfl) rfl (W := 2) (Nat.le_refl _) rfl (D at_267) (by show _ + 0 ≤ _; exact Nat.le_trans hce557 (by decide)) (by show _ + 0 ≤ _; exact Nat.le_trans hsl557 (by decide)) (fun T596 L596 r596 X596 q596 => ?_)
      obtain ⟨N596, e596, rfl⟩ := q596
      have N596' := Fr.app N563' N596
      show KEnds p e below s _ _ _ T596 (mkF m 270 #[iv i0, iv i1, iv i2, jv i3, s_, rv b1, iv (0 : Int32), iv (3 : Int32), iv (3 : Int32), iv v463, jv v512, s_, jv v515, s_, iv (0 : Int32), jv v559, s_, iv v564, u_] ((.int (f4_9 v564)) :: (.long v595) :: []))
      obtain ⟨v597, hv597⟩ : ∃ z, z = f4_9 v564 := ⟨_, rfl⟩
      rw [← hv597]
      refine k_i2l X596 hx 271 (D at_270) (fun v598 hv598 => ?_)
      refine k_ladd X596 hx 272 (D at_271) (fun v599 hv599 => ?_)
      refine k_lstore X596 hx 274 (D at_272) (Ls' := #[iv i0, iv i1, iv i2, jv i3, s_, rv b1, iv (0 : Int32), iv (3 : Int32), iv (3 : Int32), iv v463, jv v512, s_, jv v515, s_, iv (0 : Int32), jv v599, s_, iv v564, u_]) rfl ?_
      refine key562 T596 _ _ _ (0 : Int32) v599 v564 X596 e596 N596' hce557 hsl557 ?_
      have B600 : (0 : Int) ≤ v559.toInt ∧ v559.toInt ≤ 9 := ⟨kL_ge hP561.1.1 (by decide), kL_le hP561.1.2 (by decide)⟩
      have B601 : (-2147483648 : Int) ≤ v558.toInt ∧ v558.toInt ≤ 2147483647 := ⟨(rng32 v558).1, Int.le_of_lt_add_one (rng32 v558).2⟩
      have B602 : (0 : Int) ≤ (0 : Int32).toInt ∧ (0 : Int32).toInt ≤ 0 := (by decide)
      have q603 : ¬ v558.toInt = (0 : Int32).toInt := fun q => hc565 (Int32.toInt_inj.mp q)
      have B609 : (-2147483648 : Int) ≤ i2.toInt ∧ i2.toInt ≤ 2147483647 := ⟨(rng32 i2).1, Int.le_of_lt_add_one (rng32 i2).2⟩
      have B610 : (-2147483648 : Int) ≤ i0.toInt ∧ i0.toInt ≤ 2147483647 := ⟨(rng32 i0).1, Int.le_of_lt_add_one (rng32 i0).2⟩
      have B611 : (-2147483648 : Int) ≤ i1.toInt ∧ i1.toInt ≤ 2147483647 := ⟨(rng32 i1).1, Int.le_of_lt_add_one (rng32 i1).2⟩
      have B606 : (-128 : Int) ≤ v7.toInt ∧ v7.toInt ≤ 127 := (by rw [← hb8]; exact ⟨(c_i2b _).2.1, Int.le_of_lt_add_one (c_i2b _).2.2⟩)
      have q605 := own_fd v7 ⟨Int.le_trans (by decide) B606.1, Int.le_trans B606.2 (by decide)⟩; rw [← hv564] at q605
      have B604 : (-1 : Int) ≤ v564.toInt ∧ v564.toInt ≤ 9 := q605.2
      have B612 : (-1 : Int) ≤ v564.toInt ∧ v564.toInt ≤ -1 := ⟨B604.1, k_lt hc594 (by decide)⟩
      have B617 : (10 : Int) ≤ (10 : Int64).toInt ∧ (10 : Int64).toInt ≤ 10 := (by decide)
      have q616 : v595.toInt = 10 * v559.toInt := (by have q0 := c_lmul (10 : Int64) v559; have q1 := rng64 v595; have q2 := B600; rw [← hv595] at q0; rw [show (10 : Int64).toInt = 10 from (by decide)] at q0; omega)
      have B615 : (0 : Int) ≤ v595.toInt ∧ v595.toInt ≤ 90 := (by rw [q616]; exact k_mulB B600 (by decide))
      have q621 := own_mx v564 ⟨Int.le_trans (by decide) B612.1, Int.le_trans B612.2 (by decide)⟩; rw [← hv597] at q621
      have B620 : (0 : Int) ≤ v597.toInt ∧ v597.toInt ≤ 9 := q621.2
      have q619 : v598.toInt = v597.toInt := (by rw [hv598]; exact c_i2l _)
      have B618 : (0 : Int) ≤ v598.toInt ∧ v598.toInt ≤ 9 := (by rw [q619]; exact B620)
      have q614 : v599.toInt = v595.toInt + v598.toInt := k_laddx hv599 B615 B618 (by decide) (by decide)
      have B613 : (0 : Int) ≤ v599.toInt ∧ v599.toInt ≤ 99 := k_addB q614 B615 B618
      refine ⟨⟨fun hq622 => ?_, fun hq623 => ?_⟩, ?_⟩
      · rw [Int64.lt_iff_toInt_lt, show (0 : Int64).toInt = 0 from rfl] at hq622; omega
      · rw [Int64.lt_iff_toInt_lt, show (99 : Int64).toInt = 99 from rfl] at hq623; omega
      · exact Or.inr ⟨rfl, by omega⟩
     ·
      refine k_iconst X563 hx 252 (D at_251) (z := (1 : Int32)) rfl ?_
      refine k_goto X563 hx 256 (D at_252) ?_
      refine k_istore X563 hx 258 (D at_256) (Ls' := #[iv i0, iv i1, iv i2, jv i3, s_, rv b1, iv (0 : Int32), iv (3 : Int32), iv (3 : Int32), iv v463, jv v512, s_, jv v515, s_, iv (1 : Int32), jv v559, s_, iv v564, u_]) rfl ?_
      refine k_ldcL X563 hx hZ hown 261 (k_w hw 16 rfl) (D at_258) ?_
      refine k_lload X563 hx 263 (D at_261) rfl ?_
      refine k_lmul X563 hx 264 (D at_263) (fun v624 hv624 => ?_)
      refine k_iload X563 hx 266 (D at_264) rfl ?_
      refine k_iconst X563 hx 267 (D at_266) (z := (0 : Int32)) rfl ?_
      refine k_callS X563 hx hZ hown 270 (k_w hw 17 rfl) (k_w hw 18 rfl) (k_w hw 19 rfl) (k_w hw 20 rfl) (by decide) (rm4_9 l Z a0 hw [] v564 h21 n0 Z21 ) (by decide) (by decide) e563 (by rw [hml]; rfl) (argsL := [(.int v564), (.int (0 : Int32))]) (rest := [(.long v624)]) (lenOf pd_3 rfl) rfl (W := 2) (Nat.le_refl _) rfl (D at_267) (by show _ + 0 ≤ _; exact Nat.le_trans hce557 (by decide)) (by show _ + 0 ≤ _; exact Nat.le_trans hsl557 (by decide)) (fun T625 L625 r625 X625 q625 => ?_)
      obtain ⟨N625, e625, rfl⟩ := q625
      have N625' := Fr.app N563' N625
      show KEnds p e below s _ _ _ T625 (mkF m 270 #[iv i0, iv i1, iv i2, jv i3, s_, rv b1, iv (0 : Int32), iv (3 : Int32), iv (3 : Int32), iv v463, jv v512, s_, jv v515, s_, iv (1 : Int32), jv v559, s_, iv v564, u_] ((.int (f4_9 v564)) :: (.long v624) :: []))
      obtain ⟨v626, hv626⟩ : ∃ z, z = f4_9 v564 := ⟨_, rfl⟩
      rw [← hv626]
      refine k_i2l X625 hx 271 (D at_270) (fun v627 hv627 => ?_)
      refine k_ladd X625 hx 272 (D at_271) (fun v628 hv628 => ?_)
      refine k_lstore X625 hx 274 (D at_272) (Ls' := #[iv i0, iv i1, iv i2, jv i3, s_, rv b1, iv (0 : Int32), iv (3 : Int32), iv (3 : Int32), iv v463, jv v512, s_, jv v515, s_, iv (1 : Int32), jv v628, s_, iv v564, u_]) rfl ?_
      refine key562 T625 _ _ _ (1 : Int32) v628 v564 X625 e625 N625' hce557 hsl557 ?_
      have B629 : (0 : Int) ≤ v559.toInt ∧ v559.toInt ≤ 9 := ⟨kL_ge hP561.1.1 (by decide), kL_le hP561.1.2 (by decide)⟩
      have B630 : (-2147483648 : Int) ≤ v558.toInt ∧ v558.toInt ≤ 2147483647 := ⟨(rng32 v558).1, Int.le_of_lt_add_one (rng32 v558).2⟩
      have B631 : (0 : Int) ≤ (0 : Int32).toInt ∧ (0 : Int32).toInt ≤ 0 := (by decide)
      have q632 : ¬ v558.toInt = (0 : Int32).toInt := fun q => hc565 (Int32.toInt_inj.mp q)
      have B638 : (-2147483648 : Int) ≤ i2.toInt ∧ i2.toInt ≤ 2147483647 := ⟨(rng32 i2).1, Int.le_of_lt_add_one (rng32 i2).2⟩
      have B639 : (-2147483648 : Int) ≤ i0.toInt ∧ i0.toInt ≤ 2147483647 := ⟨(rng32 i0).1, Int.le_of_lt_add_one (rng32 i0).2⟩
      have B640 : (-2147483648 : Int) ≤ i1.toInt ∧ i1.toInt ≤ 2147483647 := ⟨(rng32 i1).1, Int.le_of_lt_add_one (rng32 i1).2⟩
      have B635 : (-128 : Int) ≤ v7.toInt ∧ v7.toInt ≤ 127 := (by rw [← hb8]; exact ⟨(c_i2b _).2.1, Int.le_of_lt_add_one (c_i2b _).2.2⟩)
      have q634 := own_fd v7 ⟨Int.le_trans (by decide) B635.1, Int.le_trans B635.2 (by decide)⟩; rw [← hv564] at q634
      have B633 : (-1 : Int) ≤ v564.toInt ∧ v564.toInt ≤ 9 := q634.2
      have B641 : (0 : Int) ≤ v564.toInt ∧ v564.toInt ≤ 9 := ⟨k_ge hc594 (by decide), B633.2⟩
      have B646 : (10 : Int) ≤ (10 : Int64).toInt ∧ (10 : Int64).toInt ≤ 10 := (by decide)
      have q645 : v624.toInt = 10 * v559.toInt := (by have q0 := c_lmul (10 : Int64) v559; have q1 := rng64 v624; have q2 := B629; rw [← hv624] at q0; rw [show (10 : Int64).toInt = 10 from (by decide)] at q0; omega)
      have B644 : (0 : Int) ≤ v624.toInt ∧ v624.toInt ≤ 90 := (by rw [q645]; exact k_mulB B629 (by decide))
      have q650 := own_mx v564 ⟨Int.le_trans (by decide) B641.1, Int.le_trans B641.2 (by decide)⟩; rw [← hv626] at q650
      have B649 : (0 : Int) ≤ v626.toInt ∧ v626.toInt ≤ 9 := q650.2
      have q648 : v627.toInt = v626.toInt := (by rw [hv627]; exact c_i2l _)
      have B647 : (0 : Int) ≤ v627.toInt ∧ v627.toInt ≤ 9 := (by rw [q648]; exact B649)
      have q643 : v628.toInt = v624.toInt + v627.toInt := k_laddx hv628 B644 B647 (by decide) (by decide)
      have B642 : (0 : Int) ≤ v628.toInt ∧ v628.toInt ≤ 99 := k_addB q643 B644 B647
      refine ⟨⟨fun hq651 => ?_, fun hq652 => ?_⟩, ?_⟩
      · rw [Int64.lt_iff_toInt_lt, show (0 : Int64).toInt = 0 from rfl] at hq651; omega
      · rw [Int64.lt_iff_toInt_lt, show (99 : Int64).toInt = 99 from rfl] at hq652; omega
      · exact Or.inl ⟨rfl, by omega⟩
   intro T653 lo653 ce653 sl653 v654 v655 v656 X653 e653 N653 hce653 hsl653 hP657
   refine k_iload X653 hx 276 (D at_274) rfl ?_
   refine k_iconst X653 hx 277 (D at_276) (z := (2 : Int32)) rfl ?_
   refine k_icmp_le X653 hx 280 325 (D at_277) (fun hc => absurd (by decide) hc) (fun _ => ?_)
   suffices key658 : ∀ (T749 : State) (lo749 : List Loc) (ce749 sl749 : Nat) (v750 : Int32) (v751 : Int64) (v752 : Int32), Stand p l e room_1 s m #[(.int i0), (.int i1), (.int i2), (.long i3)] below meth c T749 lo749 ce749 sl749 → T749.heap = h21 → Fr n0 lo749 → ce749 ≤ 16 → sl749 ≤ 128 → ((¬ v751 < 0 ∧ ¬ (999 : Int64) < v751) ∧ ((v750.toInt = 1 ∧ ((48 ≤ v3.toInt ∧ v3.toInt ≤ 57) ∧ (48 ≤ v7.toInt ∧ v7.toInt ≤ 57) ∧ (48 ≤ v11.toInt ∧ v11.toInt ≤ 57)) ∧ v751.toInt = 100 * (v3.toInt - 48) + 10 * (v7.toInt - 48) + 1 * (v11.toInt - 48)) ∨ (v750.toInt = 0 ∧ ¬ ((48 ≤ v3.toInt ∧ v3.toInt ≤ 57) ∧ (48 ≤ v7.toInt ∧ v7.toInt ≤ 57) ∧ (48 ≤ v11.toInt ∧ v11.toInt ≤ 57))))) → KEnds p e below s 16 128 (Q0 n0) T749 (mkF m 325 #[iv i0, iv i1, iv i2, jv i3, s_, rv b1, iv (0 : Int32), iv (3 : Int32), iv (3 : Int32), iv v463, jv v512, s_, jv v515, s_, iv v750, jv v751, s_, iv v752, u_] []) by
    refine k_aload X653 hx 282 (D at_280) rfl rfl ?_
    refine k_iload X653 hx 284 (D at_282) rfl ?_
    refine k_iconst X653 hx 285 (D at_284) (z := (2 : Int32)) rfl ?_
    refine k_iaddL X653 hx 286 (D at_285) (z := (2 : Int32)) (by decide) ?_
    refine k_baload X653 hx hZ 287 e653 Vw21 ⟨by decide, by decide⟩ (v := (.int v11)) rfl (D at_286) ?_
    refine k_callS X653 hx hZ hown 290 (k_w hw 13 rfl) (k_w hw 14 rfl) (k_w hw 3 rfl) (k_w hw 15 rfl) (by decide) (rm3_8 l Z a0 hw [] v11 h21 n0 Z21 ) (by decide) (by decide) e653 (by rw [hml]; rfl) (argsL := [(.int v11)]) (rest := []) (lenOf pd_2 rfl) rfl (W := 0) (Nat.le_refl _) rfl (D at_287) (by show _ + 0 ≤ _; exact Nat.le_trans hce653 (by decide)) (by show _ + 0 ≤ _; exact Nat.le_trans hsl653 (by decide)) (fun T659 L659 r659 X659 q659 => ?_)
    obtain ⟨N659, e659, rfl⟩ := q659
    have N659' := Fr.app N653 N659
    show KEnds p e below s _ _ _ T659 (mkF m 290 #[iv i0, iv i1, iv i2, jv i3, s_, rv b1, iv (0 : Int32), iv (3 : Int32), iv (3 : Int32), iv v463, jv v512, s_, jv v515, s_, iv v654, jv v655, s_, iv v656, u_] ((.int (f3_8 v11)) :: []))
    obtain ⟨v660, hv660⟩ : ∃ z, z = f3_8 v11 := ⟨_, rfl⟩
    rw [← hv660]
    refine k_istore X659 hx 292 (D at_290) (Ls' := #[iv i0, iv i1, iv i2, jv i3, s_, rv b1, iv (0 : Int32), iv (3 : Int32), iv (3 : Int32), iv v463, jv v512, s_, jv v515, s_, iv v654, jv v655, s_, iv v660, u_]) rfl ?_
    refine k_iload X659 hx 294 (D at_292) rfl ?_
    refine k_if_eq X659 hx 297 306 (D at_294) (fun hc661 => ?_) (fun hc661 => ?_)
    ·
     refine k_iconst X659 hx 307 (D at_306) (z := (0 : Int32)) rfl ?_
     refine k_istore X659 hx 309 (D at_307) (Ls' := #[iv i0, iv i1, iv i2, jv i3, s_, rv b1, iv (0 : Int32), iv (3 : Int32), iv (3 : Int32), iv v463, jv v512, s_, jv v515, s_, iv (0 : Int32), jv v655, s_, iv v660, u_]) rfl ?_
     refine k_ldcL X659 hx hZ hown 312 (k_w hw 16 rfl) (D at_309) ?_
     refine k_lload X659 hx 314 (D at_312) rfl ?_
     refine k_lmul X659 hx 315 (D at_314) (fun v662 hv662 => ?_)
     refine k_iload X659 hx 317 (D at_315) rfl ?_
     refine k_iconst X659 hx 318 (D at_317) (z := (0 : Int32)) rfl ?_
     refine k_callS X659 hx hZ hown 321 (k_w hw 17 rfl) (k_w hw 18 rfl) (k_w hw 19 rfl) (k_w hw 20 rfl) (by decide) (rm4_9 l Z a0 hw [] v660 h21 n0 Z21 ) (by decide) (by decide) e659 (by rw [hml]; rfl) (argsL := [(.int v660), (.int (0 : Int32))]) (rest := [(.long v662)]) (lenOf pd_3 rfl) rfl (W := 2) (Nat.le_refl _) rfl (D at_318) (by show _ + 0 ≤ _; exact Nat.le_trans hce653 (by decide)) (by show _ + 0 ≤ _; exact Nat.le_trans hsl653 (by decide)) (fun T663 L663 r663 X663 q663 => ?_)
     obtain ⟨N663, e663, rfl⟩ := q663
     have N663' := Fr.app N659' N663
     show KEnds p e below s _ _ _ T663 (mkF m 321 #[iv i0, iv i1, iv i2, jv i3, s_, rv b1, iv (0 : Int32), iv (3 : Int32), iv (3 : Int32), iv v463, jv v512, s_, jv v515, s_, iv (0 : Int32), jv v655, s_, iv v660, u_] ((.int (f4_9 v660)) :: (.long v662) :: []))
     obtain ⟨v664, hv664⟩ : ∃ z, z = f4_9 v660 := ⟨_, rfl⟩
     rw [← hv664]
     refine k_i2l X663 hx 322 (D at_321) (fun v665 hv665 => ?_)
     refine k_ladd X663 hx 323 (D at_322) (fun v666 hv666 => ?_)
     refine k_lstore X663 hx 325 (D at_323) (Ls' := #[iv i0, iv i1, iv i2, jv i3, s_, rv b1, iv (0 : Int32), iv (3 : Int32), iv (3 : Int32), iv v463, jv v512, s_, jv v515, s_, iv (0 : Int32), jv v666, s_, iv v660, u_]) rfl ?_
     refine key658 T663 _ _ _ (0 : Int32) v666 v660 X663 e663 N663' hce653 hsl653 ?_
     have B667 : (0 : Int) ≤ v655.toInt ∧ v655.toInt ≤ 99 := ⟨kL_ge hP657.1.1 (by decide), kL_le hP657.1.2 (by decide)⟩
     have B668 : (-2147483648 : Int) ≤ v654.toInt ∧ v654.toInt ≤ 2147483647 := ⟨(rng32 v654).1, Int.le_of_lt_add_one (rng32 v654).2⟩
     have B669 : (0 : Int) ≤ (0 : Int32).toInt ∧ (0 : Int32).toInt ≤ 0 := (by decide)
     have q670 := congrArg Int32.toInt hc661
     have B675 : (10 : Int) ≤ (10 : Int64).toInt ∧ (10 : Int64).toInt ≤ 10 := (by decide)
     have q674 : v662.toInt = 10 * v655.toInt := (by have q0 := c_lmul (10 : Int64) v655; have q1 := rng64 v662; have q2 := B667; rw [← hv662] at q0; rw [show (10 : Int64).toInt = 10 from (by decide)] at q0; omega)
     have B673 : (0 : Int) ≤ v662.toInt ∧ v662.toInt ≤ 990 := (by rw [q674]; exact k_mulB B667 (by decide))
     have B685 : (-2147483648 : Int) ≤ i2.toInt ∧ i2.toInt ≤ 2147483647 := ⟨(rng32 i2).1, Int.le_of_lt_add_one (rng32 i2).2⟩
     have B686 : (-2147483648 : Int) ≤ i0.toInt ∧ i0.toInt ≤ 2147483647 := ⟨(rng32 i0).1, Int.le_of_lt_add_one (rng32 i0).2⟩
     have B687 : (-2147483648 : Int) ≤ i1.toInt ∧ i1.toInt ≤ 2147483647 := ⟨(rng32 i1).1, Int.le_of_lt_add_one (rng32 i1).2⟩
     have B682 : (-128 : Int) ≤ v11.toInt ∧ v11.toInt ≤ 127 := (by rw [← hb12]; exact ⟨(c_i2b _).2.1, Int.le_of_lt_add_one (c_i2b _).2.2⟩)
     have q681 := own_fd v11 ⟨Int.le_trans (by decide) B682.1, Int.le_trans B682.2 (by decide)⟩; rw [← hv660] at q681
     have B680 : (-1 : Int) ≤ v660.toInt ∧ v660.toInt ≤ 9 := q681.2
     have q679 := own_mx v660 ⟨Int.le_trans (by decide) B680.1, Int.le_trans B680.2 (by decide)⟩; rw [← hv664] at q679
     have B678 : (0 : Int) ≤ v664.toInt ∧ v664.toInt ≤ 9 := q679.2
     have q677 : v665.toInt = v664.toInt := (by rw [hv665]; exact c_i2l _)
     have B676 : (0 : Int) ≤ v665.toInt ∧ v665.toInt ≤ 9 := (by rw [q677]; exact B678)
     have q672 : v666.toInt = v662.toInt + v665.toInt := k_laddx hv666 B673 B676 (by decide) (by decide)
     have B671 : (0 : Int) ≤ v666.toInt ∧ v666.toInt ≤ 999 := k_addB q672 B673 B676
     refine ⟨⟨fun hq688 => ?_, fun hq689 => ?_⟩, ?_⟩
     · rw [Int64.lt_iff_toInt_lt, show (0 : Int64).toInt = 0 from rfl] at hq688; omega
     · rw [Int64.lt_iff_toInt_lt, show (999 : Int64).toInt = 999 from rfl] at hq689; omega
     · exact Or.inr ⟨rfl, by omega⟩
    ·
     refine k_iload X659 hx 299 (D at_297) rfl ?_
     refine k_if_lt X659 hx 302 306 (D at_299) (fun hc690 => ?_) (fun hc690 => ?_)
     ·
      refine k_iconst X659 hx 307 (D at_306) (z := (0 : Int32)) rfl ?_
      refine k_istore X659 hx 309 (D at_307) (Ls' := #[iv i0, iv i1, iv i2, jv i3, s_, rv b1, iv (0 : Int32), iv (3 : Int32), iv (3 : Int32), iv v463, jv v512, s_, jv v515, s_, iv (0 : Int32), jv v655, s_, iv v660, u_]) rfl ?_
      refine k_ldcL X659 hx hZ hown 312 (k_w hw 16 rfl) (D at_309) ?_
      refine k_lload X659 hx 314 (D at_312) rfl ?_
      refine k_lmul X659 hx 315 (D at_314) (fun v691 hv691 => ?_)
      refine k_iload X659 hx 317 (D at_315) rfl ?_
      refine k_iconst X659 hx 318 (D at_317) (z := (0 : Int32)) rfl ?_
      refine k_callS X659 hx hZ hown 321 (k_w hw 17 rfl) (k_w hw 18 rfl) (k_w hw 19 rfl) (k_w hw 20 rfl) (by decide) (rm4_9 l Z a0 hw [] v660 h21 n0 Z21 ) (by decide) (by decide) e659 (by rw [hml]; rfl) (argsL := [(.int v660), (.int (0 : Int32))]) (rest := [(.long v691)]) (lenOf pd_3 rfl) rfl (W := 2) (Nat.le_refl _) rfl (D at_318) (by show _ + 0 ≤ _; exact Nat.le_trans hce653 (by decide)) (by show _ + 0 ≤ _; exact Nat.le_trans hsl653 (by decide)) (fun T692 L692 r692 X692 q692 => ?_)
      obtain ⟨N692, e692, rfl⟩ := q692
      have N692' := Fr.app N659' N692
      show KEnds p e below s _ _ _ T692 (mkF m 321 #[iv i0, iv i1, iv i2, jv i3, s_, rv b1, iv (0 : Int32), iv (3 : Int32), iv (3 : Int32), iv v463, jv v512, s_, jv v515, s_, iv (0 : Int32), jv v655, s_, iv v660, u_] ((.int (f4_9 v660)) :: (.long v691) :: []))
      obtain ⟨v693, hv693⟩ : ∃ z, z = f4_9 v660 := ⟨_, rfl⟩
      rw [← hv693]
      refine k_i2l X692 hx 322 (D at_321) (fun v694 hv694 => ?_)
      refine k_ladd X692 hx 323 (D at_322) (fun v695 hv695 => ?_)
      refine k_lstore X692 hx 325 (D at_323) (Ls' := #[iv i0, iv i1, iv i2, jv i3, s_, rv b1, iv (0 : Int32), iv (3 : Int32), iv (3 : Int32), iv v463, jv v512, s_, jv v515, s_, iv (0 : Int32), jv v695, s_, iv v660, u_]) rfl ?_
      refine key658 T692 _ _ _ (0 : Int32) v695 v660 X692 e692 N692' hce653 hsl653 ?_
      have B696 : (0 : Int) ≤ v655.toInt ∧ v655.toInt ≤ 99 := ⟨kL_ge hP657.1.1 (by decide), kL_le hP657.1.2 (by decide)⟩
      have B697 : (-2147483648 : Int) ≤ v654.toInt ∧ v654.toInt ≤ 2147483647 := ⟨(rng32 v654).1, Int.le_of_lt_add_one (rng32 v654).2⟩
      have B698 : (0 : Int) ≤ (0 : Int32).toInt ∧ (0 : Int32).toInt ≤ 0 := (by decide)
      have q699 : ¬ v654.toInt = (0 : Int32).toInt := fun q => hc661 (Int32.toInt_inj.mp q)
      have B705 : (-2147483648 : Int) ≤ i2.toInt ∧ i2.toInt ≤ 2147483647 := ⟨(rng32 i2).1, Int.le_of_lt_add_one (rng32 i2).2⟩
      have B706 : (-2147483648 : Int) ≤ i0.toInt ∧ i0.toInt ≤ 2147483647 := ⟨(rng32 i0).1, Int.le_of_lt_add_one (rng32 i0).2⟩
      have B707 : (-2147483648 : Int) ≤ i1.toInt ∧ i1.toInt ≤ 2147483647 := ⟨(rng32 i1).1, Int.le_of_lt_add_one (rng32 i1).2⟩
      have B702 : (-128 : Int) ≤ v11.toInt ∧ v11.toInt ≤ 127 := (by rw [← hb12]; exact ⟨(c_i2b _).2.1, Int.le_of_lt_add_one (c_i2b _).2.2⟩)
      have q701 := own_fd v11 ⟨Int.le_trans (by decide) B702.1, Int.le_trans B702.2 (by decide)⟩; rw [← hv660] at q701
      have B700 : (-1 : Int) ≤ v660.toInt ∧ v660.toInt ≤ 9 := q701.2
      have B708 : (-1 : Int) ≤ v660.toInt ∧ v660.toInt ≤ -1 := ⟨B700.1, k_lt hc690 (by decide)⟩
      have B713 : (10 : Int) ≤ (10 : Int64).toInt ∧ (10 : Int64).toInt ≤ 10 := (by decide)
      have q712 : v691.toInt = 10 * v655.toInt := (by have q0 := c_lmul (10 : Int64) v655; have q1 := rng64 v691; have q2 := B696; rw [← hv691] at q0; rw [show (10 : Int64).toInt = 10 from (by decide)] at q0; omega)
      have B711 : (0 : Int) ≤ v691.toInt ∧ v691.toInt ≤ 990 := (by rw [q712]; exact k_mulB B696 (by decide))
      have q717 := own_mx v660 ⟨Int.le_trans (by decide) B708.1, Int.le_trans B708.2 (by decide)⟩; rw [← hv693] at q717
      have B716 : (0 : Int) ≤ v693.toInt ∧ v693.toInt ≤ 9 := q717.2
      have q715 : v694.toInt = v693.toInt := (by rw [hv694]; exact c_i2l _)
      have B714 : (0 : Int) ≤ v694.toInt ∧ v694.toInt ≤ 9 := (by rw [q715]; exact B716)
      have q710 : v695.toInt = v691.toInt + v694.toInt := k_laddx hv695 B711 B714 (by decide) (by decide)
      have B709 : (0 : Int) ≤ v695.toInt ∧ v695.toInt ≤ 999 := k_addB q710 B711 B714
      refine ⟨⟨fun hq718 => ?_, fun hq719 => ?_⟩, ?_⟩
      · rw [Int64.lt_iff_toInt_lt, show (0 : Int64).toInt = 0 from rfl] at hq718; omega
      · rw [Int64.lt_iff_toInt_lt, show (999 : Int64).toInt = 999 from rfl] at hq719; omega
      · exact Or.inr ⟨rfl, by omega⟩
     ·
      refine k_iconst X659 hx 303 (D at_302) (z := (1 : Int32)) rfl ?_
      refine k_goto X659 hx 307 (D at_303) ?_
      refine k_istore X659 hx 309 (D at_307) (Ls' := #[iv i0, iv i1, iv i2, jv i3, s_, rv b1, iv (0 : Int32), iv (3 : Int32), iv (3 : Int32), iv v463, jv v512, s_, jv v515, s_, iv (1 : Int32), jv v655, s_, iv v660, u_]) rfl ?_
      refine k_ldcL X659 hx hZ hown 312 (k_w hw 16 rfl) (D at_309) ?_
      refine k_lload X659 hx 314 (D at_312) rfl ?_
      refine k_lmul X659 hx 315 (D at_314) (fun v720 hv720 => ?_)
      refine k_iload X659 hx 317 (D at_315) rfl ?_
      refine k_iconst X659 hx 318 (D at_317) (z := (0 : Int32)) rfl ?_
      refine k_callS X659 hx hZ hown 321 (k_w hw 17 rfl) (k_w hw 18 rfl) (k_w hw 19 rfl) (k_w hw 20 rfl) (by decide) (rm4_9 l Z a0 hw [] v660 h21 n0 Z21 ) (by decide) (by decide) e659 (by rw [hml]; rfl) (argsL := [(.int v660), (.int (0 : Int32))]) (rest := [(.long v720)]) (lenOf pd_3 rfl) rfl (W := 2) (Nat.le_refl _) rfl (D at_318) (by show _ + 0 ≤ _; exact Nat.le_trans hce653 (by decide)) (by show _ + 0 ≤ _; exact Nat.le_trans hsl653 (by decide)) (fun T721 L721 r721 X721 q721 => ?_)
      obtain ⟨N721, e721, rfl⟩ := q721
      have N721' := Fr.app N659' N721
      show KEnds p e below s _ _ _ T721 (mkF m 321 #[iv i0, iv i1, iv i2, jv i3, s_, rv b1, iv (0 : Int32), iv (3 : Int32), iv (3 : Int32), iv v463, jv v512, s_, jv v515, s_, iv (1 : Int32), jv v655, s_, iv v660, u_] ((.int (f4_9 v660)) :: (.long v720) :: []))
      obtain ⟨v722, hv722⟩ : ∃ z, z = f4_9 v660 := ⟨_, rfl⟩
      rw [← hv722]
      refine k_i2l X721 hx 322 (D at_321) (fun v723 hv723 => ?_)
      refine k_ladd X721 hx 323 (D at_322) (fun v724 hv724 => ?_)
      refine k_lstore X721 hx 325 (D at_323) (Ls' := #[iv i0, iv i1, iv i2, jv i3, s_, rv b1, iv (0 : Int32), iv (3 : Int32), iv (3 : Int32), iv v463, jv v512, s_, jv v515, s_, iv (1 : Int32), jv v724, s_, iv v660, u_]) rfl ?_
      refine key658 T721 _ _ _ (1 : Int32) v724 v660 X721 e721 N721' hce653 hsl653 ?_
      have B725 : (0 : Int) ≤ v655.toInt ∧ v655.toInt ≤ 99 := ⟨kL_ge hP657.1.1 (by decide), kL_le hP657.1.2 (by decide)⟩
      have B726 : (-2147483648 : Int) ≤ v654.toInt ∧ v654.toInt ≤ 2147483647 := ⟨(rng32 v654).1, Int.le_of_lt_add_one (rng32 v654).2⟩
      have B727 : (0 : Int) ≤ (0 : Int32).toInt ∧ (0 : Int32).toInt ≤ 0 := (by decide)
      have q728 : ¬ v654.toInt = (0 : Int32).toInt := fun q => hc661 (Int32.toInt_inj.mp q)
      have B734 : (-2147483648 : Int) ≤ i2.toInt ∧ i2.toInt ≤ 2147483647 := ⟨(rng32 i2).1, Int.le_of_lt_add_one (rng32 i2).2⟩
      have B735 : (-2147483648 : Int) ≤ i0.toInt ∧ i0.toInt ≤ 2147483647 := ⟨(rng32 i0).1, Int.le_of_lt_add_one (rng32 i0).2⟩
      have B736 : (-2147483648 : Int) ≤ i1.toInt ∧ i1.toInt ≤ 2147483647 := ⟨(rng32 i1).1, Int.le_of_lt_add_one (rng32 i1).2⟩
      have B731 : (-128 : Int) ≤ v11.toInt ∧ v11.toInt ≤ 127 := (by rw [← hb12]; exact ⟨(c_i2b _).2.1, Int.le_of_lt_add_one (c_i2b _).2.2⟩)
      have q730 := own_fd v11 ⟨Int.le_trans (by decide) B731.1, Int.le_trans B731.2 (by decide)⟩; rw [← hv660] at q730
      have B729 : (-1 : Int) ≤ v660.toInt ∧ v660.toInt ≤ 9 := q730.2
      have B737 : (0 : Int) ≤ v660.toInt ∧ v660.toInt ≤ 9 := ⟨k_ge hc690 (by decide), B729.2⟩
      have B742 : (10 : Int) ≤ (10 : Int64).toInt ∧ (10 : Int64).toInt ≤ 10 := (by decide)
      have q741 : v720.toInt = 10 * v655.toInt := (by have q0 := c_lmul (10 : Int64) v655; have q1 := rng64 v720; have q2 := B725; rw [← hv720] at q0; rw [show (10 : Int64).toInt = 10 from (by decide)] at q0; omega)
      have B740 : (0 : Int) ≤ v720.toInt ∧ v720.toInt ≤ 990 := (by rw [q741]; exact k_mulB B725 (by decide))
      have q746 := own_mx v660 ⟨Int.le_trans (by decide) B737.1, Int.le_trans B737.2 (by decide)⟩; rw [← hv722] at q746
      have B745 : (0 : Int) ≤ v722.toInt ∧ v722.toInt ≤ 9 := q746.2
      have q744 : v723.toInt = v722.toInt := (by rw [hv723]; exact c_i2l _)
      have B743 : (0 : Int) ≤ v723.toInt ∧ v723.toInt ≤ 9 := (by rw [q744]; exact B745)
      have q739 : v724.toInt = v720.toInt + v723.toInt := k_laddx hv724 B740 B743 (by decide) (by decide)
      have B738 : (0 : Int) ≤ v724.toInt ∧ v724.toInt ≤ 999 := k_addB q739 B740 B743
      refine ⟨⟨fun hq747 => ?_, fun hq748 => ?_⟩, ?_⟩
      · rw [Int64.lt_iff_toInt_lt, show (0 : Int64).toInt = 0 from rfl] at hq747; omega
      · rw [Int64.lt_iff_toInt_lt, show (999 : Int64).toInt = 999 from rfl] at hq748; omega
      · exact Or.inl ⟨rfl, by omega⟩
   intro T749 lo749 ce749 sl749 v750 v751 v752 X749 e749 N749 hce749 hsl749 hP753
   refine k_iload X749 hx 327 (D at_325) rfl ?_
   refine k_iconst X749 hx 328 (D at_327) (z := (3 : Int32)) rfl ?_
   refine k_icmp_le X749 hx 331 376 (D at_328) (fun _ => ?_) (fun hc => absurd hc (by decide))
   refine k_iload X749 hx 378 (D at_376) rfl ?_
   refine k_if_eq X749 hx 381 394 (D at_378) (fun hc754 => ?_) (fun hc754 => ?_)
   ·
    refine k_ldcL X749 hx hZ hown 397 (k_w hw 11 rfl) (D at_394) ?_
    refine k_lstore X749 hx 399 (D at_397) (Ls' := #[iv i0, iv i1, iv i2, jv i3, s_, rv b1, iv (0 : Int32), iv (3 : Int32), iv (3 : Int32), iv v463, jv v512, s_, jv v515, s_, iv v750, jv v751, s_, jv (-1 : Int64), s_]) rfl ?_
    refine k_lload X749 hx 401 (D at_399) rfl ?_
    refine k_lload X749 hx 403 (D at_401) rfl ?_
    refine k_lcif_ne X749 hx 407 411 404 (D at_403) (D at_404) (fun hc => absurd (Classical.byContradiction (fun hq755 => by have B756 : (0 : Int) ≤ v512.toInt ∧ v512.toInt ≤ 9223372036854775807 := ⟨kL_ge hP513 (by decide), Int.le_of_lt_add_one (rng64 v512).2⟩; have B757 : (0 : Int) ≤ v751.toInt ∧ v751.toInt ≤ 999 := ⟨kL_ge hP753.1.1 (by decide), kL_le hP753.1.2 (by decide)⟩; have B758 : (-2147483648 : Int) ≤ v750.toInt ∧ v750.toInt ≤ 2147483647 := ⟨(rng32 v750).1, Int.le_of_lt_add_one (rng32 v750).2⟩; have B759 : (0 : Int) ≤ (0 : Int32).toInt ∧ (0 : Int32).toInt ≤ 0 := (by decide); have q760 := congrArg Int32.toInt hc754; have B761 : (-9223372036854775808 : Int) ≤ v515.toInt ∧ v515.toInt ≤ 9223372036854775807 := ⟨(rng64 v515).1, Int.le_of_lt_add_one (rng64 v515).2⟩; have B762 : (-1 : Int) ≤ (-1 : Int64).toInt ∧ (-1 : Int64).toInt ≤ -1 := (by decide); have q763 : ¬ v515.toInt = (-1 : Int64).toInt := fun q => hq755 (Int64.toInt_inj.mp q); omega)) hc) (fun _ => ?_)
    refine k_iconst X749 hx 408 (D at_407) (z := (1 : Int32)) rfl ?_
    refine k_goto X749 hx 412 (D at_408) ?_
    exact k_retN X749 hx (t := .boolean) hret (by simp) (D at_412) hlk (by first | exact hce749 | exact Nat.le_trans (Nat.le_refl _) hce749) (by first | exact hsl749 | exact Nat.le_trans (Nat.le_refl _) hsl749) (z' := (1 : Int32)) rfl ⟨rfl, N749⟩
   ·
    refine k_lload X749 hx 383 (D at_381) rfl ?_
    refine k_lload X749 hx 385 (D at_383) rfl ?_
    refine k_lcif_gt X749 hx 389 394 386 (D at_385) (D at_386) (fun hc764 => ?_) (fun hc764 => ?_)
    ·
     refine k_ldcL X749 hx hZ hown 397 (k_w hw 11 rfl) (D at_394) ?_
     refine k_lstore X749 hx 399 (D at_397) (Ls' := #[iv i0, iv i1, iv i2, jv i3, s_, rv b1, iv (0 : Int32), iv (3 : Int32), iv (3 : Int32), iv v463, jv v512, s_, jv v515, s_, iv v750, jv v751, s_, jv (-1 : Int64), s_]) rfl ?_
     refine k_lload X749 hx 401 (D at_399) rfl ?_
     refine k_lload X749 hx 403 (D at_401) rfl ?_
     refine k_lcif_ne X749 hx 407 411 404 (D at_403) (D at_404) (fun hc => absurd (Classical.byContradiction (fun hq765 => by have B766 : (0 : Int) ≤ v512.toInt ∧ v512.toInt ≤ 9223372036854775807 := ⟨kL_ge hP513 (by decide), Int.le_of_lt_add_one (rng64 v512).2⟩; have B767 : (0 : Int) ≤ v751.toInt ∧ v751.toInt ≤ 999 := ⟨kL_ge hP753.1.1 (by decide), kL_le hP753.1.2 (by decide)⟩; have B768 : (-2147483648 : Int) ≤ v750.toInt ∧ v750.toInt ≤ 2147483647 := ⟨(rng32 v750).1, Int.le_of_lt_add_one (rng32 v750).2⟩; have B769 : (0 : Int) ≤ (0 : Int32).toInt ∧ (0 : Int32).toInt ≤ 0 := (by decide); have q770 : ¬ v750.toInt = (0 : Int32).toInt := fun q => hc754 (Int32.toInt_inj.mp q); have q771 := hc764; rw [Int64.lt_iff_toInt_lt] at q771; have B772 : (-9223372036854775808 : Int) ≤ v515.toInt ∧ v515.toInt ≤ 9223372036854775807 := ⟨(rng64 v515).1, Int.le_of_lt_add_one (rng64 v515).2⟩; have B773 : (-1 : Int) ≤ (-1 : Int64).toInt ∧ (-1 : Int64).toInt ≤ -1 := (by decide); have q774 : ¬ v515.toInt = (-1 : Int64).toInt := fun q => hq765 (Int64.toInt_inj.mp q); omega)) hc) (fun _ => ?_)
     refine k_iconst X749 hx 408 (D at_407) (z := (1 : Int32)) rfl ?_
     refine k_goto X749 hx 412 (D at_408) ?_
     exact k_retN X749 hx (t := .boolean) hret (by simp) (D at_412) hlk (by first | exact hce749 | exact Nat.le_trans (Nat.le_refl _) hce749) (by first | exact hsl749 | exact Nat.le_trans (Nat.le_refl _) hsl749) (z' := (1 : Int32)) rfl ⟨rfl, N749⟩
    ·
     refine k_lload X749 hx 391 (D at_389) rfl ?_
     refine k_goto X749 hx 397 (D at_391) ?_
     refine k_lstore X749 hx 399 (D at_397) (Ls' := #[iv i0, iv i1, iv i2, jv i3, s_, rv b1, iv (0 : Int32), iv (3 : Int32), iv (3 : Int32), iv v463, jv v512, s_, jv v515, s_, iv v750, jv v751, s_, jv v751, s_]) rfl ?_
     refine k_lload X749 hx 401 (D at_399) rfl ?_
     refine k_lload X749 hx 403 (D at_401) rfl ?_
     refine k_lcif_ne X749 hx 407 411 404 (D at_403) (D at_404) (fun hc => absurd (Classical.byContradiction (fun hq775 => by have B776 : (0 : Int) ≤ v512.toInt ∧ v512.toInt ≤ 9223372036854775807 := ⟨kL_ge hP513 (by decide), Int.le_of_lt_add_one (rng64 v512).2⟩; have B777 : (0 : Int) ≤ v751.toInt ∧ v751.toInt ≤ 999 := ⟨kL_ge hP753.1.1 (by decide), kL_le hP753.1.2 (by decide)⟩; have B778 : (-2147483648 : Int) ≤ v750.toInt ∧ v750.toInt ≤ 2147483647 := ⟨(rng32 v750).1, Int.le_of_lt_add_one (rng32 v750).2⟩; have B779 : (0 : Int) ≤ (0 : Int32).toInt ∧ (0 : Int32).toInt ≤ 0 := (by decide); have q780 : ¬ v750.toInt = (0 : Int32).toInt := fun q => hc754 (Int32.toInt_inj.mp q); have q781 := hc764; rw [Int64.lt_iff_toInt_lt] at q781; have B782 : (-9223372036854775808 : Int) ≤ v515.toInt ∧ v515.toInt ≤ 9223372036854775807 := ⟨(rng64 v515).1, Int.le_of_lt_add_one (rng64 v515).2⟩; have q783 : ¬ v515.toInt = v751.toInt := fun q => hq775 (Int64.toInt_inj.mp q); omega)) hc) (fun _ => ?_)
     refine k_iconst X749 hx 408 (D at_407) (z := (1 : Int32)) rfl ?_
     refine k_goto X749 hx 412 (D at_408) ?_
     exact k_retN X749 hx (t := .boolean) hret (by simp) (D at_412) hlk (by first | exact hce749 | exact Nat.le_trans (Nat.le_refl _) hce749) (by first | exact hsl749 | exact Nat.le_trans (Nat.le_refl _) hsl749) (z' := (1 : Int32)) rfl ⟨rfl, N749⟩
  ·
   show KEnds p e below s _ _ _ T21 (mkF m 76 #[iv i0, iv i1, iv i2, jv i3, s_, rv b1, iv (0 : Int32), u_, u_, u_, u_, u_, u_, u_, u_, u_, u_, u_, u_] [(.int (4 : Int32))])
   refine k_istore X21 hx 78 (D at_76) (Ls' := #[iv i0, iv i1, iv i2, jv i3, s_, rv b1, iv (0 : Int32), iv (4 : Int32), u_, u_, u_, u_, u_, u_, u_, u_, u_, u_, u_]) rfl ?_
   refine k_iload X21 hx 80 (D at_78) rfl ?_
   refine k_iload X21 hx 82 (D at_80) rfl ?_
   refine k_iaddL X21 hx 83 (D at_82) (z := (4 : Int32)) (by decide) ?_
   refine k_istore X21 hx 85 (D at_83) (Ls' := #[iv i0, iv i1, iv i2, jv i3, s_, rv b1, iv (0 : Int32), iv (4 : Int32), iv (4 : Int32), u_, u_, u_, u_, u_, u_, u_, u_, u_, u_]) rfl ?_
   refine k_iloadN X21 hx 86 (D at_85) rfl ?_
   refine k_bipush X21 hx 88 (D at_86) (z := (9 : Int32)) rfl ?_
   refine k_iushr X21 hx 89 (D at_88) (fun v785 hv785 => ?_)
   refine k_iconst X21 hx 90 (D at_89) (z := (3 : Int32)) rfl ?_
   refine k_iand X21 hx 91 (D at_90) (fun v786 hv786 => ?_)
   refine k_istore X21 hx 93 (D at_91) (Ls' := #[iv i0, iv i1, iv i2, jv i3, s_, rv b1, iv (0 : Int32), iv (4 : Int32), iv (4 : Int32), iv v786, u_, u_, u_, u_, u_, u_, u_, u_, u_]) rfl ?_
   suffices key787 : ∀ (v835 : Int64), (¬ v835 < 0) → KEnds p e below s 16 128 (Q0 n0) T21 (mkF m 147 #[iv i0, iv i1, iv i2, jv i3, s_, rv b1, iv (0 : Int32), iv (4 : Int32), iv (4 : Int32), iv v786, jv v835, s_, u_, u_, u_, u_, u_, u_, u_] []) by
    refine k_iload X21 hx 95 (D at_93) rfl ?_
    refine k_if_ne X21 hx 98 108 (D at_95) (fun hc788 => ?_) (fun hc788 => ?_)
    ·
     refine k_iload X21 hx 110 (D at_108) rfl ?_
     refine k_iconst X21 hx 111 (D at_110) (z := (1 : Int32)) rfl ?_
     refine k_icmp_ne X21 hx 114 124 (D at_111) (fun hc789 => ?_) (fun hc789 => ?_)
     ·
      refine k_iload X21 hx 126 (D at_124) rfl ?_
      refine k_iconst X21 hx 127 (D at_126) (z := (2 : Int32)) rfl ?_
      refine k_icmp_ne X21 hx 130 140 (D at_127) (fun hc790 => ?_) (fun hc790 => ?_)
      ·
       refine k_lloadN X21 hx 141 (D at_140) rfl ?_
       refine k_ldcL X21 hx hZ hown 144 (k_w hw 21 rfl) (D at_141) ?_
       refine k_land X21 hx 145 (D at_144) (fun v791 hv791 => ?_)
       refine k_lstore X21 hx 147 (D at_145) (Ls' := #[iv i0, iv i1, iv i2, jv i3, s_, rv b1, iv (0 : Int32), iv (4 : Int32), iv (4 : Int32), iv v786, jv v791, s_, u_, u_, u_, u_, u_, u_, u_]) rfl ?_
       refine key787 v791 ?_
       intro hq797
       have B800 : (-9223372036854775808 : Int) ≤ i3.toInt ∧ i3.toInt ≤ 9223372036854775807 := ⟨(rng64 i3).1, Int.le_of_lt_add_one (rng64 i3).2⟩
       have q799 : v791.toInt = i3.toInt % 16 := (by rw [hv791]; exact c_maskL _ _ 4 (by decide) (by decide))
       have B798 : (0 : Int) ≤ v791.toInt ∧ v791.toInt ≤ 15 := (by rw [q799]; exact k_modB (by decide))
       have B801 : (0 : Int) ≤ v791.toInt ∧ v791.toInt ≤ -1 := ⟨B798.1, kL_lt hq797 (by decide)⟩
       omega
      ·
       refine k_lloadN X21 hx 131 (D at_130) rfl ?_
       refine k_ldcL X21 hx hZ hown 134 (k_w hw 23 rfl) (D at_131) ?_
       refine k_land X21 hx 135 (D at_134) (fun v802 hv802 => ?_)
       refine k_lstore X21 hx 137 (D at_135) (Ls' := #[iv i0, iv i1, iv i2, jv i3, s_, rv b1, iv (0 : Int32), iv (4 : Int32), iv (4 : Int32), iv v786, jv v802, s_, u_, u_, u_, u_, u_, u_, u_]) rfl ?_
       refine k_goto X21 hx 147 (D at_137) ?_
       refine key787 v802 ?_
       intro hq808
       have B811 : (-9223372036854775808 : Int) ≤ i3.toInt ∧ i3.toInt ≤ 9223372036854775807 := ⟨(rng64 i3).1, Int.le_of_lt_add_one (rng64 i3).2⟩
       have q810 : v802.toInt = i3.toInt % 128 := (by rw [hv802]; exact c_maskL _ _ 7 (by decide) (by decide))
       have B809 : (0 : Int) ≤ v802.toInt ∧ v802.toInt ≤ 127 := (by rw [q810]; exact k_modB (by decide))
       have B812 : (0 : Int) ≤ v802.toInt ∧ v802.toInt ≤ -1 := ⟨B809.1, kL_lt hq808 (by decide)⟩
       omega
     ·
      refine k_lloadN X21 hx 115 (D at_114) rfl ?_
      refine k_ldcL X21 hx hZ hown 118 (k_w hw 22 rfl) (D at_115) ?_
      refine k_land X21 hx 119 (D at_118) (fun v813 hv813 => ?_)
      refine k_lstore X21 hx 121 (D at_119) (Ls' := #[iv i0, iv i1, iv i2, jv i3, s_, rv b1, iv (0 : Int32), iv (4 : Int32), iv (4 : Int32), iv v786, jv v813, s_, u_, u_, u_, u_, u_, u_, u_]) rfl ?_
      refine k_goto X21 hx 147 (D at_121) ?_
      refine key787 v813 ?_
      intro hq819
      have B822 : (-9223372036854775808 : Int) ≤ i3.toInt ∧ i3.toInt ≤ 9223372036854775807 := ⟨(rng64 i3).1, Int.le_of_lt_add_one (rng64 i3).2⟩
      have q821 : v813.toInt = i3.toInt % 16384 := (by rw [hv813]; exact c_maskL _ _ 14 (by decide) (by decide))
      have B820 : (0 : Int) ≤ v813.toInt ∧ v813.toInt ≤ 16383 := (by rw [q821]; exact k_modB (by decide))
      have B823 : (0 : Int) ≤ v813.toInt ∧ v813.toInt ≤ -1 := ⟨B820.1, kL_lt hq819 (by decide)⟩
      omega
    ·
     refine k_lloadN X21 hx 99 (D at_98) rfl ?_
     refine k_ldcL X21 hx hZ hown 102 (k_w hw 5 rfl) (D at_99) ?_
     refine k_land X21 hx 103 (D at_102) (fun v824 hv824 => ?_)
     refine k_lstore X21 hx 105 (D at_103) (Ls' := #[iv i0, iv i1, iv i2, jv i3, s_, rv b1, iv (0 : Int32), iv (4 : Int32), iv (4 : Int32), iv v786, jv v824, s_, u_, u_, u_, u_, u_, u_, u_]) rfl ?_
     refine k_goto X21 hx 147 (D at_105) ?_
     refine key787 v824 ?_
     intro hq830
     have B833 : (-9223372036854775808 : Int) ≤ i3.toInt ∧ i3.toInt ≤ 9223372036854775807 := ⟨(rng64 i3).1, Int.le_of_lt_add_one (rng64 i3).2⟩
     have q832 : v824.toInt = i3.toInt % 9223372036854775808 := (by rw [hv824]; exact c_maskL _ _ 63 (by decide) (by decide))
     have B831 : (0 : Int) ≤ v824.toInt ∧ v824.toInt ≤ 9223372036854775807 := (by rw [q832]; exact k_modB (by decide))
     have B834 : (0 : Int) ≤ v824.toInt ∧ v824.toInt ≤ -1 := ⟨B831.1, kL_lt hq830 (by decide)⟩
     omega
   intro v835 hP836
   refine k_aload X21 hx 149 (D at_147) rfl rfl ?_
   refine k_iload X21 hx 151 (D at_149) rfl ?_
   refine k_iload X21 hx 153 (D at_151) rfl ?_
   refine k_lload X21 hx 155 (D at_153) rfl ?_
   refine k_callS X21 hx hZ hown 158 (k_w hw 6 rfl) (k_w hw 7 rfl) (k_w hw 8 rfl) (k_w hw 9 rfl) (by decide) (rm2_12 l Z a0 hw [] b1 v835 k1 v3 v7 v11 v15 v19 h21 n0 Z21 Vw21 hP836 (k_by1 hb4) (k_by2 hb4) (k_by1 hb8) (k_by2 hb8) (k_by1 hb12) (k_by2 hb12) (k_by1 hb16) (k_by2 hb16)) (by decide) (by decide) e21 (by rw [hml]; rfl) (argsL := [(.ref b1), (.int (0 : Int32)), (.int (4 : Int32)), (.long v835)]) (rest := []) (lenOf pd_1 rfl) rfl (W := 0) (Nat.le_refl _) rfl (D at_155) (by decide) (by decide) (fun T837 L837 r837 X837 q837 => ?_)
   obtain ⟨N837, e837, v838, rfl, hS839⟩ := q837
   have N837' := Fr.app N21 N837
   show KEnds p e below s _ _ _ T837 (mkF m 158 #[iv i0, iv i1, iv i2, jv i3, s_, rv b1, iv (0 : Int32), iv (4 : Int32), iv (4 : Int32), iv v786, jv v835, s_, u_, u_, u_, u_, u_, u_, u_] [(.long v838)])
   refine k_lstore X837 hx 160 (D at_158) (Ls' := #[iv i0, iv i1, iv i2, jv i3, s_, rv b1, iv (0 : Int32), iv (4 : Int32), iv (4 : Int32), iv v786, jv v835, s_, jv v838, s_, u_, u_, u_, u_, u_]) rfl ?_
   refine k_iload X837 hx 162 (D at_160) rfl ?_
   refine k_if_le X837 hx 165 169 (D at_162) (fun hc => absurd (by decide) hc) (fun _ => ?_)
   refine k_iconst X837 hx 166 (D at_165) (z := (1 : Int32)) rfl ?_
   refine k_goto X837 hx 170 (D at_166) ?_
   refine k_istore X837 hx 172 (D at_170) (Ls' := #[iv i0, iv i1, iv i2, jv i3, s_, rv b1, iv (0 : Int32), iv (4 : Int32), iv (4 : Int32), iv v786, jv v835, s_, jv v838, s_, iv (1 : Int32), u_, u_, u_, u_]) rfl ?_
   refine k_lconst X837 hx 173 (D at_172) (z := (0 : Int64)) rfl ?_
   refine k_lstore X837 hx 175 (D at_173) (Ls' := #[iv i0, iv i1, iv i2, jv i3, s_, rv b1, iv (0 : Int32), iv (4 : Int32), iv (4 : Int32), iv v786, jv v835, s_, jv v838, s_, iv (1 : Int32), jv (0 : Int64), s_, u_, u_]) rfl ?_
   refine k_iload X837 hx 177 (D at_175) rfl ?_
   refine k_if_le X837 hx 180 223 (D at_177) (fun hc => absurd (by decide) hc) (fun _ => ?_)
   suffices key840 : ∀ (T880 : State) (lo880 : List Loc) (ce880 sl880 : Nat) (v881 : Int32) (v882 : Int64) (v883 : Int32), Stand p l e room_1 s m #[(.int i0), (.int i1), (.int i2), (.long i3)] below meth c T880 lo880 ce880 sl880 → T880.heap = h21 → Fr n0 lo880 → ce880 ≤ 16 → sl880 ≤ 128 → ((¬ v882 < 0 ∧ ¬ (9 : Int64) < v882) ∧ ((v881.toInt = 1 ∧ ((48 ≤ v3.toInt ∧ v3.toInt ≤ 57)) ∧ v882.toInt = 1 * (v3.toInt - 48)) ∨ (v881.toInt = 0 ∧ ¬ ((48 ≤ v3.toInt ∧ v3.toInt ≤ 57))))) → KEnds p e below s 16 128 (Q0 n0) T880 (mkF m 223 #[iv i0, iv i1, iv i2, jv i3, s_, rv b1, iv (0 : Int32), iv (4 : Int32), iv (4 : Int32), iv v786, jv v835, s_, jv v838, s_, iv v881, jv v882, s_, iv v883, u_] []) by
    refine k_aload X837 hx 182 (D at_180) rfl rfl ?_
    refine k_iload X837 hx 184 (D at_182) rfl ?_
    refine k_baload X837 hx hZ 185 e837 Vw21 ⟨by decide, by decide⟩ (v := (.int v3)) rfl (D at_184) ?_
    refine k_callS X837 hx hZ hown 188 (k_w hw 13 rfl) (k_w hw 14 rfl) (k_w hw 3 rfl) (k_w hw 15 rfl) (by decide) (rm3_8 l Z a0 hw [] v3 h21 n0 Z21 ) (by decide) (by decide) e837 (by rw [hml]; rfl) (argsL := [(.int v3)]) (rest := []) (lenOf pd_2 rfl) rfl (W := 0) (Nat.le_refl _) rfl (D at_185) (by decide) (by decide) (fun T841 L841 r841 X841 q841 => ?_)
    obtain ⟨N841, e841, rfl⟩ := q841
    have N841' := Fr.app N837' N841
    show KEnds p e below s _ _ _ T841 (mkF m 188 #[iv i0, iv i1, iv i2, jv i3, s_, rv b1, iv (0 : Int32), iv (4 : Int32), iv (4 : Int32), iv v786, jv v835, s_, jv v838, s_, iv (1 : Int32), jv (0 : Int64), s_, u_, u_] ((.int (f3_8 v3)) :: []))
    obtain ⟨v842, hv842⟩ : ∃ z, z = f3_8 v3 := ⟨_, rfl⟩
    rw [← hv842]
    refine k_istore X841 hx 190 (D at_188) (Ls' := #[iv i0, iv i1, iv i2, jv i3, s_, rv b1, iv (0 : Int32), iv (4 : Int32), iv (4 : Int32), iv v786, jv v835, s_, jv v838, s_, iv (1 : Int32), jv (0 : Int64), s_, iv v842, u_]) rfl ?_
    refine k_iload X841 hx 192 (D at_190) rfl ?_
    refine k_if_eq X841 hx 195 204 (D at_192) (fun hc => absurd hc (by decide)) (fun _ => ?_)
    refine k_iload X841 hx 197 (D at_195) rfl ?_
    refine k_if_lt X841 hx 200 204 (D at_197) (fun hc843 => ?_) (fun hc843 => ?_)
    ·
     refine k_iconst X841 hx 205 (D at_204) (z := (0 : Int32)) rfl ?_
     refine k_istore X841 hx 207 (D at_205) (Ls' := #[iv i0, iv i1, iv i2, jv i3, s_, rv b1, iv (0 : Int32), iv (4 : Int32), iv (4 : Int32), iv v786, jv v835, s_, jv v838, s_, iv (0 : Int32), jv (0 : Int64), s_, iv v842, u_]) rfl ?_
     refine k_ldcL X841 hx hZ hown 210 (k_w hw 16 rfl) (D at_207) ?_
     refine k_lload X841 hx 212 (D at_210) rfl ?_
     refine k_lmulL X841 hx 213 (D at_212) (z := (0 : Int64)) (by decide) ?_
     refine k_iload X841 hx 215 (D at_213) rfl ?_
     refine k_iconst X841 hx 216 (D at_215) (z := (0 : Int32)) rfl ?_
     refine k_callS X841 hx hZ hown 219 (k_w hw 17 rfl) (k_w hw 18 rfl) (k_w hw 19 rfl) (k_w hw 20 rfl) (by decide) (rm4_9 l Z a0 hw [] v842 h21 n0 Z21 ) (by decide) (by decide) e841 (by rw [hml]; rfl) (argsL := [(.int v842), (.int (0 : Int32))]) (rest := [(.long (0 : Int64))]) (lenOf pd_3 rfl) rfl (W := 2) (Nat.le_refl _) rfl (D at_216) (by decide) (by decide) (fun T844 L844 r844 X844 q844 => ?_)
     obtain ⟨N844, e844, rfl⟩ := q844
     have N844' := Fr.app N841' N844
     show KEnds p e below s _ _ _ T844 (mkF m 219 #[iv i0, iv i1, iv i2, jv i3, s_, rv b1, iv (0 : Int32), iv (4 : Int32), iv (4 : Int32), iv v786, jv v835, s_, jv v838, s_, iv (0 : Int32), jv (0 : Int64), s_, iv v842, u_] ((.int (f4_9 v842)) :: (.long (0 : Int64)) :: []))
     obtain ⟨v845, hv845⟩ : ∃ z, z = f4_9 v842 := ⟨_, rfl⟩
     rw [← hv845]
     refine k_i2l X844 hx 220 (D at_219) (fun v846 hv846 => ?_)
     refine k_laddL X844 hx 221 (D at_220) (z := v846) (Int64.zero_add _) ?_
     refine k_lstore X844 hx 223 (D at_221) (Ls' := #[iv i0, iv i1, iv i2, jv i3, s_, rv b1, iv (0 : Int32), iv (4 : Int32), iv (4 : Int32), iv v786, jv v835, s_, jv v838, s_, iv (0 : Int32), jv v846, s_, iv v842, u_]) rfl ?_
     refine key840 T844 _ _ _ (0 : Int32) v846 v842 X844 e844 N844' (by decide) (by decide) ?_
     have B852 : (-2147483648 : Int) ≤ i2.toInt ∧ i2.toInt ≤ 2147483647 := ⟨(rng32 i2).1, Int.le_of_lt_add_one (rng32 i2).2⟩
     have B853 : (-2147483648 : Int) ≤ i0.toInt ∧ i0.toInt ≤ 2147483647 := ⟨(rng32 i0).1, Int.le_of_lt_add_one (rng32 i0).2⟩
     have B854 : (-2147483648 : Int) ≤ i1.toInt ∧ i1.toInt ≤ 2147483647 := ⟨(rng32 i1).1, Int.le_of_lt_add_one (rng32 i1).2⟩
     have B849 : (-128 : Int) ≤ v3.toInt ∧ v3.toInt ≤ 127 := (by rw [← hb4]; exact ⟨(c_i2b _).2.1, Int.le_of_lt_add_one (c_i2b _).2.2⟩)
     have q848 := own_fd v3 ⟨Int.le_trans (by decide) B849.1, Int.le_trans B849.2 (by decide)⟩; rw [← hv842] at q848
     have B847 : (-1 : Int) ≤ v842.toInt ∧ v842.toInt ≤ 9 := q848.2
     have B855 : (-1 : Int) ≤ v842.toInt ∧ v842.toInt ≤ -1 := ⟨B847.1, k_lt hc843 (by decide)⟩
     have q859 := own_mx v842 ⟨Int.le_trans (by decide) B855.1, Int.le_trans B855.2 (by decide)⟩; rw [← hv845] at q859
     have B858 : (0 : Int) ≤ v845.toInt ∧ v845.toInt ≤ 9 := q859.2
     have q857 : v846.toInt = v845.toInt := (by rw [hv846]; exact c_i2l _)
     have B856 : (0 : Int) ≤ v846.toInt ∧ v846.toInt ≤ 9 := (by rw [q857]; exact B858)
     refine ⟨⟨fun hq860 => ?_, fun hq861 => ?_⟩, ?_⟩
     · rw [Int64.lt_iff_toInt_lt, show (0 : Int64).toInt = 0 from rfl] at hq860; omega
     · rw [Int64.lt_iff_toInt_lt, show (9 : Int64).toInt = 9 from rfl] at hq861; omega
     · exact Or.inr ⟨rfl, by omega⟩
    ·
     refine k_iconst X841 hx 201 (D at_200) (z := (1 : Int32)) rfl ?_
     refine k_goto X841 hx 205 (D at_201) ?_
     refine k_istore X841 hx 207 (D at_205) (Ls' := #[iv i0, iv i1, iv i2, jv i3, s_, rv b1, iv (0 : Int32), iv (4 : Int32), iv (4 : Int32), iv v786, jv v835, s_, jv v838, s_, iv (1 : Int32), jv (0 : Int64), s_, iv v842, u_]) rfl ?_
     refine k_ldcL X841 hx hZ hown 210 (k_w hw 16 rfl) (D at_207) ?_
     refine k_lload X841 hx 212 (D at_210) rfl ?_
     refine k_lmulL X841 hx 213 (D at_212) (z := (0 : Int64)) (by decide) ?_
     refine k_iload X841 hx 215 (D at_213) rfl ?_
     refine k_iconst X841 hx 216 (D at_215) (z := (0 : Int32)) rfl ?_
     refine k_callS X841 hx hZ hown 219 (k_w hw 17 rfl) (k_w hw 18 rfl) (k_w hw 19 rfl) (k_w hw 20 rfl) (by decide) (rm4_9 l Z a0 hw [] v842 h21 n0 Z21 ) (by decide) (by decide) e841 (by rw [hml]; rfl) (argsL := [(.int v842), (.int (0 : Int32))]) (rest := [(.long (0 : Int64))]) (lenOf pd_3 rfl) rfl (W := 2) (Nat.le_refl _) rfl (D at_216) (by decide) (by decide) (fun T862 L862 r862 X862 q862 => ?_)
     obtain ⟨N862, e862, rfl⟩ := q862
     have N862' := Fr.app N841' N862
     show KEnds p e below s _ _ _ T862 (mkF m 219 #[iv i0, iv i1, iv i2, jv i3, s_, rv b1, iv (0 : Int32), iv (4 : Int32), iv (4 : Int32), iv v786, jv v835, s_, jv v838, s_, iv (1 : Int32), jv (0 : Int64), s_, iv v842, u_] ((.int (f4_9 v842)) :: (.long (0 : Int64)) :: []))
     obtain ⟨v863, hv863⟩ : ∃ z, z = f4_9 v842 := ⟨_, rfl⟩
     rw [← hv863]
     refine k_i2l X862 hx 220 (D at_219) (fun v864 hv864 => ?_)
     refine k_laddL X862 hx 221 (D at_220) (z := v864) (Int64.zero_add _) ?_
     refine k_lstore X862 hx 223 (D at_221) (Ls' := #[iv i0, iv i1, iv i2, jv i3, s_, rv b1, iv (0 : Int32), iv (4 : Int32), iv (4 : Int32), iv v786, jv v835, s_, jv v838, s_, iv (1 : Int32), jv v864, s_, iv v842, u_]) rfl ?_
     refine key840 T862 _ _ _ (1 : Int32) v864 v842 X862 e862 N862' (by decide) (by decide) ?_
     have B870 : (-2147483648 : Int) ≤ i2.toInt ∧ i2.toInt ≤ 2147483647 := ⟨(rng32 i2).1, Int.le_of_lt_add_one (rng32 i2).2⟩
     have B871 : (-2147483648 : Int) ≤ i0.toInt ∧ i0.toInt ≤ 2147483647 := ⟨(rng32 i0).1, Int.le_of_lt_add_one (rng32 i0).2⟩
     have B872 : (-2147483648 : Int) ≤ i1.toInt ∧ i1.toInt ≤ 2147483647 := ⟨(rng32 i1).1, Int.le_of_lt_add_one (rng32 i1).2⟩
     have B867 : (-128 : Int) ≤ v3.toInt ∧ v3.toInt ≤ 127 := (by rw [← hb4]; exact ⟨(c_i2b _).2.1, Int.le_of_lt_add_one (c_i2b _).2.2⟩)
     have q866 := own_fd v3 ⟨Int.le_trans (by decide) B867.1, Int.le_trans B867.2 (by decide)⟩; rw [← hv842] at q866
     have B865 : (-1 : Int) ≤ v842.toInt ∧ v842.toInt ≤ 9 := q866.2
     have B873 : (0 : Int) ≤ v842.toInt ∧ v842.toInt ≤ 9 := ⟨k_ge hc843 (by decide), B865.2⟩
     have q877 := own_mx v842 ⟨Int.le_trans (by decide) B873.1, Int.le_trans B873.2 (by decide)⟩; rw [← hv863] at q877
     have B876 : (0 : Int) ≤ v863.toInt ∧ v863.toInt ≤ 9 := q877.2
     have q875 : v864.toInt = v863.toInt := (by rw [hv864]; exact c_i2l _)
     have B874 : (0 : Int) ≤ v864.toInt ∧ v864.toInt ≤ 9 := (by rw [q875]; exact B876)
     refine ⟨⟨fun hq878 => ?_, fun hq879 => ?_⟩, ?_⟩
     · rw [Int64.lt_iff_toInt_lt, show (0 : Int64).toInt = 0 from rfl] at hq878; omega
     · rw [Int64.lt_iff_toInt_lt, show (9 : Int64).toInt = 9 from rfl] at hq879; omega
     · exact Or.inl ⟨rfl, by omega⟩
   intro T880 lo880 ce880 sl880 v881 v882 v883 X880 e880 N880 hce880 hsl880 hP884
   refine k_iload X880 hx 225 (D at_223) rfl ?_
   refine k_iconst X880 hx 226 (D at_225) (z := (1 : Int32)) rfl ?_
   refine k_icmp_le X880 hx 229 274 (D at_226) (fun hc => absurd (by decide) hc) (fun _ => ?_)
   suffices key885 : ∀ (T976 : State) (lo976 : List Loc) (ce976 sl976 : Nat) (v977 : Int32) (v978 : Int64) (v979 : Int32), Stand p l e room_1 s m #[(.int i0), (.int i1), (.int i2), (.long i3)] below meth c T976 lo976 ce976 sl976 → T976.heap = h21 → Fr n0 lo976 → ce976 ≤ 16 → sl976 ≤ 128 → ((¬ v978 < 0 ∧ ¬ (99 : Int64) < v978) ∧ ((v977.toInt = 1 ∧ ((48 ≤ v3.toInt ∧ v3.toInt ≤ 57) ∧ (48 ≤ v7.toInt ∧ v7.toInt ≤ 57)) ∧ v978.toInt = 10 * (v3.toInt - 48) + 1 * (v7.toInt - 48)) ∨ (v977.toInt = 0 ∧ ¬ ((48 ≤ v3.toInt ∧ v3.toInt ≤ 57) ∧ (48 ≤ v7.toInt ∧ v7.toInt ≤ 57))))) → KEnds p e below s 16 128 (Q0 n0) T976 (mkF m 274 #[iv i0, iv i1, iv i2, jv i3, s_, rv b1, iv (0 : Int32), iv (4 : Int32), iv (4 : Int32), iv v786, jv v835, s_, jv v838, s_, iv v977, jv v978, s_, iv v979, u_] []) by
    refine k_aload X880 hx 231 (D at_229) rfl rfl ?_
    refine k_iload X880 hx 233 (D at_231) rfl ?_
    refine k_iconst X880 hx 234 (D at_233) (z := (1 : Int32)) rfl ?_
    refine k_iaddL X880 hx 235 (D at_234) (z := (1 : Int32)) (by decide) ?_
    refine k_baload X880 hx hZ 236 e880 Vw21 ⟨by decide, by decide⟩ (v := (.int v7)) rfl (D at_235) ?_
    refine k_callS X880 hx hZ hown 239 (k_w hw 13 rfl) (k_w hw 14 rfl) (k_w hw 3 rfl) (k_w hw 15 rfl) (by decide) (rm3_8 l Z a0 hw [] v7 h21 n0 Z21 ) (by decide) (by decide) e880 (by rw [hml]; rfl) (argsL := [(.int v7)]) (rest := []) (lenOf pd_2 rfl) rfl (W := 0) (Nat.le_refl _) rfl (D at_236) (by show _ + 0 ≤ _; exact Nat.le_trans hce880 (by decide)) (by show _ + 0 ≤ _; exact Nat.le_trans hsl880 (by decide)) (fun T886 L886 r886 X886 q886 => ?_)
    obtain ⟨N886, e886, rfl⟩ := q886
    have N886' := Fr.app N880 N886
    show KEnds p e below s _ _ _ T886 (mkF m 239 #[iv i0, iv i1, iv i2, jv i3, s_, rv b1, iv (0 : Int32), iv (4 : Int32), iv (4 : Int32), iv v786, jv v835, s_, jv v838, s_, iv v881, jv v882, s_, iv v883, u_] ((.int (f3_8 v7)) :: []))
    obtain ⟨v887, hv887⟩ : ∃ z, z = f3_8 v7 := ⟨_, rfl⟩
    rw [← hv887]
    refine k_istore X886 hx 241 (D at_239) (Ls' := #[iv i0, iv i1, iv i2, jv i3, s_, rv b1, iv (0 : Int32), iv (4 : Int32), iv (4 : Int32), iv v786, jv v835, s_, jv v838, s_, iv v881, jv v882, s_, iv v887, u_]) rfl ?_
    refine k_iload X886 hx 243 (D at_241) rfl ?_
    refine k_if_eq X886 hx 246 255 (D at_243) (fun hc888 => ?_) (fun hc888 => ?_)
    ·
     refine k_iconst X886 hx 256 (D at_255) (z := (0 : Int32)) rfl ?_
     refine k_istore X886 hx 258 (D at_256) (Ls' := #[iv i0, iv i1, iv i2, jv i3, s_, rv b1, iv (0 : Int32), iv (4 : Int32), iv (4 : Int32), iv v786, jv v835, s_, jv v838, s_, iv (0 : Int32), jv v882, s_, iv v887, u_]) rfl ?_
     refine k_ldcL X886 hx hZ hown 261 (k_w hw 16 rfl) (D at_258) ?_
     refine k_lload X886 hx 263 (D at_261) rfl ?_
     refine k_lmul X886 hx 264 (D at_263) (fun v889 hv889 => ?_)
     refine k_iload X886 hx 266 (D at_264) rfl ?_
     refine k_iconst X886 hx 267 (D at_266) (z := (0 : Int32)) rfl ?_
     refine k_callS X886 hx hZ hown 270 (k_w hw 17 rfl) (k_w hw 18 rfl) (k_w hw 19 rfl) (k_w hw 20 rfl) (by decide) (rm4_9 l Z a0 hw [] v887 h21 n0 Z21 ) (by decide) (by decide) e886 (by rw [hml]; rfl) (argsL := [(.int v887), (.int (0 : Int32))]) (rest := [(.long v889)]) (lenOf pd_3 rfl) rfl (W := 2) (Nat.le_refl _) rfl (D at_267) (by show _ + 0 ≤ _; exact Nat.le_trans hce880 (by decide)) (by show _ + 0 ≤ _; exact Nat.le_trans hsl880 (by decide)) (fun T890 L890 r890 X890 q890 => ?_)
     obtain ⟨N890, e890, rfl⟩ := q890
     have N890' := Fr.app N886' N890
     show KEnds p e below s _ _ _ T890 (mkF m 270 #[iv i0, iv i1, iv i2, jv i3, s_, rv b1, iv (0 : Int32), iv (4 : Int32), iv (4 : Int32), iv v786, jv v835, s_, jv v838, s_, iv (0 : Int32), jv v882, s_, iv v887, u_] ((.int (f4_9 v887)) :: (.long v889) :: []))
     obtain ⟨v891, hv891⟩ : ∃ z, z = f4_9 v887 := ⟨_, rfl⟩
     rw [← hv891]
     refine k_i2l X890 hx 271 (D at_270) (fun v892 hv892 => ?_)
     refine k_ladd X890 hx 272 (D at_271) (fun v893 hv893 => ?_)
     refine k_lstore X890 hx 274 (D at_272) (Ls' := #[iv i0, iv i1, iv i2, jv i3, s_, rv b1, iv (0 : Int32), iv (4 : Int32), iv (4 : Int32), iv v786, jv v835, s_, jv v838, s_, iv (0 : Int32), jv v893, s_, iv v887, u_]) rfl ?_
     refine key885 T890 _ _ _ (0 : Int32) v893 v887 X890 e890 N890' hce880 hsl880 ?_
     have B894 : (0 : Int) ≤ v882.toInt ∧ v882.toInt ≤ 9 := ⟨kL_ge hP884.1.1 (by decide), kL_le hP884.1.2 (by decide)⟩
     have B895 : (-2147483648 : Int) ≤ v881.toInt ∧ v881.toInt ≤ 2147483647 := ⟨(rng32 v881).1, Int.le_of_lt_add_one (rng32 v881).2⟩
     have B896 : (0 : Int) ≤ (0 : Int32).toInt ∧ (0 : Int32).toInt ≤ 0 := (by decide)
     have q897 := congrArg Int32.toInt hc888
     have B902 : (10 : Int) ≤ (10 : Int64).toInt ∧ (10 : Int64).toInt ≤ 10 := (by decide)
     have q901 : v889.toInt = 10 * v882.toInt := (by have q0 := c_lmul (10 : Int64) v882; have q1 := rng64 v889; have q2 := B894; rw [← hv889] at q0; rw [show (10 : Int64).toInt = 10 from (by decide)] at q0; omega)
     have B900 : (0 : Int) ≤ v889.toInt ∧ v889.toInt ≤ 90 := (by rw [q901]; exact k_mulB B894 (by decide))
     have B912 : (-2147483648 : Int) ≤ i2.toInt ∧ i2.toInt ≤ 2147483647 := ⟨(rng32 i2).1, Int.le_of_lt_add_one (rng32 i2).2⟩
     have B913 : (-2147483648 : Int) ≤ i0.toInt ∧ i0.toInt ≤ 2147483647 := ⟨(rng32 i0).1, Int.le_of_lt_add_one (rng32 i0).2⟩
     have B914 : (-2147483648 : Int) ≤ i1.toInt ∧ i1.toInt ≤ 2147483647 := ⟨(rng32 i1).1, Int.le_of_lt_add_one (rng32 i1).2⟩
     have B909 : (-128 : Int) ≤ v7.toInt ∧ v7.toInt ≤ 127 := (by rw [← hb8]; exact ⟨(c_i2b _).2.1, Int.le_of_lt_add_one (c_i2b _).2.2⟩)
     have q908 := own_fd v7 ⟨Int.le_trans (by decide) B909.1, Int.le_trans B909.2 (by decide)⟩; rw [← hv887] at q908
     have B907 : (-1 : Int) ≤ v887.toInt ∧ v887.toInt ≤ 9 := q908.2
     have q906 := own_mx v887 ⟨Int.le_trans (by decide) B907.1, Int.le_trans B907.2 (by decide)⟩; rw [← hv891] at q906
     have B905 : (0 : Int) ≤ v891.toInt ∧ v891.toInt ≤ 9 := q906.2
     have q904 : v892.toInt = v891.toInt := (by rw [hv892]; exact c_i2l _)
     have B903 : (0 : Int) ≤ v892.toInt ∧ v892.toInt ≤ 9 := (by rw [q904]; exact B905)
     have q899 : v893.toInt = v889.toInt + v892.toInt := k_laddx hv893 B900 B903 (by decide) (by decide)
     have B898 : (0 : Int) ≤ v893.toInt ∧ v893.toInt ≤ 99 := k_addB q899 B900 B903
     refine ⟨⟨fun hq915 => ?_, fun hq916 => ?_⟩, ?_⟩
     · rw [Int64.lt_iff_toInt_lt, show (0 : Int64).toInt = 0 from rfl] at hq915; omega
     · rw [Int64.lt_iff_toInt_lt, show (99 : Int64).toInt = 99 from rfl] at hq916; omega
     · exact Or.inr ⟨rfl, by omega⟩
    ·
     refine k_iload X886 hx 248 (D at_246) rfl ?_
     refine k_if_lt X886 hx 251 255 (D at_248) (fun hc917 => ?_) (fun hc917 => ?_)
     ·
      refine k_iconst X886 hx 256 (D at_255) (z := (0 : Int32)) rfl ?_
      refine k_istore X886 hx 258 (D at_256) (Ls' := #[iv i0, iv i1, iv i2, jv i3, s_, rv b1, iv (0 : Int32), iv (4 : Int32), iv (4 : Int32), iv v786, jv v835, s_, jv v838, s_, iv (0 : Int32), jv v882, s_, iv v887, u_]) rfl ?_
      refine k_ldcL X886 hx hZ hown 261 (k_w hw 16 rfl) (D at_258) ?_
      refine k_lload X886 hx 263 (D at_261) rfl ?_
      refine k_lmul X886 hx 264 (D at_263) (fun v918 hv918 => ?_)
      refine k_iload X886 hx 266 (D at_264) rfl ?_
      refine k_iconst X886 hx 267 (D at_266) (z := (0 : Int32)) rfl ?_
      refine k_callS X886 hx hZ hown 270 (k_w hw 17 rfl) (k_w hw 18 rfl) (k_w hw 19 rfl) (k_w hw 20 rfl) (by decide) (rm4_9 l Z a0 hw [] v887 h21 n0 Z21 ) (by decide) (by decide) e886 (by rw [hml]; rfl) (argsL := [(.int v887), (.int (0 : Int32))]) (rest := [(.long v918)]) (lenOf pd_3 rfl) rfl (W := 2) (Nat.le_refl _) rfl (D at_267) (by show _ + 0 ≤ _; exact Nat.le_trans hce880 (by decide)) (by show _ + 0 ≤ _; exact Nat.le_trans hsl880 (by decide)) (fun T919 L919 r919 X919 q919 => ?_)
      obtain ⟨N919, e919, rfl⟩ := q919
      have N919' := Fr.app N886' N919
      show KEnds p e below s _ _ _ T919 (mkF m 270 #[iv i0, iv i1, iv i2, jv i3, s_, rv b1, iv (0 : Int32), iv (4 : Int32), iv (4 : Int32), iv v786, jv v835, s_, jv v838, s_, iv (0 : Int32), jv v882, s_, iv v887, u_] ((.int (f4_9 v887)) :: (.long v918) :: []))
      obtain ⟨v920, hv920⟩ : ∃ z, z = f4_9 v887 := ⟨_, rfl⟩
      rw [← hv920]
      refine k_i2l X919 hx 271 (D at_270) (fun v921 hv921 => ?_)
      refine k_ladd X919 hx 272 (D at_271) (fun v922 hv922 => ?_)
      refine k_lstore X919 hx 274 (D at_272) (Ls' := #[iv i0, iv i1, iv i2, jv i3, s_, rv b1, iv (0 : Int32), iv (4 : Int32), iv (4 : Int32), iv v786, jv v835, s_, jv v838, s_, iv (0 : Int32), jv v922, s_, iv v887, u_]) rfl ?_
      refine key885 T919 _ _ _ (0 : Int32) v922 v887 X919 e919 N919' hce880 hsl880 ?_
      have B923 : (0 : Int) ≤ v882.toInt ∧ v882.toInt ≤ 9 := ⟨kL_ge hP884.1.1 (by decide), kL_le hP884.1.2 (by decide)⟩
      have B924 : (-2147483648 : Int) ≤ v881.toInt ∧ v881.toInt ≤ 2147483647 := ⟨(rng32 v881).1, Int.le_of_lt_add_one (rng32 v881).2⟩
      have B925 : (0 : Int) ≤ (0 : Int32).toInt ∧ (0 : Int32).toInt ≤ 0 := (by decide)
      have q926 : ¬ v881.toInt = (0 : Int32).toInt := fun q => hc888 (Int32.toInt_inj.mp q)
      have B932 : (-2147483648 : Int) ≤ i2.toInt ∧ i2.toInt ≤ 2147483647 := ⟨(rng32 i2).1, Int.le_of_lt_add_one (rng32 i2).2⟩
      have B933 : (-2147483648 : Int) ≤ i0.toInt ∧ i0.toInt ≤ 2147483647 := ⟨(rng32 i0).1, Int.le_of_lt_add_one (rng32 i0).2⟩
      have B934 : (-2147483648 : Int) ≤ i1.toInt ∧ i1.toInt ≤ 2147483647 := ⟨(rng32 i1).1, Int.le_of_lt_add_one (rng32 i1).2⟩
      have B929 : (-128 : Int) ≤ v7.toInt ∧ v7.toInt ≤ 127 := (by rw [← hb8]; exact ⟨(c_i2b _).2.1, Int.le_of_lt_add_one (c_i2b _).2.2⟩)
      have q928 := own_fd v7 ⟨Int.le_trans (by decide) B929.1, Int.le_trans B929.2 (by decide)⟩; rw [← hv887] at q928
      have B927 : (-1 : Int) ≤ v887.toInt ∧ v887.toInt ≤ 9 := q928.2
      have B935 : (-1 : Int) ≤ v887.toInt ∧ v887.toInt ≤ -1 := ⟨B927.1, k_lt hc917 (by decide)⟩
      have B940 : (10 : Int) ≤ (10 : Int64).toInt ∧ (10 : Int64).toInt ≤ 10 := (by decide)
      have q939 : v918.toInt = 10 * v882.toInt := (by have q0 := c_lmul (10 : Int64) v882; have q1 := rng64 v918; have q2 := B923; rw [← hv918] at q0; rw [show (10 : Int64).toInt = 10 from (by decide)] at q0; omega)
      have B938 : (0 : Int) ≤ v918.toInt ∧ v918.toInt ≤ 90 := (by rw [q939]; exact k_mulB B923 (by decide))
      have q944 := own_mx v887 ⟨Int.le_trans (by decide) B935.1, Int.le_trans B935.2 (by decide)⟩; rw [← hv920] at q944
      have B943 : (0 : Int) ≤ v920.toInt ∧ v920.toInt ≤ 9 := q944.2
      have q942 : v921.toInt = v920.toInt := (by rw [hv921]; exact c_i2l _)
      have B941 : (0 : Int) ≤ v921.toInt ∧ v921.toInt ≤ 9 := (by rw [q942]; exact B943)
      have q937 : v922.toInt = v918.toInt + v921.toInt := k_laddx hv922 B938 B941 (by decide) (by decide)
      have B936 : (0 : Int) ≤ v922.toInt ∧ v922.toInt ≤ 99 := k_addB q937 B938 B941
      refine ⟨⟨fun hq945 => ?_, fun hq946 => ?_⟩, ?_⟩
      · rw [Int64.lt_iff_toInt_lt, show (0 : Int64).toInt = 0 from rfl] at hq945; omega
      · rw [Int64.lt_iff_toInt_lt, show (99 : Int64).toInt = 99 from rfl] at hq946; omega
      · exact Or.inr ⟨rfl, by omega⟩
     ·
      refine k_iconst X886 hx 252 (D at_251) (z := (1 : Int32)) rfl ?_
      refine k_goto X886 hx 256 (D at_252) ?_
      refine k_istore X886 hx 258 (D at_256) (Ls' := #[iv i0, iv i1, iv i2, jv i3, s_, rv b1, iv (0 : Int32), iv (4 : Int32), iv (4 : Int32), iv v786, jv v835, s_, jv v838, s_, iv (1 : Int32), jv v882, s_, iv v887, u_]) rfl ?_
      refine k_ldcL X886 hx hZ hown 261 (k_w hw 16 rfl) (D at_258) ?_
      refine k_lload X886 hx 263 (D at_261) rfl ?_
      refine k_lmul X886 hx 264 (D at_263) (fun v947 hv947 => ?_)
      refine k_iload X886 hx 266 (D at_264) rfl ?_
      refine k_iconst X886 hx 267 (D at_266) (z := (0 : Int32)) rfl ?_
      refine k_callS X886 hx hZ hown 270 (k_w hw 17 rfl) (k_w hw 18 rfl) (k_w hw 19 rfl) (k_w hw 20 rfl) (by decide) (rm4_9 l Z a0 hw [] v887 h21 n0 Z21 ) (by decide) (by decide) e886 (by rw [hml]; rfl) (argsL := [(.int v887), (.int (0 : Int32))]) (rest := [(.long v947)]) (lenOf pd_3 rfl) rfl (W := 2) (Nat.le_refl _) rfl (D at_267) (by show _ + 0 ≤ _; exact Nat.le_trans hce880 (by decide)) (by show _ + 0 ≤ _; exact Nat.le_trans hsl880 (by decide)) (fun T948 L948 r948 X948 q948 => ?_)
      obtain ⟨N948, e948, rfl⟩ := q948
      have N948' := Fr.app N886' N948
      show KEnds p e below s _ _ _ T948 (mkF m 270 #[iv i0, iv i1, iv i2, jv i3, s_, rv b1, iv (0 : Int32), iv (4 : Int32), iv (4 : Int32), iv v786, jv v835, s_, jv v838, s_, iv (1 : Int32), jv v882, s_, iv v887, u_] ((.int (f4_9 v887)) :: (.long v947) :: []))
      obtain ⟨v949, hv949⟩ : ∃ z, z = f4_9 v887 := ⟨_, rfl⟩
      rw [← hv949]
      refine k_i2l X948 hx 271 (D at_270) (fun v950 hv950 => ?_)
      refine k_ladd X948 hx 272 (D at_271) (fun v951 hv951 => ?_)
      refine k_lstore X948 hx 274 (D at_272) (Ls' := #[iv i0, iv i1, iv i2, jv i3, s_, rv b1, iv (0 : Int32), iv (4 : Int32), iv (4 : Int32), iv v786, jv v835, s_, jv v838, s_, iv (1 : Int32), jv v951, s_, iv v887, u_]) rfl ?_
      refine key885 T948 _ _ _ (1 : Int32) v951 v887 X948 e948 N948' hce880 hsl880 ?_
      have B952 : (0 : Int) ≤ v882.toInt ∧ v882.toInt ≤ 9 := ⟨kL_ge hP884.1.1 (by decide), kL_le hP884.1.2 (by decide)⟩
      have B953 : (-2147483648 : Int) ≤ v881.toInt ∧ v881.toInt ≤ 2147483647 := ⟨(rng32 v881).1, Int.le_of_lt_add_one (rng32 v881).2⟩
      have B954 : (0 : Int) ≤ (0 : Int32).toInt ∧ (0 : Int32).toInt ≤ 0 := (by decide)
      have q955 : ¬ v881.toInt = (0 : Int32).toInt := fun q => hc888 (Int32.toInt_inj.mp q)
      have B961 : (-2147483648 : Int) ≤ i2.toInt ∧ i2.toInt ≤ 2147483647 := ⟨(rng32 i2).1, Int.le_of_lt_add_one (rng32 i2).2⟩
      have B962 : (-2147483648 : Int) ≤ i0.toInt ∧ i0.toInt ≤ 2147483647 := ⟨(rng32 i0).1, Int.le_of_lt_add_one (rng32 i0).2⟩
      have B963 : (-2147483648 : Int) ≤ i1.toInt ∧ i1.toInt ≤ 2147483647 := ⟨(rng32 i1).1, Int.le_of_lt_add_one (rng32 i1).2⟩
      have B958 : (-128 : Int) ≤ v7.toInt ∧ v7.toInt ≤ 127 := (by rw [← hb8]; exact ⟨(c_i2b _).2.1, Int.le_of_lt_add_one (c_i2b _).2.2⟩)
      have q957 := own_fd v7 ⟨Int.le_trans (by decide) B958.1, Int.le_trans B958.2 (by decide)⟩; rw [← hv887] at q957
      have B956 : (-1 : Int) ≤ v887.toInt ∧ v887.toInt ≤ 9 := q957.2
      have B964 : (0 : Int) ≤ v887.toInt ∧ v887.toInt ≤ 9 := ⟨k_ge hc917 (by decide), B956.2⟩
      have B969 : (10 : Int) ≤ (10 : Int64).toInt ∧ (10 : Int64).toInt ≤ 10 := (by decide)
      have q968 : v947.toInt = 10 * v882.toInt := (by have q0 := c_lmul (10 : Int64) v882; have q1 := rng64 v947; have q2 := B952; rw [← hv947] at q0; rw [show (10 : Int64).toInt = 10 from (by decide)] at q0; omega)
      have B967 : (0 : Int) ≤ v947.toInt ∧ v947.toInt ≤ 90 := (by rw [q968]; exact k_mulB B952 (by decide))
      have q973 := own_mx v887 ⟨Int.le_trans (by decide) B964.1, Int.le_trans B964.2 (by decide)⟩; rw [← hv949] at q973
      have B972 : (0 : Int) ≤ v949.toInt ∧ v949.toInt ≤ 9 := q973.2
      have q971 : v950.toInt = v949.toInt := (by rw [hv950]; exact c_i2l _)
      have B970 : (0 : Int) ≤ v950.toInt ∧ v950.toInt ≤ 9 := (by rw [q971]; exact B972)
      have q966 : v951.toInt = v947.toInt + v950.toInt := k_laddx hv951 B967 B970 (by decide) (by decide)
      have B965 : (0 : Int) ≤ v951.toInt ∧ v951.toInt ≤ 99 := k_addB q966 B967 B970
      refine ⟨⟨fun hq974 => ?_, fun hq975 => ?_⟩, ?_⟩
      · rw [Int64.lt_iff_toInt_lt, show (0 : Int64).toInt = 0 from rfl] at hq974; omega
      · rw [Int64.lt_iff_toInt_lt, show (99 : Int64).toInt = 99 from rfl] at hq975; omega
      · exact Or.inl ⟨rfl, by omega⟩
   intro T976 lo976 ce976 sl976 v977 v978 v979 X976 e976 N976 hce976 hsl976 hP980
   refine k_iload X976 hx 276 (D at_274) rfl ?_
   refine k_iconst X976 hx 277 (D at_276) (z := (2 : Int32)) rfl ?_
   refine k_icmp_le X976 hx 280 325 (D at_277) (fun hc => absurd (by decide) hc) (fun _ => ?_)
   suffices key981 : ∀ (T1072 : State) (lo1072 : List Loc) (ce1072 sl1072 : Nat) (v1073 : Int32) (v1074 : Int64) (v1075 : Int32), Stand p l e room_1 s m #[(.int i0), (.int i1), (.int i2), (.long i3)] below meth c T1072 lo1072 ce1072 sl1072 → T1072.heap = h21 → Fr n0 lo1072 → ce1072 ≤ 16 → sl1072 ≤ 128 → ((¬ v1074 < 0 ∧ ¬ (999 : Int64) < v1074) ∧ ((v1073.toInt = 1 ∧ ((48 ≤ v3.toInt ∧ v3.toInt ≤ 57) ∧ (48 ≤ v7.toInt ∧ v7.toInt ≤ 57) ∧ (48 ≤ v11.toInt ∧ v11.toInt ≤ 57)) ∧ v1074.toInt = 100 * (v3.toInt - 48) + 10 * (v7.toInt - 48) + 1 * (v11.toInt - 48)) ∨ (v1073.toInt = 0 ∧ ¬ ((48 ≤ v3.toInt ∧ v3.toInt ≤ 57) ∧ (48 ≤ v7.toInt ∧ v7.toInt ≤ 57) ∧ (48 ≤ v11.toInt ∧ v11.toInt ≤ 57))))) → KEnds p e below s 16 128 (Q0 n0) T1072 (mkF m 325 #[iv i0, iv i1, iv i2, jv i3, s_, rv b1, iv (0 : Int32), iv (4 : Int32), iv (4 : Int32), iv v786, jv v835, s_, jv v838, s_, iv v1073, jv v1074, s_, iv v1075, u_] []) by
    refine k_aload X976 hx 282 (D at_280) rfl rfl ?_
    refine k_iload X976 hx 284 (D at_282) rfl ?_
    refine k_iconst X976 hx 285 (D at_284) (z := (2 : Int32)) rfl ?_
    refine k_iaddL X976 hx 286 (D at_285) (z := (2 : Int32)) (by decide) ?_
    refine k_baload X976 hx hZ 287 e976 Vw21 ⟨by decide, by decide⟩ (v := (.int v11)) rfl (D at_286) ?_
    refine k_callS X976 hx hZ hown 290 (k_w hw 13 rfl) (k_w hw 14 rfl) (k_w hw 3 rfl) (k_w hw 15 rfl) (by decide) (rm3_8 l Z a0 hw [] v11 h21 n0 Z21 ) (by decide) (by decide) e976 (by rw [hml]; rfl) (argsL := [(.int v11)]) (rest := []) (lenOf pd_2 rfl) rfl (W := 0) (Nat.le_refl _) rfl (D at_287) (by show _ + 0 ≤ _; exact Nat.le_trans hce976 (by decide)) (by show _ + 0 ≤ _; exact Nat.le_trans hsl976 (by decide)) (fun T982 L982 r982 X982 q982 => ?_)
    obtain ⟨N982, e982, rfl⟩ := q982
    have N982' := Fr.app N976 N982
    show KEnds p e below s _ _ _ T982 (mkF m 290 #[iv i0, iv i1, iv i2, jv i3, s_, rv b1, iv (0 : Int32), iv (4 : Int32), iv (4 : Int32), iv v786, jv v835, s_, jv v838, s_, iv v977, jv v978, s_, iv v979, u_] ((.int (f3_8 v11)) :: []))
    obtain ⟨v983, hv983⟩ : ∃ z, z = f3_8 v11 := ⟨_, rfl⟩
    rw [← hv983]
    refine k_istore X982 hx 292 (D at_290) (Ls' := #[iv i0, iv i1, iv i2, jv i3, s_, rv b1, iv (0 : Int32), iv (4 : Int32), iv (4 : Int32), iv v786, jv v835, s_, jv v838, s_, iv v977, jv v978, s_, iv v983, u_]) rfl ?_
    refine k_iload X982 hx 294 (D at_292) rfl ?_
    refine k_if_eq X982 hx 297 306 (D at_294) (fun hc984 => ?_) (fun hc984 => ?_)
    ·
     refine k_iconst X982 hx 307 (D at_306) (z := (0 : Int32)) rfl ?_
     refine k_istore X982 hx 309 (D at_307) (Ls' := #[iv i0, iv i1, iv i2, jv i3, s_, rv b1, iv (0 : Int32), iv (4 : Int32), iv (4 : Int32), iv v786, jv v835, s_, jv v838, s_, iv (0 : Int32), jv v978, s_, iv v983, u_]) rfl ?_
     refine k_ldcL X982 hx hZ hown 312 (k_w hw 16 rfl) (D at_309) ?_
     refine k_lload X982 hx 314 (D at_312) rfl ?_
     refine k_lmul X982 hx 315 (D at_314) (fun v985 hv985 => ?_)
     refine k_iload X982 hx 317 (D at_315) rfl ?_
     refine k_iconst X982 hx 318 (D at_317) (z := (0 : Int32)) rfl ?_
     refine k_callS X982 hx hZ hown 321 (k_w hw 17 rfl) (k_w hw 18 rfl) (k_w hw 19 rfl) (k_w hw 20 rfl) (by decide) (rm4_9 l Z a0 hw [] v983 h21 n0 Z21 ) (by decide) (by decide) e982 (by rw [hml]; rfl) (argsL := [(.int v983), (.int (0 : Int32))]) (rest := [(.long v985)]) (lenOf pd_3 rfl) rfl (W := 2) (Nat.le_refl _) rfl (D at_318) (by show _ + 0 ≤ _; exact Nat.le_trans hce976 (by decide)) (by show _ + 0 ≤ _; exact Nat.le_trans hsl976 (by decide)) (fun T986 L986 r986 X986 q986 => ?_)
     obtain ⟨N986, e986, rfl⟩ := q986
     have N986' := Fr.app N982' N986
     show KEnds p e below s _ _ _ T986 (mkF m 321 #[iv i0, iv i1, iv i2, jv i3, s_, rv b1, iv (0 : Int32), iv (4 : Int32), iv (4 : Int32), iv v786, jv v835, s_, jv v838, s_, iv (0 : Int32), jv v978, s_, iv v983, u_] ((.int (f4_9 v983)) :: (.long v985) :: []))
     obtain ⟨v987, hv987⟩ : ∃ z, z = f4_9 v983 := ⟨_, rfl⟩
     rw [← hv987]
     refine k_i2l X986 hx 322 (D at_321) (fun v988 hv988 => ?_)
     refine k_ladd X986 hx 323 (D at_322) (fun v989 hv989 => ?_)
     refine k_lstore X986 hx 325 (D at_323) (Ls' := #[iv i0, iv i1, iv i2, jv i3, s_, rv b1, iv (0 : Int32), iv (4 : Int32), iv (4 : Int32), iv v786, jv v835, s_, jv v838, s_, iv (0 : Int32), jv v989, s_, iv v983, u_]) rfl ?_
     refine key981 T986 _ _ _ (0 : Int32) v989 v983 X986 e986 N986' hce976 hsl976 ?_
     have B990 : (0 : Int) ≤ v978.toInt ∧ v978.toInt ≤ 99 := ⟨kL_ge hP980.1.1 (by decide), kL_le hP980.1.2 (by decide)⟩
     have B991 : (-2147483648 : Int) ≤ v977.toInt ∧ v977.toInt ≤ 2147483647 := ⟨(rng32 v977).1, Int.le_of_lt_add_one (rng32 v977).2⟩
     have B992 : (0 : Int) ≤ (0 : Int32).toInt ∧ (0 : Int32).toInt ≤ 0 := (by decide)
     have q993 := congrArg Int32.toInt hc984
     have B998 : (10 : Int) ≤ (10 : Int64).toInt ∧ (10 : Int64).toInt ≤ 10 := (by decide)
     have q997 : v985.toInt = 10 * v978.toInt := (by have q0 := c_lmul (10 : Int64) v978; have q1 := rng64 v985; have q2 := B990; rw [← hv985] at q0; rw [show (10 : Int64).toInt = 10 from (by decide)] at q0; omega)
     have B996 : (0 : Int) ≤ v985.toInt ∧ v985.toInt ≤ 990 := (by rw [q997]; exact k_mulB B990 (by decide))
     have B1008 : (-2147483648 : Int) ≤ i2.toInt ∧ i2.toInt ≤ 2147483647 := ⟨(rng32 i2).1, Int.le_of_lt_add_one (rng32 i2).2⟩
     have B1009 : (-2147483648 : Int) ≤ i0.toInt ∧ i0.toInt ≤ 2147483647 := ⟨(rng32 i0).1, Int.le_of_lt_add_one (rng32 i0).2⟩
     have B1010 : (-2147483648 : Int) ≤ i1.toInt ∧ i1.toInt ≤ 2147483647 := ⟨(rng32 i1).1, Int.le_of_lt_add_one (rng32 i1).2⟩
     have B1005 : (-128 : Int) ≤ v11.toInt ∧ v11.toInt ≤ 127 := (by rw [← hb12]; exact ⟨(c_i2b _).2.1, Int.le_of_lt_add_one (c_i2b _).2.2⟩)
     have q1004 := own_fd v11 ⟨Int.le_trans (by decide) B1005.1, Int.le_trans B1005.2 (by decide)⟩; rw [← hv983] at q1004
     have B1003 : (-1 : Int) ≤ v983.toInt ∧ v983.toInt ≤ 9 := q1004.2
     have q1002 := own_mx v983 ⟨Int.le_trans (by decide) B1003.1, Int.le_trans B1003.2 (by decide)⟩; rw [← hv987] at q1002
     have B1001 : (0 : Int) ≤ v987.toInt ∧ v987.toInt ≤ 9 := q1002.2
     have q1000 : v988.toInt = v987.toInt := (by rw [hv988]; exact c_i2l _)
     have B999 : (0 : Int) ≤ v988.toInt ∧ v988.toInt ≤ 9 := (by rw [q1000]; exact B1001)
     have q995 : v989.toInt = v985.toInt + v988.toInt := k_laddx hv989 B996 B999 (by decide) (by decide)
     have B994 : (0 : Int) ≤ v989.toInt ∧ v989.toInt ≤ 999 := k_addB q995 B996 B999
     refine ⟨⟨fun hq1011 => ?_, fun hq1012 => ?_⟩, ?_⟩
     · rw [Int64.lt_iff_toInt_lt, show (0 : Int64).toInt = 0 from rfl] at hq1011; omega
     · rw [Int64.lt_iff_toInt_lt, show (999 : Int64).toInt = 999 from rfl] at hq1012; omega
     · exact Or.inr ⟨rfl, by omega⟩
    ·
     refine k_iload X982 hx 299 (D at_297) rfl ?_
     refine k_if_lt X982 hx 302 306 (D at_299) (fun hc1013 => ?_) (fun hc1013 => ?_)
     ·
      refine k_iconst X982 hx 307 (D at_306) (z := (0 : Int32)) rfl ?_
      refine k_istore X982 hx 309 (D at_307) (Ls' := #[iv i0, iv i1, iv i2, jv i3, s_, rv b1, iv (0 : Int32), iv (4 : Int32), iv (4 : Int32), iv v786, jv v835, s_, jv v838, s_, iv (0 : Int32), jv v978, s_, iv v983, u_]) rfl ?_
      refine k_ldcL X982 hx hZ hown 312 (k_w hw 16 rfl) (D at_309) ?_
      refine k_lload X982 hx 314 (D at_312) rfl ?_
      refine k_lmul X982 hx 315 (D at_314) (fun v1014 hv1014 => ?_)
      refine k_iload X982 hx 317 (D at_315) rfl ?_
      refine k_iconst X982 hx 318 (D at_317) (z := (0 : Int32)) rfl ?_
      refine k_callS X982 hx hZ hown 321 (k_w hw 17 rfl) (k_w hw 18 rfl) (k_w hw 19 rfl) (k_w hw 20 rfl) (by decide) (rm4_9 l Z a0 hw [] v983 h21 n0 Z21 ) (by decide) (by decide) e982 (by rw [hml]; rfl) (argsL := [(.int v983), (.int (0 : Int32))]) (rest := [(.long v1014)]) (lenOf pd_3 rfl) rfl (W := 2) (Nat.le_refl _) rfl (D at_318) (by show _ + 0 ≤ _; exact Nat.le_trans hce976 (by decide)) (by show _ + 0 ≤ _; exact Nat.le_trans hsl976 (by decide)) (fun T1015 L1015 r1015 X1015 q1015 => ?_)
      obtain ⟨N1015, e1015, rfl⟩ := q1015
      have N1015' := Fr.app N982' N1015
      show KEnds p e below s _ _ _ T1015 (mkF m 321 #[iv i0, iv i1, iv i2, jv i3, s_, rv b1, iv (0 : Int32), iv (4 : Int32), iv (4 : Int32), iv v786, jv v835, s_, jv v838, s_, iv (0 : Int32), jv v978, s_, iv v983, u_] ((.int (f4_9 v983)) :: (.long v1014) :: []))
      obtain ⟨v1016, hv1016⟩ : ∃ z, z = f4_9 v983 := ⟨_, rfl⟩
      rw [← hv1016]
      refine k_i2l X1015 hx 322 (D at_321) (fun v1017 hv1017 => ?_)
      refine k_ladd X1015 hx 323 (D at_322) (fun v1018 hv1018 => ?_)
      refine k_lstore X1015 hx 325 (D at_323) (Ls' := #[iv i0, iv i1, iv i2, jv i3, s_, rv b1, iv (0 : Int32), iv (4 : Int32), iv (4 : Int32), iv v786, jv v835, s_, jv v838, s_, iv (0 : Int32), jv v1018, s_, iv v983, u_]) rfl ?_
      refine key981 T1015 _ _ _ (0 : Int32) v1018 v983 X1015 e1015 N1015' hce976 hsl976 ?_
      have B1019 : (0 : Int) ≤ v978.toInt ∧ v978.toInt ≤ 99 := ⟨kL_ge hP980.1.1 (by decide), kL_le hP980.1.2 (by decide)⟩
      have B1020 : (-2147483648 : Int) ≤ v977.toInt ∧ v977.toInt ≤ 2147483647 := ⟨(rng32 v977).1, Int.le_of_lt_add_one (rng32 v977).2⟩
      have B1021 : (0 : Int) ≤ (0 : Int32).toInt ∧ (0 : Int32).toInt ≤ 0 := (by decide)
      have q1022 : ¬ v977.toInt = (0 : Int32).toInt := fun q => hc984 (Int32.toInt_inj.mp q)
      have B1028 : (-2147483648 : Int) ≤ i2.toInt ∧ i2.toInt ≤ 2147483647 := ⟨(rng32 i2).1, Int.le_of_lt_add_one (rng32 i2).2⟩
      have B1029 : (-2147483648 : Int) ≤ i0.toInt ∧ i0.toInt ≤ 2147483647 := ⟨(rng32 i0).1, Int.le_of_lt_add_one (rng32 i0).2⟩
      have B1030 : (-2147483648 : Int) ≤ i1.toInt ∧ i1.toInt ≤ 2147483647 := ⟨(rng32 i1).1, Int.le_of_lt_add_one (rng32 i1).2⟩
      have B1025 : (-128 : Int) ≤ v11.toInt ∧ v11.toInt ≤ 127 := (by rw [← hb12]; exact ⟨(c_i2b _).2.1, Int.le_of_lt_add_one (c_i2b _).2.2⟩)
      have q1024 := own_fd v11 ⟨Int.le_trans (by decide) B1025.1, Int.le_trans B1025.2 (by decide)⟩; rw [← hv983] at q1024
      have B1023 : (-1 : Int) ≤ v983.toInt ∧ v983.toInt ≤ 9 := q1024.2
      have B1031 : (-1 : Int) ≤ v983.toInt ∧ v983.toInt ≤ -1 := ⟨B1023.1, k_lt hc1013 (by decide)⟩
      have B1036 : (10 : Int) ≤ (10 : Int64).toInt ∧ (10 : Int64).toInt ≤ 10 := (by decide)
      have q1035 : v1014.toInt = 10 * v978.toInt := (by have q0 := c_lmul (10 : Int64) v978; have q1 := rng64 v1014; have q2 := B1019; rw [← hv1014] at q0; rw [show (10 : Int64).toInt = 10 from (by decide)] at q0; omega)
      have B1034 : (0 : Int) ≤ v1014.toInt ∧ v1014.toInt ≤ 990 := (by rw [q1035]; exact k_mulB B1019 (by decide))
      have q1040 := own_mx v983 ⟨Int.le_trans (by decide) B1031.1, Int.le_trans B1031.2 (by decide)⟩; rw [← hv1016] at q1040
      have B1039 : (0 : Int) ≤ v1016.toInt ∧ v1016.toInt ≤ 9 := q1040.2
      have q1038 : v1017.toInt = v1016.toInt := (by rw [hv1017]; exact c_i2l _)
      have B1037 : (0 : Int) ≤ v1017.toInt ∧ v1017.toInt ≤ 9 := (by rw [q1038]; exact B1039)
      have q1033 : v1018.toInt = v1014.toInt + v1017.toInt := k_laddx hv1018 B1034 B1037 (by decide) (by decide)
      have B1032 : (0 : Int) ≤ v1018.toInt ∧ v1018.toInt ≤ 999 := k_addB q1033 B1034 B1037
      refine ⟨⟨fun hq1041 => ?_, fun hq1042 => ?_⟩, ?_⟩
      · rw [Int64.lt_iff_toInt_lt, show (0 : Int64).toInt = 0 from rfl] at hq1041; omega
      · rw [Int64.lt_iff_toInt_lt, show (999 : Int64).toInt = 999 from rfl] at hq1042; omega
      · exact Or.inr ⟨rfl, by omega⟩
     ·
      refine k_iconst X982 hx 303 (D at_302) (z := (1 : Int32)) rfl ?_
      refine k_goto X982 hx 307 (D at_303) ?_
      refine k_istore X982 hx 309 (D at_307) (Ls' := #[iv i0, iv i1, iv i2, jv i3, s_, rv b1, iv (0 : Int32), iv (4 : Int32), iv (4 : Int32), iv v786, jv v835, s_, jv v838, s_, iv (1 : Int32), jv v978, s_, iv v983, u_]) rfl ?_
      refine k_ldcL X982 hx hZ hown 312 (k_w hw 16 rfl) (D at_309) ?_
      refine k_lload X982 hx 314 (D at_312) rfl ?_
      refine k_lmul X982 hx 315 (D at_314) (fun v1043 hv1043 => ?_)
      refine k_iload X982 hx 317 (D at_315) rfl ?_
      refine k_iconst X982 hx 318 (D at_317) (z := (0 : Int32)) rfl ?_
      refine k_callS X982 hx hZ hown 321 (k_w hw 17 rfl) (k_w hw 18 rfl) (k_w hw 19 rfl) (k_w hw 20 rfl) (by decide) (rm4_9 l Z a0 hw [] v983 h21 n0 Z21 ) (by decide) (by decide) e982 (by rw [hml]; rfl) (argsL := [(.int v983), (.int (0 : Int32))]) (rest := [(.long v1043)]) (lenOf pd_3 rfl) rfl (W := 2) (Nat.le_refl _) rfl (D at_318) (by show _ + 0 ≤ _; exact Nat.le_trans hce976 (by decide)) (by show _ + 0 ≤ _; exact Nat.le_trans hsl976 (by decide)) (fun T1044 L1044 r1044 X1044 q1044 => ?_)
      obtain ⟨N1044, e1044, rfl⟩ := q1044
      have N1044' := Fr.app N982' N1044
      show KEnds p e below s _ _ _ T1044 (mkF m 321 #[iv i0, iv i1, iv i2, jv i3, s_, rv b1, iv (0 : Int32), iv (4 : Int32), iv (4 : Int32), iv v786, jv v835, s_, jv v838, s_, iv (1 : Int32), jv v978, s_, iv v983, u_] ((.int (f4_9 v983)) :: (.long v1043) :: []))
      obtain ⟨v1045, hv1045⟩ : ∃ z, z = f4_9 v983 := ⟨_, rfl⟩
      rw [← hv1045]
      refine k_i2l X1044 hx 322 (D at_321) (fun v1046 hv1046 => ?_)
      refine k_ladd X1044 hx 323 (D at_322) (fun v1047 hv1047 => ?_)
      refine k_lstore X1044 hx 325 (D at_323) (Ls' := #[iv i0, iv i1, iv i2, jv i3, s_, rv b1, iv (0 : Int32), iv (4 : Int32), iv (4 : Int32), iv v786, jv v835, s_, jv v838, s_, iv (1 : Int32), jv v1047, s_, iv v983, u_]) rfl ?_
      refine key981 T1044 _ _ _ (1 : Int32) v1047 v983 X1044 e1044 N1044' hce976 hsl976 ?_
      have B1048 : (0 : Int) ≤ v978.toInt ∧ v978.toInt ≤ 99 := ⟨kL_ge hP980.1.1 (by decide), kL_le hP980.1.2 (by decide)⟩
      have B1049 : (-2147483648 : Int) ≤ v977.toInt ∧ v977.toInt ≤ 2147483647 := ⟨(rng32 v977).1, Int.le_of_lt_add_one (rng32 v977).2⟩
      have B1050 : (0 : Int) ≤ (0 : Int32).toInt ∧ (0 : Int32).toInt ≤ 0 := (by decide)
      have q1051 : ¬ v977.toInt = (0 : Int32).toInt := fun q => hc984 (Int32.toInt_inj.mp q)
      have B1057 : (-2147483648 : Int) ≤ i2.toInt ∧ i2.toInt ≤ 2147483647 := ⟨(rng32 i2).1, Int.le_of_lt_add_one (rng32 i2).2⟩
      have B1058 : (-2147483648 : Int) ≤ i0.toInt ∧ i0.toInt ≤ 2147483647 := ⟨(rng32 i0).1, Int.le_of_lt_add_one (rng32 i0).2⟩
      have B1059 : (-2147483648 : Int) ≤ i1.toInt ∧ i1.toInt ≤ 2147483647 := ⟨(rng32 i1).1, Int.le_of_lt_add_one (rng32 i1).2⟩
      have B1054 : (-128 : Int) ≤ v11.toInt ∧ v11.toInt ≤ 127 := (by rw [← hb12]; exact ⟨(c_i2b _).2.1, Int.le_of_lt_add_one (c_i2b _).2.2⟩)
      have q1053 := own_fd v11 ⟨Int.le_trans (by decide) B1054.1, Int.le_trans B1054.2 (by decide)⟩; rw [← hv983] at q1053
      have B1052 : (-1 : Int) ≤ v983.toInt ∧ v983.toInt ≤ 9 := q1053.2
      have B1060 : (0 : Int) ≤ v983.toInt ∧ v983.toInt ≤ 9 := ⟨k_ge hc1013 (by decide), B1052.2⟩
      have B1065 : (10 : Int) ≤ (10 : Int64).toInt ∧ (10 : Int64).toInt ≤ 10 := (by decide)
      have q1064 : v1043.toInt = 10 * v978.toInt := (by have q0 := c_lmul (10 : Int64) v978; have q1 := rng64 v1043; have q2 := B1048; rw [← hv1043] at q0; rw [show (10 : Int64).toInt = 10 from (by decide)] at q0; omega)
      have B1063 : (0 : Int) ≤ v1043.toInt ∧ v1043.toInt ≤ 990 := (by rw [q1064]; exact k_mulB B1048 (by decide))
      have q1069 := own_mx v983 ⟨Int.le_trans (by decide) B1060.1, Int.le_trans B1060.2 (by decide)⟩; rw [← hv1045] at q1069
      have B1068 : (0 : Int) ≤ v1045.toInt ∧ v1045.toInt ≤ 9 := q1069.2
      have q1067 : v1046.toInt = v1045.toInt := (by rw [hv1046]; exact c_i2l _)
      have B1066 : (0 : Int) ≤ v1046.toInt ∧ v1046.toInt ≤ 9 := (by rw [q1067]; exact B1068)
      have q1062 : v1047.toInt = v1043.toInt + v1046.toInt := k_laddx hv1047 B1063 B1066 (by decide) (by decide)
      have B1061 : (0 : Int) ≤ v1047.toInt ∧ v1047.toInt ≤ 999 := k_addB q1062 B1063 B1066
      refine ⟨⟨fun hq1070 => ?_, fun hq1071 => ?_⟩, ?_⟩
      · rw [Int64.lt_iff_toInt_lt, show (0 : Int64).toInt = 0 from rfl] at hq1070; omega
      · rw [Int64.lt_iff_toInt_lt, show (999 : Int64).toInt = 999 from rfl] at hq1071; omega
      · exact Or.inl ⟨rfl, by omega⟩
   intro T1072 lo1072 ce1072 sl1072 v1073 v1074 v1075 X1072 e1072 N1072 hce1072 hsl1072 hP1076
   refine k_iload X1072 hx 327 (D at_325) rfl ?_
   refine k_iconst X1072 hx 328 (D at_327) (z := (3 : Int32)) rfl ?_
   refine k_icmp_le X1072 hx 331 376 (D at_328) (fun hc => absurd (by decide) hc) (fun _ => ?_)
   suffices key1077 : ∀ (T1168 : State) (lo1168 : List Loc) (ce1168 sl1168 : Nat) (v1169 : Int32) (v1170 : Int64) (v1171 : Int32), Stand p l e room_1 s m #[(.int i0), (.int i1), (.int i2), (.long i3)] below meth c T1168 lo1168 ce1168 sl1168 → T1168.heap = h21 → Fr n0 lo1168 → ce1168 ≤ 16 → sl1168 ≤ 128 → ((¬ v1170 < 0 ∧ ¬ (9999 : Int64) < v1170) ∧ ((v1169.toInt = 1 ∧ ((48 ≤ v3.toInt ∧ v3.toInt ≤ 57) ∧ (48 ≤ v7.toInt ∧ v7.toInt ≤ 57) ∧ (48 ≤ v11.toInt ∧ v11.toInt ≤ 57) ∧ (48 ≤ v15.toInt ∧ v15.toInt ≤ 57)) ∧ v1170.toInt = 1000 * (v3.toInt - 48) + 100 * (v7.toInt - 48) + 10 * (v11.toInt - 48) + 1 * (v15.toInt - 48)) ∨ (v1169.toInt = 0 ∧ ¬ ((48 ≤ v3.toInt ∧ v3.toInt ≤ 57) ∧ (48 ≤ v7.toInt ∧ v7.toInt ≤ 57) ∧ (48 ≤ v11.toInt ∧ v11.toInt ≤ 57) ∧ (48 ≤ v15.toInt ∧ v15.toInt ≤ 57))))) → KEnds p e below s 16 128 (Q0 n0) T1168 (mkF m 376 #[iv i0, iv i1, iv i2, jv i3, s_, rv b1, iv (0 : Int32), iv (4 : Int32), iv (4 : Int32), iv v786, jv v835, s_, jv v838, s_, iv v1169, jv v1170, s_, iv v1171, u_] []) by
    refine k_aload X1072 hx 333 (D at_331) rfl rfl ?_
    refine k_iload X1072 hx 335 (D at_333) rfl ?_
    refine k_iconst X1072 hx 336 (D at_335) (z := (3 : Int32)) rfl ?_
    refine k_iaddL X1072 hx 337 (D at_336) (z := (3 : Int32)) (by decide) ?_
    refine k_baload X1072 hx hZ 338 e1072 Vw21 ⟨by decide, by decide⟩ (v := (.int v15)) rfl (D at_337) ?_
    refine k_callS X1072 hx hZ hown 341 (k_w hw 13 rfl) (k_w hw 14 rfl) (k_w hw 3 rfl) (k_w hw 15 rfl) (by decide) (rm3_8 l Z a0 hw [] v15 h21 n0 Z21 ) (by decide) (by decide) e1072 (by rw [hml]; rfl) (argsL := [(.int v15)]) (rest := []) (lenOf pd_2 rfl) rfl (W := 0) (Nat.le_refl _) rfl (D at_338) (by show _ + 0 ≤ _; exact Nat.le_trans hce1072 (by decide)) (by show _ + 0 ≤ _; exact Nat.le_trans hsl1072 (by decide)) (fun T1078 L1078 r1078 X1078 q1078 => ?_)
    obtain ⟨N1078, e1078, rfl⟩ := q1078
    have N1078' := Fr.app N1072 N1078
    show KEnds p e below s _ _ _ T1078 (mkF m 341 #[iv i0, iv i1, iv i2, jv i3, s_, rv b1, iv (0 : Int32), iv (4 : Int32), iv (4 : Int32), iv v786, jv v835, s_, jv v838, s_, iv v1073, jv v1074, s_, iv v1075, u_] ((.int (f3_8 v15)) :: []))
    obtain ⟨v1079, hv1079⟩ : ∃ z, z = f3_8 v15 := ⟨_, rfl⟩
    rw [← hv1079]
    refine k_istore X1078 hx 343 (D at_341) (Ls' := #[iv i0, iv i1, iv i2, jv i3, s_, rv b1, iv (0 : Int32), iv (4 : Int32), iv (4 : Int32), iv v786, jv v835, s_, jv v838, s_, iv v1073, jv v1074, s_, iv v1079, u_]) rfl ?_
    refine k_iload X1078 hx 345 (D at_343) rfl ?_
    refine k_if_eq X1078 hx 348 357 (D at_345) (fun hc1080 => ?_) (fun hc1080 => ?_)
    ·
     refine k_iconst X1078 hx 358 (D at_357) (z := (0 : Int32)) rfl ?_
     refine k_istore X1078 hx 360 (D at_358) (Ls' := #[iv i0, iv i1, iv i2, jv i3, s_, rv b1, iv (0 : Int32), iv (4 : Int32), iv (4 : Int32), iv v786, jv v835, s_, jv v838, s_, iv (0 : Int32), jv v1074, s_, iv v1079, u_]) rfl ?_
     refine k_ldcL X1078 hx hZ hown 363 (k_w hw 16 rfl) (D at_360) ?_
     refine k_lload X1078 hx 365 (D at_363) rfl ?_
     refine k_lmul X1078 hx 366 (D at_365) (fun v1081 hv1081 => ?_)
     refine k_iload X1078 hx 368 (D at_366) rfl ?_
     refine k_iconst X1078 hx 369 (D at_368) (z := (0 : Int32)) rfl ?_
     refine k_callS X1078 hx hZ hown 372 (k_w hw 17 rfl) (k_w hw 18 rfl) (k_w hw 19 rfl) (k_w hw 20 rfl) (by decide) (rm4_9 l Z a0 hw [] v1079 h21 n0 Z21 ) (by decide) (by decide) e1078 (by rw [hml]; rfl) (argsL := [(.int v1079), (.int (0 : Int32))]) (rest := [(.long v1081)]) (lenOf pd_3 rfl) rfl (W := 2) (Nat.le_refl _) rfl (D at_369) (by show _ + 0 ≤ _; exact Nat.le_trans hce1072 (by decide)) (by show _ + 0 ≤ _; exact Nat.le_trans hsl1072 (by decide)) (fun T1082 L1082 r1082 X1082 q1082 => ?_)
     obtain ⟨N1082, e1082, rfl⟩ := q1082
     have N1082' := Fr.app N1078' N1082
     show KEnds p e below s _ _ _ T1082 (mkF m 372 #[iv i0, iv i1, iv i2, jv i3, s_, rv b1, iv (0 : Int32), iv (4 : Int32), iv (4 : Int32), iv v786, jv v835, s_, jv v838, s_, iv (0 : Int32), jv v1074, s_, iv v1079, u_] ((.int (f4_9 v1079)) :: (.long v1081) :: []))
     obtain ⟨v1083, hv1083⟩ : ∃ z, z = f4_9 v1079 := ⟨_, rfl⟩
     rw [← hv1083]
     refine k_i2l X1082 hx 373 (D at_372) (fun v1084 hv1084 => ?_)
     refine k_ladd X1082 hx 374 (D at_373) (fun v1085 hv1085 => ?_)
     refine k_lstore X1082 hx 376 (D at_374) (Ls' := #[iv i0, iv i1, iv i2, jv i3, s_, rv b1, iv (0 : Int32), iv (4 : Int32), iv (4 : Int32), iv v786, jv v835, s_, jv v838, s_, iv (0 : Int32), jv v1085, s_, iv v1079, u_]) rfl ?_
     refine key1077 T1082 _ _ _ (0 : Int32) v1085 v1079 X1082 e1082 N1082' hce1072 hsl1072 ?_
     have B1086 : (0 : Int) ≤ v1074.toInt ∧ v1074.toInt ≤ 999 := ⟨kL_ge hP1076.1.1 (by decide), kL_le hP1076.1.2 (by decide)⟩
     have B1087 : (-2147483648 : Int) ≤ v1073.toInt ∧ v1073.toInt ≤ 2147483647 := ⟨(rng32 v1073).1, Int.le_of_lt_add_one (rng32 v1073).2⟩
     have B1088 : (0 : Int) ≤ (0 : Int32).toInt ∧ (0 : Int32).toInt ≤ 0 := (by decide)
     have q1089 := congrArg Int32.toInt hc1080
     have B1094 : (10 : Int) ≤ (10 : Int64).toInt ∧ (10 : Int64).toInt ≤ 10 := (by decide)
     have q1093 : v1081.toInt = 10 * v1074.toInt := (by have q0 := c_lmul (10 : Int64) v1074; have q1 := rng64 v1081; have q2 := B1086; rw [← hv1081] at q0; rw [show (10 : Int64).toInt = 10 from (by decide)] at q0; omega)
     have B1092 : (0 : Int) ≤ v1081.toInt ∧ v1081.toInt ≤ 9990 := (by rw [q1093]; exact k_mulB B1086 (by decide))
     have B1104 : (-2147483648 : Int) ≤ i2.toInt ∧ i2.toInt ≤ 2147483647 := ⟨(rng32 i2).1, Int.le_of_lt_add_one (rng32 i2).2⟩
     have B1105 : (-2147483648 : Int) ≤ i0.toInt ∧ i0.toInt ≤ 2147483647 := ⟨(rng32 i0).1, Int.le_of_lt_add_one (rng32 i0).2⟩
     have B1106 : (-2147483648 : Int) ≤ i1.toInt ∧ i1.toInt ≤ 2147483647 := ⟨(rng32 i1).1, Int.le_of_lt_add_one (rng32 i1).2⟩
     have B1101 : (-128 : Int) ≤ v15.toInt ∧ v15.toInt ≤ 127 := (by rw [← hb16]; exact ⟨(c_i2b _).2.1, Int.le_of_lt_add_one (c_i2b _).2.2⟩)
     have q1100 := own_fd v15 ⟨Int.le_trans (by decide) B1101.1, Int.le_trans B1101.2 (by decide)⟩; rw [← hv1079] at q1100
     have B1099 : (-1 : Int) ≤ v1079.toInt ∧ v1079.toInt ≤ 9 := q1100.2
     have q1098 := own_mx v1079 ⟨Int.le_trans (by decide) B1099.1, Int.le_trans B1099.2 (by decide)⟩; rw [← hv1083] at q1098
     have B1097 : (0 : Int) ≤ v1083.toInt ∧ v1083.toInt ≤ 9 := q1098.2
     have q1096 : v1084.toInt = v1083.toInt := (by rw [hv1084]; exact c_i2l _)
     have B1095 : (0 : Int) ≤ v1084.toInt ∧ v1084.toInt ≤ 9 := (by rw [q1096]; exact B1097)
     have q1091 : v1085.toInt = v1081.toInt + v1084.toInt := k_laddx hv1085 B1092 B1095 (by decide) (by decide)
     have B1090 : (0 : Int) ≤ v1085.toInt ∧ v1085.toInt ≤ 9999 := k_addB q1091 B1092 B1095
     refine ⟨⟨fun hq1107 => ?_, fun hq1108 => ?_⟩, ?_⟩
     · rw [Int64.lt_iff_toInt_lt, show (0 : Int64).toInt = 0 from rfl] at hq1107; omega
     · rw [Int64.lt_iff_toInt_lt, show (9999 : Int64).toInt = 9999 from rfl] at hq1108; omega
     · exact Or.inr ⟨rfl, by omega⟩
    ·
     refine k_iload X1078 hx 350 (D at_348) rfl ?_
     refine k_if_lt X1078 hx 353 357 (D at_350) (fun hc1109 => ?_) (fun hc1109 => ?_)
     ·
      refine k_iconst X1078 hx 358 (D at_357) (z := (0 : Int32)) rfl ?_
      refine k_istore X1078 hx 360 (D at_358) (Ls' := #[iv i0, iv i1, iv i2, jv i3, s_, rv b1, iv (0 : Int32), iv (4 : Int32), iv (4 : Int32), iv v786, jv v835, s_, jv v838, s_, iv (0 : Int32), jv v1074, s_, iv v1079, u_]) rfl ?_
      refine k_ldcL X1078 hx hZ hown 363 (k_w hw 16 rfl) (D at_360) ?_
      refine k_lload X1078 hx 365 (D at_363) rfl ?_
      refine k_lmul X1078 hx 366 (D at_365) (fun v1110 hv1110 => ?_)
      refine k_iload X1078 hx 368 (D at_366) rfl ?_
      refine k_iconst X1078 hx 369 (D at_368) (z := (0 : Int32)) rfl ?_
      refine k_callS X1078 hx hZ hown 372 (k_w hw 17 rfl) (k_w hw 18 rfl) (k_w hw 19 rfl) (k_w hw 20 rfl) (by decide) (rm4_9 l Z a0 hw [] v1079 h21 n0 Z21 ) (by decide) (by decide) e1078 (by rw [hml]; rfl) (argsL := [(.int v1079), (.int (0 : Int32))]) (rest := [(.long v1110)]) (lenOf pd_3 rfl) rfl (W := 2) (Nat.le_refl _) rfl (D at_369) (by show _ + 0 ≤ _; exact Nat.le_trans hce1072 (by decide)) (by show _ + 0 ≤ _; exact Nat.le_trans hsl1072 (by decide)) (fun T1111 L1111 r1111 X1111 q1111 => ?_)
      obtain ⟨N1111, e1111, rfl⟩ := q1111
      have N1111' := Fr.app N1078' N1111
      show KEnds p e below s _ _ _ T1111 (mkF m 372 #[iv i0, iv i1, iv i2, jv i3, s_, rv b1, iv (0 : Int32), iv (4 : Int32), iv (4 : Int32), iv v786, jv v835, s_, jv v838, s_, iv (0 : Int32), jv v1074, s_, iv v1079, u_] ((.int (f4_9 v1079)) :: (.long v1110) :: []))
      obtain ⟨v1112, hv1112⟩ : ∃ z, z = f4_9 v1079 := ⟨_, rfl⟩
      rw [← hv1112]
      refine k_i2l X1111 hx 373 (D at_372) (fun v1113 hv1113 => ?_)
      refine k_ladd X1111 hx 374 (D at_373) (fun v1114 hv1114 => ?_)
      refine k_lstore X1111 hx 376 (D at_374) (Ls' := #[iv i0, iv i1, iv i2, jv i3, s_, rv b1, iv (0 : Int32), iv (4 : Int32), iv (4 : Int32), iv v786, jv v835, s_, jv v838, s_, iv (0 : Int32), jv v1114, s_, iv v1079, u_]) rfl ?_
      refine key1077 T1111 _ _ _ (0 : Int32) v1114 v1079 X1111 e1111 N1111' hce1072 hsl1072 ?_
      have B1115 : (0 : Int) ≤ v1074.toInt ∧ v1074.toInt ≤ 999 := ⟨kL_ge hP1076.1.1 (by decide), kL_le hP1076.1.2 (by decide)⟩
      have B1116 : (-2147483648 : Int) ≤ v1073.toInt ∧ v1073.toInt ≤ 2147483647 := ⟨(rng32 v1073).1, Int.le_of_lt_add_one (rng32 v1073).2⟩
      have B1117 : (0 : Int) ≤ (0 : Int32).toInt ∧ (0 : Int32).toInt ≤ 0 := (by decide)
      have q1118 : ¬ v1073.toInt = (0 : Int32).toInt := fun q => hc1080 (Int32.toInt_inj.mp q)
      have B1124 : (-2147483648 : Int) ≤ i2.toInt ∧ i2.toInt ≤ 2147483647 := ⟨(rng32 i2).1, Int.le_of_lt_add_one (rng32 i2).2⟩
      have B1125 : (-2147483648 : Int) ≤ i0.toInt ∧ i0.toInt ≤ 2147483647 := ⟨(rng32 i0).1, Int.le_of_lt_add_one (rng32 i0).2⟩
      have B1126 : (-2147483648 : Int) ≤ i1.toInt ∧ i1.toInt ≤ 2147483647 := ⟨(rng32 i1).1, Int.le_of_lt_add_one (rng32 i1).2⟩
      have B1121 : (-128 : Int) ≤ v15.toInt ∧ v15.toInt ≤ 127 := (by rw [← hb16]; exact ⟨(c_i2b _).2.1, Int.le_of_lt_add_one (c_i2b _).2.2⟩)
      have q1120 := own_fd v15 ⟨Int.le_trans (by decide) B1121.1, Int.le_trans B1121.2 (by decide)⟩; rw [← hv1079] at q1120
      have B1119 : (-1 : Int) ≤ v1079.toInt ∧ v1079.toInt ≤ 9 := q1120.2
      have B1127 : (-1 : Int) ≤ v1079.toInt ∧ v1079.toInt ≤ -1 := ⟨B1119.1, k_lt hc1109 (by decide)⟩
      have B1132 : (10 : Int) ≤ (10 : Int64).toInt ∧ (10 : Int64).toInt ≤ 10 := (by decide)
      have q1131 : v1110.toInt = 10 * v1074.toInt := (by have q0 := c_lmul (10 : Int64) v1074; have q1 := rng64 v1110; have q2 := B1115; rw [← hv1110] at q0; rw [show (10 : Int64).toInt = 10 from (by decide)] at q0; omega)
      have B1130 : (0 : Int) ≤ v1110.toInt ∧ v1110.toInt ≤ 9990 := (by rw [q1131]; exact k_mulB B1115 (by decide))
      have q1136 := own_mx v1079 ⟨Int.le_trans (by decide) B1127.1, Int.le_trans B1127.2 (by decide)⟩; rw [← hv1112] at q1136
      have B1135 : (0 : Int) ≤ v1112.toInt ∧ v1112.toInt ≤ 9 := q1136.2
      have q1134 : v1113.toInt = v1112.toInt := (by rw [hv1113]; exact c_i2l _)
      have B1133 : (0 : Int) ≤ v1113.toInt ∧ v1113.toInt ≤ 9 := (by rw [q1134]; exact B1135)
      have q1129 : v1114.toInt = v1110.toInt + v1113.toInt := k_laddx hv1114 B1130 B1133 (by decide) (by decide)
      have B1128 : (0 : Int) ≤ v1114.toInt ∧ v1114.toInt ≤ 9999 := k_addB q1129 B1130 B1133
      refine ⟨⟨fun hq1137 => ?_, fun hq1138 => ?_⟩, ?_⟩
      · rw [Int64.lt_iff_toInt_lt, show (0 : Int64).toInt = 0 from rfl] at hq1137; omega
      · rw [Int64.lt_iff_toInt_lt, show (9999 : Int64).toInt = 9999 from rfl] at hq1138; omega
      · exact Or.inr ⟨rfl, by omega⟩
     ·
      refine k_iconst X1078 hx 354 (D at_353) (z := (1 : Int32)) rfl ?_
      refine k_goto X1078 hx 358 (D at_354) ?_
      refine k_istore X1078 hx 360 (D at_358) (Ls' := #[iv i0, iv i1, iv i2, jv i3, s_, rv b1, iv (0 : Int32), iv (4 : Int32), iv (4 : Int32), iv v786, jv v835, s_, jv v838, s_, iv (1 : Int32), jv v1074, s_, iv v1079, u_]) rfl ?_
      refine k_ldcL X1078 hx hZ hown 363 (k_w hw 16 rfl) (D at_360) ?_
      refine k_lload X1078 hx 365 (D at_363) rfl ?_
      refine k_lmul X1078 hx 366 (D at_365) (fun v1139 hv1139 => ?_)
      refine k_iload X1078 hx 368 (D at_366) rfl ?_
      refine k_iconst X1078 hx 369 (D at_368) (z := (0 : Int32)) rfl ?_
      refine k_callS X1078 hx hZ hown 372 (k_w hw 17 rfl) (k_w hw 18 rfl) (k_w hw 19 rfl) (k_w hw 20 rfl) (by decide) (rm4_9 l Z a0 hw [] v1079 h21 n0 Z21 ) (by decide) (by decide) e1078 (by rw [hml]; rfl) (argsL := [(.int v1079), (.int (0 : Int32))]) (rest := [(.long v1139)]) (lenOf pd_3 rfl) rfl (W := 2) (Nat.le_refl _) rfl (D at_369) (by show _ + 0 ≤ _; exact Nat.le_trans hce1072 (by decide)) (by show _ + 0 ≤ _; exact Nat.le_trans hsl1072 (by decide)) (fun T1140 L1140 r1140 X1140 q1140 => ?_)
      obtain ⟨N1140, e1140, rfl⟩ := q1140
      have N1140' := Fr.app N1078' N1140
      show KEnds p e below s _ _ _ T1140 (mkF m 372 #[iv i0, iv i1, iv i2, jv i3, s_, rv b1, iv (0 : Int32), iv (4 : Int32), iv (4 : Int32), iv v786, jv v835, s_, jv v838, s_, iv (1 : Int32), jv v1074, s_, iv v1079, u_] ((.int (f4_9 v1079)) :: (.long v1139) :: []))
      obtain ⟨v1141, hv1141⟩ : ∃ z, z = f4_9 v1079 := ⟨_, rfl⟩
      rw [← hv1141]
      refine k_i2l X1140 hx 373 (D at_372) (fun v1142 hv1142 => ?_)
      refine k_ladd X1140 hx 374 (D at_373) (fun v1143 hv1143 => ?_)
      refine k_lstore X1140 hx 376 (D at_374) (Ls' := #[iv i0, iv i1, iv i2, jv i3, s_, rv b1, iv (0 : Int32), iv (4 : Int32), iv (4 : Int32), iv v786, jv v835, s_, jv v838, s_, iv (1 : Int32), jv v1143, s_, iv v1079, u_]) rfl ?_
      refine key1077 T1140 _ _ _ (1 : Int32) v1143 v1079 X1140 e1140 N1140' hce1072 hsl1072 ?_
      have B1144 : (0 : Int) ≤ v1074.toInt ∧ v1074.toInt ≤ 999 := ⟨kL_ge hP1076.1.1 (by decide), kL_le hP1076.1.2 (by decide)⟩
      have B1145 : (-2147483648 : Int) ≤ v1073.toInt ∧ v1073.toInt ≤ 2147483647 := ⟨(rng32 v1073).1, Int.le_of_lt_add_one (rng32 v1073).2⟩
      have B1146 : (0 : Int) ≤ (0 : Int32).toInt ∧ (0 : Int32).toInt ≤ 0 := (by decide)
      have q1147 : ¬ v1073.toInt = (0 : Int32).toInt := fun q => hc1080 (Int32.toInt_inj.mp q)
      have B1153 : (-2147483648 : Int) ≤ i2.toInt ∧ i2.toInt ≤ 2147483647 := ⟨(rng32 i2).1, Int.le_of_lt_add_one (rng32 i2).2⟩
      have B1154 : (-2147483648 : Int) ≤ i0.toInt ∧ i0.toInt ≤ 2147483647 := ⟨(rng32 i0).1, Int.le_of_lt_add_one (rng32 i0).2⟩
      have B1155 : (-2147483648 : Int) ≤ i1.toInt ∧ i1.toInt ≤ 2147483647 := ⟨(rng32 i1).1, Int.le_of_lt_add_one (rng32 i1).2⟩
      have B1150 : (-128 : Int) ≤ v15.toInt ∧ v15.toInt ≤ 127 := (by rw [← hb16]; exact ⟨(c_i2b _).2.1, Int.le_of_lt_add_one (c_i2b _).2.2⟩)
      have q1149 := own_fd v15 ⟨Int.le_trans (by decide) B1150.1, Int.le_trans B1150.2 (by decide)⟩; rw [← hv1079] at q1149
      have B1148 : (-1 : Int) ≤ v1079.toInt ∧ v1079.toInt ≤ 9 := q1149.2
      have B1156 : (0 : Int) ≤ v1079.toInt ∧ v1079.toInt ≤ 9 := ⟨k_ge hc1109 (by decide), B1148.2⟩
      have B1161 : (10 : Int) ≤ (10 : Int64).toInt ∧ (10 : Int64).toInt ≤ 10 := (by decide)
      have q1160 : v1139.toInt = 10 * v1074.toInt := (by have q0 := c_lmul (10 : Int64) v1074; have q1 := rng64 v1139; have q2 := B1144; rw [← hv1139] at q0; rw [show (10 : Int64).toInt = 10 from (by decide)] at q0; omega)
      have B1159 : (0 : Int) ≤ v1139.toInt ∧ v1139.toInt ≤ 9990 := (by rw [q1160]; exact k_mulB B1144 (by decide))
      have q1165 := own_mx v1079 ⟨Int.le_trans (by decide) B1156.1, Int.le_trans B1156.2 (by decide)⟩; rw [← hv1141] at q1165
      have B1164 : (0 : Int) ≤ v1141.toInt ∧ v1141.toInt ≤ 9 := q1165.2
      have q1163 : v1142.toInt = v1141.toInt := (by rw [hv1142]; exact c_i2l _)
      have B1162 : (0 : Int) ≤ v1142.toInt ∧ v1142.toInt ≤ 9 := (by rw [q1163]; exact B1164)
      have q1158 : v1143.toInt = v1139.toInt + v1142.toInt := k_laddx hv1143 B1159 B1162 (by decide) (by decide)
      have B1157 : (0 : Int) ≤ v1143.toInt ∧ v1143.toInt ≤ 9999 := k_addB q1158 B1159 B1162
      refine ⟨⟨fun hq1166 => ?_, fun hq1167 => ?_⟩, ?_⟩
      · rw [Int64.lt_iff_toInt_lt, show (0 : Int64).toInt = 0 from rfl] at hq1166; omega
      · rw [Int64.lt_iff_toInt_lt, show (9999 : Int64).toInt = 9999 from rfl] at hq1167; omega
      · exact Or.inl ⟨rfl, by omega⟩
   intro T1168 lo1168 ce1168 sl1168 v1169 v1170 v1171 X1168 e1168 N1168 hce1168 hsl1168 hP1172
   refine k_iload X1168 hx 378 (D at_376) rfl ?_
   refine k_if_eq X1168 hx 381 394 (D at_378) (fun hc1173 => ?_) (fun hc1173 => ?_)
   ·
    refine k_ldcL X1168 hx hZ hown 397 (k_w hw 11 rfl) (D at_394) ?_
    refine k_lstore X1168 hx 399 (D at_397) (Ls' := #[iv i0, iv i1, iv i2, jv i3, s_, rv b1, iv (0 : Int32), iv (4 : Int32), iv (4 : Int32), iv v786, jv v835, s_, jv v838, s_, iv v1169, jv v1170, s_, jv (-1 : Int64), s_]) rfl ?_
    refine k_lload X1168 hx 401 (D at_399) rfl ?_
    refine k_lload X1168 hx 403 (D at_401) rfl ?_
    refine k_lcif_ne X1168 hx 407 411 404 (D at_403) (D at_404) (fun hc => absurd (Classical.byContradiction (fun hq1174 => by have B1175 : (0 : Int) ≤ v835.toInt ∧ v835.toInt ≤ 9223372036854775807 := ⟨kL_ge hP836 (by decide), Int.le_of_lt_add_one (rng64 v835).2⟩; have B1176 : (0 : Int) ≤ v1170.toInt ∧ v1170.toInt ≤ 9999 := ⟨kL_ge hP1172.1.1 (by decide), kL_le hP1172.1.2 (by decide)⟩; have B1177 : (-2147483648 : Int) ≤ v1169.toInt ∧ v1169.toInt ≤ 2147483647 := ⟨(rng32 v1169).1, Int.le_of_lt_add_one (rng32 v1169).2⟩; have B1178 : (0 : Int) ≤ (0 : Int32).toInt ∧ (0 : Int32).toInt ≤ 0 := (by decide); have q1179 := congrArg Int32.toInt hc1173; have B1180 : (-9223372036854775808 : Int) ≤ v838.toInt ∧ v838.toInt ≤ 9223372036854775807 := ⟨(rng64 v838).1, Int.le_of_lt_add_one (rng64 v838).2⟩; have B1181 : (-1 : Int) ≤ (-1 : Int64).toInt ∧ (-1 : Int64).toInt ≤ -1 := (by decide); have q1182 : ¬ v838.toInt = (-1 : Int64).toInt := fun q => hq1174 (Int64.toInt_inj.mp q); omega)) hc) (fun _ => ?_)
    refine k_iconst X1168 hx 408 (D at_407) (z := (1 : Int32)) rfl ?_
    refine k_goto X1168 hx 412 (D at_408) ?_
    exact k_retN X1168 hx (t := .boolean) hret (by simp) (D at_412) hlk (by first | exact hce1168 | exact Nat.le_trans (Nat.le_refl _) hce1168) (by first | exact hsl1168 | exact Nat.le_trans (Nat.le_refl _) hsl1168) (z' := (1 : Int32)) rfl ⟨rfl, N1168⟩
   ·
    refine k_lload X1168 hx 383 (D at_381) rfl ?_
    refine k_lload X1168 hx 385 (D at_383) rfl ?_
    refine k_lcif_gt X1168 hx 389 394 386 (D at_385) (D at_386) (fun hc1183 => ?_) (fun hc1183 => ?_)
    ·
     refine k_ldcL X1168 hx hZ hown 397 (k_w hw 11 rfl) (D at_394) ?_
     refine k_lstore X1168 hx 399 (D at_397) (Ls' := #[iv i0, iv i1, iv i2, jv i3, s_, rv b1, iv (0 : Int32), iv (4 : Int32), iv (4 : Int32), iv v786, jv v835, s_, jv v838, s_, iv v1169, jv v1170, s_, jv (-1 : Int64), s_]) rfl ?_
     refine k_lload X1168 hx 401 (D at_399) rfl ?_
     refine k_lload X1168 hx 403 (D at_401) rfl ?_
     refine k_lcif_ne X1168 hx 407 411 404 (D at_403) (D at_404) (fun hc => absurd (Classical.byContradiction (fun hq1184 => by have B1185 : (0 : Int) ≤ v835.toInt ∧ v835.toInt ≤ 9223372036854775807 := ⟨kL_ge hP836 (by decide), Int.le_of_lt_add_one (rng64 v835).2⟩; have B1186 : (0 : Int) ≤ v1170.toInt ∧ v1170.toInt ≤ 9999 := ⟨kL_ge hP1172.1.1 (by decide), kL_le hP1172.1.2 (by decide)⟩; have B1187 : (-2147483648 : Int) ≤ v1169.toInt ∧ v1169.toInt ≤ 2147483647 := ⟨(rng32 v1169).1, Int.le_of_lt_add_one (rng32 v1169).2⟩; have B1188 : (0 : Int) ≤ (0 : Int32).toInt ∧ (0 : Int32).toInt ≤ 0 := (by decide); have q1189 : ¬ v1169.toInt = (0 : Int32).toInt := fun q => hc1173 (Int32.toInt_inj.mp q); have q1190 := hc1183; rw [Int64.lt_iff_toInt_lt] at q1190; have B1191 : (-9223372036854775808 : Int) ≤ v838.toInt ∧ v838.toInt ≤ 9223372036854775807 := ⟨(rng64 v838).1, Int.le_of_lt_add_one (rng64 v838).2⟩; have B1192 : (-1 : Int) ≤ (-1 : Int64).toInt ∧ (-1 : Int64).toInt ≤ -1 := (by decide); have q1193 : ¬ v838.toInt = (-1 : Int64).toInt := fun q => hq1184 (Int64.toInt_inj.mp q); omega)) hc) (fun _ => ?_)
     refine k_iconst X1168 hx 408 (D at_407) (z := (1 : Int32)) rfl ?_
     refine k_goto X1168 hx 412 (D at_408) ?_
     exact k_retN X1168 hx (t := .boolean) hret (by simp) (D at_412) hlk (by first | exact hce1168 | exact Nat.le_trans (Nat.le_refl _) hce1168) (by first | exact hsl1168 | exact Nat.le_trans (Nat.le_refl _) hsl1168) (z' := (1 : Int32)) rfl ⟨rfl, N1168⟩
    ·
     refine k_lload X1168 hx 391 (D at_389) rfl ?_
     refine k_goto X1168 hx 397 (D at_391) ?_
     refine k_lstore X1168 hx 399 (D at_397) (Ls' := #[iv i0, iv i1, iv i2, jv i3, s_, rv b1, iv (0 : Int32), iv (4 : Int32), iv (4 : Int32), iv v786, jv v835, s_, jv v838, s_, iv v1169, jv v1170, s_, jv v1170, s_]) rfl ?_
     refine k_lload X1168 hx 401 (D at_399) rfl ?_
     refine k_lload X1168 hx 403 (D at_401) rfl ?_
     refine k_lcif_ne X1168 hx 407 411 404 (D at_403) (D at_404) (fun hc => absurd (Classical.byContradiction (fun hq1194 => by have B1195 : (0 : Int) ≤ v835.toInt ∧ v835.toInt ≤ 9223372036854775807 := ⟨kL_ge hP836 (by decide), Int.le_of_lt_add_one (rng64 v835).2⟩; have B1196 : (0 : Int) ≤ v1170.toInt ∧ v1170.toInt ≤ 9999 := ⟨kL_ge hP1172.1.1 (by decide), kL_le hP1172.1.2 (by decide)⟩; have B1197 : (-2147483648 : Int) ≤ v1169.toInt ∧ v1169.toInt ≤ 2147483647 := ⟨(rng32 v1169).1, Int.le_of_lt_add_one (rng32 v1169).2⟩; have B1198 : (0 : Int) ≤ (0 : Int32).toInt ∧ (0 : Int32).toInt ≤ 0 := (by decide); have q1199 : ¬ v1169.toInt = (0 : Int32).toInt := fun q => hc1173 (Int32.toInt_inj.mp q); have q1200 := hc1183; rw [Int64.lt_iff_toInt_lt] at q1200; have B1201 : (-9223372036854775808 : Int) ≤ v838.toInt ∧ v838.toInt ≤ 9223372036854775807 := ⟨(rng64 v838).1, Int.le_of_lt_add_one (rng64 v838).2⟩; have q1202 : ¬ v838.toInt = v1170.toInt := fun q => hq1194 (Int64.toInt_inj.mp q); omega)) hc) (fun _ => ?_)
     refine k_iconst X1168 hx 408 (D at_407) (z := (1 : Int32)) rfl ?_
     refine k_goto X1168 hx 412 (D at_408) ?_
     exact k_retN X1168 hx (t := .boolean) hret (by simp) (D at_412) hlk (by first | exact hce1168 | exact Nat.le_trans (Nat.le_refl _) hce1168) (by first | exact hsl1168 | exact Nat.le_trans (Nat.le_refl _) hsl1168) (z' := (1 : Int32)) rfl ⟨rfl, N1168⟩
 ·
  show KEnds p e below s _ _ _ T21 (mkF m 65 #[iv i0, iv i1, iv i2, jv i3, s_, rv b1, u_, u_, u_, u_, u_, u_, u_, u_, u_, u_, u_, u_, u_] [(.int (1 : Int32))])
  refine k_istore X21 hx 67 (D at_65) (Ls' := #[iv i0, iv i1, iv i2, jv i3, s_, rv b1, iv (1 : Int32), u_, u_, u_, u_, u_, u_, u_, u_, u_, u_, u_, u_]) rfl ?_
  refine k_iloadN X21 hx 68 (D at_67) rfl ?_
  refine k_bipush X21 hx 70 (D at_68) (z := (6 : Int32)) rfl ?_
  refine k_iushr X21 hx 71 (D at_70) (fun v1204 hv1204 => ?_)
  refine k_bipush X21 hx 73 (D at_71) (z := (7 : Int32)) rfl ?_
  refine k_iand X21 hx 74 (D at_73) (fun v1205 hv1205 => ?_)
  refine k_iconst X21 hx 75 (D at_74) (z := (5 : Int32)) rfl ?_
  refine k_irem X21 hx 76 (D at_75) (by decide) (fun v1206 hv1206 => ?_)
  have hs1207 : v1206 = (0 : Int32) ∨ v1206 = (1 : Int32) ∨ v1206 = (2 : Int32) ∨ v1206 = (3 : Int32) ∨ v1206 = (4 : Int32) := by
   have B1214 : (-2147483648 : Int) ≤ i2.toInt ∧ i2.toInt ≤ 2147483647 := ⟨(rng32 i2).1, Int.le_of_lt_add_one (rng32 i2).2⟩
   have q1213 : v1204.toInt = (i2.toInt % 4294967296) / 64 := (by rw [hv1204]; exact c_iushr _ _ 6 (by decide) (by decide))
   have B1212 : (0 : Int) ≤ v1204.toInt ∧ v1204.toInt ≤ 67108863 := (by rw [q1213]; exact k_divmodB (by decide) (by decide) (by decide))
   have q1211 : v1205.toInt = v1204.toInt % 8 := (by rw [hv1205]; exact c_mask _ _ 3 (by decide) (by decide))
   have B1210 : (0 : Int) ≤ v1205.toInt ∧ v1205.toInt ≤ 7 := (by rw [q1211]; exact k_modB (by decide))
   have q1209 : v1206.toInt = v1205.toInt % 5 := (by rw [hv1206]; exact (c_irem _ _ 5 (by decide)).1 (Int.le_trans (by decide) B1210.1))
   have B1208 : (0 : Int) ≤ v1206.toInt ∧ v1206.toInt ≤ 4 := (by rw [q1209]; exact k_modB (by decide))
   rcases (by omega : v1206.toInt = 0 ∨ v1206.toInt = 1 ∨ v1206.toInt = 2 ∨ v1206.toInt = 3 ∨ v1206.toInt = 4) with hq | hq | hq | hq | hq
   · exact Or.inl (Int32.toInt_inj.mp hq)
   · exact Or.inr (Or.inl (Int32.toInt_inj.mp hq))
   · exact Or.inr (Or.inr (Or.inl (Int32.toInt_inj.mp hq)))
   · exact Or.inr (Or.inr (Or.inr (Or.inl (Int32.toInt_inj.mp hq))))
   · exact Or.inr (Or.inr (Or.inr (Or.inr ((Int32.toInt_inj.mp hq)))))
  rcases hs1207 with rfl | rfl | rfl | rfl | rfl
  ·
   show KEnds p e below s _ _ _ T21 (mkF m 76 #[iv i0, iv i1, iv i2, jv i3, s_, rv b1, iv (1 : Int32), u_, u_, u_, u_, u_, u_, u_, u_, u_, u_, u_, u_] [(.int (0 : Int32))])
   refine k_istore X21 hx 78 (D at_76) (Ls' := #[iv i0, iv i1, iv i2, jv i3, s_, rv b1, iv (1 : Int32), iv (0 : Int32), u_, u_, u_, u_, u_, u_, u_, u_, u_, u_, u_]) rfl ?_
   refine k_iload X21 hx 80 (D at_78) rfl ?_
   refine k_iload X21 hx 82 (D at_80) rfl ?_
   refine k_iaddL X21 hx 83 (D at_82) (z := (1 : Int32)) (by decide) ?_
   refine k_istore X21 hx 85 (D at_83) (Ls' := #[iv i0, iv i1, iv i2, jv i3, s_, rv b1, iv (1 : Int32), iv (0 : Int32), iv (1 : Int32), u_, u_, u_, u_, u_, u_, u_, u_, u_, u_]) rfl ?_
   refine k_iloadN X21 hx 86 (D at_85) rfl ?_
   refine k_bipush X21 hx 88 (D at_86) (z := (9 : Int32)) rfl ?_
   refine k_iushr X21 hx 89 (D at_88) (fun v1216 hv1216 => ?_)
   refine k_iconst X21 hx 90 (D at_89) (z := (3 : Int32)) rfl ?_
   refine k_iand X21 hx 91 (D at_90) (fun v1217 hv1217 => ?_)
   refine k_istore X21 hx 93 (D at_91) (Ls' := #[iv i0, iv i1, iv i2, jv i3, s_, rv b1, iv (1 : Int32), iv (0 : Int32), iv (1 : Int32), iv v1217, u_, u_, u_, u_, u_, u_, u_, u_, u_]) rfl ?_
   suffices key1218 : ∀ (v1266 : Int64), (¬ v1266 < 0) → KEnds p e below s 16 128 (Q0 n0) T21 (mkF m 147 #[iv i0, iv i1, iv i2, jv i3, s_, rv b1, iv (1 : Int32), iv (0 : Int32), iv (1 : Int32), iv v1217, jv v1266, s_, u_, u_, u_, u_, u_, u_, u_] []) by
    refine k_iload X21 hx 95 (D at_93) rfl ?_
    refine k_if_ne X21 hx 98 108 (D at_95) (fun hc1219 => ?_) (fun hc1219 => ?_)
    ·
     refine k_iload X21 hx 110 (D at_108) rfl ?_
     refine k_iconst X21 hx 111 (D at_110) (z := (1 : Int32)) rfl ?_
     refine k_icmp_ne X21 hx 114 124 (D at_111) (fun hc1220 => ?_) (fun hc1220 => ?_)
     ·
      refine k_iload X21 hx 126 (D at_124) rfl ?_
      refine k_iconst X21 hx 127 (D at_126) (z := (2 : Int32)) rfl ?_
      refine k_icmp_ne X21 hx 130 140 (D at_127) (fun hc1221 => ?_) (fun hc1221 => ?_)
      ·
       refine k_lloadN X21 hx 141 (D at_140) rfl ?_
       refine k_ldcL X21 hx hZ hown 144 (k_w hw 21 rfl) (D at_141) ?_
       refine k_land X21 hx 145 (D at_144) (fun v1222 hv1222 => ?_)
       refine k_lstore X21 hx 147 (D at_145) (Ls' := #[iv i0, iv i1, iv i2, jv i3, s_, rv b1, iv (1 : Int32), iv (0 : Int32), iv (1 : Int32), iv v1217, jv v1222, s_, u_, u_, u_, u_, u_, u_, u_]) rfl ?_
       refine key1218 v1222 ?_
       intro hq1228
       have B1231 : (-9223372036854775808 : Int) ≤ i3.toInt ∧ i3.toInt ≤ 9223372036854775807 := ⟨(rng64 i3).1, Int.le_of_lt_add_one (rng64 i3).2⟩
       have q1230 : v1222.toInt = i3.toInt % 16 := (by rw [hv1222]; exact c_maskL _ _ 4 (by decide) (by decide))
       have B1229 : (0 : Int) ≤ v1222.toInt ∧ v1222.toInt ≤ 15 := (by rw [q1230]; exact k_modB (by decide))
       have B1232 : (0 : Int) ≤ v1222.toInt ∧ v1222.toInt ≤ -1 := ⟨B1229.1, kL_lt hq1228 (by decide)⟩
       omega
      ·
       refine k_lloadN X21 hx 131 (D at_130) rfl ?_
       refine k_ldcL X21 hx hZ hown 134 (k_w hw 23 rfl) (D at_131) ?_
       refine k_land X21 hx 135 (D at_134) (fun v1233 hv1233 => ?_)
       refine k_lstore X21 hx 137 (D at_135) (Ls' := #[iv i0, iv i1, iv i2, jv i3, s_, rv b1, iv (1 : Int32), iv (0 : Int32), iv (1 : Int32), iv v1217, jv v1233, s_, u_, u_, u_, u_, u_, u_, u_]) rfl ?_
       refine k_goto X21 hx 147 (D at_137) ?_
       refine key1218 v1233 ?_
       intro hq1239
       have B1242 : (-9223372036854775808 : Int) ≤ i3.toInt ∧ i3.toInt ≤ 9223372036854775807 := ⟨(rng64 i3).1, Int.le_of_lt_add_one (rng64 i3).2⟩
       have q1241 : v1233.toInt = i3.toInt % 128 := (by rw [hv1233]; exact c_maskL _ _ 7 (by decide) (by decide))
       have B1240 : (0 : Int) ≤ v1233.toInt ∧ v1233.toInt ≤ 127 := (by rw [q1241]; exact k_modB (by decide))
       have B1243 : (0 : Int) ≤ v1233.toInt ∧ v1233.toInt ≤ -1 := ⟨B1240.1, kL_lt hq1239 (by decide)⟩
       omega
     ·
      refine k_lloadN X21 hx 115 (D at_114) rfl ?_
      refine k_ldcL X21 hx hZ hown 118 (k_w hw 22 rfl) (D at_115) ?_
      refine k_land X21 hx 119 (D at_118) (fun v1244 hv1244 => ?_)
      refine k_lstore X21 hx 121 (D at_119) (Ls' := #[iv i0, iv i1, iv i2, jv i3, s_, rv b1, iv (1 : Int32), iv (0 : Int32), iv (1 : Int32), iv v1217, jv v1244, s_, u_, u_, u_, u_, u_, u_, u_]) rfl ?_
      refine k_goto X21 hx 147 (D at_121) ?_
      refine key1218 v1244 ?_
      intro hq1250
      have B1253 : (-9223372036854775808 : Int) ≤ i3.toInt ∧ i3.toInt ≤ 9223372036854775807 := ⟨(rng64 i3).1, Int.le_of_lt_add_one (rng64 i3).2⟩
      have q1252 : v1244.toInt = i3.toInt % 16384 := (by rw [hv1244]; exact c_maskL _ _ 14 (by decide) (by decide))
      have B1251 : (0 : Int) ≤ v1244.toInt ∧ v1244.toInt ≤ 16383 := (by rw [q1252]; exact k_modB (by decide))
      have B1254 : (0 : Int) ≤ v1244.toInt ∧ v1244.toInt ≤ -1 := ⟨B1251.1, kL_lt hq1250 (by decide)⟩
      omega
    ·
     refine k_lloadN X21 hx 99 (D at_98) rfl ?_
     refine k_ldcL X21 hx hZ hown 102 (k_w hw 5 rfl) (D at_99) ?_
     refine k_land X21 hx 103 (D at_102) (fun v1255 hv1255 => ?_)
     refine k_lstore X21 hx 105 (D at_103) (Ls' := #[iv i0, iv i1, iv i2, jv i3, s_, rv b1, iv (1 : Int32), iv (0 : Int32), iv (1 : Int32), iv v1217, jv v1255, s_, u_, u_, u_, u_, u_, u_, u_]) rfl ?_
     refine k_goto X21 hx 147 (D at_105) ?_
     refine key1218 v1255 ?_
     intro hq1261
     have B1264 : (-9223372036854775808 : Int) ≤ i3.toInt ∧ i3.toInt ≤ 9223372036854775807 := ⟨(rng64 i3).1, Int.le_of_lt_add_one (rng64 i3).2⟩
     have q1263 : v1255.toInt = i3.toInt % 9223372036854775808 := (by rw [hv1255]; exact c_maskL _ _ 63 (by decide) (by decide))
     have B1262 : (0 : Int) ≤ v1255.toInt ∧ v1255.toInt ≤ 9223372036854775807 := (by rw [q1263]; exact k_modB (by decide))
     have B1265 : (0 : Int) ≤ v1255.toInt ∧ v1255.toInt ≤ -1 := ⟨B1262.1, kL_lt hq1261 (by decide)⟩
     omega
   intro v1266 hP1267
   refine k_aload X21 hx 149 (D at_147) rfl rfl ?_
   refine k_iload X21 hx 151 (D at_149) rfl ?_
   refine k_iload X21 hx 153 (D at_151) rfl ?_
   refine k_lload X21 hx 155 (D at_153) rfl ?_
   refine k_callS X21 hx hZ hown 158 (k_w hw 6 rfl) (k_w hw 7 rfl) (k_w hw 8 rfl) (k_w hw 9 rfl) (by decide) (rm2_13 l Z a0 hw [] b1 v1266 k1 v3 v7 v11 v15 v19 h21 n0 Z21 Vw21 hP1267) (by decide) (by decide) e21 (by rw [hml]; rfl) (argsL := [(.ref b1), (.int (1 : Int32)), (.int (1 : Int32)), (.long v1266)]) (rest := []) (lenOf pd_1 rfl) rfl (W := 0) (Nat.le_refl _) rfl (D at_155) (by decide) (by decide) (fun T1268 L1268 r1268 X1268 q1268 => ?_)
   obtain ⟨N1268, e1268, v1269, rfl, hS1270⟩ := q1268
   have N1268' := Fr.app N21 N1268
   show KEnds p e below s _ _ _ T1268 (mkF m 158 #[iv i0, iv i1, iv i2, jv i3, s_, rv b1, iv (1 : Int32), iv (0 : Int32), iv (1 : Int32), iv v1217, jv v1266, s_, u_, u_, u_, u_, u_, u_, u_] [(.long v1269)])
   refine k_lstore X1268 hx 160 (D at_158) (Ls' := #[iv i0, iv i1, iv i2, jv i3, s_, rv b1, iv (1 : Int32), iv (0 : Int32), iv (1 : Int32), iv v1217, jv v1266, s_, jv v1269, s_, u_, u_, u_, u_, u_]) rfl ?_
   refine k_iload X1268 hx 162 (D at_160) rfl ?_
   refine k_if_le X1268 hx 165 169 (D at_162) (fun _ => ?_) (fun hc => absurd hc (by decide))
   refine k_iconst X1268 hx 170 (D at_169) (z := (0 : Int32)) rfl ?_
   refine k_istore X1268 hx 172 (D at_170) (Ls' := #[iv i0, iv i1, iv i2, jv i3, s_, rv b1, iv (1 : Int32), iv (0 : Int32), iv (1 : Int32), iv v1217, jv v1266, s_, jv v1269, s_, iv (0 : Int32), u_, u_, u_, u_]) rfl ?_
   refine k_lconst X1268 hx 173 (D at_172) (z := (0 : Int64)) rfl ?_
   refine k_lstore X1268 hx 175 (D at_173) (Ls' := #[iv i0, iv i1, iv i2, jv i3, s_, rv b1, iv (1 : Int32), iv (0 : Int32), iv (1 : Int32), iv v1217, jv v1266, s_, jv v1269, s_, iv (0 : Int32), jv (0 : Int64), s_, u_, u_]) rfl ?_
   refine k_iload X1268 hx 177 (D at_175) rfl ?_
   refine k_if_le X1268 hx 180 223 (D at_177) (fun _ => ?_) (fun hc => absurd hc (by decide))
   refine k_iload X1268 hx 225 (D at_223) rfl ?_
   refine k_iconst X1268 hx 226 (D at_225) (z := (1 : Int32)) rfl ?_
   refine k_icmp_le X1268 hx 229 274 (D at_226) (fun _ => ?_) (fun hc => absurd hc (by decide))
   refine k_iload X1268 hx 276 (D at_274) rfl ?_
   refine k_iconst X1268 hx 277 (D at_276) (z := (2 : Int32)) rfl ?_
   refine k_icmp_le X1268 hx 280 325 (D at_277) (fun _ => ?_) (fun hc => absurd hc (by decide))
   refine k_iload X1268 hx 327 (D at_325) rfl ?_
   refine k_iconst X1268 hx 328 (D at_327) (z := (3 : Int32)) rfl ?_
   refine k_icmp_le X1268 hx 331 376 (D at_328) (fun _ => ?_) (fun hc => absurd hc (by decide))
   refine k_iload X1268 hx 378 (D at_376) rfl ?_
   refine k_if_eq X1268 hx 381 394 (D at_378) (fun _ => ?_) (fun hc => absurd (by decide) hc)
   refine k_ldcL X1268 hx hZ hown 397 (k_w hw 11 rfl) (D at_394) ?_
   refine k_lstore X1268 hx 399 (D at_397) (Ls' := #[iv i0, iv i1, iv i2, jv i3, s_, rv b1, iv (1 : Int32), iv (0 : Int32), iv (1 : Int32), iv v1217, jv v1266, s_, jv v1269, s_, iv (0 : Int32), jv (0 : Int64), s_, jv (-1 : Int64), s_]) rfl ?_
   refine k_lload X1268 hx 401 (D at_399) rfl ?_
   refine k_lload X1268 hx 403 (D at_401) rfl ?_
   refine k_lcif_ne X1268 hx 407 411 404 (D at_403) (D at_404) (fun hc => absurd (Classical.byContradiction (fun hq1271 => by have B1272 : (0 : Int) ≤ v1266.toInt ∧ v1266.toInt ≤ 9223372036854775807 := ⟨kL_ge hP1267 (by decide), Int.le_of_lt_add_one (rng64 v1266).2⟩; have B1273 : (-9223372036854775808 : Int) ≤ v1269.toInt ∧ v1269.toInt ≤ 9223372036854775807 := ⟨(rng64 v1269).1, Int.le_of_lt_add_one (rng64 v1269).2⟩; have B1274 : (-1 : Int) ≤ (-1 : Int64).toInt ∧ (-1 : Int64).toInt ≤ -1 := (by decide); have q1275 : ¬ v1269.toInt = (-1 : Int64).toInt := fun q => hq1271 (Int64.toInt_inj.mp q); omega)) hc) (fun _ => ?_)
   refine k_iconst X1268 hx 408 (D at_407) (z := (1 : Int32)) rfl ?_
   refine k_goto X1268 hx 412 (D at_408) ?_
   exact k_retN X1268 hx (t := .boolean) hret (by simp) (D at_412) hlk (by decide) (by decide) (z' := (1 : Int32)) rfl ⟨rfl, N1268'⟩
  ·
   show KEnds p e below s _ _ _ T21 (mkF m 76 #[iv i0, iv i1, iv i2, jv i3, s_, rv b1, iv (1 : Int32), u_, u_, u_, u_, u_, u_, u_, u_, u_, u_, u_, u_] [(.int (1 : Int32))])
   refine k_istore X21 hx 78 (D at_76) (Ls' := #[iv i0, iv i1, iv i2, jv i3, s_, rv b1, iv (1 : Int32), iv (1 : Int32), u_, u_, u_, u_, u_, u_, u_, u_, u_, u_, u_]) rfl ?_
   refine k_iload X21 hx 80 (D at_78) rfl ?_
   refine k_iload X21 hx 82 (D at_80) rfl ?_
   refine k_iaddL X21 hx 83 (D at_82) (z := (2 : Int32)) (by decide) ?_
   refine k_istore X21 hx 85 (D at_83) (Ls' := #[iv i0, iv i1, iv i2, jv i3, s_, rv b1, iv (1 : Int32), iv (1 : Int32), iv (2 : Int32), u_, u_, u_, u_, u_, u_, u_, u_, u_, u_]) rfl ?_
   refine k_iloadN X21 hx 86 (D at_85) rfl ?_
   refine k_bipush X21 hx 88 (D at_86) (z := (9 : Int32)) rfl ?_
   refine k_iushr X21 hx 89 (D at_88) (fun v1277 hv1277 => ?_)
   refine k_iconst X21 hx 90 (D at_89) (z := (3 : Int32)) rfl ?_
   refine k_iand X21 hx 91 (D at_90) (fun v1278 hv1278 => ?_)
   refine k_istore X21 hx 93 (D at_91) (Ls' := #[iv i0, iv i1, iv i2, jv i3, s_, rv b1, iv (1 : Int32), iv (1 : Int32), iv (2 : Int32), iv v1278, u_, u_, u_, u_, u_, u_, u_, u_, u_]) rfl ?_
   suffices key1279 : ∀ (v1327 : Int64), (¬ v1327 < 0) → KEnds p e below s 16 128 (Q0 n0) T21 (mkF m 147 #[iv i0, iv i1, iv i2, jv i3, s_, rv b1, iv (1 : Int32), iv (1 : Int32), iv (2 : Int32), iv v1278, jv v1327, s_, u_, u_, u_, u_, u_, u_, u_] []) by
    refine k_iload X21 hx 95 (D at_93) rfl ?_
    refine k_if_ne X21 hx 98 108 (D at_95) (fun hc1280 => ?_) (fun hc1280 => ?_)
    ·
     refine k_iload X21 hx 110 (D at_108) rfl ?_
     refine k_iconst X21 hx 111 (D at_110) (z := (1 : Int32)) rfl ?_
     refine k_icmp_ne X21 hx 114 124 (D at_111) (fun hc1281 => ?_) (fun hc1281 => ?_)
     ·
      refine k_iload X21 hx 126 (D at_124) rfl ?_
      refine k_iconst X21 hx 127 (D at_126) (z := (2 : Int32)) rfl ?_
      refine k_icmp_ne X21 hx 130 140 (D at_127) (fun hc1282 => ?_) (fun hc1282 => ?_)
      ·
       refine k_lloadN X21 hx 141 (D at_140) rfl ?_
       refine k_ldcL X21 hx hZ hown 144 (k_w hw 21 rfl) (D at_141) ?_
       refine k_land X21 hx 145 (D at_144) (fun v1283 hv1283 => ?_)
       refine k_lstore X21 hx 147 (D at_145) (Ls' := #[iv i0, iv i1, iv i2, jv i3, s_, rv b1, iv (1 : Int32), iv (1 : Int32), iv (2 : Int32), iv v1278, jv v1283, s_, u_, u_, u_, u_, u_, u_, u_]) rfl ?_
       refine key1279 v1283 ?_
       intro hq1289
       have B1292 : (-9223372036854775808 : Int) ≤ i3.toInt ∧ i3.toInt ≤ 9223372036854775807 := ⟨(rng64 i3).1, Int.le_of_lt_add_one (rng64 i3).2⟩
       have q1291 : v1283.toInt = i3.toInt % 16 := (by rw [hv1283]; exact c_maskL _ _ 4 (by decide) (by decide))
       have B1290 : (0 : Int) ≤ v1283.toInt ∧ v1283.toInt ≤ 15 := (by rw [q1291]; exact k_modB (by decide))
       have B1293 : (0 : Int) ≤ v1283.toInt ∧ v1283.toInt ≤ -1 := ⟨B1290.1, kL_lt hq1289 (by decide)⟩
       omega
      ·
       refine k_lloadN X21 hx 131 (D at_130) rfl ?_
       refine k_ldcL X21 hx hZ hown 134 (k_w hw 23 rfl) (D at_131) ?_
       refine k_land X21 hx 135 (D at_134) (fun v1294 hv1294 => ?_)
       refine k_lstore X21 hx 137 (D at_135) (Ls' := #[iv i0, iv i1, iv i2, jv i3, s_, rv b1, iv (1 : Int32), iv (1 : Int32), iv (2 : Int32), iv v1278, jv v1294, s_, u_, u_, u_, u_, u_, u_, u_]) rfl ?_
       refine k_goto X21 hx 147 (D at_137) ?_
       refine key1279 v1294 ?_
       intro hq1300
       have B1303 : (-9223372036854775808 : Int) ≤ i3.toInt ∧ i3.toInt ≤ 9223372036854775807 := ⟨(rng64 i3).1, Int.le_of_lt_add_one (rng64 i3).2⟩
       have q1302 : v1294.toInt = i3.toInt % 128 := (by rw [hv1294]; exact c_maskL _ _ 7 (by decide) (by decide))
       have B1301 : (0 : Int) ≤ v1294.toInt ∧ v1294.toInt ≤ 127 := (by rw [q1302]; exact k_modB (by decide))
       have B1304 : (0 : Int) ≤ v1294.toInt ∧ v1294.toInt ≤ -1 := ⟨B1301.1, kL_lt hq1300 (by decide)⟩
       omega
     ·
      refine k_lloadN X21 hx 115 (D at_114) rfl ?_
      refine k_ldcL X21 hx hZ hown 118 (k_w hw 22 rfl) (D at_115) ?_
      refine k_land X21 hx 119 (D at_118) (fun v1305 hv1305 => ?_)
      refine k_lstore X21 hx 121 (D at_119) (Ls' := #[iv i0, iv i1, iv i2, jv i3, s_, rv b1, iv (1 : Int32), iv (1 : Int32), iv (2 : Int32), iv v1278, jv v1305, s_, u_, u_, u_, u_, u_, u_, u_]) rfl ?_
      refine k_goto X21 hx 147 (D at_121) ?_
      refine key1279 v1305 ?_
      intro hq1311
      have B1314 : (-9223372036854775808 : Int) ≤ i3.toInt ∧ i3.toInt ≤ 9223372036854775807 := ⟨(rng64 i3).1, Int.le_of_lt_add_one (rng64 i3).2⟩
      have q1313 : v1305.toInt = i3.toInt % 16384 := (by rw [hv1305]; exact c_maskL _ _ 14 (by decide) (by decide))
      have B1312 : (0 : Int) ≤ v1305.toInt ∧ v1305.toInt ≤ 16383 := (by rw [q1313]; exact k_modB (by decide))
      have B1315 : (0 : Int) ≤ v1305.toInt ∧ v1305.toInt ≤ -1 := ⟨B1312.1, kL_lt hq1311 (by decide)⟩
      omega
    ·
     refine k_lloadN X21 hx 99 (D at_98) rfl ?_
     refine k_ldcL X21 hx hZ hown 102 (k_w hw 5 rfl) (D at_99) ?_
     refine k_land X21 hx 103 (D at_102) (fun v1316 hv1316 => ?_)
     refine k_lstore X21 hx 105 (D at_103) (Ls' := #[iv i0, iv i1, iv i2, jv i3, s_, rv b1, iv (1 : Int32), iv (1 : Int32), iv (2 : Int32), iv v1278, jv v1316, s_, u_, u_, u_, u_, u_, u_, u_]) rfl ?_
     refine k_goto X21 hx 147 (D at_105) ?_
     refine key1279 v1316 ?_
     intro hq1322
     have B1325 : (-9223372036854775808 : Int) ≤ i3.toInt ∧ i3.toInt ≤ 9223372036854775807 := ⟨(rng64 i3).1, Int.le_of_lt_add_one (rng64 i3).2⟩
     have q1324 : v1316.toInt = i3.toInt % 9223372036854775808 := (by rw [hv1316]; exact c_maskL _ _ 63 (by decide) (by decide))
     have B1323 : (0 : Int) ≤ v1316.toInt ∧ v1316.toInt ≤ 9223372036854775807 := (by rw [q1324]; exact k_modB (by decide))
     have B1326 : (0 : Int) ≤ v1316.toInt ∧ v1316.toInt ≤ -1 := ⟨B1323.1, kL_lt hq1322 (by decide)⟩
     omega
   intro v1327 hP1328
   refine k_aload X21 hx 149 (D at_147) rfl rfl ?_
   refine k_iload X21 hx 151 (D at_149) rfl ?_
   refine k_iload X21 hx 153 (D at_151) rfl ?_
   refine k_lload X21 hx 155 (D at_153) rfl ?_
   refine k_callS X21 hx hZ hown 158 (k_w hw 6 rfl) (k_w hw 7 rfl) (k_w hw 8 rfl) (k_w hw 9 rfl) (by decide) (rm2_14 l Z a0 hw [] b1 v1327 k1 v3 v7 v11 v15 v19 h21 n0 Z21 Vw21 hP1328 (k_by1 hb8) (k_by2 hb8)) (by decide) (by decide) e21 (by rw [hml]; rfl) (argsL := [(.ref b1), (.int (1 : Int32)), (.int (2 : Int32)), (.long v1327)]) (rest := []) (lenOf pd_1 rfl) rfl (W := 0) (Nat.le_refl _) rfl (D at_155) (by decide) (by decide) (fun T1329 L1329 r1329 X1329 q1329 => ?_)
   obtain ⟨N1329, e1329, v1330, rfl, hS1331⟩ := q1329
   have N1329' := Fr.app N21 N1329
   show KEnds p e below s _ _ _ T1329 (mkF m 158 #[iv i0, iv i1, iv i2, jv i3, s_, rv b1, iv (1 : Int32), iv (1 : Int32), iv (2 : Int32), iv v1278, jv v1327, s_, u_, u_, u_, u_, u_, u_, u_] [(.long v1330)])
   refine k_lstore X1329 hx 160 (D at_158) (Ls' := #[iv i0, iv i1, iv i2, jv i3, s_, rv b1, iv (1 : Int32), iv (1 : Int32), iv (2 : Int32), iv v1278, jv v1327, s_, jv v1330, s_, u_, u_, u_, u_, u_]) rfl ?_
   refine k_iload X1329 hx 162 (D at_160) rfl ?_
   refine k_if_le X1329 hx 165 169 (D at_162) (fun hc => absurd (by decide) hc) (fun _ => ?_)
   refine k_iconst X1329 hx 166 (D at_165) (z := (1 : Int32)) rfl ?_
   refine k_goto X1329 hx 170 (D at_166) ?_
   refine k_istore X1329 hx 172 (D at_170) (Ls' := #[iv i0, iv i1, iv i2, jv i3, s_, rv b1, iv (1 : Int32), iv (1 : Int32), iv (2 : Int32), iv v1278, jv v1327, s_, jv v1330, s_, iv (1 : Int32), u_, u_, u_, u_]) rfl ?_
   refine k_lconst X1329 hx 173 (D at_172) (z := (0 : Int64)) rfl ?_
   refine k_lstore X1329 hx 175 (D at_173) (Ls' := #[iv i0, iv i1, iv i2, jv i3, s_, rv b1, iv (1 : Int32), iv (1 : Int32), iv (2 : Int32), iv v1278, jv v1327, s_, jv v1330, s_, iv (1 : Int32), jv (0 : Int64), s_, u_, u_]) rfl ?_
   refine k_iload X1329 hx 177 (D at_175) rfl ?_
   refine k_if_le X1329 hx 180 223 (D at_177) (fun hc => absurd (by decide) hc) (fun _ => ?_)
   suffices key1332 : ∀ (T1372 : State) (lo1372 : List Loc) (ce1372 sl1372 : Nat) (v1373 : Int32) (v1374 : Int64) (v1375 : Int32), Stand p l e room_1 s m #[(.int i0), (.int i1), (.int i2), (.long i3)] below meth c T1372 lo1372 ce1372 sl1372 → T1372.heap = h21 → Fr n0 lo1372 → ce1372 ≤ 16 → sl1372 ≤ 128 → ((¬ v1374 < 0 ∧ ¬ (9 : Int64) < v1374) ∧ ((v1373.toInt = 1 ∧ ((48 ≤ v7.toInt ∧ v7.toInt ≤ 57)) ∧ v1374.toInt = 1 * (v7.toInt - 48)) ∨ (v1373.toInt = 0 ∧ ¬ ((48 ≤ v7.toInt ∧ v7.toInt ≤ 57))))) → KEnds p e below s 16 128 (Q0 n0) T1372 (mkF m 223 #[iv i0, iv i1, iv i2, jv i3, s_, rv b1, iv (1 : Int32), iv (1 : Int32), iv (2 : Int32), iv v1278, jv v1327, s_, jv v1330, s_, iv v1373, jv v1374, s_, iv v1375, u_] []) by
    refine k_aload X1329 hx 182 (D at_180) rfl rfl ?_
    refine k_iload X1329 hx 184 (D at_182) rfl ?_
    refine k_baload X1329 hx hZ 185 e1329 Vw21 ⟨by decide, by decide⟩ (v := (.int v7)) rfl (D at_184) ?_
    refine k_callS X1329 hx hZ hown 188 (k_w hw 13 rfl) (k_w hw 14 rfl) (k_w hw 3 rfl) (k_w hw 15 rfl) (by decide) (rm3_8 l Z a0 hw [] v7 h21 n0 Z21 ) (by decide) (by decide) e1329 (by rw [hml]; rfl) (argsL := [(.int v7)]) (rest := []) (lenOf pd_2 rfl) rfl (W := 0) (Nat.le_refl _) rfl (D at_185) (by decide) (by decide) (fun T1333 L1333 r1333 X1333 q1333 => ?_)
    obtain ⟨N1333, e1333, rfl⟩ := q1333
    have N1333' := Fr.app N1329' N1333
    show KEnds p e below s _ _ _ T1333 (mkF m 188 #[iv i0, iv i1, iv i2, jv i3, s_, rv b1, iv (1 : Int32), iv (1 : Int32), iv (2 : Int32), iv v1278, jv v1327, s_, jv v1330, s_, iv (1 : Int32), jv (0 : Int64), s_, u_, u_] ((.int (f3_8 v7)) :: []))
    obtain ⟨v1334, hv1334⟩ : ∃ z, z = f3_8 v7 := ⟨_, rfl⟩
    rw [← hv1334]
    refine k_istore X1333 hx 190 (D at_188) (Ls' := #[iv i0, iv i1, iv i2, jv i3, s_, rv b1, iv (1 : Int32), iv (1 : Int32), iv (2 : Int32), iv v1278, jv v1327, s_, jv v1330, s_, iv (1 : Int32), jv (0 : Int64), s_, iv v1334, u_]) rfl ?_
    refine k_iload X1333 hx 192 (D at_190) rfl ?_
    refine k_if_eq X1333 hx 195 204 (D at_192) (fun hc => absurd hc (by decide)) (fun _ => ?_)
    refine k_iload X1333 hx 197 (D at_195) rfl ?_
    refine k_if_lt X1333 hx 200 204 (D at_197) (fun hc1335 => ?_) (fun hc1335 => ?_)
    ·
     refine k_iconst X1333 hx 205 (D at_204) (z := (0 : Int32)) rfl ?_
     refine k_istore X1333 hx 207 (D at_205) (Ls' := #[iv i0, iv i1, iv i2, jv i3, s_, rv b1, iv (1 : Int32), iv (1 : Int32), iv (2 : Int32), iv v1278, jv v1327, s_, jv v1330, s_, iv (0 : Int32), jv (0 : Int64), s_, iv v1334, u_]) rfl ?_
     refine k_ldcL X1333 hx hZ hown 210 (k_w hw 16 rfl) (D at_207) ?_
     refine k_lload X1333 hx 212 (D at_210) rfl ?_
     refine k_lmulL X1333 hx 213 (D at_212) (z := (0 : Int64)) (by decide) ?_
     refine k_iload X1333 hx 215 (D at_213) rfl ?_
     refine k_iconst X1333 hx 216 (D at_215) (z := (0 : Int32)) rfl ?_
     refine k_callS X1333 hx hZ hown 219 (k_w hw 17 rfl) (k_w hw 18 rfl) (k_w hw 19 rfl) (k_w hw 20 rfl) (by decide) (rm4_9 l Z a0 hw [] v1334 h21 n0 Z21 ) (by decide) (by decide) e1333 (by rw [hml]; rfl) (argsL := [(.int v1334), (.int (0 : Int32))]) (rest := [(.long (0 : Int64))]) (lenOf pd_3 rfl) rfl (W := 2) (Nat.le_refl _) rfl (D at_216) (by decide) (by decide) (fun T1336 L1336 r1336 X1336 q1336 => ?_)
     obtain ⟨N1336, e1336, rfl⟩ := q1336
     have N1336' := Fr.app N1333' N1336
     show KEnds p e below s _ _ _ T1336 (mkF m 219 #[iv i0, iv i1, iv i2, jv i3, s_, rv b1, iv (1 : Int32), iv (1 : Int32), iv (2 : Int32), iv v1278, jv v1327, s_, jv v1330, s_, iv (0 : Int32), jv (0 : Int64), s_, iv v1334, u_] ((.int (f4_9 v1334)) :: (.long (0 : Int64)) :: []))
     obtain ⟨v1337, hv1337⟩ : ∃ z, z = f4_9 v1334 := ⟨_, rfl⟩
     rw [← hv1337]
     refine k_i2l X1336 hx 220 (D at_219) (fun v1338 hv1338 => ?_)
     refine k_laddL X1336 hx 221 (D at_220) (z := v1338) (Int64.zero_add _) ?_
     refine k_lstore X1336 hx 223 (D at_221) (Ls' := #[iv i0, iv i1, iv i2, jv i3, s_, rv b1, iv (1 : Int32), iv (1 : Int32), iv (2 : Int32), iv v1278, jv v1327, s_, jv v1330, s_, iv (0 : Int32), jv v1338, s_, iv v1334, u_]) rfl ?_
     refine key1332 T1336 _ _ _ (0 : Int32) v1338 v1334 X1336 e1336 N1336' (by decide) (by decide) ?_
     have B1344 : (-2147483648 : Int) ≤ i2.toInt ∧ i2.toInt ≤ 2147483647 := ⟨(rng32 i2).1, Int.le_of_lt_add_one (rng32 i2).2⟩
     have B1345 : (-2147483648 : Int) ≤ i0.toInt ∧ i0.toInt ≤ 2147483647 := ⟨(rng32 i0).1, Int.le_of_lt_add_one (rng32 i0).2⟩
     have B1346 : (-2147483648 : Int) ≤ i1.toInt ∧ i1.toInt ≤ 2147483647 := ⟨(rng32 i1).1, Int.le_of_lt_add_one (rng32 i1).2⟩
     have B1341 : (-128 : Int) ≤ v7.toInt ∧ v7.toInt ≤ 127 := (by rw [← hb8]; exact ⟨(c_i2b _).2.1, Int.le_of_lt_add_one (c_i2b _).2.2⟩)
     have q1340 := own_fd v7 ⟨Int.le_trans (by decide) B1341.1, Int.le_trans B1341.2 (by decide)⟩; rw [← hv1334] at q1340
     have B1339 : (-1 : Int) ≤ v1334.toInt ∧ v1334.toInt ≤ 9 := q1340.2
     have B1347 : (-1 : Int) ≤ v1334.toInt ∧ v1334.toInt ≤ -1 := ⟨B1339.1, k_lt hc1335 (by decide)⟩
     have q1351 := own_mx v1334 ⟨Int.le_trans (by decide) B1347.1, Int.le_trans B1347.2 (by decide)⟩; rw [← hv1337] at q1351
     have B1350 : (0 : Int) ≤ v1337.toInt ∧ v1337.toInt ≤ 9 := q1351.2
     have q1349 : v1338.toInt = v1337.toInt := (by rw [hv1338]; exact c_i2l _)
     have B1348 : (0 : Int) ≤ v1338.toInt ∧ v1338.toInt ≤ 9 := (by rw [q1349]; exact B1350)
     refine ⟨⟨fun hq1352 => ?_, fun hq1353 => ?_⟩, ?_⟩
     · rw [Int64.lt_iff_toInt_lt, show (0 : Int64).toInt = 0 from rfl] at hq1352; omega
     · rw [Int64.lt_iff_toInt_lt, show (9 : Int64).toInt = 9 from rfl] at hq1353; omega
     · exact Or.inr ⟨rfl, by omega⟩
    ·
     refine k_iconst X1333 hx 201 (D at_200) (z := (1 : Int32)) rfl ?_
     refine k_goto X1333 hx 205 (D at_201) ?_
     refine k_istore X1333 hx 207 (D at_205) (Ls' := #[iv i0, iv i1, iv i2, jv i3, s_, rv b1, iv (1 : Int32), iv (1 : Int32), iv (2 : Int32), iv v1278, jv v1327, s_, jv v1330, s_, iv (1 : Int32), jv (0 : Int64), s_, iv v1334, u_]) rfl ?_
     refine k_ldcL X1333 hx hZ hown 210 (k_w hw 16 rfl) (D at_207) ?_
     refine k_lload X1333 hx 212 (D at_210) rfl ?_
     refine k_lmulL X1333 hx 213 (D at_212) (z := (0 : Int64)) (by decide) ?_
     refine k_iload X1333 hx 215 (D at_213) rfl ?_
     refine k_iconst X1333 hx 216 (D at_215) (z := (0 : Int32)) rfl ?_
     refine k_callS X1333 hx hZ hown 219 (k_w hw 17 rfl) (k_w hw 18 rfl) (k_w hw 19 rfl) (k_w hw 20 rfl) (by decide) (rm4_9 l Z a0 hw [] v1334 h21 n0 Z21 ) (by decide) (by decide) e1333 (by rw [hml]; rfl) (argsL := [(.int v1334), (.int (0 : Int32))]) (rest := [(.long (0 : Int64))]) (lenOf pd_3 rfl) rfl (W := 2) (Nat.le_refl _) rfl (D at_216) (by decide) (by decide) (fun T1354 L1354 r1354 X1354 q1354 => ?_)
     obtain ⟨N1354, e1354, rfl⟩ := q1354
     have N1354' := Fr.app N1333' N1354
     show KEnds p e below s _ _ _ T1354 (mkF m 219 #[iv i0, iv i1, iv i2, jv i3, s_, rv b1, iv (1 : Int32), iv (1 : Int32), iv (2 : Int32), iv v1278, jv v1327, s_, jv v1330, s_, iv (1 : Int32), jv (0 : Int64), s_, iv v1334, u_] ((.int (f4_9 v1334)) :: (.long (0 : Int64)) :: []))
     obtain ⟨v1355, hv1355⟩ : ∃ z, z = f4_9 v1334 := ⟨_, rfl⟩
     rw [← hv1355]
     refine k_i2l X1354 hx 220 (D at_219) (fun v1356 hv1356 => ?_)
     refine k_laddL X1354 hx 221 (D at_220) (z := v1356) (Int64.zero_add _) ?_
     refine k_lstore X1354 hx 223 (D at_221) (Ls' := #[iv i0, iv i1, iv i2, jv i3, s_, rv b1, iv (1 : Int32), iv (1 : Int32), iv (2 : Int32), iv v1278, jv v1327, s_, jv v1330, s_, iv (1 : Int32), jv v1356, s_, iv v1334, u_]) rfl ?_
     refine key1332 T1354 _ _ _ (1 : Int32) v1356 v1334 X1354 e1354 N1354' (by decide) (by decide) ?_
     have B1362 : (-2147483648 : Int) ≤ i2.toInt ∧ i2.toInt ≤ 2147483647 := ⟨(rng32 i2).1, Int.le_of_lt_add_one (rng32 i2).2⟩
     have B1363 : (-2147483648 : Int) ≤ i0.toInt ∧ i0.toInt ≤ 2147483647 := ⟨(rng32 i0).1, Int.le_of_lt_add_one (rng32 i0).2⟩
     have B1364 : (-2147483648 : Int) ≤ i1.toInt ∧ i1.toInt ≤ 2147483647 := ⟨(rng32 i1).1, Int.le_of_lt_add_one (rng32 i1).2⟩
     have B1359 : (-128 : Int) ≤ v7.toInt ∧ v7.toInt ≤ 127 := (by rw [← hb8]; exact ⟨(c_i2b _).2.1, Int.le_of_lt_add_one (c_i2b _).2.2⟩)
     have q1358 := own_fd v7 ⟨Int.le_trans (by decide) B1359.1, Int.le_trans B1359.2 (by decide)⟩; rw [← hv1334] at q1358
     have B1357 : (-1 : Int) ≤ v1334.toInt ∧ v1334.toInt ≤ 9 := q1358.2
     have B1365 : (0 : Int) ≤ v1334.toInt ∧ v1334.toInt ≤ 9 := ⟨k_ge hc1335 (by decide), B1357.2⟩
     have q1369 := own_mx v1334 ⟨Int.le_trans (by decide) B1365.1, Int.le_trans B1365.2 (by decide)⟩; rw [← hv1355] at q1369
     have B1368 : (0 : Int) ≤ v1355.toInt ∧ v1355.toInt ≤ 9 := q1369.2
     have q1367 : v1356.toInt = v1355.toInt := (by rw [hv1356]; exact c_i2l _)
     have B1366 : (0 : Int) ≤ v1356.toInt ∧ v1356.toInt ≤ 9 := (by rw [q1367]; exact B1368)
     refine ⟨⟨fun hq1370 => ?_, fun hq1371 => ?_⟩, ?_⟩
     · rw [Int64.lt_iff_toInt_lt, show (0 : Int64).toInt = 0 from rfl] at hq1370; omega
     · rw [Int64.lt_iff_toInt_lt, show (9 : Int64).toInt = 9 from rfl] at hq1371; omega
     · exact Or.inl ⟨rfl, by omega⟩
   intro T1372 lo1372 ce1372 sl1372 v1373 v1374 v1375 X1372 e1372 N1372 hce1372 hsl1372 hP1376
   refine k_iload X1372 hx 225 (D at_223) rfl ?_
   refine k_iconst X1372 hx 226 (D at_225) (z := (1 : Int32)) rfl ?_
   refine k_icmp_le X1372 hx 229 274 (D at_226) (fun _ => ?_) (fun hc => absurd hc (by decide))
   refine k_iload X1372 hx 276 (D at_274) rfl ?_
   refine k_iconst X1372 hx 277 (D at_276) (z := (2 : Int32)) rfl ?_
   refine k_icmp_le X1372 hx 280 325 (D at_277) (fun _ => ?_) (fun hc => absurd hc (by decide))
   refine k_iload X1372 hx 327 (D at_325) rfl ?_
   refine k_iconst X1372 hx 328 (D at_327) (z := (3 : Int32)) rfl ?_
   refine k_icmp_le X1372 hx 331 376 (D at_328) (fun _ => ?_) (fun hc => absurd hc (by decide))
   refine k_iload X1372 hx 378 (D at_376) rfl ?_
   refine k_if_eq X1372 hx 381 394 (D at_378) (fun hc1377 => ?_) (fun hc1377 => ?_)
   ·
    refine k_ldcL X1372 hx hZ hown 397 (k_w hw 11 rfl) (D at_394) ?_
    refine k_lstore X1372 hx 399 (D at_397) (Ls' := #[iv i0, iv i1, iv i2, jv i3, s_, rv b1, iv (1 : Int32), iv (1 : Int32), iv (2 : Int32), iv v1278, jv v1327, s_, jv v1330, s_, iv v1373, jv v1374, s_, jv (-1 : Int64), s_]) rfl ?_
    refine k_lload X1372 hx 401 (D at_399) rfl ?_
    refine k_lload X1372 hx 403 (D at_401) rfl ?_
    refine k_lcif_ne X1372 hx 407 411 404 (D at_403) (D at_404) (fun hc => absurd (Classical.byContradiction (fun hq1378 => by have B1379 : (0 : Int) ≤ v1327.toInt ∧ v1327.toInt ≤ 9223372036854775807 := ⟨kL_ge hP1328 (by decide), Int.le_of_lt_add_one (rng64 v1327).2⟩; have B1380 : (0 : Int) ≤ v1374.toInt ∧ v1374.toInt ≤ 9 := ⟨kL_ge hP1376.1.1 (by decide), kL_le hP1376.1.2 (by decide)⟩; have B1381 : (-2147483648 : Int) ≤ v1373.toInt ∧ v1373.toInt ≤ 2147483647 := ⟨(rng32 v1373).1, Int.le_of_lt_add_one (rng32 v1373).2⟩; have B1382 : (0 : Int) ≤ (0 : Int32).toInt ∧ (0 : Int32).toInt ≤ 0 := (by decide); have q1383 := congrArg Int32.toInt hc1377; have B1384 : (-9223372036854775808 : Int) ≤ v1330.toInt ∧ v1330.toInt ≤ 9223372036854775807 := ⟨(rng64 v1330).1, Int.le_of_lt_add_one (rng64 v1330).2⟩; have B1385 : (-1 : Int) ≤ (-1 : Int64).toInt ∧ (-1 : Int64).toInt ≤ -1 := (by decide); have q1386 : ¬ v1330.toInt = (-1 : Int64).toInt := fun q => hq1378 (Int64.toInt_inj.mp q); omega)) hc) (fun _ => ?_)
    refine k_iconst X1372 hx 408 (D at_407) (z := (1 : Int32)) rfl ?_
    refine k_goto X1372 hx 412 (D at_408) ?_
    exact k_retN X1372 hx (t := .boolean) hret (by simp) (D at_412) hlk (by first | exact hce1372 | exact Nat.le_trans (Nat.le_refl _) hce1372) (by first | exact hsl1372 | exact Nat.le_trans (Nat.le_refl _) hsl1372) (z' := (1 : Int32)) rfl ⟨rfl, N1372⟩
   ·
    refine k_lload X1372 hx 383 (D at_381) rfl ?_
    refine k_lload X1372 hx 385 (D at_383) rfl ?_
    refine k_lcif_gt X1372 hx 389 394 386 (D at_385) (D at_386) (fun hc1387 => ?_) (fun hc1387 => ?_)
    ·
     refine k_ldcL X1372 hx hZ hown 397 (k_w hw 11 rfl) (D at_394) ?_
     refine k_lstore X1372 hx 399 (D at_397) (Ls' := #[iv i0, iv i1, iv i2, jv i3, s_, rv b1, iv (1 : Int32), iv (1 : Int32), iv (2 : Int32), iv v1278, jv v1327, s_, jv v1330, s_, iv v1373, jv v1374, s_, jv (-1 : Int64), s_]) rfl ?_
     refine k_lload X1372 hx 401 (D at_399) rfl ?_
     refine k_lload X1372 hx 403 (D at_401) rfl ?_
     refine k_lcif_ne X1372 hx 407 411 404 (D at_403) (D at_404) (fun hc => absurd (Classical.byContradiction (fun hq1388 => by have B1389 : (0 : Int) ≤ v1327.toInt ∧ v1327.toInt ≤ 9223372036854775807 := ⟨kL_ge hP1328 (by decide), Int.le_of_lt_add_one (rng64 v1327).2⟩; have B1390 : (0 : Int) ≤ v1374.toInt ∧ v1374.toInt ≤ 9 := ⟨kL_ge hP1376.1.1 (by decide), kL_le hP1376.1.2 (by decide)⟩; have B1391 : (-2147483648 : Int) ≤ v1373.toInt ∧ v1373.toInt ≤ 2147483647 := ⟨(rng32 v1373).1, Int.le_of_lt_add_one (rng32 v1373).2⟩; have B1392 : (0 : Int) ≤ (0 : Int32).toInt ∧ (0 : Int32).toInt ≤ 0 := (by decide); have q1393 : ¬ v1373.toInt = (0 : Int32).toInt := fun q => hc1377 (Int32.toInt_inj.mp q); have q1394 := hc1387; rw [Int64.lt_iff_toInt_lt] at q1394; have B1395 : (-9223372036854775808 : Int) ≤ v1330.toInt ∧ v1330.toInt ≤ 9223372036854775807 := ⟨(rng64 v1330).1, Int.le_of_lt_add_one (rng64 v1330).2⟩; have B1396 : (-1 : Int) ≤ (-1 : Int64).toInt ∧ (-1 : Int64).toInt ≤ -1 := (by decide); have q1397 : ¬ v1330.toInt = (-1 : Int64).toInt := fun q => hq1388 (Int64.toInt_inj.mp q); omega)) hc) (fun _ => ?_)
     refine k_iconst X1372 hx 408 (D at_407) (z := (1 : Int32)) rfl ?_
     refine k_goto X1372 hx 412 (D at_408) ?_
     exact k_retN X1372 hx (t := .boolean) hret (by simp) (D at_412) hlk (by first | exact hce1372 | exact Nat.le_trans (Nat.le_refl _) hce1372) (by first | exact hsl1372 | exact Nat.le_trans (Nat.le_refl _) hsl1372) (z' := (1 : Int32)) rfl ⟨rfl, N1372⟩
    ·
     refine k_lload X1372 hx 391 (D at_389) rfl ?_
     refine k_goto X1372 hx 397 (D at_391) ?_
     refine k_lstore X1372 hx 399 (D at_397) (Ls' := #[iv i0, iv i1, iv i2, jv i3, s_, rv b1, iv (1 : Int32), iv (1 : Int32), iv (2 : Int32), iv v1278, jv v1327, s_, jv v1330, s_, iv v1373, jv v1374, s_, jv v1374, s_]) rfl ?_
     refine k_lload X1372 hx 401 (D at_399) rfl ?_
     refine k_lload X1372 hx 403 (D at_401) rfl ?_
     refine k_lcif_ne X1372 hx 407 411 404 (D at_403) (D at_404) (fun hc => absurd (Classical.byContradiction (fun hq1398 => by have B1399 : (0 : Int) ≤ v1327.toInt ∧ v1327.toInt ≤ 9223372036854775807 := ⟨kL_ge hP1328 (by decide), Int.le_of_lt_add_one (rng64 v1327).2⟩; have B1400 : (0 : Int) ≤ v1374.toInt ∧ v1374.toInt ≤ 9 := ⟨kL_ge hP1376.1.1 (by decide), kL_le hP1376.1.2 (by decide)⟩; have B1401 : (-2147483648 : Int) ≤ v1373.toInt ∧ v1373.toInt ≤ 2147483647 := ⟨(rng32 v1373).1, Int.le_of_lt_add_one (rng32 v1373).2⟩; have B1402 : (0 : Int) ≤ (0 : Int32).toInt ∧ (0 : Int32).toInt ≤ 0 := (by decide); have q1403 : ¬ v1373.toInt = (0 : Int32).toInt := fun q => hc1377 (Int32.toInt_inj.mp q); have q1404 := hc1387; rw [Int64.lt_iff_toInt_lt] at q1404; have B1405 : (-9223372036854775808 : Int) ≤ v1330.toInt ∧ v1330.toInt ≤ 9223372036854775807 := ⟨(rng64 v1330).1, Int.le_of_lt_add_one (rng64 v1330).2⟩; have q1406 : ¬ v1330.toInt = v1374.toInt := fun q => hq1398 (Int64.toInt_inj.mp q); omega)) hc) (fun _ => ?_)
     refine k_iconst X1372 hx 408 (D at_407) (z := (1 : Int32)) rfl ?_
     refine k_goto X1372 hx 412 (D at_408) ?_
     exact k_retN X1372 hx (t := .boolean) hret (by simp) (D at_412) hlk (by first | exact hce1372 | exact Nat.le_trans (Nat.le_refl _) hce1372) (by first | exact hsl1372 | exact Nat.le_trans (Nat.le_refl _) hsl1372) (z' := (1 : Int32)) rfl ⟨rfl, N1372⟩
  ·
   show KEnds p e below s _ _ _ T21 (mkF m 76 #[iv i0, iv i1, iv i2, jv i3, s_, rv b1, iv (1 : Int32), u_, u_, u_, u_, u_, u_, u_, u_, u_, u_, u_, u_] [(.int (2 : Int32))])
   refine k_istore X21 hx 78 (D at_76) (Ls' := #[iv i0, iv i1, iv i2, jv i3, s_, rv b1, iv (1 : Int32), iv (2 : Int32), u_, u_, u_, u_, u_, u_, u_, u_, u_, u_, u_]) rfl ?_
   refine k_iload X21 hx 80 (D at_78) rfl ?_
   refine k_iload X21 hx 82 (D at_80) rfl ?_
   refine k_iaddL X21 hx 83 (D at_82) (z := (3 : Int32)) (by decide) ?_
   refine k_istore X21 hx 85 (D at_83) (Ls' := #[iv i0, iv i1, iv i2, jv i3, s_, rv b1, iv (1 : Int32), iv (2 : Int32), iv (3 : Int32), u_, u_, u_, u_, u_, u_, u_, u_, u_, u_]) rfl ?_
   refine k_iloadN X21 hx 86 (D at_85) rfl ?_
   refine k_bipush X21 hx 88 (D at_86) (z := (9 : Int32)) rfl ?_
   refine k_iushr X21 hx 89 (D at_88) (fun v1408 hv1408 => ?_)
   refine k_iconst X21 hx 90 (D at_89) (z := (3 : Int32)) rfl ?_
   refine k_iand X21 hx 91 (D at_90) (fun v1409 hv1409 => ?_)
   refine k_istore X21 hx 93 (D at_91) (Ls' := #[iv i0, iv i1, iv i2, jv i3, s_, rv b1, iv (1 : Int32), iv (2 : Int32), iv (3 : Int32), iv v1409, u_, u_, u_, u_, u_, u_, u_, u_, u_]) rfl ?_
   suffices key1410 : ∀ (v1458 : Int64), (¬ v1458 < 0) → KEnds p e below s 16 128 (Q0 n0) T21 (mkF m 147 #[iv i0, iv i1, iv i2, jv i3, s_, rv b1, iv (1 : Int32), iv (2 : Int32), iv (3 : Int32), iv v1409, jv v1458, s_, u_, u_, u_, u_, u_, u_, u_] []) by
    refine k_iload X21 hx 95 (D at_93) rfl ?_
    refine k_if_ne X21 hx 98 108 (D at_95) (fun hc1411 => ?_) (fun hc1411 => ?_)
    ·
     refine k_iload X21 hx 110 (D at_108) rfl ?_
     refine k_iconst X21 hx 111 (D at_110) (z := (1 : Int32)) rfl ?_
     refine k_icmp_ne X21 hx 114 124 (D at_111) (fun hc1412 => ?_) (fun hc1412 => ?_)
     ·
      refine k_iload X21 hx 126 (D at_124) rfl ?_
      refine k_iconst X21 hx 127 (D at_126) (z := (2 : Int32)) rfl ?_
      refine k_icmp_ne X21 hx 130 140 (D at_127) (fun hc1413 => ?_) (fun hc1413 => ?_)
      ·
       refine k_lloadN X21 hx 141 (D at_140) rfl ?_
       refine k_ldcL X21 hx hZ hown 144 (k_w hw 21 rfl) (D at_141) ?_
       refine k_land X21 hx 145 (D at_144) (fun v1414 hv1414 => ?_)
       refine k_lstore X21 hx 147 (D at_145) (Ls' := #[iv i0, iv i1, iv i2, jv i3, s_, rv b1, iv (1 : Int32), iv (2 : Int32), iv (3 : Int32), iv v1409, jv v1414, s_, u_, u_, u_, u_, u_, u_, u_]) rfl ?_
       refine key1410 v1414 ?_
       intro hq1420
       have B1423 : (-9223372036854775808 : Int) ≤ i3.toInt ∧ i3.toInt ≤ 9223372036854775807 := ⟨(rng64 i3).1, Int.le_of_lt_add_one (rng64 i3).2⟩
       have q1422 : v1414.toInt = i3.toInt % 16 := (by rw [hv1414]; exact c_maskL _ _ 4 (by decide) (by decide))
       have B1421 : (0 : Int) ≤ v1414.toInt ∧ v1414.toInt ≤ 15 := (by rw [q1422]; exact k_modB (by decide))
       have B1424 : (0 : Int) ≤ v1414.toInt ∧ v1414.toInt ≤ -1 := ⟨B1421.1, kL_lt hq1420 (by decide)⟩
       omega
      ·
       refine k_lloadN X21 hx 131 (D at_130) rfl ?_
       refine k_ldcL X21 hx hZ hown 134 (k_w hw 23 rfl) (D at_131) ?_
       refine k_land X21 hx 135 (D at_134) (fun v1425 hv1425 => ?_)
       refine k_lstore X21 hx 137 (D at_135) (Ls' := #[iv i0, iv i1, iv i2, jv i3, s_, rv b1, iv (1 : Int32), iv (2 : Int32), iv (3 : Int32), iv v1409, jv v1425, s_, u_, u_, u_, u_, u_, u_, u_]) rfl ?_
       refine k_goto X21 hx 147 (D at_137) ?_
       refine key1410 v1425 ?_
       intro hq1431
       have B1434 : (-9223372036854775808 : Int) ≤ i3.toInt ∧ i3.toInt ≤ 9223372036854775807 := ⟨(rng64 i3).1, Int.le_of_lt_add_one (rng64 i3).2⟩
       have q1433 : v1425.toInt = i3.toInt % 128 := (by rw [hv1425]; exact c_maskL _ _ 7 (by decide) (by decide))
       have B1432 : (0 : Int) ≤ v1425.toInt ∧ v1425.toInt ≤ 127 := (by rw [q1433]; exact k_modB (by decide))
       have B1435 : (0 : Int) ≤ v1425.toInt ∧ v1425.toInt ≤ -1 := ⟨B1432.1, kL_lt hq1431 (by decide)⟩
       omega
     ·
      refine k_lloadN X21 hx 115 (D at_114) rfl ?_
      refine k_ldcL X21 hx hZ hown 118 (k_w hw 22 rfl) (D at_115) ?_
      refine k_land X21 hx 119 (D at_118) (fun v1436 hv1436 => ?_)
      refine k_lstore X21 hx 121 (D at_119) (Ls' := #[iv i0, iv i1, iv i2, jv i3, s_, rv b1, iv (1 : Int32), iv (2 : Int32), iv (3 : Int32), iv v1409, jv v1436, s_, u_, u_, u_, u_, u_, u_, u_]) rfl ?_
      refine k_goto X21 hx 147 (D at_121) ?_
      refine key1410 v1436 ?_
      intro hq1442
      have B1445 : (-9223372036854775808 : Int) ≤ i3.toInt ∧ i3.toInt ≤ 9223372036854775807 := ⟨(rng64 i3).1, Int.le_of_lt_add_one (rng64 i3).2⟩
      have q1444 : v1436.toInt = i3.toInt % 16384 := (by rw [hv1436]; exact c_maskL _ _ 14 (by decide) (by decide))
      have B1443 : (0 : Int) ≤ v1436.toInt ∧ v1436.toInt ≤ 16383 := (by rw [q1444]; exact k_modB (by decide))
      have B1446 : (0 : Int) ≤ v1436.toInt ∧ v1436.toInt ≤ -1 := ⟨B1443.1, kL_lt hq1442 (by decide)⟩
      omega
    ·
     refine k_lloadN X21 hx 99 (D at_98) rfl ?_
     refine k_ldcL X21 hx hZ hown 102 (k_w hw 5 rfl) (D at_99) ?_
     refine k_land X21 hx 103 (D at_102) (fun v1447 hv1447 => ?_)
     refine k_lstore X21 hx 105 (D at_103) (Ls' := #[iv i0, iv i1, iv i2, jv i3, s_, rv b1, iv (1 : Int32), iv (2 : Int32), iv (3 : Int32), iv v1409, jv v1447, s_, u_, u_, u_, u_, u_, u_, u_]) rfl ?_
     refine k_goto X21 hx 147 (D at_105) ?_
     refine key1410 v1447 ?_
     intro hq1453
     have B1456 : (-9223372036854775808 : Int) ≤ i3.toInt ∧ i3.toInt ≤ 9223372036854775807 := ⟨(rng64 i3).1, Int.le_of_lt_add_one (rng64 i3).2⟩
     have q1455 : v1447.toInt = i3.toInt % 9223372036854775808 := (by rw [hv1447]; exact c_maskL _ _ 63 (by decide) (by decide))
     have B1454 : (0 : Int) ≤ v1447.toInt ∧ v1447.toInt ≤ 9223372036854775807 := (by rw [q1455]; exact k_modB (by decide))
     have B1457 : (0 : Int) ≤ v1447.toInt ∧ v1447.toInt ≤ -1 := ⟨B1454.1, kL_lt hq1453 (by decide)⟩
     omega
   intro v1458 hP1459
   refine k_aload X21 hx 149 (D at_147) rfl rfl ?_
   refine k_iload X21 hx 151 (D at_149) rfl ?_
   refine k_iload X21 hx 153 (D at_151) rfl ?_
   refine k_lload X21 hx 155 (D at_153) rfl ?_
   refine k_callS X21 hx hZ hown 158 (k_w hw 6 rfl) (k_w hw 7 rfl) (k_w hw 8 rfl) (k_w hw 9 rfl) (by decide) (rm2_15 l Z a0 hw [] b1 v1458 k1 v3 v7 v11 v15 v19 h21 n0 Z21 Vw21 hP1459 (k_by1 hb8) (k_by2 hb8) (k_by1 hb12) (k_by2 hb12)) (by decide) (by decide) e21 (by rw [hml]; rfl) (argsL := [(.ref b1), (.int (1 : Int32)), (.int (3 : Int32)), (.long v1458)]) (rest := []) (lenOf pd_1 rfl) rfl (W := 0) (Nat.le_refl _) rfl (D at_155) (by decide) (by decide) (fun T1460 L1460 r1460 X1460 q1460 => ?_)
   obtain ⟨N1460, e1460, v1461, rfl, hS1462⟩ := q1460
   have N1460' := Fr.app N21 N1460
   show KEnds p e below s _ _ _ T1460 (mkF m 158 #[iv i0, iv i1, iv i2, jv i3, s_, rv b1, iv (1 : Int32), iv (2 : Int32), iv (3 : Int32), iv v1409, jv v1458, s_, u_, u_, u_, u_, u_, u_, u_] [(.long v1461)])
   refine k_lstore X1460 hx 160 (D at_158) (Ls' := #[iv i0, iv i1, iv i2, jv i3, s_, rv b1, iv (1 : Int32), iv (2 : Int32), iv (3 : Int32), iv v1409, jv v1458, s_, jv v1461, s_, u_, u_, u_, u_, u_]) rfl ?_
   refine k_iload X1460 hx 162 (D at_160) rfl ?_
   refine k_if_le X1460 hx 165 169 (D at_162) (fun hc => absurd (by decide) hc) (fun _ => ?_)
   refine k_iconst X1460 hx 166 (D at_165) (z := (1 : Int32)) rfl ?_
   refine k_goto X1460 hx 170 (D at_166) ?_
   refine k_istore X1460 hx 172 (D at_170) (Ls' := #[iv i0, iv i1, iv i2, jv i3, s_, rv b1, iv (1 : Int32), iv (2 : Int32), iv (3 : Int32), iv v1409, jv v1458, s_, jv v1461, s_, iv (1 : Int32), u_, u_, u_, u_]) rfl ?_
   refine k_lconst X1460 hx 173 (D at_172) (z := (0 : Int64)) rfl ?_
   refine k_lstore X1460 hx 175 (D at_173) (Ls' := #[iv i0, iv i1, iv i2, jv i3, s_, rv b1, iv (1 : Int32), iv (2 : Int32), iv (3 : Int32), iv v1409, jv v1458, s_, jv v1461, s_, iv (1 : Int32), jv (0 : Int64), s_, u_, u_]) rfl ?_
   refine k_iload X1460 hx 177 (D at_175) rfl ?_
   refine k_if_le X1460 hx 180 223 (D at_177) (fun hc => absurd (by decide) hc) (fun _ => ?_)
   suffices key1463 : ∀ (T1503 : State) (lo1503 : List Loc) (ce1503 sl1503 : Nat) (v1504 : Int32) (v1505 : Int64) (v1506 : Int32), Stand p l e room_1 s m #[(.int i0), (.int i1), (.int i2), (.long i3)] below meth c T1503 lo1503 ce1503 sl1503 → T1503.heap = h21 → Fr n0 lo1503 → ce1503 ≤ 16 → sl1503 ≤ 128 → ((¬ v1505 < 0 ∧ ¬ (9 : Int64) < v1505) ∧ ((v1504.toInt = 1 ∧ ((48 ≤ v7.toInt ∧ v7.toInt ≤ 57)) ∧ v1505.toInt = 1 * (v7.toInt - 48)) ∨ (v1504.toInt = 0 ∧ ¬ ((48 ≤ v7.toInt ∧ v7.toInt ≤ 57))))) → KEnds p e below s 16 128 (Q0 n0) T1503 (mkF m 223 #[iv i0, iv i1, iv i2, jv i3, s_, rv b1, iv (1 : Int32), iv (2 : Int32), iv (3 : Int32), iv v1409, jv v1458, s_, jv v1461, s_, iv v1504, jv v1505, s_, iv v1506, u_] []) by
    refine k_aload X1460 hx 182 (D at_180) rfl rfl ?_
    refine k_iload X1460 hx 184 (D at_182) rfl ?_
    refine k_baload X1460 hx hZ 185 e1460 Vw21 ⟨by decide, by decide⟩ (v := (.int v7)) rfl (D at_184) ?_
    refine k_callS X1460 hx hZ hown 188 (k_w hw 13 rfl) (k_w hw 14 rfl) (k_w hw 3 rfl) (k_w hw 15 rfl) (by decide) (rm3_8 l Z a0 hw [] v7 h21 n0 Z21 ) (by decide) (by decide) e1460 (by rw [hml]; rfl) (argsL := [(.int v7)]) (rest := []) (lenOf pd_2 rfl) rfl (W := 0) (Nat.le_refl _) rfl (D at_185) (by decide) (by decide) (fun T1464 L1464 r1464 X1464 q1464 => ?_)
    obtain ⟨N1464, e1464, rfl⟩ := q1464
    have N1464' := Fr.app N1460' N1464
    show KEnds p e below s _ _ _ T1464 (mkF m 188 #[iv i0, iv i1, iv i2, jv i3, s_, rv b1, iv (1 : Int32), iv (2 : Int32), iv (3 : Int32), iv v1409, jv v1458, s_, jv v1461, s_, iv (1 : Int32), jv (0 : Int64), s_, u_, u_] ((.int (f3_8 v7)) :: []))
    obtain ⟨v1465, hv1465⟩ : ∃ z, z = f3_8 v7 := ⟨_, rfl⟩
    rw [← hv1465]
    refine k_istore X1464 hx 190 (D at_188) (Ls' := #[iv i0, iv i1, iv i2, jv i3, s_, rv b1, iv (1 : Int32), iv (2 : Int32), iv (3 : Int32), iv v1409, jv v1458, s_, jv v1461, s_, iv (1 : Int32), jv (0 : Int64), s_, iv v1465, u_]) rfl ?_
    refine k_iload X1464 hx 192 (D at_190) rfl ?_
    refine k_if_eq X1464 hx 195 204 (D at_192) (fun hc => absurd hc (by decide)) (fun _ => ?_)
    refine k_iload X1464 hx 197 (D at_195) rfl ?_
    refine k_if_lt X1464 hx 200 204 (D at_197) (fun hc1466 => ?_) (fun hc1466 => ?_)
    ·
     refine k_iconst X1464 hx 205 (D at_204) (z := (0 : Int32)) rfl ?_
     refine k_istore X1464 hx 207 (D at_205) (Ls' := #[iv i0, iv i1, iv i2, jv i3, s_, rv b1, iv (1 : Int32), iv (2 : Int32), iv (3 : Int32), iv v1409, jv v1458, s_, jv v1461, s_, iv (0 : Int32), jv (0 : Int64), s_, iv v1465, u_]) rfl ?_
     refine k_ldcL X1464 hx hZ hown 210 (k_w hw 16 rfl) (D at_207) ?_
     refine k_lload X1464 hx 212 (D at_210) rfl ?_
     refine k_lmulL X1464 hx 213 (D at_212) (z := (0 : Int64)) (by decide) ?_
     refine k_iload X1464 hx 215 (D at_213) rfl ?_
     refine k_iconst X1464 hx 216 (D at_215) (z := (0 : Int32)) rfl ?_
     refine k_callS X1464 hx hZ hown 219 (k_w hw 17 rfl) (k_w hw 18 rfl) (k_w hw 19 rfl) (k_w hw 20 rfl) (by decide) (rm4_9 l Z a0 hw [] v1465 h21 n0 Z21 ) (by decide) (by decide) e1464 (by rw [hml]; rfl) (argsL := [(.int v1465), (.int (0 : Int32))]) (rest := [(.long (0 : Int64))]) (lenOf pd_3 rfl) rfl (W := 2) (Nat.le_refl _) rfl (D at_216) (by decide) (by decide) (fun T1467 L1467 r1467 X1467 q1467 => ?_)
     obtain ⟨N1467, e1467, rfl⟩ := q1467
     have N1467' := Fr.app N1464' N1467
     show KEnds p e below s _ _ _ T1467 (mkF m 219 #[iv i0, iv i1, iv i2, jv i3, s_, rv b1, iv (1 : Int32), iv (2 : Int32), iv (3 : Int32), iv v1409, jv v1458, s_, jv v1461, s_, iv (0 : Int32), jv (0 : Int64), s_, iv v1465, u_] ((.int (f4_9 v1465)) :: (.long (0 : Int64)) :: []))
     obtain ⟨v1468, hv1468⟩ : ∃ z, z = f4_9 v1465 := ⟨_, rfl⟩
     rw [← hv1468]
     refine k_i2l X1467 hx 220 (D at_219) (fun v1469 hv1469 => ?_)
     refine k_laddL X1467 hx 221 (D at_220) (z := v1469) (Int64.zero_add _) ?_
     refine k_lstore X1467 hx 223 (D at_221) (Ls' := #[iv i0, iv i1, iv i2, jv i3, s_, rv b1, iv (1 : Int32), iv (2 : Int32), iv (3 : Int32), iv v1409, jv v1458, s_, jv v1461, s_, iv (0 : Int32), jv v1469, s_, iv v1465, u_]) rfl ?_
     refine key1463 T1467 _ _ _ (0 : Int32) v1469 v1465 X1467 e1467 N1467' (by decide) (by decide) ?_
     have B1475 : (-2147483648 : Int) ≤ i2.toInt ∧ i2.toInt ≤ 2147483647 := ⟨(rng32 i2).1, Int.le_of_lt_add_one (rng32 i2).2⟩
     have B1476 : (-2147483648 : Int) ≤ i0.toInt ∧ i0.toInt ≤ 2147483647 := ⟨(rng32 i0).1, Int.le_of_lt_add_one (rng32 i0).2⟩
     have B1477 : (-2147483648 : Int) ≤ i1.toInt ∧ i1.toInt ≤ 2147483647 := ⟨(rng32 i1).1, Int.le_of_lt_add_one (rng32 i1).2⟩
     have B1472 : (-128 : Int) ≤ v7.toInt ∧ v7.toInt ≤ 127 := (by rw [← hb8]; exact ⟨(c_i2b _).2.1, Int.le_of_lt_add_one (c_i2b _).2.2⟩)
     have q1471 := own_fd v7 ⟨Int.le_trans (by decide) B1472.1, Int.le_trans B1472.2 (by decide)⟩; rw [← hv1465] at q1471
     have B1470 : (-1 : Int) ≤ v1465.toInt ∧ v1465.toInt ≤ 9 := q1471.2
     have B1478 : (-1 : Int) ≤ v1465.toInt ∧ v1465.toInt ≤ -1 := ⟨B1470.1, k_lt hc1466 (by decide)⟩
     have q1482 := own_mx v1465 ⟨Int.le_trans (by decide) B1478.1, Int.le_trans B1478.2 (by decide)⟩; rw [← hv1468] at q1482
     have B1481 : (0 : Int) ≤ v1468.toInt ∧ v1468.toInt ≤ 9 := q1482.2
     have q1480 : v1469.toInt = v1468.toInt := (by rw [hv1469]; exact c_i2l _)
     have B1479 : (0 : Int) ≤ v1469.toInt ∧ v1469.toInt ≤ 9 := (by rw [q1480]; exact B1481)
     refine ⟨⟨fun hq1483 => ?_, fun hq1484 => ?_⟩, ?_⟩
     · rw [Int64.lt_iff_toInt_lt, show (0 : Int64).toInt = 0 from rfl] at hq1483; omega
     · rw [Int64.lt_iff_toInt_lt, show (9 : Int64).toInt = 9 from rfl] at hq1484; omega
     · exact Or.inr ⟨rfl, by omega⟩
    ·
     refine k_iconst X1464 hx 201 (D at_200) (z := (1 : Int32)) rfl ?_
     refine k_goto X1464 hx 205 (D at_201) ?_
     refine k_istore X1464 hx 207 (D at_205) (Ls' := #[iv i0, iv i1, iv i2, jv i3, s_, rv b1, iv (1 : Int32), iv (2 : Int32), iv (3 : Int32), iv v1409, jv v1458, s_, jv v1461, s_, iv (1 : Int32), jv (0 : Int64), s_, iv v1465, u_]) rfl ?_
     refine k_ldcL X1464 hx hZ hown 210 (k_w hw 16 rfl) (D at_207) ?_
     refine k_lload X1464 hx 212 (D at_210) rfl ?_
     refine k_lmulL X1464 hx 213 (D at_212) (z := (0 : Int64)) (by decide) ?_
     refine k_iload X1464 hx 215 (D at_213) rfl ?_
     refine k_iconst X1464 hx 216 (D at_215) (z := (0 : Int32)) rfl ?_
     refine k_callS X1464 hx hZ hown 219 (k_w hw 17 rfl) (k_w hw 18 rfl) (k_w hw 19 rfl) (k_w hw 20 rfl) (by decide) (rm4_9 l Z a0 hw [] v1465 h21 n0 Z21 ) (by decide) (by decide) e1464 (by rw [hml]; rfl) (argsL := [(.int v1465), (.int (0 : Int32))]) (rest := [(.long (0 : Int64))]) (lenOf pd_3 rfl) rfl (W := 2) (Nat.le_refl _) rfl (D at_216) (by decide) (by decide) (fun T1485 L1485 r1485 X1485 q1485 => ?_)
     obtain ⟨N1485, e1485, rfl⟩ := q1485
     have N1485' := Fr.app N1464' N1485
     show KEnds p e below s _ _ _ T1485 (mkF m 219 #[iv i0, iv i1, iv i2, jv i3, s_, rv b1, iv (1 : Int32), iv (2 : Int32), iv (3 : Int32), iv v1409, jv v1458, s_, jv v1461, s_, iv (1 : Int32), jv (0 : Int64), s_, iv v1465, u_] ((.int (f4_9 v1465)) :: (.long (0 : Int64)) :: []))
     obtain ⟨v1486, hv1486⟩ : ∃ z, z = f4_9 v1465 := ⟨_, rfl⟩
     rw [← hv1486]
     refine k_i2l X1485 hx 220 (D at_219) (fun v1487 hv1487 => ?_)
     refine k_laddL X1485 hx 221 (D at_220) (z := v1487) (Int64.zero_add _) ?_
     refine k_lstore X1485 hx 223 (D at_221) (Ls' := #[iv i0, iv i1, iv i2, jv i3, s_, rv b1, iv (1 : Int32), iv (2 : Int32), iv (3 : Int32), iv v1409, jv v1458, s_, jv v1461, s_, iv (1 : Int32), jv v1487, s_, iv v1465, u_]) rfl ?_
     refine key1463 T1485 _ _ _ (1 : Int32) v1487 v1465 X1485 e1485 N1485' (by decide) (by decide) ?_
     have B1493 : (-2147483648 : Int) ≤ i2.toInt ∧ i2.toInt ≤ 2147483647 := ⟨(rng32 i2).1, Int.le_of_lt_add_one (rng32 i2).2⟩
     have B1494 : (-2147483648 : Int) ≤ i0.toInt ∧ i0.toInt ≤ 2147483647 := ⟨(rng32 i0).1, Int.le_of_lt_add_one (rng32 i0).2⟩
     have B1495 : (-2147483648 : Int) ≤ i1.toInt ∧ i1.toInt ≤ 2147483647 := ⟨(rng32 i1).1, Int.le_of_lt_add_one (rng32 i1).2⟩
     have B1490 : (-128 : Int) ≤ v7.toInt ∧ v7.toInt ≤ 127 := (by rw [← hb8]; exact ⟨(c_i2b _).2.1, Int.le_of_lt_add_one (c_i2b _).2.2⟩)
     have q1489 := own_fd v7 ⟨Int.le_trans (by decide) B1490.1, Int.le_trans B1490.2 (by decide)⟩; rw [← hv1465] at q1489
     have B1488 : (-1 : Int) ≤ v1465.toInt ∧ v1465.toInt ≤ 9 := q1489.2
     have B1496 : (0 : Int) ≤ v1465.toInt ∧ v1465.toInt ≤ 9 := ⟨k_ge hc1466 (by decide), B1488.2⟩
     have q1500 := own_mx v1465 ⟨Int.le_trans (by decide) B1496.1, Int.le_trans B1496.2 (by decide)⟩; rw [← hv1486] at q1500
     have B1499 : (0 : Int) ≤ v1486.toInt ∧ v1486.toInt ≤ 9 := q1500.2
     have q1498 : v1487.toInt = v1486.toInt := (by rw [hv1487]; exact c_i2l _)
     have B1497 : (0 : Int) ≤ v1487.toInt ∧ v1487.toInt ≤ 9 := (by rw [q1498]; exact B1499)
     refine ⟨⟨fun hq1501 => ?_, fun hq1502 => ?_⟩, ?_⟩
     · rw [Int64.lt_iff_toInt_lt, show (0 : Int64).toInt = 0 from rfl] at hq1501; omega
     · rw [Int64.lt_iff_toInt_lt, show (9 : Int64).toInt = 9 from rfl] at hq1502; omega
     · exact Or.inl ⟨rfl, by omega⟩
   intro T1503 lo1503 ce1503 sl1503 v1504 v1505 v1506 X1503 e1503 N1503 hce1503 hsl1503 hP1507
   refine k_iload X1503 hx 225 (D at_223) rfl ?_
   refine k_iconst X1503 hx 226 (D at_225) (z := (1 : Int32)) rfl ?_
   refine k_icmp_le X1503 hx 229 274 (D at_226) (fun hc => absurd (by decide) hc) (fun _ => ?_)
   suffices key1508 : ∀ (T1599 : State) (lo1599 : List Loc) (ce1599 sl1599 : Nat) (v1600 : Int32) (v1601 : Int64) (v1602 : Int32), Stand p l e room_1 s m #[(.int i0), (.int i1), (.int i2), (.long i3)] below meth c T1599 lo1599 ce1599 sl1599 → T1599.heap = h21 → Fr n0 lo1599 → ce1599 ≤ 16 → sl1599 ≤ 128 → ((¬ v1601 < 0 ∧ ¬ (99 : Int64) < v1601) ∧ ((v1600.toInt = 1 ∧ ((48 ≤ v7.toInt ∧ v7.toInt ≤ 57) ∧ (48 ≤ v11.toInt ∧ v11.toInt ≤ 57)) ∧ v1601.toInt = 10 * (v7.toInt - 48) + 1 * (v11.toInt - 48)) ∨ (v1600.toInt = 0 ∧ ¬ ((48 ≤ v7.toInt ∧ v7.toInt ≤ 57) ∧ (48 ≤ v11.toInt ∧ v11.toInt ≤ 57))))) → KEnds p e below s 16 128 (Q0 n0) T1599 (mkF m 274 #[iv i0, iv i1, iv i2, jv i3, s_, rv b1, iv (1 : Int32), iv (2 : Int32), iv (3 : Int32), iv v1409, jv v1458, s_, jv v1461, s_, iv v1600, jv v1601, s_, iv v1602, u_] []) by
    refine k_aload X1503 hx 231 (D at_229) rfl rfl ?_
    refine k_iload X1503 hx 233 (D at_231) rfl ?_
    refine k_iconst X1503 hx 234 (D at_233) (z := (1 : Int32)) rfl ?_
    refine k_iaddL X1503 hx 235 (D at_234) (z := (2 : Int32)) (by decide) ?_
    refine k_baload X1503 hx hZ 236 e1503 Vw21 ⟨by decide, by decide⟩ (v := (.int v11)) rfl (D at_235) ?_
    refine k_callS X1503 hx hZ hown 239 (k_w hw 13 rfl) (k_w hw 14 rfl) (k_w hw 3 rfl) (k_w hw 15 rfl) (by decide) (rm3_8 l Z a0 hw [] v11 h21 n0 Z21 ) (by decide) (by decide) e1503 (by rw [hml]; rfl) (argsL := [(.int v11)]) (rest := []) (lenOf pd_2 rfl) rfl (W := 0) (Nat.le_refl _) rfl (D at_236) (by show _ + 0 ≤ _; exact Nat.le_trans hce1503 (by decide)) (by show _ + 0 ≤ _; exact Nat.le_trans hsl1503 (by decide)) (fun T1509 L1509 r1509 X1509 q1509 => ?_)
    obtain ⟨N1509, e1509, rfl⟩ := q1509
    have N1509' := Fr.app N1503 N1509
    show KEnds p e below s _ _ _ T1509 (mkF m 239 #[iv i0, iv i1, iv i2, jv i3, s_, rv b1, iv (1 : Int32), iv (2 : Int32), iv (3 : Int32), iv v1409, jv v1458, s_, jv v1461, s_, iv v1504, jv v1505, s_, iv v1506, u_] ((.int (f3_8 v11)) :: []))
    obtain ⟨v1510, hv1510⟩ : ∃ z, z = f3_8 v11 := ⟨_, rfl⟩
    rw [← hv1510]
    refine k_istore X1509 hx 241 (D at_239) (Ls' := #[iv i0, iv i1, iv i2, jv i3, s_, rv b1, iv (1 : Int32), iv (2 : Int32), iv (3 : Int32), iv v1409, jv v1458, s_, jv v1461, s_, iv v1504, jv v1505, s_, iv v1510, u_]) rfl ?_
    refine k_iload X1509 hx 243 (D at_241) rfl ?_
    refine k_if_eq X1509 hx 246 255 (D at_243) (fun hc1511 => ?_) (fun hc1511 => ?_)
    ·
     refine k_iconst X1509 hx 256 (D at_255) (z := (0 : Int32)) rfl ?_
     refine k_istore X1509 hx 258 (D at_256) (Ls' := #[iv i0, iv i1, iv i2, jv i3, s_, rv b1, iv (1 : Int32), iv (2 : Int32), iv (3 : Int32), iv v1409, jv v1458, s_, jv v1461, s_, iv (0 : Int32), jv v1505, s_, iv v1510, u_]) rfl ?_
     refine k_ldcL X1509 hx hZ hown 261 (k_w hw 16 rfl) (D at_258) ?_
     refine k_lload X1509 hx 263 (D at_261) rfl ?_
     refine k_lmul X1509 hx 264 (D at_263) (fun v1512 hv1512 => ?_)
     refine k_iload X1509 hx 266 (D at_264) rfl ?_
     refine k_iconst X1509 hx 267 (D at_266) (z := (0 : Int32)) rfl ?_
     refine k_callS X1509 hx hZ hown 270 (k_w hw 17 rfl) (k_w hw 18 rfl) (k_w hw 19 rfl) (k_w hw 20 rfl) (by decide) (rm4_9 l Z a0 hw [] v1510 h21 n0 Z21 ) (by decide) (by decide) e1509 (by rw [hml]; rfl) (argsL := [(.int v1510), (.int (0 : Int32))]) (rest := [(.long v1512)]) (lenOf pd_3 rfl) rfl (W := 2) (Nat.le_refl _) rfl (D at_267) (by show _ + 0 ≤ _; exact Nat.le_trans hce1503 (by decide)) (by show _ + 0 ≤ _; exact Nat.le_trans hsl1503 (by decide)) (fun T1513 L1513 r1513 X1513 q1513 => ?_)
     obtain ⟨N1513, e1513, rfl⟩ := q1513
     have N1513' := Fr.app N1509' N1513
     show KEnds p e below s _ _ _ T1513 (mkF m 270 #[iv i0, iv i1, iv i2, jv i3, s_, rv b1, iv (1 : Int32), iv (2 : Int32), iv (3 : Int32), iv v1409, jv v1458, s_, jv v1461, s_, iv (0 : Int32), jv v1505, s_, iv v1510, u_] ((.int (f4_9 v1510)) :: (.long v1512) :: []))
     obtain ⟨v1514, hv1514⟩ : ∃ z, z = f4_9 v1510 := ⟨_, rfl⟩
     rw [← hv1514]
     refine k_i2l X1513 hx 271 (D at_270) (fun v1515 hv1515 => ?_)
     refine k_ladd X1513 hx 272 (D at_271) (fun v1516 hv1516 => ?_)
     refine k_lstore X1513 hx 274 (D at_272) (Ls' := #[iv i0, iv i1, iv i2, jv i3, s_, rv b1, iv (1 : Int32), iv (2 : Int32), iv (3 : Int32), iv v1409, jv v1458, s_, jv v1461, s_, iv (0 : Int32), jv v1516, s_, iv v1510, u_]) rfl ?_
     refine key1508 T1513 _ _ _ (0 : Int32) v1516 v1510 X1513 e1513 N1513' hce1503 hsl1503 ?_
     have B1517 : (0 : Int) ≤ v1505.toInt ∧ v1505.toInt ≤ 9 := ⟨kL_ge hP1507.1.1 (by decide), kL_le hP1507.1.2 (by decide)⟩
     have B1518 : (-2147483648 : Int) ≤ v1504.toInt ∧ v1504.toInt ≤ 2147483647 := ⟨(rng32 v1504).1, Int.le_of_lt_add_one (rng32 v1504).2⟩
     have B1519 : (0 : Int) ≤ (0 : Int32).toInt ∧ (0 : Int32).toInt ≤ 0 := (by decide)
     have q1520 := congrArg Int32.toInt hc1511
     have B1525 : (10 : Int) ≤ (10 : Int64).toInt ∧ (10 : Int64).toInt ≤ 10 := (by decide)
     have q1524 : v1512.toInt = 10 * v1505.toInt := (by have q0 := c_lmul (10 : Int64) v1505; have q1 := rng64 v1512; have q2 := B1517; rw [← hv1512] at q0; rw [show (10 : Int64).toInt = 10 from (by decide)] at q0; omega)
     have B1523 : (0 : Int) ≤ v1512.toInt ∧ v1512.toInt ≤ 90 := (by rw [q1524]; exact k_mulB B1517 (by decide))
     have B1535 : (-2147483648 : Int) ≤ i2.toInt ∧ i2.toInt ≤ 2147483647 := ⟨(rng32 i2).1, Int.le_of_lt_add_one (rng32 i2).2⟩
     have B1536 : (-2147483648 : Int) ≤ i0.toInt ∧ i0.toInt ≤ 2147483647 := ⟨(rng32 i0).1, Int.le_of_lt_add_one (rng32 i0).2⟩
     have B1537 : (-2147483648 : Int) ≤ i1.toInt ∧ i1.toInt ≤ 2147483647 := ⟨(rng32 i1).1, Int.le_of_lt_add_one (rng32 i1).2⟩
     have B1532 : (-128 : Int) ≤ v11.toInt ∧ v11.toInt ≤ 127 := (by rw [← hb12]; exact ⟨(c_i2b _).2.1, Int.le_of_lt_add_one (c_i2b _).2.2⟩)
     have q1531 := own_fd v11 ⟨Int.le_trans (by decide) B1532.1, Int.le_trans B1532.2 (by decide)⟩; rw [← hv1510] at q1531
     have B1530 : (-1 : Int) ≤ v1510.toInt ∧ v1510.toInt ≤ 9 := q1531.2
     have q1529 := own_mx v1510 ⟨Int.le_trans (by decide) B1530.1, Int.le_trans B1530.2 (by decide)⟩; rw [← hv1514] at q1529
     have B1528 : (0 : Int) ≤ v1514.toInt ∧ v1514.toInt ≤ 9 := q1529.2
     have q1527 : v1515.toInt = v1514.toInt := (by rw [hv1515]; exact c_i2l _)
     have B1526 : (0 : Int) ≤ v1515.toInt ∧ v1515.toInt ≤ 9 := (by rw [q1527]; exact B1528)
     have q1522 : v1516.toInt = v1512.toInt + v1515.toInt := k_laddx hv1516 B1523 B1526 (by decide) (by decide)
     have B1521 : (0 : Int) ≤ v1516.toInt ∧ v1516.toInt ≤ 99 := k_addB q1522 B1523 B1526
     refine ⟨⟨fun hq1538 => ?_, fun hq1539 => ?_⟩, ?_⟩
     · rw [Int64.lt_iff_toInt_lt, show (0 : Int64).toInt = 0 from rfl] at hq1538; omega
     · rw [Int64.lt_iff_toInt_lt, show (99 : Int64).toInt = 99 from rfl] at hq1539; omega
     · exact Or.inr ⟨rfl, by omega⟩
    ·
     refine k_iload X1509 hx 248 (D at_246) rfl ?_
     refine k_if_lt X1509 hx 251 255 (D at_248) (fun hc1540 => ?_) (fun hc1540 => ?_)
     ·
      refine k_iconst X1509 hx 256 (D at_255) (z := (0 : Int32)) rfl ?_
      refine k_istore X1509 hx 258 (D at_256) (Ls' := #[iv i0, iv i1, iv i2, jv i3, s_, rv b1, iv (1 : Int32), iv (2 : Int32), iv (3 : Int32), iv v1409, jv v1458, s_, jv v1461, s_, iv (0 : Int32), jv v1505, s_, iv v1510, u_]) rfl ?_
      refine k_ldcL X1509 hx hZ hown 261 (k_w hw 16 rfl) (D at_258) ?_
      refine k_lload X1509 hx 263 (D at_261) rfl ?_
      refine k_lmul X1509 hx 264 (D at_263) (fun v1541 hv1541 => ?_)
      refine k_iload X1509 hx 266 (D at_264) rfl ?_
      refine k_iconst X1509 hx 267 (D at_266) (z := (0 : Int32)) rfl ?_
      refine k_callS X1509 hx hZ hown 270 (k_w hw 17 rfl) (k_w hw 18 rfl) (k_w hw 19 rfl) (k_w hw 20 rfl) (by decide) (rm4_9 l Z a0 hw [] v1510 h21 n0 Z21 ) (by decide) (by decide) e1509 (by rw [hml]; rfl) (argsL := [(.int v1510), (.int (0 : Int32))]) (rest := [(.long v1541)]) (lenOf pd_3 rfl) rfl (W := 2) (Nat.le_refl _) rfl (D at_267) (by show _ + 0 ≤ _; exact Nat.le_trans hce1503 (by decide)) (by show _ + 0 ≤ _; exact Nat.le_trans hsl1503 (by decide)) (fun T1542 L1542 r1542 X1542 q1542 => ?_)
      obtain ⟨N1542, e1542, rfl⟩ := q1542
      have N1542' := Fr.app N1509' N1542
      show KEnds p e below s _ _ _ T1542 (mkF m 270 #[iv i0, iv i1, iv i2, jv i3, s_, rv b1, iv (1 : Int32), iv (2 : Int32), iv (3 : Int32), iv v1409, jv v1458, s_, jv v1461, s_, iv (0 : Int32), jv v1505, s_, iv v1510, u_] ((.int (f4_9 v1510)) :: (.long v1541) :: []))
      obtain ⟨v1543, hv1543⟩ : ∃ z, z = f4_9 v1510 := ⟨_, rfl⟩
      rw [← hv1543]
      refine k_i2l X1542 hx 271 (D at_270) (fun v1544 hv1544 => ?_)
      refine k_ladd X1542 hx 272 (D at_271) (fun v1545 hv1545 => ?_)
      refine k_lstore X1542 hx 274 (D at_272) (Ls' := #[iv i0, iv i1, iv i2, jv i3, s_, rv b1, iv (1 : Int32), iv (2 : Int32), iv (3 : Int32), iv v1409, jv v1458, s_, jv v1461, s_, iv (0 : Int32), jv v1545, s_, iv v1510, u_]) rfl ?_
      refine key1508 T1542 _ _ _ (0 : Int32) v1545 v1510 X1542 e1542 N1542' hce1503 hsl1503 ?_
      have B1546 : (0 : Int) ≤ v1505.toInt ∧ v1505.toInt ≤ 9 := ⟨kL_ge hP1507.1.1 (by decide), kL_le hP1507.1.2 (by decide)⟩
      have B1547 : (-2147483648 : Int) ≤ v1504.toInt ∧ v1504.toInt ≤ 2147483647 := ⟨(rng32 v1504).1, Int.le_of_lt_add_one (rng32 v1504).2⟩
      have B1548 : (0 : Int) ≤ (0 : Int32).toInt ∧ (0 : Int32).toInt ≤ 0 := (by decide)
      have q1549 : ¬ v1504.toInt = (0 : Int32).toInt := fun q => hc1511 (Int32.toInt_inj.mp q)
      have B1555 : (-2147483648 : Int) ≤ i2.toInt ∧ i2.toInt ≤ 2147483647 := ⟨(rng32 i2).1, Int.le_of_lt_add_one (rng32 i2).2⟩
      have B1556 : (-2147483648 : Int) ≤ i0.toInt ∧ i0.toInt ≤ 2147483647 := ⟨(rng32 i0).1, Int.le_of_lt_add_one (rng32 i0).2⟩
      have B1557 : (-2147483648 : Int) ≤ i1.toInt ∧ i1.toInt ≤ 2147483647 := ⟨(rng32 i1).1, Int.le_of_lt_add_one (rng32 i1).2⟩
      have B1552 : (-128 : Int) ≤ v11.toInt ∧ v11.toInt ≤ 127 := (by rw [← hb12]; exact ⟨(c_i2b _).2.1, Int.le_of_lt_add_one (c_i2b _).2.2⟩)
      have q1551 := own_fd v11 ⟨Int.le_trans (by decide) B1552.1, Int.le_trans B1552.2 (by decide)⟩; rw [← hv1510] at q1551
      have B1550 : (-1 : Int) ≤ v1510.toInt ∧ v1510.toInt ≤ 9 := q1551.2
      have B1558 : (-1 : Int) ≤ v1510.toInt ∧ v1510.toInt ≤ -1 := ⟨B1550.1, k_lt hc1540 (by decide)⟩
      have B1563 : (10 : Int) ≤ (10 : Int64).toInt ∧ (10 : Int64).toInt ≤ 10 := (by decide)
      have q1562 : v1541.toInt = 10 * v1505.toInt := (by have q0 := c_lmul (10 : Int64) v1505; have q1 := rng64 v1541; have q2 := B1546; rw [← hv1541] at q0; rw [show (10 : Int64).toInt = 10 from (by decide)] at q0; omega)
      have B1561 : (0 : Int) ≤ v1541.toInt ∧ v1541.toInt ≤ 90 := (by rw [q1562]; exact k_mulB B1546 (by decide))
      have q1567 := own_mx v1510 ⟨Int.le_trans (by decide) B1558.1, Int.le_trans B1558.2 (by decide)⟩; rw [← hv1543] at q1567
      have B1566 : (0 : Int) ≤ v1543.toInt ∧ v1543.toInt ≤ 9 := q1567.2
      have q1565 : v1544.toInt = v1543.toInt := (by rw [hv1544]; exact c_i2l _)
      have B1564 : (0 : Int) ≤ v1544.toInt ∧ v1544.toInt ≤ 9 := (by rw [q1565]; exact B1566)
      have q1560 : v1545.toInt = v1541.toInt + v1544.toInt := k_laddx hv1545 B1561 B1564 (by decide) (by decide)
      have B1559 : (0 : Int) ≤ v1545.toInt ∧ v1545.toInt ≤ 99 := k_addB q1560 B1561 B1564
      refine ⟨⟨fun hq1568 => ?_, fun hq1569 => ?_⟩, ?_⟩
      · rw [Int64.lt_iff_toInt_lt, show (0 : Int64).toInt = 0 from rfl] at hq1568; omega
      · rw [Int64.lt_iff_toInt_lt, show (99 : Int64).toInt = 99 from rfl] at hq1569; omega
      · exact Or.inr ⟨rfl, by omega⟩
     ·
      refine k_iconst X1509 hx 252 (D at_251) (z := (1 : Int32)) rfl ?_
      refine k_goto X1509 hx 256 (D at_252) ?_
      refine k_istore X1509 hx 258 (D at_256) (Ls' := #[iv i0, iv i1, iv i2, jv i3, s_, rv b1, iv (1 : Int32), iv (2 : Int32), iv (3 : Int32), iv v1409, jv v1458, s_, jv v1461, s_, iv (1 : Int32), jv v1505, s_, iv v1510, u_]) rfl ?_
      refine k_ldcL X1509 hx hZ hown 261 (k_w hw 16 rfl) (D at_258) ?_
      refine k_lload X1509 hx 263 (D at_261) rfl ?_
      refine k_lmul X1509 hx 264 (D at_263) (fun v1570 hv1570 => ?_)
      refine k_iload X1509 hx 266 (D at_264) rfl ?_
      refine k_iconst X1509 hx 267 (D at_266) (z := (0 : Int32)) rfl ?_
      refine k_callS X1509 hx hZ hown 270 (k_w hw 17 rfl) (k_w hw 18 rfl) (k_w hw 19 rfl) (k_w hw 20 rfl) (by decide) (rm4_9 l Z a0 hw [] v1510 h21 n0 Z21 ) (by decide) (by decide) e1509 (by rw [hml]; rfl) (argsL := [(.int v1510), (.int (0 : Int32))]) (rest := [(.long v1570)]) (lenOf pd_3 rfl) rfl (W := 2) (Nat.le_refl _) rfl (D at_267) (by show _ + 0 ≤ _; exact Nat.le_trans hce1503 (by decide)) (by show _ + 0 ≤ _; exact Nat.le_trans hsl1503 (by decide)) (fun T1571 L1571 r1571 X1571 q1571 => ?_)
      obtain ⟨N1571, e1571, rfl⟩ := q1571
      have N1571' := Fr.app N1509' N1571
      show KEnds p e below s _ _ _ T1571 (mkF m 270 #[iv i0, iv i1, iv i2, jv i3, s_, rv b1, iv (1 : Int32), iv (2 : Int32), iv (3 : Int32), iv v1409, jv v1458, s_, jv v1461, s_, iv (1 : Int32), jv v1505, s_, iv v1510, u_] ((.int (f4_9 v1510)) :: (.long v1570) :: []))
      obtain ⟨v1572, hv1572⟩ : ∃ z, z = f4_9 v1510 := ⟨_, rfl⟩
      rw [← hv1572]
      refine k_i2l X1571 hx 271 (D at_270) (fun v1573 hv1573 => ?_)
      refine k_ladd X1571 hx 272 (D at_271) (fun v1574 hv1574 => ?_)
      refine k_lstore X1571 hx 274 (D at_272) (Ls' := #[iv i0, iv i1, iv i2, jv i3, s_, rv b1, iv (1 : Int32), iv (2 : Int32), iv (3 : Int32), iv v1409, jv v1458, s_, jv v1461, s_, iv (1 : Int32), jv v1574, s_, iv v1510, u_]) rfl ?_
      refine key1508 T1571 _ _ _ (1 : Int32) v1574 v1510 X1571 e1571 N1571' hce1503 hsl1503 ?_
      have B1575 : (0 : Int) ≤ v1505.toInt ∧ v1505.toInt ≤ 9 := ⟨kL_ge hP1507.1.1 (by decide), kL_le hP1507.1.2 (by decide)⟩
      have B1576 : (-2147483648 : Int) ≤ v1504.toInt ∧ v1504.toInt ≤ 2147483647 := ⟨(rng32 v1504).1, Int.le_of_lt_add_one (rng32 v1504).2⟩
      have B1577 : (0 : Int) ≤ (0 : Int32).toInt ∧ (0 : Int32).toInt ≤ 0 := (by decide)
      have q1578 : ¬ v1504.toInt = (0 : Int32).toInt := fun q => hc1511 (Int32.toInt_inj.mp q)
      have B1584 : (-2147483648 : Int) ≤ i2.toInt ∧ i2.toInt ≤ 2147483647 := ⟨(rng32 i2).1, Int.le_of_lt_add_one (rng32 i2).2⟩
      have B1585 : (-2147483648 : Int) ≤ i0.toInt ∧ i0.toInt ≤ 2147483647 := ⟨(rng32 i0).1, Int.le_of_lt_add_one (rng32 i0).2⟩
      have B1586 : (-2147483648 : Int) ≤ i1.toInt ∧ i1.toInt ≤ 2147483647 := ⟨(rng32 i1).1, Int.le_of_lt_add_one (rng32 i1).2⟩
      have B1581 : (-128 : Int) ≤ v11.toInt ∧ v11.toInt ≤ 127 := (by rw [← hb12]; exact ⟨(c_i2b _).2.1, Int.le_of_lt_add_one (c_i2b _).2.2⟩)
      have q1580 := own_fd v11 ⟨Int.le_trans (by decide) B1581.1, Int.le_trans B1581.2 (by decide)⟩; rw [← hv1510] at q1580
      have B1579 : (-1 : Int) ≤ v1510.toInt ∧ v1510.toInt ≤ 9 := q1580.2
      have B1587 : (0 : Int) ≤ v1510.toInt ∧ v1510.toInt ≤ 9 := ⟨k_ge hc1540 (by decide), B1579.2⟩
      have B1592 : (10 : Int) ≤ (10 : Int64).toInt ∧ (10 : Int64).toInt ≤ 10 := (by decide)
      have q1591 : v1570.toInt = 10 * v1505.toInt := (by have q0 := c_lmul (10 : Int64) v1505; have q1 := rng64 v1570; have q2 := B1575; rw [← hv1570] at q0; rw [show (10 : Int64).toInt = 10 from (by decide)] at q0; omega)
      have B1590 : (0 : Int) ≤ v1570.toInt ∧ v1570.toInt ≤ 90 := (by rw [q1591]; exact k_mulB B1575 (by decide))
      have q1596 := own_mx v1510 ⟨Int.le_trans (by decide) B1587.1, Int.le_trans B1587.2 (by decide)⟩; rw [← hv1572] at q1596
      have B1595 : (0 : Int) ≤ v1572.toInt ∧ v1572.toInt ≤ 9 := q1596.2
      have q1594 : v1573.toInt = v1572.toInt := (by rw [hv1573]; exact c_i2l _)
      have B1593 : (0 : Int) ≤ v1573.toInt ∧ v1573.toInt ≤ 9 := (by rw [q1594]; exact B1595)
      have q1589 : v1574.toInt = v1570.toInt + v1573.toInt := k_laddx hv1574 B1590 B1593 (by decide) (by decide)
      have B1588 : (0 : Int) ≤ v1574.toInt ∧ v1574.toInt ≤ 99 := k_addB q1589 B1590 B1593
      refine ⟨⟨fun hq1597 => ?_, fun hq1598 => ?_⟩, ?_⟩
      · rw [Int64.lt_iff_toInt_lt, show (0 : Int64).toInt = 0 from rfl] at hq1597; omega
      · rw [Int64.lt_iff_toInt_lt, show (99 : Int64).toInt = 99 from rfl] at hq1598; omega
      · exact Or.inl ⟨rfl, by omega⟩
   intro T1599 lo1599 ce1599 sl1599 v1600 v1601 v1602 X1599 e1599 N1599 hce1599 hsl1599 hP1603
   refine k_iload X1599 hx 276 (D at_274) rfl ?_
   refine k_iconst X1599 hx 277 (D at_276) (z := (2 : Int32)) rfl ?_
   refine k_icmp_le X1599 hx 280 325 (D at_277) (fun _ => ?_) (fun hc => absurd hc (by decide))
   refine k_iload X1599 hx 327 (D at_325) rfl ?_
   refine k_iconst X1599 hx 328 (D at_327) (z := (3 : Int32)) rfl ?_
   refine k_icmp_le X1599 hx 331 376 (D at_328) (fun _ => ?_) (fun hc => absurd hc (by decide))
   refine k_iload X1599 hx 378 (D at_376) rfl ?_
   refine k_if_eq X1599 hx 381 394 (D at_378) (fun hc1604 => ?_) (fun hc1604 => ?_)
   ·
    refine k_ldcL X1599 hx hZ hown 397 (k_w hw 11 rfl) (D at_394) ?_
    refine k_lstore X1599 hx 399 (D at_397) (Ls' := #[iv i0, iv i1, iv i2, jv i3, s_, rv b1, iv (1 : Int32), iv (2 : Int32), iv (3 : Int32), iv v1409, jv v1458, s_, jv v1461, s_, iv v1600, jv v1601, s_, jv (-1 : Int64), s_]) rfl ?_
    refine k_lload X1599 hx 401 (D at_399) rfl ?_
    refine k_lload X1599 hx 403 (D at_401) rfl ?_
    refine k_lcif_ne X1599 hx 407 411 404 (D at_403) (D at_404) (fun hc => absurd (Classical.byContradiction (fun hq1605 => by have B1606 : (0 : Int) ≤ v1458.toInt ∧ v1458.toInt ≤ 9223372036854775807 := ⟨kL_ge hP1459 (by decide), Int.le_of_lt_add_one (rng64 v1458).2⟩; have B1607 : (0 : Int) ≤ v1601.toInt ∧ v1601.toInt ≤ 99 := ⟨kL_ge hP1603.1.1 (by decide), kL_le hP1603.1.2 (by decide)⟩; have B1608 : (-2147483648 : Int) ≤ v1600.toInt ∧ v1600.toInt ≤ 2147483647 := ⟨(rng32 v1600).1, Int.le_of_lt_add_one (rng32 v1600).2⟩; have B1609 : (0 : Int) ≤ (0 : Int32).toInt ∧ (0 : Int32).toInt ≤ 0 := (by decide); have q1610 := congrArg Int32.toInt hc1604; have B1611 : (-9223372036854775808 : Int) ≤ v1461.toInt ∧ v1461.toInt ≤ 9223372036854775807 := ⟨(rng64 v1461).1, Int.le_of_lt_add_one (rng64 v1461).2⟩; have B1612 : (-1 : Int) ≤ (-1 : Int64).toInt ∧ (-1 : Int64).toInt ≤ -1 := (by decide); have q1613 : ¬ v1461.toInt = (-1 : Int64).toInt := fun q => hq1605 (Int64.toInt_inj.mp q); omega)) hc) (fun _ => ?_)
    refine k_iconst X1599 hx 408 (D at_407) (z := (1 : Int32)) rfl ?_
    refine k_goto X1599 hx 412 (D at_408) ?_
    exact k_retN X1599 hx (t := .boolean) hret (by simp) (D at_412) hlk (by first | exact hce1599 | exact Nat.le_trans (Nat.le_refl _) hce1599) (by first | exact hsl1599 | exact Nat.le_trans (Nat.le_refl _) hsl1599) (z' := (1 : Int32)) rfl ⟨rfl, N1599⟩
   ·
    refine k_lload X1599 hx 383 (D at_381) rfl ?_
    refine k_lload X1599 hx 385 (D at_383) rfl ?_
    refine k_lcif_gt X1599 hx 389 394 386 (D at_385) (D at_386) (fun hc1614 => ?_) (fun hc1614 => ?_)
    ·
     refine k_ldcL X1599 hx hZ hown 397 (k_w hw 11 rfl) (D at_394) ?_
     refine k_lstore X1599 hx 399 (D at_397) (Ls' := #[iv i0, iv i1, iv i2, jv i3, s_, rv b1, iv (1 : Int32), iv (2 : Int32), iv (3 : Int32), iv v1409, jv v1458, s_, jv v1461, s_, iv v1600, jv v1601, s_, jv (-1 : Int64), s_]) rfl ?_
     refine k_lload X1599 hx 401 (D at_399) rfl ?_
     refine k_lload X1599 hx 403 (D at_401) rfl ?_
     refine k_lcif_ne X1599 hx 407 411 404 (D at_403) (D at_404) (fun hc => absurd (Classical.byContradiction (fun hq1615 => by have B1616 : (0 : Int) ≤ v1458.toInt ∧ v1458.toInt ≤ 9223372036854775807 := ⟨kL_ge hP1459 (by decide), Int.le_of_lt_add_one (rng64 v1458).2⟩; have B1617 : (0 : Int) ≤ v1601.toInt ∧ v1601.toInt ≤ 99 := ⟨kL_ge hP1603.1.1 (by decide), kL_le hP1603.1.2 (by decide)⟩; have B1618 : (-2147483648 : Int) ≤ v1600.toInt ∧ v1600.toInt ≤ 2147483647 := ⟨(rng32 v1600).1, Int.le_of_lt_add_one (rng32 v1600).2⟩; have B1619 : (0 : Int) ≤ (0 : Int32).toInt ∧ (0 : Int32).toInt ≤ 0 := (by decide); have q1620 : ¬ v1600.toInt = (0 : Int32).toInt := fun q => hc1604 (Int32.toInt_inj.mp q); have q1621 := hc1614; rw [Int64.lt_iff_toInt_lt] at q1621; have B1622 : (-9223372036854775808 : Int) ≤ v1461.toInt ∧ v1461.toInt ≤ 9223372036854775807 := ⟨(rng64 v1461).1, Int.le_of_lt_add_one (rng64 v1461).2⟩; have B1623 : (-1 : Int) ≤ (-1 : Int64).toInt ∧ (-1 : Int64).toInt ≤ -1 := (by decide); have q1624 : ¬ v1461.toInt = (-1 : Int64).toInt := fun q => hq1615 (Int64.toInt_inj.mp q); omega)) hc) (fun _ => ?_)
     refine k_iconst X1599 hx 408 (D at_407) (z := (1 : Int32)) rfl ?_
     refine k_goto X1599 hx 412 (D at_408) ?_
     exact k_retN X1599 hx (t := .boolean) hret (by simp) (D at_412) hlk (by first | exact hce1599 | exact Nat.le_trans (Nat.le_refl _) hce1599) (by first | exact hsl1599 | exact Nat.le_trans (Nat.le_refl _) hsl1599) (z' := (1 : Int32)) rfl ⟨rfl, N1599⟩
    ·
     refine k_lload X1599 hx 391 (D at_389) rfl ?_
     refine k_goto X1599 hx 397 (D at_391) ?_
     refine k_lstore X1599 hx 399 (D at_397) (Ls' := #[iv i0, iv i1, iv i2, jv i3, s_, rv b1, iv (1 : Int32), iv (2 : Int32), iv (3 : Int32), iv v1409, jv v1458, s_, jv v1461, s_, iv v1600, jv v1601, s_, jv v1601, s_]) rfl ?_
     refine k_lload X1599 hx 401 (D at_399) rfl ?_
     refine k_lload X1599 hx 403 (D at_401) rfl ?_
     refine k_lcif_ne X1599 hx 407 411 404 (D at_403) (D at_404) (fun hc => absurd (Classical.byContradiction (fun hq1625 => by have B1626 : (0 : Int) ≤ v1458.toInt ∧ v1458.toInt ≤ 9223372036854775807 := ⟨kL_ge hP1459 (by decide), Int.le_of_lt_add_one (rng64 v1458).2⟩; have B1627 : (0 : Int) ≤ v1601.toInt ∧ v1601.toInt ≤ 99 := ⟨kL_ge hP1603.1.1 (by decide), kL_le hP1603.1.2 (by decide)⟩; have B1628 : (-2147483648 : Int) ≤ v1600.toInt ∧ v1600.toInt ≤ 2147483647 := ⟨(rng32 v1600).1, Int.le_of_lt_add_one (rng32 v1600).2⟩; have B1629 : (0 : Int) ≤ (0 : Int32).toInt ∧ (0 : Int32).toInt ≤ 0 := (by decide); have q1630 : ¬ v1600.toInt = (0 : Int32).toInt := fun q => hc1604 (Int32.toInt_inj.mp q); have q1631 := hc1614; rw [Int64.lt_iff_toInt_lt] at q1631; have B1632 : (-9223372036854775808 : Int) ≤ v1461.toInt ∧ v1461.toInt ≤ 9223372036854775807 := ⟨(rng64 v1461).1, Int.le_of_lt_add_one (rng64 v1461).2⟩; have q1633 : ¬ v1461.toInt = v1601.toInt := fun q => hq1625 (Int64.toInt_inj.mp q); omega)) hc) (fun _ => ?_)
     refine k_iconst X1599 hx 408 (D at_407) (z := (1 : Int32)) rfl ?_
     refine k_goto X1599 hx 412 (D at_408) ?_
     exact k_retN X1599 hx (t := .boolean) hret (by simp) (D at_412) hlk (by first | exact hce1599 | exact Nat.le_trans (Nat.le_refl _) hce1599) (by first | exact hsl1599 | exact Nat.le_trans (Nat.le_refl _) hsl1599) (z' := (1 : Int32)) rfl ⟨rfl, N1599⟩
  ·
   show KEnds p e below s _ _ _ T21 (mkF m 76 #[iv i0, iv i1, iv i2, jv i3, s_, rv b1, iv (1 : Int32), u_, u_, u_, u_, u_, u_, u_, u_, u_, u_, u_, u_] [(.int (3 : Int32))])
   refine k_istore X21 hx 78 (D at_76) (Ls' := #[iv i0, iv i1, iv i2, jv i3, s_, rv b1, iv (1 : Int32), iv (3 : Int32), u_, u_, u_, u_, u_, u_, u_, u_, u_, u_, u_]) rfl ?_
   refine k_iload X21 hx 80 (D at_78) rfl ?_
   refine k_iload X21 hx 82 (D at_80) rfl ?_
   refine k_iaddL X21 hx 83 (D at_82) (z := (4 : Int32)) (by decide) ?_
   refine k_istore X21 hx 85 (D at_83) (Ls' := #[iv i0, iv i1, iv i2, jv i3, s_, rv b1, iv (1 : Int32), iv (3 : Int32), iv (4 : Int32), u_, u_, u_, u_, u_, u_, u_, u_, u_, u_]) rfl ?_
   refine k_iloadN X21 hx 86 (D at_85) rfl ?_
   refine k_bipush X21 hx 88 (D at_86) (z := (9 : Int32)) rfl ?_
   refine k_iushr X21 hx 89 (D at_88) (fun v1635 hv1635 => ?_)
   refine k_iconst X21 hx 90 (D at_89) (z := (3 : Int32)) rfl ?_
   refine k_iand X21 hx 91 (D at_90) (fun v1636 hv1636 => ?_)
   refine k_istore X21 hx 93 (D at_91) (Ls' := #[iv i0, iv i1, iv i2, jv i3, s_, rv b1, iv (1 : Int32), iv (3 : Int32), iv (4 : Int32), iv v1636, u_, u_, u_, u_, u_, u_, u_, u_, u_]) rfl ?_
   suffices key1637 : ∀ (v1685 : Int64), (¬ v1685 < 0) → KEnds p e below s 16 128 (Q0 n0) T21 (mkF m 147 #[iv i0, iv i1, iv i2, jv i3, s_, rv b1, iv (1 : Int32), iv (3 : Int32), iv (4 : Int32), iv v1636, jv v1685, s_, u_, u_, u_, u_, u_, u_, u_] []) by
    refine k_iload X21 hx 95 (D at_93) rfl ?_
    refine k_if_ne X21 hx 98 108 (D at_95) (fun hc1638 => ?_) (fun hc1638 => ?_)
    ·
     refine k_iload X21 hx 110 (D at_108) rfl ?_
     refine k_iconst X21 hx 111 (D at_110) (z := (1 : Int32)) rfl ?_
     refine k_icmp_ne X21 hx 114 124 (D at_111) (fun hc1639 => ?_) (fun hc1639 => ?_)
     ·
      refine k_iload X21 hx 126 (D at_124) rfl ?_
      refine k_iconst X21 hx 127 (D at_126) (z := (2 : Int32)) rfl ?_
      refine k_icmp_ne X21 hx 130 140 (D at_127) (fun hc1640 => ?_) (fun hc1640 => ?_)
      ·
       refine k_lloadN X21 hx 141 (D at_140) rfl ?_
       refine k_ldcL X21 hx hZ hown 144 (k_w hw 21 rfl) (D at_141) ?_
       refine k_land X21 hx 145 (D at_144) (fun v1641 hv1641 => ?_)
       refine k_lstore X21 hx 147 (D at_145) (Ls' := #[iv i0, iv i1, iv i2, jv i3, s_, rv b1, iv (1 : Int32), iv (3 : Int32), iv (4 : Int32), iv v1636, jv v1641, s_, u_, u_, u_, u_, u_, u_, u_]) rfl ?_
       refine key1637 v1641 ?_
       intro hq1647
       have B1650 : (-9223372036854775808 : Int) ≤ i3.toInt ∧ i3.toInt ≤ 9223372036854775807 := ⟨(rng64 i3).1, Int.le_of_lt_add_one (rng64 i3).2⟩
       have q1649 : v1641.toInt = i3.toInt % 16 := (by rw [hv1641]; exact c_maskL _ _ 4 (by decide) (by decide))
       have B1648 : (0 : Int) ≤ v1641.toInt ∧ v1641.toInt ≤ 15 := (by rw [q1649]; exact k_modB (by decide))
       have B1651 : (0 : Int) ≤ v1641.toInt ∧ v1641.toInt ≤ -1 := ⟨B1648.1, kL_lt hq1647 (by decide)⟩
       omega
      ·
       refine k_lloadN X21 hx 131 (D at_130) rfl ?_
       refine k_ldcL X21 hx hZ hown 134 (k_w hw 23 rfl) (D at_131) ?_
       refine k_land X21 hx 135 (D at_134) (fun v1652 hv1652 => ?_)
       refine k_lstore X21 hx 137 (D at_135) (Ls' := #[iv i0, iv i1, iv i2, jv i3, s_, rv b1, iv (1 : Int32), iv (3 : Int32), iv (4 : Int32), iv v1636, jv v1652, s_, u_, u_, u_, u_, u_, u_, u_]) rfl ?_
       refine k_goto X21 hx 147 (D at_137) ?_
       refine key1637 v1652 ?_
       intro hq1658
       have B1661 : (-9223372036854775808 : Int) ≤ i3.toInt ∧ i3.toInt ≤ 9223372036854775807 := ⟨(rng64 i3).1, Int.le_of_lt_add_one (rng64 i3).2⟩
       have q1660 : v1652.toInt = i3.toInt % 128 := (by rw [hv1652]; exact c_maskL _ _ 7 (by decide) (by decide))
       have B1659 : (0 : Int) ≤ v1652.toInt ∧ v1652.toInt ≤ 127 := (by rw [q1660]; exact k_modB (by decide))
       have B1662 : (0 : Int) ≤ v1652.toInt ∧ v1652.toInt ≤ -1 := ⟨B1659.1, kL_lt hq1658 (by decide)⟩
       omega
     ·
      refine k_lloadN X21 hx 115 (D at_114) rfl ?_
      refine k_ldcL X21 hx hZ hown 118 (k_w hw 22 rfl) (D at_115) ?_
      refine k_land X21 hx 119 (D at_118) (fun v1663 hv1663 => ?_)
      refine k_lstore X21 hx 121 (D at_119) (Ls' := #[iv i0, iv i1, iv i2, jv i3, s_, rv b1, iv (1 : Int32), iv (3 : Int32), iv (4 : Int32), iv v1636, jv v1663, s_, u_, u_, u_, u_, u_, u_, u_]) rfl ?_
      refine k_goto X21 hx 147 (D at_121) ?_
      refine key1637 v1663 ?_
      intro hq1669
      have B1672 : (-9223372036854775808 : Int) ≤ i3.toInt ∧ i3.toInt ≤ 9223372036854775807 := ⟨(rng64 i3).1, Int.le_of_lt_add_one (rng64 i3).2⟩
      have q1671 : v1663.toInt = i3.toInt % 16384 := (by rw [hv1663]; exact c_maskL _ _ 14 (by decide) (by decide))
      have B1670 : (0 : Int) ≤ v1663.toInt ∧ v1663.toInt ≤ 16383 := (by rw [q1671]; exact k_modB (by decide))
      have B1673 : (0 : Int) ≤ v1663.toInt ∧ v1663.toInt ≤ -1 := ⟨B1670.1, kL_lt hq1669 (by decide)⟩
      omega
    ·
     refine k_lloadN X21 hx 99 (D at_98) rfl ?_
     refine k_ldcL X21 hx hZ hown 102 (k_w hw 5 rfl) (D at_99) ?_
     refine k_land X21 hx 103 (D at_102) (fun v1674 hv1674 => ?_)
     refine k_lstore X21 hx 105 (D at_103) (Ls' := #[iv i0, iv i1, iv i2, jv i3, s_, rv b1, iv (1 : Int32), iv (3 : Int32), iv (4 : Int32), iv v1636, jv v1674, s_, u_, u_, u_, u_, u_, u_, u_]) rfl ?_
     refine k_goto X21 hx 147 (D at_105) ?_
     refine key1637 v1674 ?_
     intro hq1680
     have B1683 : (-9223372036854775808 : Int) ≤ i3.toInt ∧ i3.toInt ≤ 9223372036854775807 := ⟨(rng64 i3).1, Int.le_of_lt_add_one (rng64 i3).2⟩
     have q1682 : v1674.toInt = i3.toInt % 9223372036854775808 := (by rw [hv1674]; exact c_maskL _ _ 63 (by decide) (by decide))
     have B1681 : (0 : Int) ≤ v1674.toInt ∧ v1674.toInt ≤ 9223372036854775807 := (by rw [q1682]; exact k_modB (by decide))
     have B1684 : (0 : Int) ≤ v1674.toInt ∧ v1674.toInt ≤ -1 := ⟨B1681.1, kL_lt hq1680 (by decide)⟩
     omega
   intro v1685 hP1686
   refine k_aload X21 hx 149 (D at_147) rfl rfl ?_
   refine k_iload X21 hx 151 (D at_149) rfl ?_
   refine k_iload X21 hx 153 (D at_151) rfl ?_
   refine k_lload X21 hx 155 (D at_153) rfl ?_
   refine k_callS X21 hx hZ hown 158 (k_w hw 6 rfl) (k_w hw 7 rfl) (k_w hw 8 rfl) (k_w hw 9 rfl) (by decide) (rm2_16 l Z a0 hw [] b1 v1685 k1 v3 v7 v11 v15 v19 h21 n0 Z21 Vw21 hP1686 (k_by1 hb8) (k_by2 hb8) (k_by1 hb12) (k_by2 hb12) (k_by1 hb16) (k_by2 hb16)) (by decide) (by decide) e21 (by rw [hml]; rfl) (argsL := [(.ref b1), (.int (1 : Int32)), (.int (4 : Int32)), (.long v1685)]) (rest := []) (lenOf pd_1 rfl) rfl (W := 0) (Nat.le_refl _) rfl (D at_155) (by decide) (by decide) (fun T1687 L1687 r1687 X1687 q1687 => ?_)
   obtain ⟨N1687, e1687, v1688, rfl, hS1689⟩ := q1687
   have N1687' := Fr.app N21 N1687
   show KEnds p e below s _ _ _ T1687 (mkF m 158 #[iv i0, iv i1, iv i2, jv i3, s_, rv b1, iv (1 : Int32), iv (3 : Int32), iv (4 : Int32), iv v1636, jv v1685, s_, u_, u_, u_, u_, u_, u_, u_] [(.long v1688)])
   refine k_lstore X1687 hx 160 (D at_158) (Ls' := #[iv i0, iv i1, iv i2, jv i3, s_, rv b1, iv (1 : Int32), iv (3 : Int32), iv (4 : Int32), iv v1636, jv v1685, s_, jv v1688, s_, u_, u_, u_, u_, u_]) rfl ?_
   refine k_iload X1687 hx 162 (D at_160) rfl ?_
   refine k_if_le X1687 hx 165 169 (D at_162) (fun hc => absurd (by decide) hc) (fun _ => ?_)
   refine k_iconst X1687 hx 166 (D at_165) (z := (1 : Int32)) rfl ?_
   refine k_goto X1687 hx 170 (D at_166) ?_
   refine k_istore X1687 hx 172 (D at_170) (Ls' := #[iv i0, iv i1, iv i2, jv i3, s_, rv b1, iv (1 : Int32), iv (3 : Int32), iv (4 : Int32), iv v1636, jv v1685, s_, jv v1688, s_, iv (1 : Int32), u_, u_, u_, u_]) rfl ?_
   refine k_lconst X1687 hx 173 (D at_172) (z := (0 : Int64)) rfl ?_
   refine k_lstore X1687 hx 175 (D at_173) (Ls' := #[iv i0, iv i1, iv i2, jv i3, s_, rv b1, iv (1 : Int32), iv (3 : Int32), iv (4 : Int32), iv v1636, jv v1685, s_, jv v1688, s_, iv (1 : Int32), jv (0 : Int64), s_, u_, u_]) rfl ?_
   refine k_iload X1687 hx 177 (D at_175) rfl ?_
   refine k_if_le X1687 hx 180 223 (D at_177) (fun hc => absurd (by decide) hc) (fun _ => ?_)
   suffices key1690 : ∀ (T1730 : State) (lo1730 : List Loc) (ce1730 sl1730 : Nat) (v1731 : Int32) (v1732 : Int64) (v1733 : Int32), Stand p l e room_1 s m #[(.int i0), (.int i1), (.int i2), (.long i3)] below meth c T1730 lo1730 ce1730 sl1730 → T1730.heap = h21 → Fr n0 lo1730 → ce1730 ≤ 16 → sl1730 ≤ 128 → ((¬ v1732 < 0 ∧ ¬ (9 : Int64) < v1732) ∧ ((v1731.toInt = 1 ∧ ((48 ≤ v7.toInt ∧ v7.toInt ≤ 57)) ∧ v1732.toInt = 1 * (v7.toInt - 48)) ∨ (v1731.toInt = 0 ∧ ¬ ((48 ≤ v7.toInt ∧ v7.toInt ≤ 57))))) → KEnds p e below s 16 128 (Q0 n0) T1730 (mkF m 223 #[iv i0, iv i1, iv i2, jv i3, s_, rv b1, iv (1 : Int32), iv (3 : Int32), iv (4 : Int32), iv v1636, jv v1685, s_, jv v1688, s_, iv v1731, jv v1732, s_, iv v1733, u_] []) by
    refine k_aload X1687 hx 182 (D at_180) rfl rfl ?_
    refine k_iload X1687 hx 184 (D at_182) rfl ?_
    refine k_baload X1687 hx hZ 185 e1687 Vw21 ⟨by decide, by decide⟩ (v := (.int v7)) rfl (D at_184) ?_
    refine k_callS X1687 hx hZ hown 188 (k_w hw 13 rfl) (k_w hw 14 rfl) (k_w hw 3 rfl) (k_w hw 15 rfl) (by decide) (rm3_8 l Z a0 hw [] v7 h21 n0 Z21 ) (by decide) (by decide) e1687 (by rw [hml]; rfl) (argsL := [(.int v7)]) (rest := []) (lenOf pd_2 rfl) rfl (W := 0) (Nat.le_refl _) rfl (D at_185) (by decide) (by decide) (fun T1691 L1691 r1691 X1691 q1691 => ?_)
    obtain ⟨N1691, e1691, rfl⟩ := q1691
    have N1691' := Fr.app N1687' N1691
    show KEnds p e below s _ _ _ T1691 (mkF m 188 #[iv i0, iv i1, iv i2, jv i3, s_, rv b1, iv (1 : Int32), iv (3 : Int32), iv (4 : Int32), iv v1636, jv v1685, s_, jv v1688, s_, iv (1 : Int32), jv (0 : Int64), s_, u_, u_] ((.int (f3_8 v7)) :: []))
    obtain ⟨v1692, hv1692⟩ : ∃ z, z = f3_8 v7 := ⟨_, rfl⟩
    rw [← hv1692]
    refine k_istore X1691 hx 190 (D at_188) (Ls' := #[iv i0, iv i1, iv i2, jv i3, s_, rv b1, iv (1 : Int32), iv (3 : Int32), iv (4 : Int32), iv v1636, jv v1685, s_, jv v1688, s_, iv (1 : Int32), jv (0 : Int64), s_, iv v1692, u_]) rfl ?_
    refine k_iload X1691 hx 192 (D at_190) rfl ?_
    refine k_if_eq X1691 hx 195 204 (D at_192) (fun hc => absurd hc (by decide)) (fun _ => ?_)
    refine k_iload X1691 hx 197 (D at_195) rfl ?_
    refine k_if_lt X1691 hx 200 204 (D at_197) (fun hc1693 => ?_) (fun hc1693 => ?_)
    ·
     refine k_iconst X1691 hx 205 (D at_204) (z := (0 : Int32)) rfl ?_
     refine k_istore X1691 hx 207 (D at_205) (Ls' := #[iv i0, iv i1, iv i2, jv i3, s_, rv b1, iv (1 : Int32), iv (3 : Int32), iv (4 : Int32), iv v1636, jv v1685, s_, jv v1688, s_, iv (0 : Int32), jv (0 : Int64), s_, iv v1692, u_]) rfl ?_
     refine k_ldcL X1691 hx hZ hown 210 (k_w hw 16 rfl) (D at_207) ?_
     refine k_lload X1691 hx 212 (D at_210) rfl ?_
     refine k_lmulL X1691 hx 213 (D at_212) (z := (0 : Int64)) (by decide) ?_
     refine k_iload X1691 hx 215 (D at_213) rfl ?_
     refine k_iconst X1691 hx 216 (D at_215) (z := (0 : Int32)) rfl ?_
     refine k_callS X1691 hx hZ hown 219 (k_w hw 17 rfl) (k_w hw 18 rfl) (k_w hw 19 rfl) (k_w hw 20 rfl) (by decide) (rm4_9 l Z a0 hw [] v1692 h21 n0 Z21 ) (by decide) (by decide) e1691 (by rw [hml]; rfl) (argsL := [(.int v1692), (.int (0 : Int32))]) (rest := [(.long (0 : Int64))]) (lenOf pd_3 rfl) rfl (W := 2) (Nat.le_refl _) rfl (D at_216) (by decide) (by decide) (fun T1694 L1694 r1694 X1694 q1694 => ?_)
     obtain ⟨N1694, e1694, rfl⟩ := q1694
     have N1694' := Fr.app N1691' N1694
     show KEnds p e below s _ _ _ T1694 (mkF m 219 #[iv i0, iv i1, iv i2, jv i3, s_, rv b1, iv (1 : Int32), iv (3 : Int32), iv (4 : Int32), iv v1636, jv v1685, s_, jv v1688, s_, iv (0 : Int32), jv (0 : Int64), s_, iv v1692, u_] ((.int (f4_9 v1692)) :: (.long (0 : Int64)) :: []))
     obtain ⟨v1695, hv1695⟩ : ∃ z, z = f4_9 v1692 := ⟨_, rfl⟩
     rw [← hv1695]
     refine k_i2l X1694 hx 220 (D at_219) (fun v1696 hv1696 => ?_)
     refine k_laddL X1694 hx 221 (D at_220) (z := v1696) (Int64.zero_add _) ?_
     refine k_lstore X1694 hx 223 (D at_221) (Ls' := #[iv i0, iv i1, iv i2, jv i3, s_, rv b1, iv (1 : Int32), iv (3 : Int32), iv (4 : Int32), iv v1636, jv v1685, s_, jv v1688, s_, iv (0 : Int32), jv v1696, s_, iv v1692, u_]) rfl ?_
     refine key1690 T1694 _ _ _ (0 : Int32) v1696 v1692 X1694 e1694 N1694' (by decide) (by decide) ?_
     have B1702 : (-2147483648 : Int) ≤ i2.toInt ∧ i2.toInt ≤ 2147483647 := ⟨(rng32 i2).1, Int.le_of_lt_add_one (rng32 i2).2⟩
     have B1703 : (-2147483648 : Int) ≤ i0.toInt ∧ i0.toInt ≤ 2147483647 := ⟨(rng32 i0).1, Int.le_of_lt_add_one (rng32 i0).2⟩
     have B1704 : (-2147483648 : Int) ≤ i1.toInt ∧ i1.toInt ≤ 2147483647 := ⟨(rng32 i1).1, Int.le_of_lt_add_one (rng32 i1).2⟩
     have B1699 : (-128 : Int) ≤ v7.toInt ∧ v7.toInt ≤ 127 := (by rw [← hb8]; exact ⟨(c_i2b _).2.1, Int.le_of_lt_add_one (c_i2b _).2.2⟩)
     have q1698 := own_fd v7 ⟨Int.le_trans (by decide) B1699.1, Int.le_trans B1699.2 (by decide)⟩; rw [← hv1692] at q1698
     have B1697 : (-1 : Int) ≤ v1692.toInt ∧ v1692.toInt ≤ 9 := q1698.2
     have B1705 : (-1 : Int) ≤ v1692.toInt ∧ v1692.toInt ≤ -1 := ⟨B1697.1, k_lt hc1693 (by decide)⟩
     have q1709 := own_mx v1692 ⟨Int.le_trans (by decide) B1705.1, Int.le_trans B1705.2 (by decide)⟩; rw [← hv1695] at q1709
     have B1708 : (0 : Int) ≤ v1695.toInt ∧ v1695.toInt ≤ 9 := q1709.2
     have q1707 : v1696.toInt = v1695.toInt := (by rw [hv1696]; exact c_i2l _)
     have B1706 : (0 : Int) ≤ v1696.toInt ∧ v1696.toInt ≤ 9 := (by rw [q1707]; exact B1708)
     refine ⟨⟨fun hq1710 => ?_, fun hq1711 => ?_⟩, ?_⟩
     · rw [Int64.lt_iff_toInt_lt, show (0 : Int64).toInt = 0 from rfl] at hq1710; omega
     · rw [Int64.lt_iff_toInt_lt, show (9 : Int64).toInt = 9 from rfl] at hq1711; omega
     · exact Or.inr ⟨rfl, by omega⟩
    ·
     refine k_iconst X1691 hx 201 (D at_200) (z := (1 : Int32)) rfl ?_
     refine k_goto X1691 hx 205 (D at_201) ?_
     refine k_istore X1691 hx 207 (D at_205) (Ls' := #[iv i0, iv i1, iv i2, jv i3, s_, rv b1, iv (1 : Int32), iv (3 : Int32), iv (4 : Int32), iv v1636, jv v1685, s_, jv v1688, s_, iv (1 : Int32), jv (0 : Int64), s_, iv v1692, u_]) rfl ?_
     refine k_ldcL X1691 hx hZ hown 210 (k_w hw 16 rfl) (D at_207) ?_
     refine k_lload X1691 hx 212 (D at_210) rfl ?_
     refine k_lmulL X1691 hx 213 (D at_212) (z := (0 : Int64)) (by decide) ?_
     refine k_iload X1691 hx 215 (D at_213) rfl ?_
     refine k_iconst X1691 hx 216 (D at_215) (z := (0 : Int32)) rfl ?_
     refine k_callS X1691 hx hZ hown 219 (k_w hw 17 rfl) (k_w hw 18 rfl) (k_w hw 19 rfl) (k_w hw 20 rfl) (by decide) (rm4_9 l Z a0 hw [] v1692 h21 n0 Z21 ) (by decide) (by decide) e1691 (by rw [hml]; rfl) (argsL := [(.int v1692), (.int (0 : Int32))]) (rest := [(.long (0 : Int64))]) (lenOf pd_3 rfl) rfl (W := 2) (Nat.le_refl _) rfl (D at_216) (by decide) (by decide) (fun T1712 L1712 r1712 X1712 q1712 => ?_)
     obtain ⟨N1712, e1712, rfl⟩ := q1712
     have N1712' := Fr.app N1691' N1712
     show KEnds p e below s _ _ _ T1712 (mkF m 219 #[iv i0, iv i1, iv i2, jv i3, s_, rv b1, iv (1 : Int32), iv (3 : Int32), iv (4 : Int32), iv v1636, jv v1685, s_, jv v1688, s_, iv (1 : Int32), jv (0 : Int64), s_, iv v1692, u_] ((.int (f4_9 v1692)) :: (.long (0 : Int64)) :: []))
     obtain ⟨v1713, hv1713⟩ : ∃ z, z = f4_9 v1692 := ⟨_, rfl⟩
     rw [← hv1713]
     refine k_i2l X1712 hx 220 (D at_219) (fun v1714 hv1714 => ?_)
     refine k_laddL X1712 hx 221 (D at_220) (z := v1714) (Int64.zero_add _) ?_
     refine k_lstore X1712 hx 223 (D at_221) (Ls' := #[iv i0, iv i1, iv i2, jv i3, s_, rv b1, iv (1 : Int32), iv (3 : Int32), iv (4 : Int32), iv v1636, jv v1685, s_, jv v1688, s_, iv (1 : Int32), jv v1714, s_, iv v1692, u_]) rfl ?_
     refine key1690 T1712 _ _ _ (1 : Int32) v1714 v1692 X1712 e1712 N1712' (by decide) (by decide) ?_
     have B1720 : (-2147483648 : Int) ≤ i2.toInt ∧ i2.toInt ≤ 2147483647 := ⟨(rng32 i2).1, Int.le_of_lt_add_one (rng32 i2).2⟩
     have B1721 : (-2147483648 : Int) ≤ i0.toInt ∧ i0.toInt ≤ 2147483647 := ⟨(rng32 i0).1, Int.le_of_lt_add_one (rng32 i0).2⟩
     have B1722 : (-2147483648 : Int) ≤ i1.toInt ∧ i1.toInt ≤ 2147483647 := ⟨(rng32 i1).1, Int.le_of_lt_add_one (rng32 i1).2⟩
     have B1717 : (-128 : Int) ≤ v7.toInt ∧ v7.toInt ≤ 127 := (by rw [← hb8]; exact ⟨(c_i2b _).2.1, Int.le_of_lt_add_one (c_i2b _).2.2⟩)
     have q1716 := own_fd v7 ⟨Int.le_trans (by decide) B1717.1, Int.le_trans B1717.2 (by decide)⟩; rw [← hv1692] at q1716
     have B1715 : (-1 : Int) ≤ v1692.toInt ∧ v1692.toInt ≤ 9 := q1716.2
     have B1723 : (0 : Int) ≤ v1692.toInt ∧ v1692.toInt ≤ 9 := ⟨k_ge hc1693 (by decide), B1715.2⟩
     have q1727 := own_mx v1692 ⟨Int.le_trans (by decide) B1723.1, Int.le_trans B1723.2 (by decide)⟩; rw [← hv1713] at q1727
     have B1726 : (0 : Int) ≤ v1713.toInt ∧ v1713.toInt ≤ 9 := q1727.2
     have q1725 : v1714.toInt = v1713.toInt := (by rw [hv1714]; exact c_i2l _)
     have B1724 : (0 : Int) ≤ v1714.toInt ∧ v1714.toInt ≤ 9 := (by rw [q1725]; exact B1726)
     refine ⟨⟨fun hq1728 => ?_, fun hq1729 => ?_⟩, ?_⟩
     · rw [Int64.lt_iff_toInt_lt, show (0 : Int64).toInt = 0 from rfl] at hq1728; omega
     · rw [Int64.lt_iff_toInt_lt, show (9 : Int64).toInt = 9 from rfl] at hq1729; omega
     · exact Or.inl ⟨rfl, by omega⟩
   intro T1730 lo1730 ce1730 sl1730 v1731 v1732 v1733 X1730 e1730 N1730 hce1730 hsl1730 hP1734
   refine k_iload X1730 hx 225 (D at_223) rfl ?_
   refine k_iconst X1730 hx 226 (D at_225) (z := (1 : Int32)) rfl ?_
   refine k_icmp_le X1730 hx 229 274 (D at_226) (fun hc => absurd (by decide) hc) (fun _ => ?_)
   suffices key1735 : ∀ (T1826 : State) (lo1826 : List Loc) (ce1826 sl1826 : Nat) (v1827 : Int32) (v1828 : Int64) (v1829 : Int32), Stand p l e room_1 s m #[(.int i0), (.int i1), (.int i2), (.long i3)] below meth c T1826 lo1826 ce1826 sl1826 → T1826.heap = h21 → Fr n0 lo1826 → ce1826 ≤ 16 → sl1826 ≤ 128 → ((¬ v1828 < 0 ∧ ¬ (99 : Int64) < v1828) ∧ ((v1827.toInt = 1 ∧ ((48 ≤ v7.toInt ∧ v7.toInt ≤ 57) ∧ (48 ≤ v11.toInt ∧ v11.toInt ≤ 57)) ∧ v1828.toInt = 10 * (v7.toInt - 48) + 1 * (v11.toInt - 48)) ∨ (v1827.toInt = 0 ∧ ¬ ((48 ≤ v7.toInt ∧ v7.toInt ≤ 57) ∧ (48 ≤ v11.toInt ∧ v11.toInt ≤ 57))))) → KEnds p e below s 16 128 (Q0 n0) T1826 (mkF m 274 #[iv i0, iv i1, iv i2, jv i3, s_, rv b1, iv (1 : Int32), iv (3 : Int32), iv (4 : Int32), iv v1636, jv v1685, s_, jv v1688, s_, iv v1827, jv v1828, s_, iv v1829, u_] []) by
    refine k_aload X1730 hx 231 (D at_229) rfl rfl ?_
    refine k_iload X1730 hx 233 (D at_231) rfl ?_
    refine k_iconst X1730 hx 234 (D at_233) (z := (1 : Int32)) rfl ?_
    refine k_iaddL X1730 hx 235 (D at_234) (z := (2 : Int32)) (by decide) ?_
    refine k_baload X1730 hx hZ 236 e1730 Vw21 ⟨by decide, by decide⟩ (v := (.int v11)) rfl (D at_235) ?_
    refine k_callS X1730 hx hZ hown 239 (k_w hw 13 rfl) (k_w hw 14 rfl) (k_w hw 3 rfl) (k_w hw 15 rfl) (by decide) (rm3_8 l Z a0 hw [] v11 h21 n0 Z21 ) (by decide) (by decide) e1730 (by rw [hml]; rfl) (argsL := [(.int v11)]) (rest := []) (lenOf pd_2 rfl) rfl (W := 0) (Nat.le_refl _) rfl (D at_236) (by show _ + 0 ≤ _; exact Nat.le_trans hce1730 (by decide)) (by show _ + 0 ≤ _; exact Nat.le_trans hsl1730 (by decide)) (fun T1736 L1736 r1736 X1736 q1736 => ?_)
    obtain ⟨N1736, e1736, rfl⟩ := q1736
    have N1736' := Fr.app N1730 N1736
    show KEnds p e below s _ _ _ T1736 (mkF m 239 #[iv i0, iv i1, iv i2, jv i3, s_, rv b1, iv (1 : Int32), iv (3 : Int32), iv (4 : Int32), iv v1636, jv v1685, s_, jv v1688, s_, iv v1731, jv v1732, s_, iv v1733, u_] ((.int (f3_8 v11)) :: []))
    obtain ⟨v1737, hv1737⟩ : ∃ z, z = f3_8 v11 := ⟨_, rfl⟩
    rw [← hv1737]
    refine k_istore X1736 hx 241 (D at_239) (Ls' := #[iv i0, iv i1, iv i2, jv i3, s_, rv b1, iv (1 : Int32), iv (3 : Int32), iv (4 : Int32), iv v1636, jv v1685, s_, jv v1688, s_, iv v1731, jv v1732, s_, iv v1737, u_]) rfl ?_
    refine k_iload X1736 hx 243 (D at_241) rfl ?_
    refine k_if_eq X1736 hx 246 255 (D at_243) (fun hc1738 => ?_) (fun hc1738 => ?_)
    ·
     refine k_iconst X1736 hx 256 (D at_255) (z := (0 : Int32)) rfl ?_
     refine k_istore X1736 hx 258 (D at_256) (Ls' := #[iv i0, iv i1, iv i2, jv i3, s_, rv b1, iv (1 : Int32), iv (3 : Int32), iv (4 : Int32), iv v1636, jv v1685, s_, jv v1688, s_, iv (0 : Int32), jv v1732, s_, iv v1737, u_]) rfl ?_
     refine k_ldcL X1736 hx hZ hown 261 (k_w hw 16 rfl) (D at_258) ?_
     refine k_lload X1736 hx 263 (D at_261) rfl ?_
     refine k_lmul X1736 hx 264 (D at_263) (fun v1739 hv1739 => ?_)
     refine k_iload X1736 hx 266 (D at_264) rfl ?_
     refine k_iconst X1736 hx 267 (D at_266) (z := (0 : Int32)) rfl ?_
     refine k_callS X1736 hx hZ hown 270 (k_w hw 17 rfl) (k_w hw 18 rfl) (k_w hw 19 rfl) (k_w hw 20 rfl) (by decide) (rm4_9 l Z a0 hw [] v1737 h21 n0 Z21 ) (by decide) (by decide) e1736 (by rw [hml]; rfl) (argsL := [(.int v1737), (.int (0 : Int32))]) (rest := [(.long v1739)]) (lenOf pd_3 rfl) rfl (W := 2) (Nat.le_refl _) rfl (D at_267) (by show _ + 0 ≤ _; exact Nat.le_trans hce1730 (by decide)) (by show _ + 0 ≤ _; exact Nat.le_trans hsl1730 (by decide)) (fun T1740 L1740 r1740 X1740 q1740 => ?_)
     obtain ⟨N1740, e1740, rfl⟩ := q1740
     have N1740' := Fr.app N1736' N1740
     show KEnds p e below s _ _ _ T1740 (mkF m 270 #[iv i0, iv i1, iv i2, jv i3, s_, rv b1, iv (1 : Int32), iv (3 : Int32), iv (4 : Int32), iv v1636, jv v1685, s_, jv v1688, s_, iv (0 : Int32), jv v1732, s_, iv v1737, u_] ((.int (f4_9 v1737)) :: (.long v1739) :: []))
     obtain ⟨v1741, hv1741⟩ : ∃ z, z = f4_9 v1737 := ⟨_, rfl⟩
     rw [← hv1741]
     refine k_i2l X1740 hx 271 (D at_270) (fun v1742 hv1742 => ?_)
     refine k_ladd X1740 hx 272 (D at_271) (fun v1743 hv1743 => ?_)
     refine k_lstore X1740 hx 274 (D at_272) (Ls' := #[iv i0, iv i1, iv i2, jv i3, s_, rv b1, iv (1 : Int32), iv (3 : Int32), iv (4 : Int32), iv v1636, jv v1685, s_, jv v1688, s_, iv (0 : Int32), jv v1743, s_, iv v1737, u_]) rfl ?_
     refine key1735 T1740 _ _ _ (0 : Int32) v1743 v1737 X1740 e1740 N1740' hce1730 hsl1730 ?_
     have B1744 : (0 : Int) ≤ v1732.toInt ∧ v1732.toInt ≤ 9 := ⟨kL_ge hP1734.1.1 (by decide), kL_le hP1734.1.2 (by decide)⟩
     have B1745 : (-2147483648 : Int) ≤ v1731.toInt ∧ v1731.toInt ≤ 2147483647 := ⟨(rng32 v1731).1, Int.le_of_lt_add_one (rng32 v1731).2⟩
     have B1746 : (0 : Int) ≤ (0 : Int32).toInt ∧ (0 : Int32).toInt ≤ 0 := (by decide)
     have q1747 := congrArg Int32.toInt hc1738
     have B1752 : (10 : Int) ≤ (10 : Int64).toInt ∧ (10 : Int64).toInt ≤ 10 := (by decide)
     have q1751 : v1739.toInt = 10 * v1732.toInt := (by have q0 := c_lmul (10 : Int64) v1732; have q1 := rng64 v1739; have q2 := B1744; rw [← hv1739] at q0; rw [show (10 : Int64).toInt = 10 from (by decide)] at q0; omega)
     have B1750 : (0 : Int) ≤ v1739.toInt ∧ v1739.toInt ≤ 90 := (by rw [q1751]; exact k_mulB B1744 (by decide))
     have B1762 : (-2147483648 : Int) ≤ i2.toInt ∧ i2.toInt ≤ 2147483647 := ⟨(rng32 i2).1, Int.le_of_lt_add_one (rng32 i2).2⟩
     have B1763 : (-2147483648 : Int) ≤ i0.toInt ∧ i0.toInt ≤ 2147483647 := ⟨(rng32 i0).1, Int.le_of_lt_add_one (rng32 i0).2⟩
     have B1764 : (-2147483648 : Int) ≤ i1.toInt ∧ i1.toInt ≤ 2147483647 := ⟨(rng32 i1).1, Int.le_of_lt_add_one (rng32 i1).2⟩
     have B1759 : (-128 : Int) ≤ v11.toInt ∧ v11.toInt ≤ 127 := (by rw [← hb12]; exact ⟨(c_i2b _).2.1, Int.le_of_lt_add_one (c_i2b _).2.2⟩)
     have q1758 := own_fd v11 ⟨Int.le_trans (by decide) B1759.1, Int.le_trans B1759.2 (by decide)⟩; rw [← hv1737] at q1758
     have B1757 : (-1 : Int) ≤ v1737.toInt ∧ v1737.toInt ≤ 9 := q1758.2
     have q1756 := own_mx v1737 ⟨Int.le_trans (by decide) B1757.1, Int.le_trans B1757.2 (by decide)⟩; rw [← hv1741] at q1756
     have B1755 : (0 : Int) ≤ v1741.toInt ∧ v1741.toInt ≤ 9 := q1756.2
     have q1754 : v1742.toInt = v1741.toInt := (by rw [hv1742]; exact c_i2l _)
     have B1753 : (0 : Int) ≤ v1742.toInt ∧ v1742.toInt ≤ 9 := (by rw [q1754]; exact B1755)
     have q1749 : v1743.toInt = v1739.toInt + v1742.toInt := k_laddx hv1743 B1750 B1753 (by decide) (by decide)
     have B1748 : (0 : Int) ≤ v1743.toInt ∧ v1743.toInt ≤ 99 := k_addB q1749 B1750 B1753
     refine ⟨⟨fun hq1765 => ?_, fun hq1766 => ?_⟩, ?_⟩
     · rw [Int64.lt_iff_toInt_lt, show (0 : Int64).toInt = 0 from rfl] at hq1765; omega
     · rw [Int64.lt_iff_toInt_lt, show (99 : Int64).toInt = 99 from rfl] at hq1766; omega
     · exact Or.inr ⟨rfl, by omega⟩
    ·
     refine k_iload X1736 hx 248 (D at_246) rfl ?_
     refine k_if_lt X1736 hx 251 255 (D at_248) (fun hc1767 => ?_) (fun hc1767 => ?_)
     ·
      refine k_iconst X1736 hx 256 (D at_255) (z := (0 : Int32)) rfl ?_
      refine k_istore X1736 hx 258 (D at_256) (Ls' := #[iv i0, iv i1, iv i2, jv i3, s_, rv b1, iv (1 : Int32), iv (3 : Int32), iv (4 : Int32), iv v1636, jv v1685, s_, jv v1688, s_, iv (0 : Int32), jv v1732, s_, iv v1737, u_]) rfl ?_
      refine k_ldcL X1736 hx hZ hown 261 (k_w hw 16 rfl) (D at_258) ?_
      refine k_lload X1736 hx 263 (D at_261) rfl ?_
      refine k_lmul X1736 hx 264 (D at_263) (fun v1768 hv1768 => ?_)
      refine k_iload X1736 hx 266 (D at_264) rfl ?_
      refine k_iconst X1736 hx 267 (D at_266) (z := (0 : Int32)) rfl ?_
      refine k_callS X1736 hx hZ hown 270 (k_w hw 17 rfl) (k_w hw 18 rfl) (k_w hw 19 rfl) (k_w hw 20 rfl) (by decide) (rm4_9 l Z a0 hw [] v1737 h21 n0 Z21 ) (by decide) (by decide) e1736 (by rw [hml]; rfl) (argsL := [(.int v1737), (.int (0 : Int32))]) (rest := [(.long v1768)]) (lenOf pd_3 rfl) rfl (W := 2) (Nat.le_refl _) rfl (D at_267) (by show _ + 0 ≤ _; exact Nat.le_trans hce1730 (by decide)) (by show _ + 0 ≤ _; exact Nat.le_trans hsl1730 (by decide)) (fun T1769 L1769 r1769 X1769 q1769 => ?_)
      obtain ⟨N1769, e1769, rfl⟩ := q1769
      have N1769' := Fr.app N1736' N1769
      show KEnds p e below s _ _ _ T1769 (mkF m 270 #[iv i0, iv i1, iv i2, jv i3, s_, rv b1, iv (1 : Int32), iv (3 : Int32), iv (4 : Int32), iv v1636, jv v1685, s_, jv v1688, s_, iv (0 : Int32), jv v1732, s_, iv v1737, u_] ((.int (f4_9 v1737)) :: (.long v1768) :: []))
      obtain ⟨v1770, hv1770⟩ : ∃ z, z = f4_9 v1737 := ⟨_, rfl⟩
      rw [← hv1770]
      refine k_i2l X1769 hx 271 (D at_270) (fun v1771 hv1771 => ?_)
      refine k_ladd X1769 hx 272 (D at_271) (fun v1772 hv1772 => ?_)
      refine k_lstore X1769 hx 274 (D at_272) (Ls' := #[iv i0, iv i1, iv i2, jv i3, s_, rv b1, iv (1 : Int32), iv (3 : Int32), iv (4 : Int32), iv v1636, jv v1685, s_, jv v1688, s_, iv (0 : Int32), jv v1772, s_, iv v1737, u_]) rfl ?_
      refine key1735 T1769 _ _ _ (0 : Int32) v1772 v1737 X1769 e1769 N1769' hce1730 hsl1730 ?_
      have B1773 : (0 : Int) ≤ v1732.toInt ∧ v1732.toInt ≤ 9 := ⟨kL_ge hP1734.1.1 (by decide), kL_le hP1734.1.2 (by decide)⟩
      have B1774 : (-2147483648 : Int) ≤ v1731.toInt ∧ v1731.toInt ≤ 2147483647 := ⟨(rng32 v1731).1, Int.le_of_lt_add_one (rng32 v1731).2⟩
      have B1775 : (0 : Int) ≤ (0 : Int32).toInt ∧ (0 : Int32).toInt ≤ 0 := (by decide)
      have q1776 : ¬ v1731.toInt = (0 : Int32).toInt := fun q => hc1738 (Int32.toInt_inj.mp q)
      have B1782 : (-2147483648 : Int) ≤ i2.toInt ∧ i2.toInt ≤ 2147483647 := ⟨(rng32 i2).1, Int.le_of_lt_add_one (rng32 i2).2⟩
      have B1783 : (-2147483648 : Int) ≤ i0.toInt ∧ i0.toInt ≤ 2147483647 := ⟨(rng32 i0).1, Int.le_of_lt_add_one (rng32 i0).2⟩
      have B1784 : (-2147483648 : Int) ≤ i1.toInt ∧ i1.toInt ≤ 2147483647 := ⟨(rng32 i1).1, Int.le_of_lt_add_one (rng32 i1).2⟩
      have B1779 : (-128 : Int) ≤ v11.toInt ∧ v11.toInt ≤ 127 := (by rw [← hb12]; exact ⟨(c_i2b _).2.1, Int.le_of_lt_add_one (c_i2b _).2.2⟩)
      have q1778 := own_fd v11 ⟨Int.le_trans (by decide) B1779.1, Int.le_trans B1779.2 (by decide)⟩; rw [← hv1737] at q1778
      have B1777 : (-1 : Int) ≤ v1737.toInt ∧ v1737.toInt ≤ 9 := q1778.2
      have B1785 : (-1 : Int) ≤ v1737.toInt ∧ v1737.toInt ≤ -1 := ⟨B1777.1, k_lt hc1767 (by decide)⟩
      have B1790 : (10 : Int) ≤ (10 : Int64).toInt ∧ (10 : Int64).toInt ≤ 10 := (by decide)
      have q1789 : v1768.toInt = 10 * v1732.toInt := (by have q0 := c_lmul (10 : Int64) v1732; have q1 := rng64 v1768; have q2 := B1773; rw [← hv1768] at q0; rw [show (10 : Int64).toInt = 10 from (by decide)] at q0; omega)
      have B1788 : (0 : Int) ≤ v1768.toInt ∧ v1768.toInt ≤ 90 := (by rw [q1789]; exact k_mulB B1773 (by decide))
      have q1794 := own_mx v1737 ⟨Int.le_trans (by decide) B1785.1, Int.le_trans B1785.2 (by decide)⟩; rw [← hv1770] at q1794
      have B1793 : (0 : Int) ≤ v1770.toInt ∧ v1770.toInt ≤ 9 := q1794.2
      have q1792 : v1771.toInt = v1770.toInt := (by rw [hv1771]; exact c_i2l _)
      have B1791 : (0 : Int) ≤ v1771.toInt ∧ v1771.toInt ≤ 9 := (by rw [q1792]; exact B1793)
      have q1787 : v1772.toInt = v1768.toInt + v1771.toInt := k_laddx hv1772 B1788 B1791 (by decide) (by decide)
      have B1786 : (0 : Int) ≤ v1772.toInt ∧ v1772.toInt ≤ 99 := k_addB q1787 B1788 B1791
      refine ⟨⟨fun hq1795 => ?_, fun hq1796 => ?_⟩, ?_⟩
      · rw [Int64.lt_iff_toInt_lt, show (0 : Int64).toInt = 0 from rfl] at hq1795; omega
      · rw [Int64.lt_iff_toInt_lt, show (99 : Int64).toInt = 99 from rfl] at hq1796; omega
      · exact Or.inr ⟨rfl, by omega⟩
     ·
      refine k_iconst X1736 hx 252 (D at_251) (z := (1 : Int32)) rfl ?_
      refine k_goto X1736 hx 256 (D at_252) ?_
      refine k_istore X1736 hx 258 (D at_256) (Ls' := #[iv i0, iv i1, iv i2, jv i3, s_, rv b1, iv (1 : Int32), iv (3 : Int32), iv (4 : Int32), iv v1636, jv v1685, s_, jv v1688, s_, iv (1 : Int32), jv v1732, s_, iv v1737, u_]) rfl ?_
      refine k_ldcL X1736 hx hZ hown 261 (k_w hw 16 rfl) (D at_258) ?_
      refine k_lload X1736 hx 263 (D at_261) rfl ?_
      refine k_lmul X1736 hx 264 (D at_263) (fun v1797 hv1797 => ?_)
      refine k_iload X1736 hx 266 (D at_264) rfl ?_
      refine k_iconst X1736 hx 267 (D at_266) (z := (0 : Int32)) rfl ?_
      refine k_callS X1736 hx hZ hown 270 (k_w hw 17 rfl) (k_w hw 18 rfl) (k_w hw 19 rfl) (k_w hw 20 rfl) (by decide) (rm4_9 l Z a0 hw [] v1737 h21 n0 Z21 ) (by decide) (by decide) e1736 (by rw [hml]; rfl) (argsL := [(.int v1737), (.int (0 : Int32))]) (rest := [(.long v1797)]) (lenOf pd_3 rfl) rfl (W := 2) (Nat.le_refl _) rfl (D at_267) (by show _ + 0 ≤ _; exact Nat.le_trans hce1730 (by decide)) (by show _ + 0 ≤ _; exact Nat.le_trans hsl1730 (by decide)) (fun T1798 L1798 r1798 X1798 q1798 => ?_)
      obtain ⟨N1798, e1798, rfl⟩ := q1798
      have N1798' := Fr.app N1736' N1798
      show KEnds p e below s _ _ _ T1798 (mkF m 270 #[iv i0, iv i1, iv i2, jv i3, s_, rv b1, iv (1 : Int32), iv (3 : Int32), iv (4 : Int32), iv v1636, jv v1685, s_, jv v1688, s_, iv (1 : Int32), jv v1732, s_, iv v1737, u_] ((.int (f4_9 v1737)) :: (.long v1797) :: []))
      obtain ⟨v1799, hv1799⟩ : ∃ z, z = f4_9 v1737 := ⟨_, rfl⟩
      rw [← hv1799]
      refine k_i2l X1798 hx 271 (D at_270) (fun v1800 hv1800 => ?_)
      refine k_ladd X1798 hx 272 (D at_271) (fun v1801 hv1801 => ?_)
      refine k_lstore X1798 hx 274 (D at_272) (Ls' := #[iv i0, iv i1, iv i2, jv i3, s_, rv b1, iv (1 : Int32), iv (3 : Int32), iv (4 : Int32), iv v1636, jv v1685, s_, jv v1688, s_, iv (1 : Int32), jv v1801, s_, iv v1737, u_]) rfl ?_
      refine key1735 T1798 _ _ _ (1 : Int32) v1801 v1737 X1798 e1798 N1798' hce1730 hsl1730 ?_
      have B1802 : (0 : Int) ≤ v1732.toInt ∧ v1732.toInt ≤ 9 := ⟨kL_ge hP1734.1.1 (by decide), kL_le hP1734.1.2 (by decide)⟩
      have B1803 : (-2147483648 : Int) ≤ v1731.toInt ∧ v1731.toInt ≤ 2147483647 := ⟨(rng32 v1731).1, Int.le_of_lt_add_one (rng32 v1731).2⟩
      have B1804 : (0 : Int) ≤ (0 : Int32).toInt ∧ (0 : Int32).toInt ≤ 0 := (by decide)
      have q1805 : ¬ v1731.toInt = (0 : Int32).toInt := fun q => hc1738 (Int32.toInt_inj.mp q)
      have B1811 : (-2147483648 : Int) ≤ i2.toInt ∧ i2.toInt ≤ 2147483647 := ⟨(rng32 i2).1, Int.le_of_lt_add_one (rng32 i2).2⟩
      have B1812 : (-2147483648 : Int) ≤ i0.toInt ∧ i0.toInt ≤ 2147483647 := ⟨(rng32 i0).1, Int.le_of_lt_add_one (rng32 i0).2⟩
      have B1813 : (-2147483648 : Int) ≤ i1.toInt ∧ i1.toInt ≤ 2147483647 := ⟨(rng32 i1).1, Int.le_of_lt_add_one (rng32 i1).2⟩
      have B1808 : (-128 : Int) ≤ v11.toInt ∧ v11.toInt ≤ 127 := (by rw [← hb12]; exact ⟨(c_i2b _).2.1, Int.le_of_lt_add_one (c_i2b _).2.2⟩)
      have q1807 := own_fd v11 ⟨Int.le_trans (by decide) B1808.1, Int.le_trans B1808.2 (by decide)⟩; rw [← hv1737] at q1807
      have B1806 : (-1 : Int) ≤ v1737.toInt ∧ v1737.toInt ≤ 9 := q1807.2
      have B1814 : (0 : Int) ≤ v1737.toInt ∧ v1737.toInt ≤ 9 := ⟨k_ge hc1767 (by decide), B1806.2⟩
      have B1819 : (10 : Int) ≤ (10 : Int64).toInt ∧ (10 : Int64).toInt ≤ 10 := (by decide)
      have q1818 : v1797.toInt = 10 * v1732.toInt := (by have q0 := c_lmul (10 : Int64) v1732; have q1 := rng64 v1797; have q2 := B1802; rw [← hv1797] at q0; rw [show (10 : Int64).toInt = 10 from (by decide)] at q0; omega)
      have B1817 : (0 : Int) ≤ v1797.toInt ∧ v1797.toInt ≤ 90 := (by rw [q1818]; exact k_mulB B1802 (by decide))
      have q1823 := own_mx v1737 ⟨Int.le_trans (by decide) B1814.1, Int.le_trans B1814.2 (by decide)⟩; rw [← hv1799] at q1823
      have B1822 : (0 : Int) ≤ v1799.toInt ∧ v1799.toInt ≤ 9 := q1823.2
      have q1821 : v1800.toInt = v1799.toInt := (by rw [hv1800]; exact c_i2l _)
      have B1820 : (0 : Int) ≤ v1800.toInt ∧ v1800.toInt ≤ 9 := (by rw [q1821]; exact B1822)
      have q1816 : v1801.toInt = v1797.toInt + v1800.toInt := k_laddx hv1801 B1817 B1820 (by decide) (by decide)
      have B1815 : (0 : Int) ≤ v1801.toInt ∧ v1801.toInt ≤ 99 := k_addB q1816 B1817 B1820
      refine ⟨⟨fun hq1824 => ?_, fun hq1825 => ?_⟩, ?_⟩
      · rw [Int64.lt_iff_toInt_lt, show (0 : Int64).toInt = 0 from rfl] at hq1824; omega
      · rw [Int64.lt_iff_toInt_lt, show (99 : Int64).toInt = 99 from rfl] at hq1825; omega
      · exact Or.inl ⟨rfl, by omega⟩
   intro T1826 lo1826 ce1826 sl1826 v1827 v1828 v1829 X1826 e1826 N1826 hce1826 hsl1826 hP1830
   refine k_iload X1826 hx 276 (D at_274) rfl ?_
   refine k_iconst X1826 hx 277 (D at_276) (z := (2 : Int32)) rfl ?_
   refine k_icmp_le X1826 hx 280 325 (D at_277) (fun hc => absurd (by decide) hc) (fun _ => ?_)
   suffices key1831 : ∀ (T1922 : State) (lo1922 : List Loc) (ce1922 sl1922 : Nat) (v1923 : Int32) (v1924 : Int64) (v1925 : Int32), Stand p l e room_1 s m #[(.int i0), (.int i1), (.int i2), (.long i3)] below meth c T1922 lo1922 ce1922 sl1922 → T1922.heap = h21 → Fr n0 lo1922 → ce1922 ≤ 16 → sl1922 ≤ 128 → ((¬ v1924 < 0 ∧ ¬ (999 : Int64) < v1924) ∧ ((v1923.toInt = 1 ∧ ((48 ≤ v7.toInt ∧ v7.toInt ≤ 57) ∧ (48 ≤ v11.toInt ∧ v11.toInt ≤ 57) ∧ (48 ≤ v15.toInt ∧ v15.toInt ≤ 57)) ∧ v1924.toInt = 100 * (v7.toInt - 48) + 10 * (v11.toInt - 48) + 1 * (v15.toInt - 48)) ∨ (v1923.toInt = 0 ∧ ¬ ((48 ≤ v7.toInt ∧ v7.toInt ≤ 57) ∧ (48 ≤ v11.toInt ∧ v11.toInt ≤ 57) ∧ (48 ≤ v15.toInt ∧ v15.toInt ≤ 57))))) → KEnds p e below s 16 128 (Q0 n0) T1922 (mkF m 325 #[iv i0, iv i1, iv i2, jv i3, s_, rv b1, iv (1 : Int32), iv (3 : Int32), iv (4 : Int32), iv v1636, jv v1685, s_, jv v1688, s_, iv v1923, jv v1924, s_, iv v1925, u_] []) by
    refine k_aload X1826 hx 282 (D at_280) rfl rfl ?_
    refine k_iload X1826 hx 284 (D at_282) rfl ?_
    refine k_iconst X1826 hx 285 (D at_284) (z := (2 : Int32)) rfl ?_
    refine k_iaddL X1826 hx 286 (D at_285) (z := (3 : Int32)) (by decide) ?_
    refine k_baload X1826 hx hZ 287 e1826 Vw21 ⟨by decide, by decide⟩ (v := (.int v15)) rfl (D at_286) ?_
    refine k_callS X1826 hx hZ hown 290 (k_w hw 13 rfl) (k_w hw 14 rfl) (k_w hw 3 rfl) (k_w hw 15 rfl) (by decide) (rm3_8 l Z a0 hw [] v15 h21 n0 Z21 ) (by decide) (by decide) e1826 (by rw [hml]; rfl) (argsL := [(.int v15)]) (rest := []) (lenOf pd_2 rfl) rfl (W := 0) (Nat.le_refl _) rfl (D at_287) (by show _ + 0 ≤ _; exact Nat.le_trans hce1826 (by decide)) (by show _ + 0 ≤ _; exact Nat.le_trans hsl1826 (by decide)) (fun T1832 L1832 r1832 X1832 q1832 => ?_)
    obtain ⟨N1832, e1832, rfl⟩ := q1832
    have N1832' := Fr.app N1826 N1832
    show KEnds p e below s _ _ _ T1832 (mkF m 290 #[iv i0, iv i1, iv i2, jv i3, s_, rv b1, iv (1 : Int32), iv (3 : Int32), iv (4 : Int32), iv v1636, jv v1685, s_, jv v1688, s_, iv v1827, jv v1828, s_, iv v1829, u_] ((.int (f3_8 v15)) :: []))
    obtain ⟨v1833, hv1833⟩ : ∃ z, z = f3_8 v15 := ⟨_, rfl⟩
    rw [← hv1833]
    refine k_istore X1832 hx 292 (D at_290) (Ls' := #[iv i0, iv i1, iv i2, jv i3, s_, rv b1, iv (1 : Int32), iv (3 : Int32), iv (4 : Int32), iv v1636, jv v1685, s_, jv v1688, s_, iv v1827, jv v1828, s_, iv v1833, u_]) rfl ?_
    refine k_iload X1832 hx 294 (D at_292) rfl ?_
    refine k_if_eq X1832 hx 297 306 (D at_294) (fun hc1834 => ?_) (fun hc1834 => ?_)
    ·
     refine k_iconst X1832 hx 307 (D at_306) (z := (0 : Int32)) rfl ?_
     refine k_istore X1832 hx 309 (D at_307) (Ls' := #[iv i0, iv i1, iv i2, jv i3, s_, rv b1, iv (1 : Int32), iv (3 : Int32), iv (4 : Int32), iv v1636, jv v1685, s_, jv v1688, s_, iv (0 : Int32), jv v1828, s_, iv v1833, u_]) rfl ?_
     refine k_ldcL X1832 hx hZ hown 312 (k_w hw 16 rfl) (D at_309) ?_
     refine k_lload X1832 hx 314 (D at_312) rfl ?_
     refine k_lmul X1832 hx 315 (D at_314) (fun v1835 hv1835 => ?_)
     refine k_iload X1832 hx 317 (D at_315) rfl ?_
     refine k_iconst X1832 hx 318 (D at_317) (z := (0 : Int32)) rfl ?_
     refine k_callS X1832 hx hZ hown 321 (k_w hw 17 rfl) (k_w hw 18 rfl) (k_w hw 19 rfl) (k_w hw 20 rfl) (by decide) (rm4_9 l Z a0 hw [] v1833 h21 n0 Z21 ) (by decide) (by decide) e1832 (by rw [hml]; rfl) (argsL := [(.int v1833), (.int (0 : Int32))]) (rest := [(.long v1835)]) (lenOf pd_3 rfl) rfl (W := 2) (Nat.le_refl _) rfl (D at_318) (by show _ + 0 ≤ _; exact Nat.le_trans hce1826 (by decide)) (by show _ + 0 ≤ _; exact Nat.le_trans hsl1826 (by decide)) (fun T1836 L1836 r1836 X1836 q1836 => ?_)
     obtain ⟨N1836, e1836, rfl⟩ := q1836
     have N1836' := Fr.app N1832' N1836
     show KEnds p e below s _ _ _ T1836 (mkF m 321 #[iv i0, iv i1, iv i2, jv i3, s_, rv b1, iv (1 : Int32), iv (3 : Int32), iv (4 : Int32), iv v1636, jv v1685, s_, jv v1688, s_, iv (0 : Int32), jv v1828, s_, iv v1833, u_] ((.int (f4_9 v1833)) :: (.long v1835) :: []))
     obtain ⟨v1837, hv1837⟩ : ∃ z, z = f4_9 v1833 := ⟨_, rfl⟩
     rw [← hv1837]
     refine k_i2l X1836 hx 322 (D at_321) (fun v1838 hv1838 => ?_)
     refine k_ladd X1836 hx 323 (D at_322) (fun v1839 hv1839 => ?_)
     refine k_lstore X1836 hx 325 (D at_323) (Ls' := #[iv i0, iv i1, iv i2, jv i3, s_, rv b1, iv (1 : Int32), iv (3 : Int32), iv (4 : Int32), iv v1636, jv v1685, s_, jv v1688, s_, iv (0 : Int32), jv v1839, s_, iv v1833, u_]) rfl ?_
     refine key1831 T1836 _ _ _ (0 : Int32) v1839 v1833 X1836 e1836 N1836' hce1826 hsl1826 ?_
     have B1840 : (0 : Int) ≤ v1828.toInt ∧ v1828.toInt ≤ 99 := ⟨kL_ge hP1830.1.1 (by decide), kL_le hP1830.1.2 (by decide)⟩
     have B1841 : (-2147483648 : Int) ≤ v1827.toInt ∧ v1827.toInt ≤ 2147483647 := ⟨(rng32 v1827).1, Int.le_of_lt_add_one (rng32 v1827).2⟩
     have B1842 : (0 : Int) ≤ (0 : Int32).toInt ∧ (0 : Int32).toInt ≤ 0 := (by decide)
     have q1843 := congrArg Int32.toInt hc1834
     have B1848 : (10 : Int) ≤ (10 : Int64).toInt ∧ (10 : Int64).toInt ≤ 10 := (by decide)
     have q1847 : v1835.toInt = 10 * v1828.toInt := (by have q0 := c_lmul (10 : Int64) v1828; have q1 := rng64 v1835; have q2 := B1840; rw [← hv1835] at q0; rw [show (10 : Int64).toInt = 10 from (by decide)] at q0; omega)
     have B1846 : (0 : Int) ≤ v1835.toInt ∧ v1835.toInt ≤ 990 := (by rw [q1847]; exact k_mulB B1840 (by decide))
     have B1858 : (-2147483648 : Int) ≤ i2.toInt ∧ i2.toInt ≤ 2147483647 := ⟨(rng32 i2).1, Int.le_of_lt_add_one (rng32 i2).2⟩
     have B1859 : (-2147483648 : Int) ≤ i0.toInt ∧ i0.toInt ≤ 2147483647 := ⟨(rng32 i0).1, Int.le_of_lt_add_one (rng32 i0).2⟩
     have B1860 : (-2147483648 : Int) ≤ i1.toInt ∧ i1.toInt ≤ 2147483647 := ⟨(rng32 i1).1, Int.le_of_lt_add_one (rng32 i1).2⟩
     have B1855 : (-128 : Int) ≤ v15.toInt ∧ v15.toInt ≤ 127 := (by rw [← hb16]; exact ⟨(c_i2b _).2.1, Int.le_of_lt_add_one (c_i2b _).2.2⟩)
     have q1854 := own_fd v15 ⟨Int.le_trans (by decide) B1855.1, Int.le_trans B1855.2 (by decide)⟩; rw [← hv1833] at q1854
     have B1853 : (-1 : Int) ≤ v1833.toInt ∧ v1833.toInt ≤ 9 := q1854.2
     have q1852 := own_mx v1833 ⟨Int.le_trans (by decide) B1853.1, Int.le_trans B1853.2 (by decide)⟩; rw [← hv1837] at q1852
     have B1851 : (0 : Int) ≤ v1837.toInt ∧ v1837.toInt ≤ 9 := q1852.2
     have q1850 : v1838.toInt = v1837.toInt := (by rw [hv1838]; exact c_i2l _)
     have B1849 : (0 : Int) ≤ v1838.toInt ∧ v1838.toInt ≤ 9 := (by rw [q1850]; exact B1851)
     have q1845 : v1839.toInt = v1835.toInt + v1838.toInt := k_laddx hv1839 B1846 B1849 (by decide) (by decide)
     have B1844 : (0 : Int) ≤ v1839.toInt ∧ v1839.toInt ≤ 999 := k_addB q1845 B1846 B1849
     refine ⟨⟨fun hq1861 => ?_, fun hq1862 => ?_⟩, ?_⟩
     · rw [Int64.lt_iff_toInt_lt, show (0 : Int64).toInt = 0 from rfl] at hq1861; omega
     · rw [Int64.lt_iff_toInt_lt, show (999 : Int64).toInt = 999 from rfl] at hq1862; omega
     · exact Or.inr ⟨rfl, by omega⟩
    ·
     refine k_iload X1832 hx 299 (D at_297) rfl ?_
     refine k_if_lt X1832 hx 302 306 (D at_299) (fun hc1863 => ?_) (fun hc1863 => ?_)
     ·
      refine k_iconst X1832 hx 307 (D at_306) (z := (0 : Int32)) rfl ?_
      refine k_istore X1832 hx 309 (D at_307) (Ls' := #[iv i0, iv i1, iv i2, jv i3, s_, rv b1, iv (1 : Int32), iv (3 : Int32), iv (4 : Int32), iv v1636, jv v1685, s_, jv v1688, s_, iv (0 : Int32), jv v1828, s_, iv v1833, u_]) rfl ?_
      refine k_ldcL X1832 hx hZ hown 312 (k_w hw 16 rfl) (D at_309) ?_
      refine k_lload X1832 hx 314 (D at_312) rfl ?_
      refine k_lmul X1832 hx 315 (D at_314) (fun v1864 hv1864 => ?_)
      refine k_iload X1832 hx 317 (D at_315) rfl ?_
      refine k_iconst X1832 hx 318 (D at_317) (z := (0 : Int32)) rfl ?_
      refine k_callS X1832 hx hZ hown 321 (k_w hw 17 rfl) (k_w hw 18 rfl) (k_w hw 19 rfl) (k_w hw 20 rfl) (by decide) (rm4_9 l Z a0 hw [] v1833 h21 n0 Z21 ) (by decide) (by decide) e1832 (by rw [hml]; rfl) (argsL := [(.int v1833), (.int (0 : Int32))]) (rest := [(.long v1864)]) (lenOf pd_3 rfl) rfl (W := 2) (Nat.le_refl _) rfl (D at_318) (by show _ + 0 ≤ _; exact Nat.le_trans hce1826 (by decide)) (by show _ + 0 ≤ _; exact Nat.le_trans hsl1826 (by decide)) (fun T1865 L1865 r1865 X1865 q1865 => ?_)
      obtain ⟨N1865, e1865, rfl⟩ := q1865
      have N1865' := Fr.app N1832' N1865
      show KEnds p e below s _ _ _ T1865 (mkF m 321 #[iv i0, iv i1, iv i2, jv i3, s_, rv b1, iv (1 : Int32), iv (3 : Int32), iv (4 : Int32), iv v1636, jv v1685, s_, jv v1688, s_, iv (0 : Int32), jv v1828, s_, iv v1833, u_] ((.int (f4_9 v1833)) :: (.long v1864) :: []))
      obtain ⟨v1866, hv1866⟩ : ∃ z, z = f4_9 v1833 := ⟨_, rfl⟩
      rw [← hv1866]
      refine k_i2l X1865 hx 322 (D at_321) (fun v1867 hv1867 => ?_)
      refine k_ladd X1865 hx 323 (D at_322) (fun v1868 hv1868 => ?_)
      refine k_lstore X1865 hx 325 (D at_323) (Ls' := #[iv i0, iv i1, iv i2, jv i3, s_, rv b1, iv (1 : Int32), iv (3 : Int32), iv (4 : Int32), iv v1636, jv v1685, s_, jv v1688, s_, iv (0 : Int32), jv v1868, s_, iv v1833, u_]) rfl ?_
      refine key1831 T1865 _ _ _ (0 : Int32) v1868 v1833 X1865 e1865 N1865' hce1826 hsl1826 ?_
      have B1869 : (0 : Int) ≤ v1828.toInt ∧ v1828.toInt ≤ 99 := ⟨kL_ge hP1830.1.1 (by decide), kL_le hP1830.1.2 (by decide)⟩
      have B1870 : (-2147483648 : Int) ≤ v1827.toInt ∧ v1827.toInt ≤ 2147483647 := ⟨(rng32 v1827).1, Int.le_of_lt_add_one (rng32 v1827).2⟩
      have B1871 : (0 : Int) ≤ (0 : Int32).toInt ∧ (0 : Int32).toInt ≤ 0 := (by decide)
      have q1872 : ¬ v1827.toInt = (0 : Int32).toInt := fun q => hc1834 (Int32.toInt_inj.mp q)
      have B1878 : (-2147483648 : Int) ≤ i2.toInt ∧ i2.toInt ≤ 2147483647 := ⟨(rng32 i2).1, Int.le_of_lt_add_one (rng32 i2).2⟩
      have B1879 : (-2147483648 : Int) ≤ i0.toInt ∧ i0.toInt ≤ 2147483647 := ⟨(rng32 i0).1, Int.le_of_lt_add_one (rng32 i0).2⟩
      have B1880 : (-2147483648 : Int) ≤ i1.toInt ∧ i1.toInt ≤ 2147483647 := ⟨(rng32 i1).1, Int.le_of_lt_add_one (rng32 i1).2⟩
      have B1875 : (-128 : Int) ≤ v15.toInt ∧ v15.toInt ≤ 127 := (by rw [← hb16]; exact ⟨(c_i2b _).2.1, Int.le_of_lt_add_one (c_i2b _).2.2⟩)
      have q1874 := own_fd v15 ⟨Int.le_trans (by decide) B1875.1, Int.le_trans B1875.2 (by decide)⟩; rw [← hv1833] at q1874
      have B1873 : (-1 : Int) ≤ v1833.toInt ∧ v1833.toInt ≤ 9 := q1874.2
      have B1881 : (-1 : Int) ≤ v1833.toInt ∧ v1833.toInt ≤ -1 := ⟨B1873.1, k_lt hc1863 (by decide)⟩
      have B1886 : (10 : Int) ≤ (10 : Int64).toInt ∧ (10 : Int64).toInt ≤ 10 := (by decide)
      have q1885 : v1864.toInt = 10 * v1828.toInt := (by have q0 := c_lmul (10 : Int64) v1828; have q1 := rng64 v1864; have q2 := B1869; rw [← hv1864] at q0; rw [show (10 : Int64).toInt = 10 from (by decide)] at q0; omega)
      have B1884 : (0 : Int) ≤ v1864.toInt ∧ v1864.toInt ≤ 990 := (by rw [q1885]; exact k_mulB B1869 (by decide))
      have q1890 := own_mx v1833 ⟨Int.le_trans (by decide) B1881.1, Int.le_trans B1881.2 (by decide)⟩; rw [← hv1866] at q1890
      have B1889 : (0 : Int) ≤ v1866.toInt ∧ v1866.toInt ≤ 9 := q1890.2
      have q1888 : v1867.toInt = v1866.toInt := (by rw [hv1867]; exact c_i2l _)
      have B1887 : (0 : Int) ≤ v1867.toInt ∧ v1867.toInt ≤ 9 := (by rw [q1888]; exact B1889)
      have q1883 : v1868.toInt = v1864.toInt + v1867.toInt := k_laddx hv1868 B1884 B1887 (by decide) (by decide)
      have B1882 : (0 : Int) ≤ v1868.toInt ∧ v1868.toInt ≤ 999 := k_addB q1883 B1884 B1887
      refine ⟨⟨fun hq1891 => ?_, fun hq1892 => ?_⟩, ?_⟩
      · rw [Int64.lt_iff_toInt_lt, show (0 : Int64).toInt = 0 from rfl] at hq1891; omega
      · rw [Int64.lt_iff_toInt_lt, show (999 : Int64).toInt = 999 from rfl] at hq1892; omega
      · exact Or.inr ⟨rfl, by omega⟩
     ·
      refine k_iconst X1832 hx 303 (D at_302) (z := (1 : Int32)) rfl ?_
      refine k_goto X1832 hx 307 (D at_303) ?_
      refine k_istore X1832 hx 309 (D at_307) (Ls' := #[iv i0, iv i1, iv i2, jv i3, s_, rv b1, iv (1 : Int32), iv (3 : Int32), iv (4 : Int32), iv v1636, jv v1685, s_, jv v1688, s_, iv (1 : Int32), jv v1828, s_, iv v1833, u_]) rfl ?_
      refine k_ldcL X1832 hx hZ hown 312 (k_w hw 16 rfl) (D at_309) ?_
      refine k_lload X1832 hx 314 (D at_312) rfl ?_
      refine k_lmul X1832 hx 315 (D at_314) (fun v1893 hv1893 => ?_)
      refine k_iload X1832 hx 317 (D at_315) rfl ?_
      refine k_iconst X1832 hx 318 (D at_317) (z := (0 : Int32)) rfl ?_
      refine k_callS X1832 hx hZ hown 321 (k_w hw 17 rfl) (k_w hw 18 rfl) (k_w hw 19 rfl) (k_w hw 20 rfl) (by decide) (rm4_9 l Z a0 hw [] v1833 h21 n0 Z21 ) (by decide) (by decide) e1832 (by rw [hml]; rfl) (argsL := [(.int v1833), (.int (0 : Int32))]) (rest := [(.long v1893)]) (lenOf pd_3 rfl) rfl (W := 2) (Nat.le_refl _) rfl (D at_318) (by show _ + 0 ≤ _; exact Nat.le_trans hce1826 (by decide)) (by show _ + 0 ≤ _; exact Nat.le_trans hsl1826 (by decide)) (fun T1894 L1894 r1894 X1894 q1894 => ?_)
      obtain ⟨N1894, e1894, rfl⟩ := q1894
      have N1894' := Fr.app N1832' N1894
      show KEnds p e below s _ _ _ T1894 (mkF m 321 #[iv i0, iv i1, iv i2, jv i3, s_, rv b1, iv (1 : Int32), iv (3 : Int32), iv (4 : Int32), iv v1636, jv v1685, s_, jv v1688, s_, iv (1 : Int32), jv v1828, s_, iv v1833, u_] ((.int (f4_9 v1833)) :: (.long v1893) :: []))
      obtain ⟨v1895, hv1895⟩ : ∃ z, z = f4_9 v1833 := ⟨_, rfl⟩
      rw [← hv1895]
      refine k_i2l X1894 hx 322 (D at_321) (fun v1896 hv1896 => ?_)
      refine k_ladd X1894 hx 323 (D at_322) (fun v1897 hv1897 => ?_)
      refine k_lstore X1894 hx 325 (D at_323) (Ls' := #[iv i0, iv i1, iv i2, jv i3, s_, rv b1, iv (1 : Int32), iv (3 : Int32), iv (4 : Int32), iv v1636, jv v1685, s_, jv v1688, s_, iv (1 : Int32), jv v1897, s_, iv v1833, u_]) rfl ?_
      refine key1831 T1894 _ _ _ (1 : Int32) v1897 v1833 X1894 e1894 N1894' hce1826 hsl1826 ?_
      have B1898 : (0 : Int) ≤ v1828.toInt ∧ v1828.toInt ≤ 99 := ⟨kL_ge hP1830.1.1 (by decide), kL_le hP1830.1.2 (by decide)⟩
      have B1899 : (-2147483648 : Int) ≤ v1827.toInt ∧ v1827.toInt ≤ 2147483647 := ⟨(rng32 v1827).1, Int.le_of_lt_add_one (rng32 v1827).2⟩
      have B1900 : (0 : Int) ≤ (0 : Int32).toInt ∧ (0 : Int32).toInt ≤ 0 := (by decide)
      have q1901 : ¬ v1827.toInt = (0 : Int32).toInt := fun q => hc1834 (Int32.toInt_inj.mp q)
      have B1907 : (-2147483648 : Int) ≤ i2.toInt ∧ i2.toInt ≤ 2147483647 := ⟨(rng32 i2).1, Int.le_of_lt_add_one (rng32 i2).2⟩
      have B1908 : (-2147483648 : Int) ≤ i0.toInt ∧ i0.toInt ≤ 2147483647 := ⟨(rng32 i0).1, Int.le_of_lt_add_one (rng32 i0).2⟩
      have B1909 : (-2147483648 : Int) ≤ i1.toInt ∧ i1.toInt ≤ 2147483647 := ⟨(rng32 i1).1, Int.le_of_lt_add_one (rng32 i1).2⟩
      have B1904 : (-128 : Int) ≤ v15.toInt ∧ v15.toInt ≤ 127 := (by rw [← hb16]; exact ⟨(c_i2b _).2.1, Int.le_of_lt_add_one (c_i2b _).2.2⟩)
      have q1903 := own_fd v15 ⟨Int.le_trans (by decide) B1904.1, Int.le_trans B1904.2 (by decide)⟩; rw [← hv1833] at q1903
      have B1902 : (-1 : Int) ≤ v1833.toInt ∧ v1833.toInt ≤ 9 := q1903.2
      have B1910 : (0 : Int) ≤ v1833.toInt ∧ v1833.toInt ≤ 9 := ⟨k_ge hc1863 (by decide), B1902.2⟩
      have B1915 : (10 : Int) ≤ (10 : Int64).toInt ∧ (10 : Int64).toInt ≤ 10 := (by decide)
      have q1914 : v1893.toInt = 10 * v1828.toInt := (by have q0 := c_lmul (10 : Int64) v1828; have q1 := rng64 v1893; have q2 := B1898; rw [← hv1893] at q0; rw [show (10 : Int64).toInt = 10 from (by decide)] at q0; omega)
      have B1913 : (0 : Int) ≤ v1893.toInt ∧ v1893.toInt ≤ 990 := (by rw [q1914]; exact k_mulB B1898 (by decide))
      have q1919 := own_mx v1833 ⟨Int.le_trans (by decide) B1910.1, Int.le_trans B1910.2 (by decide)⟩; rw [← hv1895] at q1919
      have B1918 : (0 : Int) ≤ v1895.toInt ∧ v1895.toInt ≤ 9 := q1919.2
      have q1917 : v1896.toInt = v1895.toInt := (by rw [hv1896]; exact c_i2l _)
      have B1916 : (0 : Int) ≤ v1896.toInt ∧ v1896.toInt ≤ 9 := (by rw [q1917]; exact B1918)
      have q1912 : v1897.toInt = v1893.toInt + v1896.toInt := k_laddx hv1897 B1913 B1916 (by decide) (by decide)
      have B1911 : (0 : Int) ≤ v1897.toInt ∧ v1897.toInt ≤ 999 := k_addB q1912 B1913 B1916
      refine ⟨⟨fun hq1920 => ?_, fun hq1921 => ?_⟩, ?_⟩
      · rw [Int64.lt_iff_toInt_lt, show (0 : Int64).toInt = 0 from rfl] at hq1920; omega
      · rw [Int64.lt_iff_toInt_lt, show (999 : Int64).toInt = 999 from rfl] at hq1921; omega
      · exact Or.inl ⟨rfl, by omega⟩
   intro T1922 lo1922 ce1922 sl1922 v1923 v1924 v1925 X1922 e1922 N1922 hce1922 hsl1922 hP1926
   refine k_iload X1922 hx 327 (D at_325) rfl ?_
   refine k_iconst X1922 hx 328 (D at_327) (z := (3 : Int32)) rfl ?_
   refine k_icmp_le X1922 hx 331 376 (D at_328) (fun _ => ?_) (fun hc => absurd hc (by decide))
   refine k_iload X1922 hx 378 (D at_376) rfl ?_
   refine k_if_eq X1922 hx 381 394 (D at_378) (fun hc1927 => ?_) (fun hc1927 => ?_)
   ·
    refine k_ldcL X1922 hx hZ hown 397 (k_w hw 11 rfl) (D at_394) ?_
    refine k_lstore X1922 hx 399 (D at_397) (Ls' := #[iv i0, iv i1, iv i2, jv i3, s_, rv b1, iv (1 : Int32), iv (3 : Int32), iv (4 : Int32), iv v1636, jv v1685, s_, jv v1688, s_, iv v1923, jv v1924, s_, jv (-1 : Int64), s_]) rfl ?_
    refine k_lload X1922 hx 401 (D at_399) rfl ?_
    refine k_lload X1922 hx 403 (D at_401) rfl ?_
    refine k_lcif_ne X1922 hx 407 411 404 (D at_403) (D at_404) (fun hc => absurd (Classical.byContradiction (fun hq1928 => by have B1929 : (0 : Int) ≤ v1685.toInt ∧ v1685.toInt ≤ 9223372036854775807 := ⟨kL_ge hP1686 (by decide), Int.le_of_lt_add_one (rng64 v1685).2⟩; have B1930 : (0 : Int) ≤ v1924.toInt ∧ v1924.toInt ≤ 999 := ⟨kL_ge hP1926.1.1 (by decide), kL_le hP1926.1.2 (by decide)⟩; have B1931 : (-2147483648 : Int) ≤ v1923.toInt ∧ v1923.toInt ≤ 2147483647 := ⟨(rng32 v1923).1, Int.le_of_lt_add_one (rng32 v1923).2⟩; have B1932 : (0 : Int) ≤ (0 : Int32).toInt ∧ (0 : Int32).toInt ≤ 0 := (by decide); have q1933 := congrArg Int32.toInt hc1927; have B1934 : (-9223372036854775808 : Int) ≤ v1688.toInt ∧ v1688.toInt ≤ 9223372036854775807 := ⟨(rng64 v1688).1, Int.le_of_lt_add_one (rng64 v1688).2⟩; have B1935 : (-1 : Int) ≤ (-1 : Int64).toInt ∧ (-1 : Int64).toInt ≤ -1 := (by decide); have q1936 : ¬ v1688.toInt = (-1 : Int64).toInt := fun q => hq1928 (Int64.toInt_inj.mp q); omega)) hc) (fun _ => ?_)
    refine k_iconst X1922 hx 408 (D at_407) (z := (1 : Int32)) rfl ?_
    refine k_goto X1922 hx 412 (D at_408) ?_
    exact k_retN X1922 hx (t := .boolean) hret (by simp) (D at_412) hlk (by first | exact hce1922 | exact Nat.le_trans (Nat.le_refl _) hce1922) (by first | exact hsl1922 | exact Nat.le_trans (Nat.le_refl _) hsl1922) (z' := (1 : Int32)) rfl ⟨rfl, N1922⟩
   ·
    refine k_lload X1922 hx 383 (D at_381) rfl ?_
    refine k_lload X1922 hx 385 (D at_383) rfl ?_
    refine k_lcif_gt X1922 hx 389 394 386 (D at_385) (D at_386) (fun hc1937 => ?_) (fun hc1937 => ?_)
    ·
     refine k_ldcL X1922 hx hZ hown 397 (k_w hw 11 rfl) (D at_394) ?_
     refine k_lstore X1922 hx 399 (D at_397) (Ls' := #[iv i0, iv i1, iv i2, jv i3, s_, rv b1, iv (1 : Int32), iv (3 : Int32), iv (4 : Int32), iv v1636, jv v1685, s_, jv v1688, s_, iv v1923, jv v1924, s_, jv (-1 : Int64), s_]) rfl ?_
     refine k_lload X1922 hx 401 (D at_399) rfl ?_
     refine k_lload X1922 hx 403 (D at_401) rfl ?_
     refine k_lcif_ne X1922 hx 407 411 404 (D at_403) (D at_404) (fun hc => absurd (Classical.byContradiction (fun hq1938 => by have B1939 : (0 : Int) ≤ v1685.toInt ∧ v1685.toInt ≤ 9223372036854775807 := ⟨kL_ge hP1686 (by decide), Int.le_of_lt_add_one (rng64 v1685).2⟩; have B1940 : (0 : Int) ≤ v1924.toInt ∧ v1924.toInt ≤ 999 := ⟨kL_ge hP1926.1.1 (by decide), kL_le hP1926.1.2 (by decide)⟩; have B1941 : (-2147483648 : Int) ≤ v1923.toInt ∧ v1923.toInt ≤ 2147483647 := ⟨(rng32 v1923).1, Int.le_of_lt_add_one (rng32 v1923).2⟩; have B1942 : (0 : Int) ≤ (0 : Int32).toInt ∧ (0 : Int32).toInt ≤ 0 := (by decide); have q1943 : ¬ v1923.toInt = (0 : Int32).toInt := fun q => hc1927 (Int32.toInt_inj.mp q); have q1944 := hc1937; rw [Int64.lt_iff_toInt_lt] at q1944; have B1945 : (-9223372036854775808 : Int) ≤ v1688.toInt ∧ v1688.toInt ≤ 9223372036854775807 := ⟨(rng64 v1688).1, Int.le_of_lt_add_one (rng64 v1688).2⟩; have B1946 : (-1 : Int) ≤ (-1 : Int64).toInt ∧ (-1 : Int64).toInt ≤ -1 := (by decide); have q1947 : ¬ v1688.toInt = (-1 : Int64).toInt := fun q => hq1938 (Int64.toInt_inj.mp q); omega)) hc) (fun _ => ?_)
     refine k_iconst X1922 hx 408 (D at_407) (z := (1 : Int32)) rfl ?_
     refine k_goto X1922 hx 412 (D at_408) ?_
     exact k_retN X1922 hx (t := .boolean) hret (by simp) (D at_412) hlk (by first | exact hce1922 | exact Nat.le_trans (Nat.le_refl _) hce1922) (by first | exact hsl1922 | exact Nat.le_trans (Nat.le_refl _) hsl1922) (z' := (1 : Int32)) rfl ⟨rfl, N1922⟩
    ·
     refine k_lload X1922 hx 391 (D at_389) rfl ?_
     refine k_goto X1922 hx 397 (D at_391) ?_
     refine k_lstore X1922 hx 399 (D at_397) (Ls' := #[iv i0, iv i1, iv i2, jv i3, s_, rv b1, iv (1 : Int32), iv (3 : Int32), iv (4 : Int32), iv v1636, jv v1685, s_, jv v1688, s_, iv v1923, jv v1924, s_, jv v1924, s_]) rfl ?_
     refine k_lload X1922 hx 401 (D at_399) rfl ?_
     refine k_lload X1922 hx 403 (D at_401) rfl ?_
     refine k_lcif_ne X1922 hx 407 411 404 (D at_403) (D at_404) (fun hc => absurd (Classical.byContradiction (fun hq1948 => by have B1949 : (0 : Int) ≤ v1685.toInt ∧ v1685.toInt ≤ 9223372036854775807 := ⟨kL_ge hP1686 (by decide), Int.le_of_lt_add_one (rng64 v1685).2⟩; have B1950 : (0 : Int) ≤ v1924.toInt ∧ v1924.toInt ≤ 999 := ⟨kL_ge hP1926.1.1 (by decide), kL_le hP1926.1.2 (by decide)⟩; have B1951 : (-2147483648 : Int) ≤ v1923.toInt ∧ v1923.toInt ≤ 2147483647 := ⟨(rng32 v1923).1, Int.le_of_lt_add_one (rng32 v1923).2⟩; have B1952 : (0 : Int) ≤ (0 : Int32).toInt ∧ (0 : Int32).toInt ≤ 0 := (by decide); have q1953 : ¬ v1923.toInt = (0 : Int32).toInt := fun q => hc1927 (Int32.toInt_inj.mp q); have q1954 := hc1937; rw [Int64.lt_iff_toInt_lt] at q1954; have B1955 : (-9223372036854775808 : Int) ≤ v1688.toInt ∧ v1688.toInt ≤ 9223372036854775807 := ⟨(rng64 v1688).1, Int.le_of_lt_add_one (rng64 v1688).2⟩; have q1956 : ¬ v1688.toInt = v1924.toInt := fun q => hq1948 (Int64.toInt_inj.mp q); omega)) hc) (fun _ => ?_)
     refine k_iconst X1922 hx 408 (D at_407) (z := (1 : Int32)) rfl ?_
     refine k_goto X1922 hx 412 (D at_408) ?_
     exact k_retN X1922 hx (t := .boolean) hret (by simp) (D at_412) hlk (by first | exact hce1922 | exact Nat.le_trans (Nat.le_refl _) hce1922) (by first | exact hsl1922 | exact Nat.le_trans (Nat.le_refl _) hsl1922) (z' := (1 : Int32)) rfl ⟨rfl, N1922⟩
  ·
   show KEnds p e below s _ _ _ T21 (mkF m 76 #[iv i0, iv i1, iv i2, jv i3, s_, rv b1, iv (1 : Int32), u_, u_, u_, u_, u_, u_, u_, u_, u_, u_, u_, u_] [(.int (4 : Int32))])
   refine k_istore X21 hx 78 (D at_76) (Ls' := #[iv i0, iv i1, iv i2, jv i3, s_, rv b1, iv (1 : Int32), iv (4 : Int32), u_, u_, u_, u_, u_, u_, u_, u_, u_, u_, u_]) rfl ?_
   refine k_iload X21 hx 80 (D at_78) rfl ?_
   refine k_iload X21 hx 82 (D at_80) rfl ?_
   refine k_iaddL X21 hx 83 (D at_82) (z := (5 : Int32)) (by decide) ?_
   refine k_istore X21 hx 85 (D at_83) (Ls' := #[iv i0, iv i1, iv i2, jv i3, s_, rv b1, iv (1 : Int32), iv (4 : Int32), iv (5 : Int32), u_, u_, u_, u_, u_, u_, u_, u_, u_, u_]) rfl ?_
   refine k_iloadN X21 hx 86 (D at_85) rfl ?_
   refine k_bipush X21 hx 88 (D at_86) (z := (9 : Int32)) rfl ?_
   refine k_iushr X21 hx 89 (D at_88) (fun v1958 hv1958 => ?_)
   refine k_iconst X21 hx 90 (D at_89) (z := (3 : Int32)) rfl ?_
   refine k_iand X21 hx 91 (D at_90) (fun v1959 hv1959 => ?_)
   refine k_istore X21 hx 93 (D at_91) (Ls' := #[iv i0, iv i1, iv i2, jv i3, s_, rv b1, iv (1 : Int32), iv (4 : Int32), iv (5 : Int32), iv v1959, u_, u_, u_, u_, u_, u_, u_, u_, u_]) rfl ?_
   suffices key1960 : ∀ (v2008 : Int64), (¬ v2008 < 0) → KEnds p e below s 16 128 (Q0 n0) T21 (mkF m 147 #[iv i0, iv i1, iv i2, jv i3, s_, rv b1, iv (1 : Int32), iv (4 : Int32), iv (5 : Int32), iv v1959, jv v2008, s_, u_, u_, u_, u_, u_, u_, u_] []) by
    refine k_iload X21 hx 95 (D at_93) rfl ?_
    refine k_if_ne X21 hx 98 108 (D at_95) (fun hc1961 => ?_) (fun hc1961 => ?_)
    ·
     refine k_iload X21 hx 110 (D at_108) rfl ?_
     refine k_iconst X21 hx 111 (D at_110) (z := (1 : Int32)) rfl ?_
     refine k_icmp_ne X21 hx 114 124 (D at_111) (fun hc1962 => ?_) (fun hc1962 => ?_)
     ·
      refine k_iload X21 hx 126 (D at_124) rfl ?_
      refine k_iconst X21 hx 127 (D at_126) (z := (2 : Int32)) rfl ?_
      refine k_icmp_ne X21 hx 130 140 (D at_127) (fun hc1963 => ?_) (fun hc1963 => ?_)
      ·
       refine k_lloadN X21 hx 141 (D at_140) rfl ?_
       refine k_ldcL X21 hx hZ hown 144 (k_w hw 21 rfl) (D at_141) ?_
       refine k_land X21 hx 145 (D at_144) (fun v1964 hv1964 => ?_)
       refine k_lstore X21 hx 147 (D at_145) (Ls' := #[iv i0, iv i1, iv i2, jv i3, s_, rv b1, iv (1 : Int32), iv (4 : Int32), iv (5 : Int32), iv v1959, jv v1964, s_, u_, u_, u_, u_, u_, u_, u_]) rfl ?_
       refine key1960 v1964 ?_
       intro hq1970
       have B1973 : (-9223372036854775808 : Int) ≤ i3.toInt ∧ i3.toInt ≤ 9223372036854775807 := ⟨(rng64 i3).1, Int.le_of_lt_add_one (rng64 i3).2⟩
       have q1972 : v1964.toInt = i3.toInt % 16 := (by rw [hv1964]; exact c_maskL _ _ 4 (by decide) (by decide))
       have B1971 : (0 : Int) ≤ v1964.toInt ∧ v1964.toInt ≤ 15 := (by rw [q1972]; exact k_modB (by decide))
       have B1974 : (0 : Int) ≤ v1964.toInt ∧ v1964.toInt ≤ -1 := ⟨B1971.1, kL_lt hq1970 (by decide)⟩
       omega
      ·
       refine k_lloadN X21 hx 131 (D at_130) rfl ?_
       refine k_ldcL X21 hx hZ hown 134 (k_w hw 23 rfl) (D at_131) ?_
       refine k_land X21 hx 135 (D at_134) (fun v1975 hv1975 => ?_)
       refine k_lstore X21 hx 137 (D at_135) (Ls' := #[iv i0, iv i1, iv i2, jv i3, s_, rv b1, iv (1 : Int32), iv (4 : Int32), iv (5 : Int32), iv v1959, jv v1975, s_, u_, u_, u_, u_, u_, u_, u_]) rfl ?_
       refine k_goto X21 hx 147 (D at_137) ?_
       refine key1960 v1975 ?_
       intro hq1981
       have B1984 : (-9223372036854775808 : Int) ≤ i3.toInt ∧ i3.toInt ≤ 9223372036854775807 := ⟨(rng64 i3).1, Int.le_of_lt_add_one (rng64 i3).2⟩
       have q1983 : v1975.toInt = i3.toInt % 128 := (by rw [hv1975]; exact c_maskL _ _ 7 (by decide) (by decide))
       have B1982 : (0 : Int) ≤ v1975.toInt ∧ v1975.toInt ≤ 127 := (by rw [q1983]; exact k_modB (by decide))
       have B1985 : (0 : Int) ≤ v1975.toInt ∧ v1975.toInt ≤ -1 := ⟨B1982.1, kL_lt hq1981 (by decide)⟩
       omega
     ·
      refine k_lloadN X21 hx 115 (D at_114) rfl ?_
      refine k_ldcL X21 hx hZ hown 118 (k_w hw 22 rfl) (D at_115) ?_
      refine k_land X21 hx 119 (D at_118) (fun v1986 hv1986 => ?_)
      refine k_lstore X21 hx 121 (D at_119) (Ls' := #[iv i0, iv i1, iv i2, jv i3, s_, rv b1, iv (1 : Int32), iv (4 : Int32), iv (5 : Int32), iv v1959, jv v1986, s_, u_, u_, u_, u_, u_, u_, u_]) rfl ?_
      refine k_goto X21 hx 147 (D at_121) ?_
      refine key1960 v1986 ?_
      intro hq1992
      have B1995 : (-9223372036854775808 : Int) ≤ i3.toInt ∧ i3.toInt ≤ 9223372036854775807 := ⟨(rng64 i3).1, Int.le_of_lt_add_one (rng64 i3).2⟩
      have q1994 : v1986.toInt = i3.toInt % 16384 := (by rw [hv1986]; exact c_maskL _ _ 14 (by decide) (by decide))
      have B1993 : (0 : Int) ≤ v1986.toInt ∧ v1986.toInt ≤ 16383 := (by rw [q1994]; exact k_modB (by decide))
      have B1996 : (0 : Int) ≤ v1986.toInt ∧ v1986.toInt ≤ -1 := ⟨B1993.1, kL_lt hq1992 (by decide)⟩
      omega
    ·
     refine k_lloadN X21 hx 99 (D at_98) rfl ?_
     refine k_ldcL X21 hx hZ hown 102 (k_w hw 5 rfl) (D at_99) ?_
     refine k_land X21 hx 103 (D at_102) (fun v1997 hv1997 => ?_)
     refine k_lstore X21 hx 105 (D at_103) (Ls' := #[iv i0, iv i1, iv i2, jv i3, s_, rv b1, iv (1 : Int32), iv (4 : Int32), iv (5 : Int32), iv v1959, jv v1997, s_, u_, u_, u_, u_, u_, u_, u_]) rfl ?_
     refine k_goto X21 hx 147 (D at_105) ?_
     refine key1960 v1997 ?_
     intro hq2003
     have B2006 : (-9223372036854775808 : Int) ≤ i3.toInt ∧ i3.toInt ≤ 9223372036854775807 := ⟨(rng64 i3).1, Int.le_of_lt_add_one (rng64 i3).2⟩
     have q2005 : v1997.toInt = i3.toInt % 9223372036854775808 := (by rw [hv1997]; exact c_maskL _ _ 63 (by decide) (by decide))
     have B2004 : (0 : Int) ≤ v1997.toInt ∧ v1997.toInt ≤ 9223372036854775807 := (by rw [q2005]; exact k_modB (by decide))
     have B2007 : (0 : Int) ≤ v1997.toInt ∧ v1997.toInt ≤ -1 := ⟨B2004.1, kL_lt hq2003 (by decide)⟩
     omega
   intro v2008 hP2009
   refine k_aload X21 hx 149 (D at_147) rfl rfl ?_
   refine k_iload X21 hx 151 (D at_149) rfl ?_
   refine k_iload X21 hx 153 (D at_151) rfl ?_
   refine k_lload X21 hx 155 (D at_153) rfl ?_
   refine k_callS X21 hx hZ hown 158 (k_w hw 6 rfl) (k_w hw 7 rfl) (k_w hw 8 rfl) (k_w hw 9 rfl) (by decide) (rm2_17 l Z a0 hw [] b1 v2008 k1 v3 v7 v11 v15 v19 h21 n0 Z21 Vw21 hP2009 (k_by1 hb8) (k_by2 hb8) (k_by1 hb12) (k_by2 hb12) (k_by1 hb16) (k_by2 hb16) (k_by1 hb20) (k_by2 hb20)) (by decide) (by decide) e21 (by rw [hml]; rfl) (argsL := [(.ref b1), (.int (1 : Int32)), (.int (5 : Int32)), (.long v2008)]) (rest := []) (lenOf pd_1 rfl) rfl (W := 0) (Nat.le_refl _) rfl (D at_155) (by decide) (by decide) (fun T2010 L2010 r2010 X2010 q2010 => ?_)
   obtain ⟨N2010, e2010, v2011, rfl, hS2012⟩ := q2010
   have N2010' := Fr.app N21 N2010
   show KEnds p e below s _ _ _ T2010 (mkF m 158 #[iv i0, iv i1, iv i2, jv i3, s_, rv b1, iv (1 : Int32), iv (4 : Int32), iv (5 : Int32), iv v1959, jv v2008, s_, u_, u_, u_, u_, u_, u_, u_] [(.long v2011)])
   refine k_lstore X2010 hx 160 (D at_158) (Ls' := #[iv i0, iv i1, iv i2, jv i3, s_, rv b1, iv (1 : Int32), iv (4 : Int32), iv (5 : Int32), iv v1959, jv v2008, s_, jv v2011, s_, u_, u_, u_, u_, u_]) rfl ?_
   refine k_iload X2010 hx 162 (D at_160) rfl ?_
   refine k_if_le X2010 hx 165 169 (D at_162) (fun hc => absurd (by decide) hc) (fun _ => ?_)
   refine k_iconst X2010 hx 166 (D at_165) (z := (1 : Int32)) rfl ?_
   refine k_goto X2010 hx 170 (D at_166) ?_
   refine k_istore X2010 hx 172 (D at_170) (Ls' := #[iv i0, iv i1, iv i2, jv i3, s_, rv b1, iv (1 : Int32), iv (4 : Int32), iv (5 : Int32), iv v1959, jv v2008, s_, jv v2011, s_, iv (1 : Int32), u_, u_, u_, u_]) rfl ?_
   refine k_lconst X2010 hx 173 (D at_172) (z := (0 : Int64)) rfl ?_
   refine k_lstore X2010 hx 175 (D at_173) (Ls' := #[iv i0, iv i1, iv i2, jv i3, s_, rv b1, iv (1 : Int32), iv (4 : Int32), iv (5 : Int32), iv v1959, jv v2008, s_, jv v2011, s_, iv (1 : Int32), jv (0 : Int64), s_, u_, u_]) rfl ?_
   refine k_iload X2010 hx 177 (D at_175) rfl ?_
   refine k_if_le X2010 hx 180 223 (D at_177) (fun hc => absurd (by decide) hc) (fun _ => ?_)
   suffices key2013 : ∀ (T2053 : State) (lo2053 : List Loc) (ce2053 sl2053 : Nat) (v2054 : Int32) (v2055 : Int64) (v2056 : Int32), Stand p l e room_1 s m #[(.int i0), (.int i1), (.int i2), (.long i3)] below meth c T2053 lo2053 ce2053 sl2053 → T2053.heap = h21 → Fr n0 lo2053 → ce2053 ≤ 16 → sl2053 ≤ 128 → ((¬ v2055 < 0 ∧ ¬ (9 : Int64) < v2055) ∧ ((v2054.toInt = 1 ∧ ((48 ≤ v7.toInt ∧ v7.toInt ≤ 57)) ∧ v2055.toInt = 1 * (v7.toInt - 48)) ∨ (v2054.toInt = 0 ∧ ¬ ((48 ≤ v7.toInt ∧ v7.toInt ≤ 57))))) → KEnds p e below s 16 128 (Q0 n0) T2053 (mkF m 223 #[iv i0, iv i1, iv i2, jv i3, s_, rv b1, iv (1 : Int32), iv (4 : Int32), iv (5 : Int32), iv v1959, jv v2008, s_, jv v2011, s_, iv v2054, jv v2055, s_, iv v2056, u_] []) by
    refine k_aload X2010 hx 182 (D at_180) rfl rfl ?_
    refine k_iload X2010 hx 184 (D at_182) rfl ?_
    refine k_baload X2010 hx hZ 185 e2010 Vw21 ⟨by decide, by decide⟩ (v := (.int v7)) rfl (D at_184) ?_
    refine k_callS X2010 hx hZ hown 188 (k_w hw 13 rfl) (k_w hw 14 rfl) (k_w hw 3 rfl) (k_w hw 15 rfl) (by decide) (rm3_8 l Z a0 hw [] v7 h21 n0 Z21 ) (by decide) (by decide) e2010 (by rw [hml]; rfl) (argsL := [(.int v7)]) (rest := []) (lenOf pd_2 rfl) rfl (W := 0) (Nat.le_refl _) rfl (D at_185) (by decide) (by decide) (fun T2014 L2014 r2014 X2014 q2014 => ?_)
    obtain ⟨N2014, e2014, rfl⟩ := q2014
    have N2014' := Fr.app N2010' N2014
    show KEnds p e below s _ _ _ T2014 (mkF m 188 #[iv i0, iv i1, iv i2, jv i3, s_, rv b1, iv (1 : Int32), iv (4 : Int32), iv (5 : Int32), iv v1959, jv v2008, s_, jv v2011, s_, iv (1 : Int32), jv (0 : Int64), s_, u_, u_] ((.int (f3_8 v7)) :: []))
    obtain ⟨v2015, hv2015⟩ : ∃ z, z = f3_8 v7 := ⟨_, rfl⟩
    rw [← hv2015]
    refine k_istore X2014 hx 190 (D at_188) (Ls' := #[iv i0, iv i1, iv i2, jv i3, s_, rv b1, iv (1 : Int32), iv (4 : Int32), iv (5 : Int32), iv v1959, jv v2008, s_, jv v2011, s_, iv (1 : Int32), jv (0 : Int64), s_, iv v2015, u_]) rfl ?_
    refine k_iload X2014 hx 192 (D at_190) rfl ?_
    refine k_if_eq X2014 hx 195 204 (D at_192) (fun hc => absurd hc (by decide)) (fun _ => ?_)
    refine k_iload X2014 hx 197 (D at_195) rfl ?_
    refine k_if_lt X2014 hx 200 204 (D at_197) (fun hc2016 => ?_) (fun hc2016 => ?_)
    ·
     refine k_iconst X2014 hx 205 (D at_204) (z := (0 : Int32)) rfl ?_
     refine k_istore X2014 hx 207 (D at_205) (Ls' := #[iv i0, iv i1, iv i2, jv i3, s_, rv b1, iv (1 : Int32), iv (4 : Int32), iv (5 : Int32), iv v1959, jv v2008, s_, jv v2011, s_, iv (0 : Int32), jv (0 : Int64), s_, iv v2015, u_]) rfl ?_
     refine k_ldcL X2014 hx hZ hown 210 (k_w hw 16 rfl) (D at_207) ?_
     refine k_lload X2014 hx 212 (D at_210) rfl ?_
     refine k_lmulL X2014 hx 213 (D at_212) (z := (0 : Int64)) (by decide) ?_
     refine k_iload X2014 hx 215 (D at_213) rfl ?_
     refine k_iconst X2014 hx 216 (D at_215) (z := (0 : Int32)) rfl ?_
     refine k_callS X2014 hx hZ hown 219 (k_w hw 17 rfl) (k_w hw 18 rfl) (k_w hw 19 rfl) (k_w hw 20 rfl) (by decide) (rm4_9 l Z a0 hw [] v2015 h21 n0 Z21 ) (by decide) (by decide) e2014 (by rw [hml]; rfl) (argsL := [(.int v2015), (.int (0 : Int32))]) (rest := [(.long (0 : Int64))]) (lenOf pd_3 rfl) rfl (W := 2) (Nat.le_refl _) rfl (D at_216) (by decide) (by decide) (fun T2017 L2017 r2017 X2017 q2017 => ?_)
     obtain ⟨N2017, e2017, rfl⟩ := q2017
     have N2017' := Fr.app N2014' N2017
     show KEnds p e below s _ _ _ T2017 (mkF m 219 #[iv i0, iv i1, iv i2, jv i3, s_, rv b1, iv (1 : Int32), iv (4 : Int32), iv (5 : Int32), iv v1959, jv v2008, s_, jv v2011, s_, iv (0 : Int32), jv (0 : Int64), s_, iv v2015, u_] ((.int (f4_9 v2015)) :: (.long (0 : Int64)) :: []))
     obtain ⟨v2018, hv2018⟩ : ∃ z, z = f4_9 v2015 := ⟨_, rfl⟩
     rw [← hv2018]
     refine k_i2l X2017 hx 220 (D at_219) (fun v2019 hv2019 => ?_)
     refine k_laddL X2017 hx 221 (D at_220) (z := v2019) (Int64.zero_add _) ?_
     refine k_lstore X2017 hx 223 (D at_221) (Ls' := #[iv i0, iv i1, iv i2, jv i3, s_, rv b1, iv (1 : Int32), iv (4 : Int32), iv (5 : Int32), iv v1959, jv v2008, s_, jv v2011, s_, iv (0 : Int32), jv v2019, s_, iv v2015, u_]) rfl ?_
     refine key2013 T2017 _ _ _ (0 : Int32) v2019 v2015 X2017 e2017 N2017' (by decide) (by decide) ?_
     have B2025 : (-2147483648 : Int) ≤ i2.toInt ∧ i2.toInt ≤ 2147483647 := ⟨(rng32 i2).1, Int.le_of_lt_add_one (rng32 i2).2⟩
     have B2026 : (-2147483648 : Int) ≤ i0.toInt ∧ i0.toInt ≤ 2147483647 := ⟨(rng32 i0).1, Int.le_of_lt_add_one (rng32 i0).2⟩
     have B2027 : (-2147483648 : Int) ≤ i1.toInt ∧ i1.toInt ≤ 2147483647 := ⟨(rng32 i1).1, Int.le_of_lt_add_one (rng32 i1).2⟩
     have B2022 : (-128 : Int) ≤ v7.toInt ∧ v7.toInt ≤ 127 := (by rw [← hb8]; exact ⟨(c_i2b _).2.1, Int.le_of_lt_add_one (c_i2b _).2.2⟩)
     have q2021 := own_fd v7 ⟨Int.le_trans (by decide) B2022.1, Int.le_trans B2022.2 (by decide)⟩; rw [← hv2015] at q2021
     have B2020 : (-1 : Int) ≤ v2015.toInt ∧ v2015.toInt ≤ 9 := q2021.2
     have B2028 : (-1 : Int) ≤ v2015.toInt ∧ v2015.toInt ≤ -1 := ⟨B2020.1, k_lt hc2016 (by decide)⟩
     have q2032 := own_mx v2015 ⟨Int.le_trans (by decide) B2028.1, Int.le_trans B2028.2 (by decide)⟩; rw [← hv2018] at q2032
     have B2031 : (0 : Int) ≤ v2018.toInt ∧ v2018.toInt ≤ 9 := q2032.2
     have q2030 : v2019.toInt = v2018.toInt := (by rw [hv2019]; exact c_i2l _)
     have B2029 : (0 : Int) ≤ v2019.toInt ∧ v2019.toInt ≤ 9 := (by rw [q2030]; exact B2031)
     refine ⟨⟨fun hq2033 => ?_, fun hq2034 => ?_⟩, ?_⟩
     · rw [Int64.lt_iff_toInt_lt, show (0 : Int64).toInt = 0 from rfl] at hq2033; omega
     · rw [Int64.lt_iff_toInt_lt, show (9 : Int64).toInt = 9 from rfl] at hq2034; omega
     · exact Or.inr ⟨rfl, by omega⟩
    ·
     refine k_iconst X2014 hx 201 (D at_200) (z := (1 : Int32)) rfl ?_
     refine k_goto X2014 hx 205 (D at_201) ?_
     refine k_istore X2014 hx 207 (D at_205) (Ls' := #[iv i0, iv i1, iv i2, jv i3, s_, rv b1, iv (1 : Int32), iv (4 : Int32), iv (5 : Int32), iv v1959, jv v2008, s_, jv v2011, s_, iv (1 : Int32), jv (0 : Int64), s_, iv v2015, u_]) rfl ?_
     refine k_ldcL X2014 hx hZ hown 210 (k_w hw 16 rfl) (D at_207) ?_
     refine k_lload X2014 hx 212 (D at_210) rfl ?_
     refine k_lmulL X2014 hx 213 (D at_212) (z := (0 : Int64)) (by decide) ?_
     refine k_iload X2014 hx 215 (D at_213) rfl ?_
     refine k_iconst X2014 hx 216 (D at_215) (z := (0 : Int32)) rfl ?_
     refine k_callS X2014 hx hZ hown 219 (k_w hw 17 rfl) (k_w hw 18 rfl) (k_w hw 19 rfl) (k_w hw 20 rfl) (by decide) (rm4_9 l Z a0 hw [] v2015 h21 n0 Z21 ) (by decide) (by decide) e2014 (by rw [hml]; rfl) (argsL := [(.int v2015), (.int (0 : Int32))]) (rest := [(.long (0 : Int64))]) (lenOf pd_3 rfl) rfl (W := 2) (Nat.le_refl _) rfl (D at_216) (by decide) (by decide) (fun T2035 L2035 r2035 X2035 q2035 => ?_)
     obtain ⟨N2035, e2035, rfl⟩ := q2035
     have N2035' := Fr.app N2014' N2035
     show KEnds p e below s _ _ _ T2035 (mkF m 219 #[iv i0, iv i1, iv i2, jv i3, s_, rv b1, iv (1 : Int32), iv (4 : Int32), iv (5 : Int32), iv v1959, jv v2008, s_, jv v2011, s_, iv (1 : Int32), jv (0 : Int64), s_, iv v2015, u_] ((.int (f4_9 v2015)) :: (.long (0 : Int64)) :: []))
     obtain ⟨v2036, hv2036⟩ : ∃ z, z = f4_9 v2015 := ⟨_, rfl⟩
     rw [← hv2036]
     refine k_i2l X2035 hx 220 (D at_219) (fun v2037 hv2037 => ?_)
     refine k_laddL X2035 hx 221 (D at_220) (z := v2037) (Int64.zero_add _) ?_
     refine k_lstore X2035 hx 223 (D at_221) (Ls' := #[iv i0, iv i1, iv i2, jv i3, s_, rv b1, iv (1 : Int32), iv (4 : Int32), iv (5 : Int32), iv v1959, jv v2008, s_, jv v2011, s_, iv (1 : Int32), jv v2037, s_, iv v2015, u_]) rfl ?_
     refine key2013 T2035 _ _ _ (1 : Int32) v2037 v2015 X2035 e2035 N2035' (by decide) (by decide) ?_
     have B2043 : (-2147483648 : Int) ≤ i2.toInt ∧ i2.toInt ≤ 2147483647 := ⟨(rng32 i2).1, Int.le_of_lt_add_one (rng32 i2).2⟩
     have B2044 : (-2147483648 : Int) ≤ i0.toInt ∧ i0.toInt ≤ 2147483647 := ⟨(rng32 i0).1, Int.le_of_lt_add_one (rng32 i0).2⟩
     have B2045 : (-2147483648 : Int) ≤ i1.toInt ∧ i1.toInt ≤ 2147483647 := ⟨(rng32 i1).1, Int.le_of_lt_add_one (rng32 i1).2⟩
     have B2040 : (-128 : Int) ≤ v7.toInt ∧ v7.toInt ≤ 127 := (by rw [← hb8]; exact ⟨(c_i2b _).2.1, Int.le_of_lt_add_one (c_i2b _).2.2⟩)
     have q2039 := own_fd v7 ⟨Int.le_trans (by decide) B2040.1, Int.le_trans B2040.2 (by decide)⟩; rw [← hv2015] at q2039
     have B2038 : (-1 : Int) ≤ v2015.toInt ∧ v2015.toInt ≤ 9 := q2039.2
     have B2046 : (0 : Int) ≤ v2015.toInt ∧ v2015.toInt ≤ 9 := ⟨k_ge hc2016 (by decide), B2038.2⟩
     have q2050 := own_mx v2015 ⟨Int.le_trans (by decide) B2046.1, Int.le_trans B2046.2 (by decide)⟩; rw [← hv2036] at q2050
     have B2049 : (0 : Int) ≤ v2036.toInt ∧ v2036.toInt ≤ 9 := q2050.2
     have q2048 : v2037.toInt = v2036.toInt := (by rw [hv2037]; exact c_i2l _)
     have B2047 : (0 : Int) ≤ v2037.toInt ∧ v2037.toInt ≤ 9 := (by rw [q2048]; exact B2049)
     refine ⟨⟨fun hq2051 => ?_, fun hq2052 => ?_⟩, ?_⟩
     · rw [Int64.lt_iff_toInt_lt, show (0 : Int64).toInt = 0 from rfl] at hq2051; omega
     · rw [Int64.lt_iff_toInt_lt, show (9 : Int64).toInt = 9 from rfl] at hq2052; omega
     · exact Or.inl ⟨rfl, by omega⟩
   intro T2053 lo2053 ce2053 sl2053 v2054 v2055 v2056 X2053 e2053 N2053 hce2053 hsl2053 hP2057
   refine k_iload X2053 hx 225 (D at_223) rfl ?_
   refine k_iconst X2053 hx 226 (D at_225) (z := (1 : Int32)) rfl ?_
   refine k_icmp_le X2053 hx 229 274 (D at_226) (fun hc => absurd (by decide) hc) (fun _ => ?_)
   suffices key2058 : ∀ (T2149 : State) (lo2149 : List Loc) (ce2149 sl2149 : Nat) (v2150 : Int32) (v2151 : Int64) (v2152 : Int32), Stand p l e room_1 s m #[(.int i0), (.int i1), (.int i2), (.long i3)] below meth c T2149 lo2149 ce2149 sl2149 → T2149.heap = h21 → Fr n0 lo2149 → ce2149 ≤ 16 → sl2149 ≤ 128 → ((¬ v2151 < 0 ∧ ¬ (99 : Int64) < v2151) ∧ ((v2150.toInt = 1 ∧ ((48 ≤ v7.toInt ∧ v7.toInt ≤ 57) ∧ (48 ≤ v11.toInt ∧ v11.toInt ≤ 57)) ∧ v2151.toInt = 10 * (v7.toInt - 48) + 1 * (v11.toInt - 48)) ∨ (v2150.toInt = 0 ∧ ¬ ((48 ≤ v7.toInt ∧ v7.toInt ≤ 57) ∧ (48 ≤ v11.toInt ∧ v11.toInt ≤ 57))))) → KEnds p e below s 16 128 (Q0 n0) T2149 (mkF m 274 #[iv i0, iv i1, iv i2, jv i3, s_, rv b1, iv (1 : Int32), iv (4 : Int32), iv (5 : Int32), iv v1959, jv v2008, s_, jv v2011, s_, iv v2150, jv v2151, s_, iv v2152, u_] []) by
    refine k_aload X2053 hx 231 (D at_229) rfl rfl ?_
    refine k_iload X2053 hx 233 (D at_231) rfl ?_
    refine k_iconst X2053 hx 234 (D at_233) (z := (1 : Int32)) rfl ?_
    refine k_iaddL X2053 hx 235 (D at_234) (z := (2 : Int32)) (by decide) ?_
    refine k_baload X2053 hx hZ 236 e2053 Vw21 ⟨by decide, by decide⟩ (v := (.int v11)) rfl (D at_235) ?_
    refine k_callS X2053 hx hZ hown 239 (k_w hw 13 rfl) (k_w hw 14 rfl) (k_w hw 3 rfl) (k_w hw 15 rfl) (by decide) (rm3_8 l Z a0 hw [] v11 h21 n0 Z21 ) (by decide) (by decide) e2053 (by rw [hml]; rfl) (argsL := [(.int v11)]) (rest := []) (lenOf pd_2 rfl) rfl (W := 0) (Nat.le_refl _) rfl (D at_236) (by show _ + 0 ≤ _; exact Nat.le_trans hce2053 (by decide)) (by show _ + 0 ≤ _; exact Nat.le_trans hsl2053 (by decide)) (fun T2059 L2059 r2059 X2059 q2059 => ?_)
    obtain ⟨N2059, e2059, rfl⟩ := q2059
    have N2059' := Fr.app N2053 N2059
    show KEnds p e below s _ _ _ T2059 (mkF m 239 #[iv i0, iv i1, iv i2, jv i3, s_, rv b1, iv (1 : Int32), iv (4 : Int32), iv (5 : Int32), iv v1959, jv v2008, s_, jv v2011, s_, iv v2054, jv v2055, s_, iv v2056, u_] ((.int (f3_8 v11)) :: []))
    obtain ⟨v2060, hv2060⟩ : ∃ z, z = f3_8 v11 := ⟨_, rfl⟩
    rw [← hv2060]
    refine k_istore X2059 hx 241 (D at_239) (Ls' := #[iv i0, iv i1, iv i2, jv i3, s_, rv b1, iv (1 : Int32), iv (4 : Int32), iv (5 : Int32), iv v1959, jv v2008, s_, jv v2011, s_, iv v2054, jv v2055, s_, iv v2060, u_]) rfl ?_
    refine k_iload X2059 hx 243 (D at_241) rfl ?_
    refine k_if_eq X2059 hx 246 255 (D at_243) (fun hc2061 => ?_) (fun hc2061 => ?_)
    ·
     refine k_iconst X2059 hx 256 (D at_255) (z := (0 : Int32)) rfl ?_
     refine k_istore X2059 hx 258 (D at_256) (Ls' := #[iv i0, iv i1, iv i2, jv i3, s_, rv b1, iv (1 : Int32), iv (4 : Int32), iv (5 : Int32), iv v1959, jv v2008, s_, jv v2011, s_, iv (0 : Int32), jv v2055, s_, iv v2060, u_]) rfl ?_
     refine k_ldcL X2059 hx hZ hown 261 (k_w hw 16 rfl) (D at_258) ?_
     refine k_lload X2059 hx 263 (D at_261) rfl ?_
     refine k_lmul X2059 hx 264 (D at_263) (fun v2062 hv2062 => ?_)
     refine k_iload X2059 hx 266 (D at_264) rfl ?_
     refine k_iconst X2059 hx 267 (D at_266) (z := (0 : Int32)) rfl ?_
     refine k_callS X2059 hx hZ hown 270 (k_w hw 17 rfl) (k_w hw 18 rfl) (k_w hw 19 rfl) (k_w hw 20 rfl) (by decide) (rm4_9 l Z a0 hw [] v2060 h21 n0 Z21 ) (by decide) (by decide) e2059 (by rw [hml]; rfl) (argsL := [(.int v2060), (.int (0 : Int32))]) (rest := [(.long v2062)]) (lenOf pd_3 rfl) rfl (W := 2) (Nat.le_refl _) rfl (D at_267) (by show _ + 0 ≤ _; exact Nat.le_trans hce2053 (by decide)) (by show _ + 0 ≤ _; exact Nat.le_trans hsl2053 (by decide)) (fun T2063 L2063 r2063 X2063 q2063 => ?_)
     obtain ⟨N2063, e2063, rfl⟩ := q2063
     have N2063' := Fr.app N2059' N2063
     show KEnds p e below s _ _ _ T2063 (mkF m 270 #[iv i0, iv i1, iv i2, jv i3, s_, rv b1, iv (1 : Int32), iv (4 : Int32), iv (5 : Int32), iv v1959, jv v2008, s_, jv v2011, s_, iv (0 : Int32), jv v2055, s_, iv v2060, u_] ((.int (f4_9 v2060)) :: (.long v2062) :: []))
     obtain ⟨v2064, hv2064⟩ : ∃ z, z = f4_9 v2060 := ⟨_, rfl⟩
     rw [← hv2064]
     refine k_i2l X2063 hx 271 (D at_270) (fun v2065 hv2065 => ?_)
     refine k_ladd X2063 hx 272 (D at_271) (fun v2066 hv2066 => ?_)
     refine k_lstore X2063 hx 274 (D at_272) (Ls' := #[iv i0, iv i1, iv i2, jv i3, s_, rv b1, iv (1 : Int32), iv (4 : Int32), iv (5 : Int32), iv v1959, jv v2008, s_, jv v2011, s_, iv (0 : Int32), jv v2066, s_, iv v2060, u_]) rfl ?_
     refine key2058 T2063 _ _ _ (0 : Int32) v2066 v2060 X2063 e2063 N2063' hce2053 hsl2053 ?_
     have B2067 : (0 : Int) ≤ v2055.toInt ∧ v2055.toInt ≤ 9 := ⟨kL_ge hP2057.1.1 (by decide), kL_le hP2057.1.2 (by decide)⟩
     have B2068 : (-2147483648 : Int) ≤ v2054.toInt ∧ v2054.toInt ≤ 2147483647 := ⟨(rng32 v2054).1, Int.le_of_lt_add_one (rng32 v2054).2⟩
     have B2069 : (0 : Int) ≤ (0 : Int32).toInt ∧ (0 : Int32).toInt ≤ 0 := (by decide)
     have q2070 := congrArg Int32.toInt hc2061
     have B2075 : (10 : Int) ≤ (10 : Int64).toInt ∧ (10 : Int64).toInt ≤ 10 := (by decide)
     have q2074 : v2062.toInt = 10 * v2055.toInt := (by have q0 := c_lmul (10 : Int64) v2055; have q1 := rng64 v2062; have q2 := B2067; rw [← hv2062] at q0; rw [show (10 : Int64).toInt = 10 from (by decide)] at q0; omega)
     have B2073 : (0 : Int) ≤ v2062.toInt ∧ v2062.toInt ≤ 90 := (by rw [q2074]; exact k_mulB B2067 (by decide))
     have B2085 : (-2147483648 : Int) ≤ i2.toInt ∧ i2.toInt ≤ 2147483647 := ⟨(rng32 i2).1, Int.le_of_lt_add_one (rng32 i2).2⟩
     have B2086 : (-2147483648 : Int) ≤ i0.toInt ∧ i0.toInt ≤ 2147483647 := ⟨(rng32 i0).1, Int.le_of_lt_add_one (rng32 i0).2⟩
     have B2087 : (-2147483648 : Int) ≤ i1.toInt ∧ i1.toInt ≤ 2147483647 := ⟨(rng32 i1).1, Int.le_of_lt_add_one (rng32 i1).2⟩
     have B2082 : (-128 : Int) ≤ v11.toInt ∧ v11.toInt ≤ 127 := (by rw [← hb12]; exact ⟨(c_i2b _).2.1, Int.le_of_lt_add_one (c_i2b _).2.2⟩)
     have q2081 := own_fd v11 ⟨Int.le_trans (by decide) B2082.1, Int.le_trans B2082.2 (by decide)⟩; rw [← hv2060] at q2081
     have B2080 : (-1 : Int) ≤ v2060.toInt ∧ v2060.toInt ≤ 9 := q2081.2
     have q2079 := own_mx v2060 ⟨Int.le_trans (by decide) B2080.1, Int.le_trans B2080.2 (by decide)⟩; rw [← hv2064] at q2079
     have B2078 : (0 : Int) ≤ v2064.toInt ∧ v2064.toInt ≤ 9 := q2079.2
     have q2077 : v2065.toInt = v2064.toInt := (by rw [hv2065]; exact c_i2l _)
     have B2076 : (0 : Int) ≤ v2065.toInt ∧ v2065.toInt ≤ 9 := (by rw [q2077]; exact B2078)
     have q2072 : v2066.toInt = v2062.toInt + v2065.toInt := k_laddx hv2066 B2073 B2076 (by decide) (by decide)
     have B2071 : (0 : Int) ≤ v2066.toInt ∧ v2066.toInt ≤ 99 := k_addB q2072 B2073 B2076
     refine ⟨⟨fun hq2088 => ?_, fun hq2089 => ?_⟩, ?_⟩
     · rw [Int64.lt_iff_toInt_lt, show (0 : Int64).toInt = 0 from rfl] at hq2088; omega
     · rw [Int64.lt_iff_toInt_lt, show (99 : Int64).toInt = 99 from rfl] at hq2089; omega
     · exact Or.inr ⟨rfl, by omega⟩
    ·
     refine k_iload X2059 hx 248 (D at_246) rfl ?_
     refine k_if_lt X2059 hx 251 255 (D at_248) (fun hc2090 => ?_) (fun hc2090 => ?_)
     ·
      refine k_iconst X2059 hx 256 (D at_255) (z := (0 : Int32)) rfl ?_
      refine k_istore X2059 hx 258 (D at_256) (Ls' := #[iv i0, iv i1, iv i2, jv i3, s_, rv b1, iv (1 : Int32), iv (4 : Int32), iv (5 : Int32), iv v1959, jv v2008, s_, jv v2011, s_, iv (0 : Int32), jv v2055, s_, iv v2060, u_]) rfl ?_
      refine k_ldcL X2059 hx hZ hown 261 (k_w hw 16 rfl) (D at_258) ?_
      refine k_lload X2059 hx 263 (D at_261) rfl ?_
      refine k_lmul X2059 hx 264 (D at_263) (fun v2091 hv2091 => ?_)
      refine k_iload X2059 hx 266 (D at_264) rfl ?_
      refine k_iconst X2059 hx 267 (D at_266) (z := (0 : Int32)) rfl ?_
      refine k_callS X2059 hx hZ hown 270 (k_w hw 17 rfl) (k_w hw 18 rfl) (k_w hw 19 rfl) (k_w hw 20 rfl) (by decide) (rm4_9 l Z a0 hw [] v2060 h21 n0 Z21 ) (by decide) (by decide) e2059 (by rw [hml]; rfl) (argsL := [(.int v2060), (.int (0 : Int32))]) (rest := [(.long v2091)]) (lenOf pd_3 rfl) rfl (W := 2) (Nat.le_refl _) rfl (D at_267) (by show _ + 0 ≤ _; exact Nat.le_trans hce2053 (by decide)) (by show _ + 0 ≤ _; exact Nat.le_trans hsl2053 (by decide)) (fun T2092 L2092 r2092 X2092 q2092 => ?_)
      obtain ⟨N2092, e2092, rfl⟩ := q2092
      have N2092' := Fr.app N2059' N2092
      show KEnds p e below s _ _ _ T2092 (mkF m 270 #[iv i0, iv i1, iv i2, jv i3, s_, rv b1, iv (1 : Int32), iv (4 : Int32), iv (5 : Int32), iv v1959, jv v2008, s_, jv v2011, s_, iv (0 : Int32), jv v2055, s_, iv v2060, u_] ((.int (f4_9 v2060)) :: (.long v2091) :: []))
      obtain ⟨v2093, hv2093⟩ : ∃ z, z = f4_9 v2060 := ⟨_, rfl⟩
      rw [← hv2093]
      refine k_i2l X2092 hx 271 (D at_270) (fun v2094 hv2094 => ?_)
      refine k_ladd X2092 hx 272 (D at_271) (fun v2095 hv2095 => ?_)
      refine k_lstore X2092 hx 274 (D at_272) (Ls' := #[iv i0, iv i1, iv i2, jv i3, s_, rv b1, iv (1 : Int32), iv (4 : Int32), iv (5 : Int32), iv v1959, jv v2008, s_, jv v2011, s_, iv (0 : Int32), jv v2095, s_, iv v2060, u_]) rfl ?_
      refine key2058 T2092 _ _ _ (0 : Int32) v2095 v2060 X2092 e2092 N2092' hce2053 hsl2053 ?_
      have B2096 : (0 : Int) ≤ v2055.toInt ∧ v2055.toInt ≤ 9 := ⟨kL_ge hP2057.1.1 (by decide), kL_le hP2057.1.2 (by decide)⟩
      have B2097 : (-2147483648 : Int) ≤ v2054.toInt ∧ v2054.toInt ≤ 2147483647 := ⟨(rng32 v2054).1, Int.le_of_lt_add_one (rng32 v2054).2⟩
      have B2098 : (0 : Int) ≤ (0 : Int32).toInt ∧ (0 : Int32).toInt ≤ 0 := (by decide)
      have q2099 : ¬ v2054.toInt = (0 : Int32).toInt := fun q => hc2061 (Int32.toInt_inj.mp q)
      have B2105 : (-2147483648 : Int) ≤ i2.toInt ∧ i2.toInt ≤ 2147483647 := ⟨(rng32 i2).1, Int.le_of_lt_add_one (rng32 i2).2⟩
      have B2106 : (-2147483648 : Int) ≤ i0.toInt ∧ i0.toInt ≤ 2147483647 := ⟨(rng32 i0).1, Int.le_of_lt_add_one (rng32 i0).2⟩
      have B2107 : (-2147483648 : Int) ≤ i1.toInt ∧ i1.toInt ≤ 2147483647 := ⟨(rng32 i1).1, Int.le_of_lt_add_one (rng32 i1).2⟩
      have B2102 : (-128 : Int) ≤ v11.toInt ∧ v11.toInt ≤ 127 := (by rw [← hb12]; exact ⟨(c_i2b _).2.1, Int.le_of_lt_add_one (c_i2b _).2.2⟩)
      have q2101 := own_fd v11 ⟨Int.le_trans (by decide) B2102.1, Int.le_trans B2102.2 (by decide)⟩; rw [← hv2060] at q2101
      have B2100 : (-1 : Int) ≤ v2060.toInt ∧ v2060.toInt ≤ 9 := q2101.2
      have B2108 : (-1 : Int) ≤ v2060.toInt ∧ v2060.toInt ≤ -1 := ⟨B2100.1, k_lt hc2090 (by decide)⟩
      have B2113 : (10 : Int) ≤ (10 : Int64).toInt ∧ (10 : Int64).toInt ≤ 10 := (by decide)
      have q2112 : v2091.toInt = 10 * v2055.toInt := (by have q0 := c_lmul (10 : Int64) v2055; have q1 := rng64 v2091; have q2 := B2096; rw [← hv2091] at q0; rw [show (10 : Int64).toInt = 10 from (by decide)] at q0; omega)
      have B2111 : (0 : Int) ≤ v2091.toInt ∧ v2091.toInt ≤ 90 := (by rw [q2112]; exact k_mulB B2096 (by decide))
      have q2117 := own_mx v2060 ⟨Int.le_trans (by decide) B2108.1, Int.le_trans B2108.2 (by decide)⟩; rw [← hv2093] at q2117
      have B2116 : (0 : Int) ≤ v2093.toInt ∧ v2093.toInt ≤ 9 := q2117.2
      have q2115 : v2094.toInt = v2093.toInt := (by rw [hv2094]; exact c_i2l _)
      have B2114 : (0 : Int) ≤ v2094.toInt ∧ v2094.toInt ≤ 9 := (by rw [q2115]; exact B2116)
      have q2110 : v2095.toInt = v2091.toInt + v2094.toInt := k_laddx hv2095 B2111 B2114 (by decide) (by decide)
      have B2109 : (0 : Int) ≤ v2095.toInt ∧ v2095.toInt ≤ 99 := k_addB q2110 B2111 B2114
      refine ⟨⟨fun hq2118 => ?_, fun hq2119 => ?_⟩, ?_⟩
      · rw [Int64.lt_iff_toInt_lt, show (0 : Int64).toInt = 0 from rfl] at hq2118; omega
      · rw [Int64.lt_iff_toInt_lt, show (99 : Int64).toInt = 99 from rfl] at hq2119; omega
      · exact Or.inr ⟨rfl, by omega⟩
     ·
      refine k_iconst X2059 hx 252 (D at_251) (z := (1 : Int32)) rfl ?_
      refine k_goto X2059 hx 256 (D at_252) ?_
      refine k_istore X2059 hx 258 (D at_256) (Ls' := #[iv i0, iv i1, iv i2, jv i3, s_, rv b1, iv (1 : Int32), iv (4 : Int32), iv (5 : Int32), iv v1959, jv v2008, s_, jv v2011, s_, iv (1 : Int32), jv v2055, s_, iv v2060, u_]) rfl ?_
      refine k_ldcL X2059 hx hZ hown 261 (k_w hw 16 rfl) (D at_258) ?_
      refine k_lload X2059 hx 263 (D at_261) rfl ?_
      refine k_lmul X2059 hx 264 (D at_263) (fun v2120 hv2120 => ?_)
      refine k_iload X2059 hx 266 (D at_264) rfl ?_
      refine k_iconst X2059 hx 267 (D at_266) (z := (0 : Int32)) rfl ?_
      refine k_callS X2059 hx hZ hown 270 (k_w hw 17 rfl) (k_w hw 18 rfl) (k_w hw 19 rfl) (k_w hw 20 rfl) (by decide) (rm4_9 l Z a0 hw [] v2060 h21 n0 Z21 ) (by decide) (by decide) e2059 (by rw [hml]; rfl) (argsL := [(.int v2060), (.int (0 : Int32))]) (rest := [(.long v2120)]) (lenOf pd_3 rfl) rfl (W := 2) (Nat.le_refl _) rfl (D at_267) (by show _ + 0 ≤ _; exact Nat.le_trans hce2053 (by decide)) (by show _ + 0 ≤ _; exact Nat.le_trans hsl2053 (by decide)) (fun T2121 L2121 r2121 X2121 q2121 => ?_)
      obtain ⟨N2121, e2121, rfl⟩ := q2121
      have N2121' := Fr.app N2059' N2121
      show KEnds p e below s _ _ _ T2121 (mkF m 270 #[iv i0, iv i1, iv i2, jv i3, s_, rv b1, iv (1 : Int32), iv (4 : Int32), iv (5 : Int32), iv v1959, jv v2008, s_, jv v2011, s_, iv (1 : Int32), jv v2055, s_, iv v2060, u_] ((.int (f4_9 v2060)) :: (.long v2120) :: []))
      obtain ⟨v2122, hv2122⟩ : ∃ z, z = f4_9 v2060 := ⟨_, rfl⟩
      rw [← hv2122]
      refine k_i2l X2121 hx 271 (D at_270) (fun v2123 hv2123 => ?_)
      refine k_ladd X2121 hx 272 (D at_271) (fun v2124 hv2124 => ?_)
      refine k_lstore X2121 hx 274 (D at_272) (Ls' := #[iv i0, iv i1, iv i2, jv i3, s_, rv b1, iv (1 : Int32), iv (4 : Int32), iv (5 : Int32), iv v1959, jv v2008, s_, jv v2011, s_, iv (1 : Int32), jv v2124, s_, iv v2060, u_]) rfl ?_
      refine key2058 T2121 _ _ _ (1 : Int32) v2124 v2060 X2121 e2121 N2121' hce2053 hsl2053 ?_
      have B2125 : (0 : Int) ≤ v2055.toInt ∧ v2055.toInt ≤ 9 := ⟨kL_ge hP2057.1.1 (by decide), kL_le hP2057.1.2 (by decide)⟩
      have B2126 : (-2147483648 : Int) ≤ v2054.toInt ∧ v2054.toInt ≤ 2147483647 := ⟨(rng32 v2054).1, Int.le_of_lt_add_one (rng32 v2054).2⟩
      have B2127 : (0 : Int) ≤ (0 : Int32).toInt ∧ (0 : Int32).toInt ≤ 0 := (by decide)
      have q2128 : ¬ v2054.toInt = (0 : Int32).toInt := fun q => hc2061 (Int32.toInt_inj.mp q)
      have B2134 : (-2147483648 : Int) ≤ i2.toInt ∧ i2.toInt ≤ 2147483647 := ⟨(rng32 i2).1, Int.le_of_lt_add_one (rng32 i2).2⟩
      have B2135 : (-2147483648 : Int) ≤ i0.toInt ∧ i0.toInt ≤ 2147483647 := ⟨(rng32 i0).1, Int.le_of_lt_add_one (rng32 i0).2⟩
      have B2136 : (-2147483648 : Int) ≤ i1.toInt ∧ i1.toInt ≤ 2147483647 := ⟨(rng32 i1).1, Int.le_of_lt_add_one (rng32 i1).2⟩
      have B2131 : (-128 : Int) ≤ v11.toInt ∧ v11.toInt ≤ 127 := (by rw [← hb12]; exact ⟨(c_i2b _).2.1, Int.le_of_lt_add_one (c_i2b _).2.2⟩)
      have q2130 := own_fd v11 ⟨Int.le_trans (by decide) B2131.1, Int.le_trans B2131.2 (by decide)⟩; rw [← hv2060] at q2130
      have B2129 : (-1 : Int) ≤ v2060.toInt ∧ v2060.toInt ≤ 9 := q2130.2
      have B2137 : (0 : Int) ≤ v2060.toInt ∧ v2060.toInt ≤ 9 := ⟨k_ge hc2090 (by decide), B2129.2⟩
      have B2142 : (10 : Int) ≤ (10 : Int64).toInt ∧ (10 : Int64).toInt ≤ 10 := (by decide)
      have q2141 : v2120.toInt = 10 * v2055.toInt := (by have q0 := c_lmul (10 : Int64) v2055; have q1 := rng64 v2120; have q2 := B2125; rw [← hv2120] at q0; rw [show (10 : Int64).toInt = 10 from (by decide)] at q0; omega)
      have B2140 : (0 : Int) ≤ v2120.toInt ∧ v2120.toInt ≤ 90 := (by rw [q2141]; exact k_mulB B2125 (by decide))
      have q2146 := own_mx v2060 ⟨Int.le_trans (by decide) B2137.1, Int.le_trans B2137.2 (by decide)⟩; rw [← hv2122] at q2146
      have B2145 : (0 : Int) ≤ v2122.toInt ∧ v2122.toInt ≤ 9 := q2146.2
      have q2144 : v2123.toInt = v2122.toInt := (by rw [hv2123]; exact c_i2l _)
      have B2143 : (0 : Int) ≤ v2123.toInt ∧ v2123.toInt ≤ 9 := (by rw [q2144]; exact B2145)
      have q2139 : v2124.toInt = v2120.toInt + v2123.toInt := k_laddx hv2124 B2140 B2143 (by decide) (by decide)
      have B2138 : (0 : Int) ≤ v2124.toInt ∧ v2124.toInt ≤ 99 := k_addB q2139 B2140 B2143
      refine ⟨⟨fun hq2147 => ?_, fun hq2148 => ?_⟩, ?_⟩
      · rw [Int64.lt_iff_toInt_lt, show (0 : Int64).toInt = 0 from rfl] at hq2147; omega
      · rw [Int64.lt_iff_toInt_lt, show (99 : Int64).toInt = 99 from rfl] at hq2148; omega
      · exact Or.inl ⟨rfl, by omega⟩
   intro T2149 lo2149 ce2149 sl2149 v2150 v2151 v2152 X2149 e2149 N2149 hce2149 hsl2149 hP2153
   refine k_iload X2149 hx 276 (D at_274) rfl ?_
   refine k_iconst X2149 hx 277 (D at_276) (z := (2 : Int32)) rfl ?_
   refine k_icmp_le X2149 hx 280 325 (D at_277) (fun hc => absurd (by decide) hc) (fun _ => ?_)
   suffices key2154 : ∀ (T2245 : State) (lo2245 : List Loc) (ce2245 sl2245 : Nat) (v2246 : Int32) (v2247 : Int64) (v2248 : Int32), Stand p l e room_1 s m #[(.int i0), (.int i1), (.int i2), (.long i3)] below meth c T2245 lo2245 ce2245 sl2245 → T2245.heap = h21 → Fr n0 lo2245 → ce2245 ≤ 16 → sl2245 ≤ 128 → ((¬ v2247 < 0 ∧ ¬ (999 : Int64) < v2247) ∧ ((v2246.toInt = 1 ∧ ((48 ≤ v7.toInt ∧ v7.toInt ≤ 57) ∧ (48 ≤ v11.toInt ∧ v11.toInt ≤ 57) ∧ (48 ≤ v15.toInt ∧ v15.toInt ≤ 57)) ∧ v2247.toInt = 100 * (v7.toInt - 48) + 10 * (v11.toInt - 48) + 1 * (v15.toInt - 48)) ∨ (v2246.toInt = 0 ∧ ¬ ((48 ≤ v7.toInt ∧ v7.toInt ≤ 57) ∧ (48 ≤ v11.toInt ∧ v11.toInt ≤ 57) ∧ (48 ≤ v15.toInt ∧ v15.toInt ≤ 57))))) → KEnds p e below s 16 128 (Q0 n0) T2245 (mkF m 325 #[iv i0, iv i1, iv i2, jv i3, s_, rv b1, iv (1 : Int32), iv (4 : Int32), iv (5 : Int32), iv v1959, jv v2008, s_, jv v2011, s_, iv v2246, jv v2247, s_, iv v2248, u_] []) by
    refine k_aload X2149 hx 282 (D at_280) rfl rfl ?_
    refine k_iload X2149 hx 284 (D at_282) rfl ?_
    refine k_iconst X2149 hx 285 (D at_284) (z := (2 : Int32)) rfl ?_
    refine k_iaddL X2149 hx 286 (D at_285) (z := (3 : Int32)) (by decide) ?_
    refine k_baload X2149 hx hZ 287 e2149 Vw21 ⟨by decide, by decide⟩ (v := (.int v15)) rfl (D at_286) ?_
    refine k_callS X2149 hx hZ hown 290 (k_w hw 13 rfl) (k_w hw 14 rfl) (k_w hw 3 rfl) (k_w hw 15 rfl) (by decide) (rm3_8 l Z a0 hw [] v15 h21 n0 Z21 ) (by decide) (by decide) e2149 (by rw [hml]; rfl) (argsL := [(.int v15)]) (rest := []) (lenOf pd_2 rfl) rfl (W := 0) (Nat.le_refl _) rfl (D at_287) (by show _ + 0 ≤ _; exact Nat.le_trans hce2149 (by decide)) (by show _ + 0 ≤ _; exact Nat.le_trans hsl2149 (by decide)) (fun T2155 L2155 r2155 X2155 q2155 => ?_)
    obtain ⟨N2155, e2155, rfl⟩ := q2155
    have N2155' := Fr.app N2149 N2155
    show KEnds p e below s _ _ _ T2155 (mkF m 290 #[iv i0, iv i1, iv i2, jv i3, s_, rv b1, iv (1 : Int32), iv (4 : Int32), iv (5 : Int32), iv v1959, jv v2008, s_, jv v2011, s_, iv v2150, jv v2151, s_, iv v2152, u_] ((.int (f3_8 v15)) :: []))
    obtain ⟨v2156, hv2156⟩ : ∃ z, z = f3_8 v15 := ⟨_, rfl⟩
    rw [← hv2156]
    refine k_istore X2155 hx 292 (D at_290) (Ls' := #[iv i0, iv i1, iv i2, jv i3, s_, rv b1, iv (1 : Int32), iv (4 : Int32), iv (5 : Int32), iv v1959, jv v2008, s_, jv v2011, s_, iv v2150, jv v2151, s_, iv v2156, u_]) rfl ?_
    refine k_iload X2155 hx 294 (D at_292) rfl ?_
    refine k_if_eq X2155 hx 297 306 (D at_294) (fun hc2157 => ?_) (fun hc2157 => ?_)
    ·
     refine k_iconst X2155 hx 307 (D at_306) (z := (0 : Int32)) rfl ?_
     refine k_istore X2155 hx 309 (D at_307) (Ls' := #[iv i0, iv i1, iv i2, jv i3, s_, rv b1, iv (1 : Int32), iv (4 : Int32), iv (5 : Int32), iv v1959, jv v2008, s_, jv v2011, s_, iv (0 : Int32), jv v2151, s_, iv v2156, u_]) rfl ?_
     refine k_ldcL X2155 hx hZ hown 312 (k_w hw 16 rfl) (D at_309) ?_
     refine k_lload X2155 hx 314 (D at_312) rfl ?_
     refine k_lmul X2155 hx 315 (D at_314) (fun v2158 hv2158 => ?_)
     refine k_iload X2155 hx 317 (D at_315) rfl ?_
     refine k_iconst X2155 hx 318 (D at_317) (z := (0 : Int32)) rfl ?_
     refine k_callS X2155 hx hZ hown 321 (k_w hw 17 rfl) (k_w hw 18 rfl) (k_w hw 19 rfl) (k_w hw 20 rfl) (by decide) (rm4_9 l Z a0 hw [] v2156 h21 n0 Z21 ) (by decide) (by decide) e2155 (by rw [hml]; rfl) (argsL := [(.int v2156), (.int (0 : Int32))]) (rest := [(.long v2158)]) (lenOf pd_3 rfl) rfl (W := 2) (Nat.le_refl _) rfl (D at_318) (by show _ + 0 ≤ _; exact Nat.le_trans hce2149 (by decide)) (by show _ + 0 ≤ _; exact Nat.le_trans hsl2149 (by decide)) (fun T2159 L2159 r2159 X2159 q2159 => ?_)
     obtain ⟨N2159, e2159, rfl⟩ := q2159
     have N2159' := Fr.app N2155' N2159
     show KEnds p e below s _ _ _ T2159 (mkF m 321 #[iv i0, iv i1, iv i2, jv i3, s_, rv b1, iv (1 : Int32), iv (4 : Int32), iv (5 : Int32), iv v1959, jv v2008, s_, jv v2011, s_, iv (0 : Int32), jv v2151, s_, iv v2156, u_] ((.int (f4_9 v2156)) :: (.long v2158) :: []))
     obtain ⟨v2160, hv2160⟩ : ∃ z, z = f4_9 v2156 := ⟨_, rfl⟩
     rw [← hv2160]
     refine k_i2l X2159 hx 322 (D at_321) (fun v2161 hv2161 => ?_)
     refine k_ladd X2159 hx 323 (D at_322) (fun v2162 hv2162 => ?_)
     refine k_lstore X2159 hx 325 (D at_323) (Ls' := #[iv i0, iv i1, iv i2, jv i3, s_, rv b1, iv (1 : Int32), iv (4 : Int32), iv (5 : Int32), iv v1959, jv v2008, s_, jv v2011, s_, iv (0 : Int32), jv v2162, s_, iv v2156, u_]) rfl ?_
     refine key2154 T2159 _ _ _ (0 : Int32) v2162 v2156 X2159 e2159 N2159' hce2149 hsl2149 ?_
     have B2163 : (0 : Int) ≤ v2151.toInt ∧ v2151.toInt ≤ 99 := ⟨kL_ge hP2153.1.1 (by decide), kL_le hP2153.1.2 (by decide)⟩
     have B2164 : (-2147483648 : Int) ≤ v2150.toInt ∧ v2150.toInt ≤ 2147483647 := ⟨(rng32 v2150).1, Int.le_of_lt_add_one (rng32 v2150).2⟩
     have B2165 : (0 : Int) ≤ (0 : Int32).toInt ∧ (0 : Int32).toInt ≤ 0 := (by decide)
     have q2166 := congrArg Int32.toInt hc2157
     have B2171 : (10 : Int) ≤ (10 : Int64).toInt ∧ (10 : Int64).toInt ≤ 10 := (by decide)
     have q2170 : v2158.toInt = 10 * v2151.toInt := (by have q0 := c_lmul (10 : Int64) v2151; have q1 := rng64 v2158; have q2 := B2163; rw [← hv2158] at q0; rw [show (10 : Int64).toInt = 10 from (by decide)] at q0; omega)
     have B2169 : (0 : Int) ≤ v2158.toInt ∧ v2158.toInt ≤ 990 := (by rw [q2170]; exact k_mulB B2163 (by decide))
     have B2181 : (-2147483648 : Int) ≤ i2.toInt ∧ i2.toInt ≤ 2147483647 := ⟨(rng32 i2).1, Int.le_of_lt_add_one (rng32 i2).2⟩
     have B2182 : (-2147483648 : Int) ≤ i0.toInt ∧ i0.toInt ≤ 2147483647 := ⟨(rng32 i0).1, Int.le_of_lt_add_one (rng32 i0).2⟩
     have B2183 : (-2147483648 : Int) ≤ i1.toInt ∧ i1.toInt ≤ 2147483647 := ⟨(rng32 i1).1, Int.le_of_lt_add_one (rng32 i1).2⟩
     have B2178 : (-128 : Int) ≤ v15.toInt ∧ v15.toInt ≤ 127 := (by rw [← hb16]; exact ⟨(c_i2b _).2.1, Int.le_of_lt_add_one (c_i2b _).2.2⟩)
     have q2177 := own_fd v15 ⟨Int.le_trans (by decide) B2178.1, Int.le_trans B2178.2 (by decide)⟩; rw [← hv2156] at q2177
     have B2176 : (-1 : Int) ≤ v2156.toInt ∧ v2156.toInt ≤ 9 := q2177.2
     have q2175 := own_mx v2156 ⟨Int.le_trans (by decide) B2176.1, Int.le_trans B2176.2 (by decide)⟩; rw [← hv2160] at q2175
     have B2174 : (0 : Int) ≤ v2160.toInt ∧ v2160.toInt ≤ 9 := q2175.2
     have q2173 : v2161.toInt = v2160.toInt := (by rw [hv2161]; exact c_i2l _)
     have B2172 : (0 : Int) ≤ v2161.toInt ∧ v2161.toInt ≤ 9 := (by rw [q2173]; exact B2174)
     have q2168 : v2162.toInt = v2158.toInt + v2161.toInt := k_laddx hv2162 B2169 B2172 (by decide) (by decide)
     have B2167 : (0 : Int) ≤ v2162.toInt ∧ v2162.toInt ≤ 999 := k_addB q2168 B2169 B2172
     refine ⟨⟨fun hq2184 => ?_, fun hq2185 => ?_⟩, ?_⟩
     · rw [Int64.lt_iff_toInt_lt, show (0 : Int64).toInt = 0 from rfl] at hq2184; omega
     · rw [Int64.lt_iff_toInt_lt, show (999 : Int64).toInt = 999 from rfl] at hq2185; omega
     · exact Or.inr ⟨rfl, by omega⟩
    ·
     refine k_iload X2155 hx 299 (D at_297) rfl ?_
     refine k_if_lt X2155 hx 302 306 (D at_299) (fun hc2186 => ?_) (fun hc2186 => ?_)
     ·
      refine k_iconst X2155 hx 307 (D at_306) (z := (0 : Int32)) rfl ?_
      refine k_istore X2155 hx 309 (D at_307) (Ls' := #[iv i0, iv i1, iv i2, jv i3, s_, rv b1, iv (1 : Int32), iv (4 : Int32), iv (5 : Int32), iv v1959, jv v2008, s_, jv v2011, s_, iv (0 : Int32), jv v2151, s_, iv v2156, u_]) rfl ?_
      refine k_ldcL X2155 hx hZ hown 312 (k_w hw 16 rfl) (D at_309) ?_
      refine k_lload X2155 hx 314 (D at_312) rfl ?_
      refine k_lmul X2155 hx 315 (D at_314) (fun v2187 hv2187 => ?_)
      refine k_iload X2155 hx 317 (D at_315) rfl ?_
      refine k_iconst X2155 hx 318 (D at_317) (z := (0 : Int32)) rfl ?_
      refine k_callS X2155 hx hZ hown 321 (k_w hw 17 rfl) (k_w hw 18 rfl) (k_w hw 19 rfl) (k_w hw 20 rfl) (by decide) (rm4_9 l Z a0 hw [] v2156 h21 n0 Z21 ) (by decide) (by decide) e2155 (by rw [hml]; rfl) (argsL := [(.int v2156), (.int (0 : Int32))]) (rest := [(.long v2187)]) (lenOf pd_3 rfl) rfl (W := 2) (Nat.le_refl _) rfl (D at_318) (by show _ + 0 ≤ _; exact Nat.le_trans hce2149 (by decide)) (by show _ + 0 ≤ _; exact Nat.le_trans hsl2149 (by decide)) (fun T2188 L2188 r2188 X2188 q2188 => ?_)
      obtain ⟨N2188, e2188, rfl⟩ := q2188
      have N2188' := Fr.app N2155' N2188
      show KEnds p e below s _ _ _ T2188 (mkF m 321 #[iv i0, iv i1, iv i2, jv i3, s_, rv b1, iv (1 : Int32), iv (4 : Int32), iv (5 : Int32), iv v1959, jv v2008, s_, jv v2011, s_, iv (0 : Int32), jv v2151, s_, iv v2156, u_] ((.int (f4_9 v2156)) :: (.long v2187) :: []))
      obtain ⟨v2189, hv2189⟩ : ∃ z, z = f4_9 v2156 := ⟨_, rfl⟩
      rw [← hv2189]
      refine k_i2l X2188 hx 322 (D at_321) (fun v2190 hv2190 => ?_)
      refine k_ladd X2188 hx 323 (D at_322) (fun v2191 hv2191 => ?_)
      refine k_lstore X2188 hx 325 (D at_323) (Ls' := #[iv i0, iv i1, iv i2, jv i3, s_, rv b1, iv (1 : Int32), iv (4 : Int32), iv (5 : Int32), iv v1959, jv v2008, s_, jv v2011, s_, iv (0 : Int32), jv v2191, s_, iv v2156, u_]) rfl ?_
      refine key2154 T2188 _ _ _ (0 : Int32) v2191 v2156 X2188 e2188 N2188' hce2149 hsl2149 ?_
      have B2192 : (0 : Int) ≤ v2151.toInt ∧ v2151.toInt ≤ 99 := ⟨kL_ge hP2153.1.1 (by decide), kL_le hP2153.1.2 (by decide)⟩
      have B2193 : (-2147483648 : Int) ≤ v2150.toInt ∧ v2150.toInt ≤ 2147483647 := ⟨(rng32 v2150).1, Int.le_of_lt_add_one (rng32 v2150).2⟩
      have B2194 : (0 : Int) ≤ (0 : Int32).toInt ∧ (0 : Int32).toInt ≤ 0 := (by decide)
      have q2195 : ¬ v2150.toInt = (0 : Int32).toInt := fun q => hc2157 (Int32.toInt_inj.mp q)
      have B2201 : (-2147483648 : Int) ≤ i2.toInt ∧ i2.toInt ≤ 2147483647 := ⟨(rng32 i2).1, Int.le_of_lt_add_one (rng32 i2).2⟩
      have B2202 : (-2147483648 : Int) ≤ i0.toInt ∧ i0.toInt ≤ 2147483647 := ⟨(rng32 i0).1, Int.le_of_lt_add_one (rng32 i0).2⟩
      have B2203 : (-2147483648 : Int) ≤ i1.toInt ∧ i1.toInt ≤ 2147483647 := ⟨(rng32 i1).1, Int.le_of_lt_add_one (rng32 i1).2⟩
      have B2198 : (-128 : Int) ≤ v15.toInt ∧ v15.toInt ≤ 127 := (by rw [← hb16]; exact ⟨(c_i2b _).2.1, Int.le_of_lt_add_one (c_i2b _).2.2⟩)
      have q2197 := own_fd v15 ⟨Int.le_trans (by decide) B2198.1, Int.le_trans B2198.2 (by decide)⟩; rw [← hv2156] at q2197
      have B2196 : (-1 : Int) ≤ v2156.toInt ∧ v2156.toInt ≤ 9 := q2197.2
      have B2204 : (-1 : Int) ≤ v2156.toInt ∧ v2156.toInt ≤ -1 := ⟨B2196.1, k_lt hc2186 (by decide)⟩
      have B2209 : (10 : Int) ≤ (10 : Int64).toInt ∧ (10 : Int64).toInt ≤ 10 := (by decide)
      have q2208 : v2187.toInt = 10 * v2151.toInt := (by have q0 := c_lmul (10 : Int64) v2151; have q1 := rng64 v2187; have q2 := B2192; rw [← hv2187] at q0; rw [show (10 : Int64).toInt = 10 from (by decide)] at q0; omega)
      have B2207 : (0 : Int) ≤ v2187.toInt ∧ v2187.toInt ≤ 990 := (by rw [q2208]; exact k_mulB B2192 (by decide))
      have q2213 := own_mx v2156 ⟨Int.le_trans (by decide) B2204.1, Int.le_trans B2204.2 (by decide)⟩; rw [← hv2189] at q2213
      have B2212 : (0 : Int) ≤ v2189.toInt ∧ v2189.toInt ≤ 9 := q2213.2
      have q2211 : v2190.toInt = v2189.toInt := (by rw [hv2190]; exact c_i2l _)
      have B2210 : (0 : Int) ≤ v2190.toInt ∧ v2190.toInt ≤ 9 := (by rw [q2211]; exact B2212)
      have q2206 : v2191.toInt = v2187.toInt + v2190.toInt := k_laddx hv2191 B2207 B2210 (by decide) (by decide)
      have B2205 : (0 : Int) ≤ v2191.toInt ∧ v2191.toInt ≤ 999 := k_addB q2206 B2207 B2210
      refine ⟨⟨fun hq2214 => ?_, fun hq2215 => ?_⟩, ?_⟩
      · rw [Int64.lt_iff_toInt_lt, show (0 : Int64).toInt = 0 from rfl] at hq2214; omega
      · rw [Int64.lt_iff_toInt_lt, show (999 : Int64).toInt = 999 from rfl] at hq2215; omega
      · exact Or.inr ⟨rfl, by omega⟩
     ·
      refine k_iconst X2155 hx 303 (D at_302) (z := (1 : Int32)) rfl ?_
      refine k_goto X2155 hx 307 (D at_303) ?_
      refine k_istore X2155 hx 309 (D at_307) (Ls' := #[iv i0, iv i1, iv i2, jv i3, s_, rv b1, iv (1 : Int32), iv (4 : Int32), iv (5 : Int32), iv v1959, jv v2008, s_, jv v2011, s_, iv (1 : Int32), jv v2151, s_, iv v2156, u_]) rfl ?_
      refine k_ldcL X2155 hx hZ hown 312 (k_w hw 16 rfl) (D at_309) ?_
      refine k_lload X2155 hx 314 (D at_312) rfl ?_
      refine k_lmul X2155 hx 315 (D at_314) (fun v2216 hv2216 => ?_)
      refine k_iload X2155 hx 317 (D at_315) rfl ?_
      refine k_iconst X2155 hx 318 (D at_317) (z := (0 : Int32)) rfl ?_
      refine k_callS X2155 hx hZ hown 321 (k_w hw 17 rfl) (k_w hw 18 rfl) (k_w hw 19 rfl) (k_w hw 20 rfl) (by decide) (rm4_9 l Z a0 hw [] v2156 h21 n0 Z21 ) (by decide) (by decide) e2155 (by rw [hml]; rfl) (argsL := [(.int v2156), (.int (0 : Int32))]) (rest := [(.long v2216)]) (lenOf pd_3 rfl) rfl (W := 2) (Nat.le_refl _) rfl (D at_318) (by show _ + 0 ≤ _; exact Nat.le_trans hce2149 (by decide)) (by show _ + 0 ≤ _; exact Nat.le_trans hsl2149 (by decide)) (fun T2217 L2217 r2217 X2217 q2217 => ?_)
      obtain ⟨N2217, e2217, rfl⟩ := q2217
      have N2217' := Fr.app N2155' N2217
      show KEnds p e below s _ _ _ T2217 (mkF m 321 #[iv i0, iv i1, iv i2, jv i3, s_, rv b1, iv (1 : Int32), iv (4 : Int32), iv (5 : Int32), iv v1959, jv v2008, s_, jv v2011, s_, iv (1 : Int32), jv v2151, s_, iv v2156, u_] ((.int (f4_9 v2156)) :: (.long v2216) :: []))
      obtain ⟨v2218, hv2218⟩ : ∃ z, z = f4_9 v2156 := ⟨_, rfl⟩
      rw [← hv2218]
      refine k_i2l X2217 hx 322 (D at_321) (fun v2219 hv2219 => ?_)
      refine k_ladd X2217 hx 323 (D at_322) (fun v2220 hv2220 => ?_)
      refine k_lstore X2217 hx 325 (D at_323) (Ls' := #[iv i0, iv i1, iv i2, jv i3, s_, rv b1, iv (1 : Int32), iv (4 : Int32), iv (5 : Int32), iv v1959, jv v2008, s_, jv v2011, s_, iv (1 : Int32), jv v2220, s_, iv v2156, u_]) rfl ?_
      refine key2154 T2217 _ _ _ (1 : Int32) v2220 v2156 X2217 e2217 N2217' hce2149 hsl2149 ?_
      have B2221 : (0 : Int) ≤ v2151.toInt ∧ v2151.toInt ≤ 99 := ⟨kL_ge hP2153.1.1 (by decide), kL_le hP2153.1.2 (by decide)⟩
      have B2222 : (-2147483648 : Int) ≤ v2150.toInt ∧ v2150.toInt ≤ 2147483647 := ⟨(rng32 v2150).1, Int.le_of_lt_add_one (rng32 v2150).2⟩
      have B2223 : (0 : Int) ≤ (0 : Int32).toInt ∧ (0 : Int32).toInt ≤ 0 := (by decide)
      have q2224 : ¬ v2150.toInt = (0 : Int32).toInt := fun q => hc2157 (Int32.toInt_inj.mp q)
      have B2230 : (-2147483648 : Int) ≤ i2.toInt ∧ i2.toInt ≤ 2147483647 := ⟨(rng32 i2).1, Int.le_of_lt_add_one (rng32 i2).2⟩
      have B2231 : (-2147483648 : Int) ≤ i0.toInt ∧ i0.toInt ≤ 2147483647 := ⟨(rng32 i0).1, Int.le_of_lt_add_one (rng32 i0).2⟩
      have B2232 : (-2147483648 : Int) ≤ i1.toInt ∧ i1.toInt ≤ 2147483647 := ⟨(rng32 i1).1, Int.le_of_lt_add_one (rng32 i1).2⟩
      have B2227 : (-128 : Int) ≤ v15.toInt ∧ v15.toInt ≤ 127 := (by rw [← hb16]; exact ⟨(c_i2b _).2.1, Int.le_of_lt_add_one (c_i2b _).2.2⟩)
      have q2226 := own_fd v15 ⟨Int.le_trans (by decide) B2227.1, Int.le_trans B2227.2 (by decide)⟩; rw [← hv2156] at q2226
      have B2225 : (-1 : Int) ≤ v2156.toInt ∧ v2156.toInt ≤ 9 := q2226.2
      have B2233 : (0 : Int) ≤ v2156.toInt ∧ v2156.toInt ≤ 9 := ⟨k_ge hc2186 (by decide), B2225.2⟩
      have B2238 : (10 : Int) ≤ (10 : Int64).toInt ∧ (10 : Int64).toInt ≤ 10 := (by decide)
      have q2237 : v2216.toInt = 10 * v2151.toInt := (by have q0 := c_lmul (10 : Int64) v2151; have q1 := rng64 v2216; have q2 := B2221; rw [← hv2216] at q0; rw [show (10 : Int64).toInt = 10 from (by decide)] at q0; omega)
      have B2236 : (0 : Int) ≤ v2216.toInt ∧ v2216.toInt ≤ 990 := (by rw [q2237]; exact k_mulB B2221 (by decide))
      have q2242 := own_mx v2156 ⟨Int.le_trans (by decide) B2233.1, Int.le_trans B2233.2 (by decide)⟩; rw [← hv2218] at q2242
      have B2241 : (0 : Int) ≤ v2218.toInt ∧ v2218.toInt ≤ 9 := q2242.2
      have q2240 : v2219.toInt = v2218.toInt := (by rw [hv2219]; exact c_i2l _)
      have B2239 : (0 : Int) ≤ v2219.toInt ∧ v2219.toInt ≤ 9 := (by rw [q2240]; exact B2241)
      have q2235 : v2220.toInt = v2216.toInt + v2219.toInt := k_laddx hv2220 B2236 B2239 (by decide) (by decide)
      have B2234 : (0 : Int) ≤ v2220.toInt ∧ v2220.toInt ≤ 999 := k_addB q2235 B2236 B2239
      refine ⟨⟨fun hq2243 => ?_, fun hq2244 => ?_⟩, ?_⟩
      · rw [Int64.lt_iff_toInt_lt, show (0 : Int64).toInt = 0 from rfl] at hq2243; omega
      · rw [Int64.lt_iff_toInt_lt, show (999 : Int64).toInt = 999 from rfl] at hq2244; omega
      · exact Or.inl ⟨rfl, by omega⟩
   intro T2245 lo2245 ce2245 sl2245 v2246 v2247 v2248 X2245 e2245 N2245 hce2245 hsl2245 hP2249
   refine k_iload X2245 hx 327 (D at_325) rfl ?_
   refine k_iconst X2245 hx 328 (D at_327) (z := (3 : Int32)) rfl ?_
   refine k_icmp_le X2245 hx 331 376 (D at_328) (fun hc => absurd (by decide) hc) (fun _ => ?_)
   suffices key2250 : ∀ (T2341 : State) (lo2341 : List Loc) (ce2341 sl2341 : Nat) (v2342 : Int32) (v2343 : Int64) (v2344 : Int32), Stand p l e room_1 s m #[(.int i0), (.int i1), (.int i2), (.long i3)] below meth c T2341 lo2341 ce2341 sl2341 → T2341.heap = h21 → Fr n0 lo2341 → ce2341 ≤ 16 → sl2341 ≤ 128 → ((¬ v2343 < 0 ∧ ¬ (9999 : Int64) < v2343) ∧ ((v2342.toInt = 1 ∧ ((48 ≤ v7.toInt ∧ v7.toInt ≤ 57) ∧ (48 ≤ v11.toInt ∧ v11.toInt ≤ 57) ∧ (48 ≤ v15.toInt ∧ v15.toInt ≤ 57) ∧ (48 ≤ v19.toInt ∧ v19.toInt ≤ 57)) ∧ v2343.toInt = 1000 * (v7.toInt - 48) + 100 * (v11.toInt - 48) + 10 * (v15.toInt - 48) + 1 * (v19.toInt - 48)) ∨ (v2342.toInt = 0 ∧ ¬ ((48 ≤ v7.toInt ∧ v7.toInt ≤ 57) ∧ (48 ≤ v11.toInt ∧ v11.toInt ≤ 57) ∧ (48 ≤ v15.toInt ∧ v15.toInt ≤ 57) ∧ (48 ≤ v19.toInt ∧ v19.toInt ≤ 57))))) → KEnds p e below s 16 128 (Q0 n0) T2341 (mkF m 376 #[iv i0, iv i1, iv i2, jv i3, s_, rv b1, iv (1 : Int32), iv (4 : Int32), iv (5 : Int32), iv v1959, jv v2008, s_, jv v2011, s_, iv v2342, jv v2343, s_, iv v2344, u_] []) by
    refine k_aload X2245 hx 333 (D at_331) rfl rfl ?_
    refine k_iload X2245 hx 335 (D at_333) rfl ?_
    refine k_iconst X2245 hx 336 (D at_335) (z := (3 : Int32)) rfl ?_
    refine k_iaddL X2245 hx 337 (D at_336) (z := (4 : Int32)) (by decide) ?_
    refine k_baload X2245 hx hZ 338 e2245 Vw21 ⟨by decide, by decide⟩ (v := (.int v19)) rfl (D at_337) ?_
    refine k_callS X2245 hx hZ hown 341 (k_w hw 13 rfl) (k_w hw 14 rfl) (k_w hw 3 rfl) (k_w hw 15 rfl) (by decide) (rm3_8 l Z a0 hw [] v19 h21 n0 Z21 ) (by decide) (by decide) e2245 (by rw [hml]; rfl) (argsL := [(.int v19)]) (rest := []) (lenOf pd_2 rfl) rfl (W := 0) (Nat.le_refl _) rfl (D at_338) (by show _ + 0 ≤ _; exact Nat.le_trans hce2245 (by decide)) (by show _ + 0 ≤ _; exact Nat.le_trans hsl2245 (by decide)) (fun T2251 L2251 r2251 X2251 q2251 => ?_)
    obtain ⟨N2251, e2251, rfl⟩ := q2251
    have N2251' := Fr.app N2245 N2251
    show KEnds p e below s _ _ _ T2251 (mkF m 341 #[iv i0, iv i1, iv i2, jv i3, s_, rv b1, iv (1 : Int32), iv (4 : Int32), iv (5 : Int32), iv v1959, jv v2008, s_, jv v2011, s_, iv v2246, jv v2247, s_, iv v2248, u_] ((.int (f3_8 v19)) :: []))
    obtain ⟨v2252, hv2252⟩ : ∃ z, z = f3_8 v19 := ⟨_, rfl⟩
    rw [← hv2252]
    refine k_istore X2251 hx 343 (D at_341) (Ls' := #[iv i0, iv i1, iv i2, jv i3, s_, rv b1, iv (1 : Int32), iv (4 : Int32), iv (5 : Int32), iv v1959, jv v2008, s_, jv v2011, s_, iv v2246, jv v2247, s_, iv v2252, u_]) rfl ?_
    refine k_iload X2251 hx 345 (D at_343) rfl ?_
    refine k_if_eq X2251 hx 348 357 (D at_345) (fun hc2253 => ?_) (fun hc2253 => ?_)
    ·
     refine k_iconst X2251 hx 358 (D at_357) (z := (0 : Int32)) rfl ?_
     refine k_istore X2251 hx 360 (D at_358) (Ls' := #[iv i0, iv i1, iv i2, jv i3, s_, rv b1, iv (1 : Int32), iv (4 : Int32), iv (5 : Int32), iv v1959, jv v2008, s_, jv v2011, s_, iv (0 : Int32), jv v2247, s_, iv v2252, u_]) rfl ?_
     refine k_ldcL X2251 hx hZ hown 363 (k_w hw 16 rfl) (D at_360) ?_
     refine k_lload X2251 hx 365 (D at_363) rfl ?_
     refine k_lmul X2251 hx 366 (D at_365) (fun v2254 hv2254 => ?_)
     refine k_iload X2251 hx 368 (D at_366) rfl ?_
     refine k_iconst X2251 hx 369 (D at_368) (z := (0 : Int32)) rfl ?_
     refine k_callS X2251 hx hZ hown 372 (k_w hw 17 rfl) (k_w hw 18 rfl) (k_w hw 19 rfl) (k_w hw 20 rfl) (by decide) (rm4_9 l Z a0 hw [] v2252 h21 n0 Z21 ) (by decide) (by decide) e2251 (by rw [hml]; rfl) (argsL := [(.int v2252), (.int (0 : Int32))]) (rest := [(.long v2254)]) (lenOf pd_3 rfl) rfl (W := 2) (Nat.le_refl _) rfl (D at_369) (by show _ + 0 ≤ _; exact Nat.le_trans hce2245 (by decide)) (by show _ + 0 ≤ _; exact Nat.le_trans hsl2245 (by decide)) (fun T2255 L2255 r2255 X2255 q2255 => ?_)
     obtain ⟨N2255, e2255, rfl⟩ := q2255
     have N2255' := Fr.app N2251' N2255
     show KEnds p e below s _ _ _ T2255 (mkF m 372 #[iv i0, iv i1, iv i2, jv i3, s_, rv b1, iv (1 : Int32), iv (4 : Int32), iv (5 : Int32), iv v1959, jv v2008, s_, jv v2011, s_, iv (0 : Int32), jv v2247, s_, iv v2252, u_] ((.int (f4_9 v2252)) :: (.long v2254) :: []))
     obtain ⟨v2256, hv2256⟩ : ∃ z, z = f4_9 v2252 := ⟨_, rfl⟩
     rw [← hv2256]
     refine k_i2l X2255 hx 373 (D at_372) (fun v2257 hv2257 => ?_)
     refine k_ladd X2255 hx 374 (D at_373) (fun v2258 hv2258 => ?_)
     refine k_lstore X2255 hx 376 (D at_374) (Ls' := #[iv i0, iv i1, iv i2, jv i3, s_, rv b1, iv (1 : Int32), iv (4 : Int32), iv (5 : Int32), iv v1959, jv v2008, s_, jv v2011, s_, iv (0 : Int32), jv v2258, s_, iv v2252, u_]) rfl ?_
     refine key2250 T2255 _ _ _ (0 : Int32) v2258 v2252 X2255 e2255 N2255' hce2245 hsl2245 ?_
     have B2259 : (0 : Int) ≤ v2247.toInt ∧ v2247.toInt ≤ 999 := ⟨kL_ge hP2249.1.1 (by decide), kL_le hP2249.1.2 (by decide)⟩
     have B2260 : (-2147483648 : Int) ≤ v2246.toInt ∧ v2246.toInt ≤ 2147483647 := ⟨(rng32 v2246).1, Int.le_of_lt_add_one (rng32 v2246).2⟩
     have B2261 : (0 : Int) ≤ (0 : Int32).toInt ∧ (0 : Int32).toInt ≤ 0 := (by decide)
     have q2262 := congrArg Int32.toInt hc2253
     have B2267 : (10 : Int) ≤ (10 : Int64).toInt ∧ (10 : Int64).toInt ≤ 10 := (by decide)
     have q2266 : v2254.toInt = 10 * v2247.toInt := (by have q0 := c_lmul (10 : Int64) v2247; have q1 := rng64 v2254; have q2 := B2259; rw [← hv2254] at q0; rw [show (10 : Int64).toInt = 10 from (by decide)] at q0; omega)
     have B2265 : (0 : Int) ≤ v2254.toInt ∧ v2254.toInt ≤ 9990 := (by rw [q2266]; exact k_mulB B2259 (by decide))
     have B2277 : (-2147483648 : Int) ≤ i2.toInt ∧ i2.toInt ≤ 2147483647 := ⟨(rng32 i2).1, Int.le_of_lt_add_one (rng32 i2).2⟩
     have B2278 : (-2147483648 : Int) ≤ i0.toInt ∧ i0.toInt ≤ 2147483647 := ⟨(rng32 i0).1, Int.le_of_lt_add_one (rng32 i0).2⟩
     have B2279 : (-2147483648 : Int) ≤ i1.toInt ∧ i1.toInt ≤ 2147483647 := ⟨(rng32 i1).1, Int.le_of_lt_add_one (rng32 i1).2⟩
     have B2274 : (-128 : Int) ≤ v19.toInt ∧ v19.toInt ≤ 127 := (by rw [← hb20]; exact ⟨(c_i2b _).2.1, Int.le_of_lt_add_one (c_i2b _).2.2⟩)
     have q2273 := own_fd v19 ⟨Int.le_trans (by decide) B2274.1, Int.le_trans B2274.2 (by decide)⟩; rw [← hv2252] at q2273
     have B2272 : (-1 : Int) ≤ v2252.toInt ∧ v2252.toInt ≤ 9 := q2273.2
     have q2271 := own_mx v2252 ⟨Int.le_trans (by decide) B2272.1, Int.le_trans B2272.2 (by decide)⟩; rw [← hv2256] at q2271
     have B2270 : (0 : Int) ≤ v2256.toInt ∧ v2256.toInt ≤ 9 := q2271.2
     have q2269 : v2257.toInt = v2256.toInt := (by rw [hv2257]; exact c_i2l _)
     have B2268 : (0 : Int) ≤ v2257.toInt ∧ v2257.toInt ≤ 9 := (by rw [q2269]; exact B2270)
     have q2264 : v2258.toInt = v2254.toInt + v2257.toInt := k_laddx hv2258 B2265 B2268 (by decide) (by decide)
     have B2263 : (0 : Int) ≤ v2258.toInt ∧ v2258.toInt ≤ 9999 := k_addB q2264 B2265 B2268
     refine ⟨⟨fun hq2280 => ?_, fun hq2281 => ?_⟩, ?_⟩
     · rw [Int64.lt_iff_toInt_lt, show (0 : Int64).toInt = 0 from rfl] at hq2280; omega
     · rw [Int64.lt_iff_toInt_lt, show (9999 : Int64).toInt = 9999 from rfl] at hq2281; omega
     · exact Or.inr ⟨rfl, by omega⟩
    ·
     refine k_iload X2251 hx 350 (D at_348) rfl ?_
     refine k_if_lt X2251 hx 353 357 (D at_350) (fun hc2282 => ?_) (fun hc2282 => ?_)
     ·
      refine k_iconst X2251 hx 358 (D at_357) (z := (0 : Int32)) rfl ?_
      refine k_istore X2251 hx 360 (D at_358) (Ls' := #[iv i0, iv i1, iv i2, jv i3, s_, rv b1, iv (1 : Int32), iv (4 : Int32), iv (5 : Int32), iv v1959, jv v2008, s_, jv v2011, s_, iv (0 : Int32), jv v2247, s_, iv v2252, u_]) rfl ?_
      refine k_ldcL X2251 hx hZ hown 363 (k_w hw 16 rfl) (D at_360) ?_
      refine k_lload X2251 hx 365 (D at_363) rfl ?_
      refine k_lmul X2251 hx 366 (D at_365) (fun v2283 hv2283 => ?_)
      refine k_iload X2251 hx 368 (D at_366) rfl ?_
      refine k_iconst X2251 hx 369 (D at_368) (z := (0 : Int32)) rfl ?_
      refine k_callS X2251 hx hZ hown 372 (k_w hw 17 rfl) (k_w hw 18 rfl) (k_w hw 19 rfl) (k_w hw 20 rfl) (by decide) (rm4_9 l Z a0 hw [] v2252 h21 n0 Z21 ) (by decide) (by decide) e2251 (by rw [hml]; rfl) (argsL := [(.int v2252), (.int (0 : Int32))]) (rest := [(.long v2283)]) (lenOf pd_3 rfl) rfl (W := 2) (Nat.le_refl _) rfl (D at_369) (by show _ + 0 ≤ _; exact Nat.le_trans hce2245 (by decide)) (by show _ + 0 ≤ _; exact Nat.le_trans hsl2245 (by decide)) (fun T2284 L2284 r2284 X2284 q2284 => ?_)
      obtain ⟨N2284, e2284, rfl⟩ := q2284
      have N2284' := Fr.app N2251' N2284
      show KEnds p e below s _ _ _ T2284 (mkF m 372 #[iv i0, iv i1, iv i2, jv i3, s_, rv b1, iv (1 : Int32), iv (4 : Int32), iv (5 : Int32), iv v1959, jv v2008, s_, jv v2011, s_, iv (0 : Int32), jv v2247, s_, iv v2252, u_] ((.int (f4_9 v2252)) :: (.long v2283) :: []))
      obtain ⟨v2285, hv2285⟩ : ∃ z, z = f4_9 v2252 := ⟨_, rfl⟩
      rw [← hv2285]
      refine k_i2l X2284 hx 373 (D at_372) (fun v2286 hv2286 => ?_)
      refine k_ladd X2284 hx 374 (D at_373) (fun v2287 hv2287 => ?_)
      refine k_lstore X2284 hx 376 (D at_374) (Ls' := #[iv i0, iv i1, iv i2, jv i3, s_, rv b1, iv (1 : Int32), iv (4 : Int32), iv (5 : Int32), iv v1959, jv v2008, s_, jv v2011, s_, iv (0 : Int32), jv v2287, s_, iv v2252, u_]) rfl ?_
      refine key2250 T2284 _ _ _ (0 : Int32) v2287 v2252 X2284 e2284 N2284' hce2245 hsl2245 ?_
      have B2288 : (0 : Int) ≤ v2247.toInt ∧ v2247.toInt ≤ 999 := ⟨kL_ge hP2249.1.1 (by decide), kL_le hP2249.1.2 (by decide)⟩
      have B2289 : (-2147483648 : Int) ≤ v2246.toInt ∧ v2246.toInt ≤ 2147483647 := ⟨(rng32 v2246).1, Int.le_of_lt_add_one (rng32 v2246).2⟩
      have B2290 : (0 : Int) ≤ (0 : Int32).toInt ∧ (0 : Int32).toInt ≤ 0 := (by decide)
      have q2291 : ¬ v2246.toInt = (0 : Int32).toInt := fun q => hc2253 (Int32.toInt_inj.mp q)
      have B2297 : (-2147483648 : Int) ≤ i2.toInt ∧ i2.toInt ≤ 2147483647 := ⟨(rng32 i2).1, Int.le_of_lt_add_one (rng32 i2).2⟩
      have B2298 : (-2147483648 : Int) ≤ i0.toInt ∧ i0.toInt ≤ 2147483647 := ⟨(rng32 i0).1, Int.le_of_lt_add_one (rng32 i0).2⟩
      have B2299 : (-2147483648 : Int) ≤ i1.toInt ∧ i1.toInt ≤ 2147483647 := ⟨(rng32 i1).1, Int.le_of_lt_add_one (rng32 i1).2⟩
      have B2294 : (-128 : Int) ≤ v19.toInt ∧ v19.toInt ≤ 127 := (by rw [← hb20]; exact ⟨(c_i2b _).2.1, Int.le_of_lt_add_one (c_i2b _).2.2⟩)
      have q2293 := own_fd v19 ⟨Int.le_trans (by decide) B2294.1, Int.le_trans B2294.2 (by decide)⟩; rw [← hv2252] at q2293
      have B2292 : (-1 : Int) ≤ v2252.toInt ∧ v2252.toInt ≤ 9 := q2293.2
      have B2300 : (-1 : Int) ≤ v2252.toInt ∧ v2252.toInt ≤ -1 := ⟨B2292.1, k_lt hc2282 (by decide)⟩
      have B2305 : (10 : Int) ≤ (10 : Int64).toInt ∧ (10 : Int64).toInt ≤ 10 := (by decide)
      have q2304 : v2283.toInt = 10 * v2247.toInt := (by have q0 := c_lmul (10 : Int64) v2247; have q1 := rng64 v2283; have q2 := B2288; rw [← hv2283] at q0; rw [show (10 : Int64).toInt = 10 from (by decide)] at q0; omega)
      have B2303 : (0 : Int) ≤ v2283.toInt ∧ v2283.toInt ≤ 9990 := (by rw [q2304]; exact k_mulB B2288 (by decide))
      have q2309 := own_mx v2252 ⟨Int.le_trans (by decide) B2300.1, Int.le_trans B2300.2 (by decide)⟩; rw [← hv2285] at q2309
      have B2308 : (0 : Int) ≤ v2285.toInt ∧ v2285.toInt ≤ 9 := q2309.2
      have q2307 : v2286.toInt = v2285.toInt := (by rw [hv2286]; exact c_i2l _)
      have B2306 : (0 : Int) ≤ v2286.toInt ∧ v2286.toInt ≤ 9 := (by rw [q2307]; exact B2308)
      have q2302 : v2287.toInt = v2283.toInt + v2286.toInt := k_laddx hv2287 B2303 B2306 (by decide) (by decide)
      have B2301 : (0 : Int) ≤ v2287.toInt ∧ v2287.toInt ≤ 9999 := k_addB q2302 B2303 B2306
      refine ⟨⟨fun hq2310 => ?_, fun hq2311 => ?_⟩, ?_⟩
      · rw [Int64.lt_iff_toInt_lt, show (0 : Int64).toInt = 0 from rfl] at hq2310; omega
      · rw [Int64.lt_iff_toInt_lt, show (9999 : Int64).toInt = 9999 from rfl] at hq2311; omega
      · exact Or.inr ⟨rfl, by omega⟩
     ·
      refine k_iconst X2251 hx 354 (D at_353) (z := (1 : Int32)) rfl ?_
      refine k_goto X2251 hx 358 (D at_354) ?_
      refine k_istore X2251 hx 360 (D at_358) (Ls' := #[iv i0, iv i1, iv i2, jv i3, s_, rv b1, iv (1 : Int32), iv (4 : Int32), iv (5 : Int32), iv v1959, jv v2008, s_, jv v2011, s_, iv (1 : Int32), jv v2247, s_, iv v2252, u_]) rfl ?_
      refine k_ldcL X2251 hx hZ hown 363 (k_w hw 16 rfl) (D at_360) ?_
      refine k_lload X2251 hx 365 (D at_363) rfl ?_
      refine k_lmul X2251 hx 366 (D at_365) (fun v2312 hv2312 => ?_)
      refine k_iload X2251 hx 368 (D at_366) rfl ?_
      refine k_iconst X2251 hx 369 (D at_368) (z := (0 : Int32)) rfl ?_
      refine k_callS X2251 hx hZ hown 372 (k_w hw 17 rfl) (k_w hw 18 rfl) (k_w hw 19 rfl) (k_w hw 20 rfl) (by decide) (rm4_9 l Z a0 hw [] v2252 h21 n0 Z21 ) (by decide) (by decide) e2251 (by rw [hml]; rfl) (argsL := [(.int v2252), (.int (0 : Int32))]) (rest := [(.long v2312)]) (lenOf pd_3 rfl) rfl (W := 2) (Nat.le_refl _) rfl (D at_369) (by show _ + 0 ≤ _; exact Nat.le_trans hce2245 (by decide)) (by show _ + 0 ≤ _; exact Nat.le_trans hsl2245 (by decide)) (fun T2313 L2313 r2313 X2313 q2313 => ?_)
      obtain ⟨N2313, e2313, rfl⟩ := q2313
      have N2313' := Fr.app N2251' N2313
      show KEnds p e below s _ _ _ T2313 (mkF m 372 #[iv i0, iv i1, iv i2, jv i3, s_, rv b1, iv (1 : Int32), iv (4 : Int32), iv (5 : Int32), iv v1959, jv v2008, s_, jv v2011, s_, iv (1 : Int32), jv v2247, s_, iv v2252, u_] ((.int (f4_9 v2252)) :: (.long v2312) :: []))
      obtain ⟨v2314, hv2314⟩ : ∃ z, z = f4_9 v2252 := ⟨_, rfl⟩
      rw [← hv2314]
      refine k_i2l X2313 hx 373 (D at_372) (fun v2315 hv2315 => ?_)
      refine k_ladd X2313 hx 374 (D at_373) (fun v2316 hv2316 => ?_)
      refine k_lstore X2313 hx 376 (D at_374) (Ls' := #[iv i0, iv i1, iv i2, jv i3, s_, rv b1, iv (1 : Int32), iv (4 : Int32), iv (5 : Int32), iv v1959, jv v2008, s_, jv v2011, s_, iv (1 : Int32), jv v2316, s_, iv v2252, u_]) rfl ?_
      refine key2250 T2313 _ _ _ (1 : Int32) v2316 v2252 X2313 e2313 N2313' hce2245 hsl2245 ?_
      have B2317 : (0 : Int) ≤ v2247.toInt ∧ v2247.toInt ≤ 999 := ⟨kL_ge hP2249.1.1 (by decide), kL_le hP2249.1.2 (by decide)⟩
      have B2318 : (-2147483648 : Int) ≤ v2246.toInt ∧ v2246.toInt ≤ 2147483647 := ⟨(rng32 v2246).1, Int.le_of_lt_add_one (rng32 v2246).2⟩
      have B2319 : (0 : Int) ≤ (0 : Int32).toInt ∧ (0 : Int32).toInt ≤ 0 := (by decide)
      have q2320 : ¬ v2246.toInt = (0 : Int32).toInt := fun q => hc2253 (Int32.toInt_inj.mp q)
      have B2326 : (-2147483648 : Int) ≤ i2.toInt ∧ i2.toInt ≤ 2147483647 := ⟨(rng32 i2).1, Int.le_of_lt_add_one (rng32 i2).2⟩
      have B2327 : (-2147483648 : Int) ≤ i0.toInt ∧ i0.toInt ≤ 2147483647 := ⟨(rng32 i0).1, Int.le_of_lt_add_one (rng32 i0).2⟩
      have B2328 : (-2147483648 : Int) ≤ i1.toInt ∧ i1.toInt ≤ 2147483647 := ⟨(rng32 i1).1, Int.le_of_lt_add_one (rng32 i1).2⟩
      have B2323 : (-128 : Int) ≤ v19.toInt ∧ v19.toInt ≤ 127 := (by rw [← hb20]; exact ⟨(c_i2b _).2.1, Int.le_of_lt_add_one (c_i2b _).2.2⟩)
      have q2322 := own_fd v19 ⟨Int.le_trans (by decide) B2323.1, Int.le_trans B2323.2 (by decide)⟩; rw [← hv2252] at q2322
      have B2321 : (-1 : Int) ≤ v2252.toInt ∧ v2252.toInt ≤ 9 := q2322.2
      have B2329 : (0 : Int) ≤ v2252.toInt ∧ v2252.toInt ≤ 9 := ⟨k_ge hc2282 (by decide), B2321.2⟩
      have B2334 : (10 : Int) ≤ (10 : Int64).toInt ∧ (10 : Int64).toInt ≤ 10 := (by decide)
      have q2333 : v2312.toInt = 10 * v2247.toInt := (by have q0 := c_lmul (10 : Int64) v2247; have q1 := rng64 v2312; have q2 := B2317; rw [← hv2312] at q0; rw [show (10 : Int64).toInt = 10 from (by decide)] at q0; omega)
      have B2332 : (0 : Int) ≤ v2312.toInt ∧ v2312.toInt ≤ 9990 := (by rw [q2333]; exact k_mulB B2317 (by decide))
      have q2338 := own_mx v2252 ⟨Int.le_trans (by decide) B2329.1, Int.le_trans B2329.2 (by decide)⟩; rw [← hv2314] at q2338
      have B2337 : (0 : Int) ≤ v2314.toInt ∧ v2314.toInt ≤ 9 := q2338.2
      have q2336 : v2315.toInt = v2314.toInt := (by rw [hv2315]; exact c_i2l _)
      have B2335 : (0 : Int) ≤ v2315.toInt ∧ v2315.toInt ≤ 9 := (by rw [q2336]; exact B2337)
      have q2331 : v2316.toInt = v2312.toInt + v2315.toInt := k_laddx hv2316 B2332 B2335 (by decide) (by decide)
      have B2330 : (0 : Int) ≤ v2316.toInt ∧ v2316.toInt ≤ 9999 := k_addB q2331 B2332 B2335
      refine ⟨⟨fun hq2339 => ?_, fun hq2340 => ?_⟩, ?_⟩
      · rw [Int64.lt_iff_toInt_lt, show (0 : Int64).toInt = 0 from rfl] at hq2339; omega
      · rw [Int64.lt_iff_toInt_lt, show (9999 : Int64).toInt = 9999 from rfl] at hq2340; omega
      · exact Or.inl ⟨rfl, by omega⟩
   intro T2341 lo2341 ce2341 sl2341 v2342 v2343 v2344 X2341 e2341 N2341 hce2341 hsl2341 hP2345
   refine k_iload X2341 hx 378 (D at_376) rfl ?_
   refine k_if_eq X2341 hx 381 394 (D at_378) (fun hc2346 => ?_) (fun hc2346 => ?_)
   ·
    refine k_ldcL X2341 hx hZ hown 397 (k_w hw 11 rfl) (D at_394) ?_
    refine k_lstore X2341 hx 399 (D at_397) (Ls' := #[iv i0, iv i1, iv i2, jv i3, s_, rv b1, iv (1 : Int32), iv (4 : Int32), iv (5 : Int32), iv v1959, jv v2008, s_, jv v2011, s_, iv v2342, jv v2343, s_, jv (-1 : Int64), s_]) rfl ?_
    refine k_lload X2341 hx 401 (D at_399) rfl ?_
    refine k_lload X2341 hx 403 (D at_401) rfl ?_
    refine k_lcif_ne X2341 hx 407 411 404 (D at_403) (D at_404) (fun hc => absurd (Classical.byContradiction (fun hq2347 => by have B2348 : (0 : Int) ≤ v2008.toInt ∧ v2008.toInt ≤ 9223372036854775807 := ⟨kL_ge hP2009 (by decide), Int.le_of_lt_add_one (rng64 v2008).2⟩; have B2349 : (0 : Int) ≤ v2343.toInt ∧ v2343.toInt ≤ 9999 := ⟨kL_ge hP2345.1.1 (by decide), kL_le hP2345.1.2 (by decide)⟩; have B2350 : (-2147483648 : Int) ≤ v2342.toInt ∧ v2342.toInt ≤ 2147483647 := ⟨(rng32 v2342).1, Int.le_of_lt_add_one (rng32 v2342).2⟩; have B2351 : (0 : Int) ≤ (0 : Int32).toInt ∧ (0 : Int32).toInt ≤ 0 := (by decide); have q2352 := congrArg Int32.toInt hc2346; have B2353 : (-9223372036854775808 : Int) ≤ v2011.toInt ∧ v2011.toInt ≤ 9223372036854775807 := ⟨(rng64 v2011).1, Int.le_of_lt_add_one (rng64 v2011).2⟩; have B2354 : (-1 : Int) ≤ (-1 : Int64).toInt ∧ (-1 : Int64).toInt ≤ -1 := (by decide); have q2355 : ¬ v2011.toInt = (-1 : Int64).toInt := fun q => hq2347 (Int64.toInt_inj.mp q); omega)) hc) (fun _ => ?_)
    refine k_iconst X2341 hx 408 (D at_407) (z := (1 : Int32)) rfl ?_
    refine k_goto X2341 hx 412 (D at_408) ?_
    exact k_retN X2341 hx (t := .boolean) hret (by simp) (D at_412) hlk (by first | exact hce2341 | exact Nat.le_trans (Nat.le_refl _) hce2341) (by first | exact hsl2341 | exact Nat.le_trans (Nat.le_refl _) hsl2341) (z' := (1 : Int32)) rfl ⟨rfl, N2341⟩
   ·
    refine k_lload X2341 hx 383 (D at_381) rfl ?_
    refine k_lload X2341 hx 385 (D at_383) rfl ?_
    refine k_lcif_gt X2341 hx 389 394 386 (D at_385) (D at_386) (fun hc2356 => ?_) (fun hc2356 => ?_)
    ·
     refine k_ldcL X2341 hx hZ hown 397 (k_w hw 11 rfl) (D at_394) ?_
     refine k_lstore X2341 hx 399 (D at_397) (Ls' := #[iv i0, iv i1, iv i2, jv i3, s_, rv b1, iv (1 : Int32), iv (4 : Int32), iv (5 : Int32), iv v1959, jv v2008, s_, jv v2011, s_, iv v2342, jv v2343, s_, jv (-1 : Int64), s_]) rfl ?_
     refine k_lload X2341 hx 401 (D at_399) rfl ?_
     refine k_lload X2341 hx 403 (D at_401) rfl ?_
     refine k_lcif_ne X2341 hx 407 411 404 (D at_403) (D at_404) (fun hc => absurd (Classical.byContradiction (fun hq2357 => by have B2358 : (0 : Int) ≤ v2008.toInt ∧ v2008.toInt ≤ 9223372036854775807 := ⟨kL_ge hP2009 (by decide), Int.le_of_lt_add_one (rng64 v2008).2⟩; have B2359 : (0 : Int) ≤ v2343.toInt ∧ v2343.toInt ≤ 9999 := ⟨kL_ge hP2345.1.1 (by decide), kL_le hP2345.1.2 (by decide)⟩; have B2360 : (-2147483648 : Int) ≤ v2342.toInt ∧ v2342.toInt ≤ 2147483647 := ⟨(rng32 v2342).1, Int.le_of_lt_add_one (rng32 v2342).2⟩; have B2361 : (0 : Int) ≤ (0 : Int32).toInt ∧ (0 : Int32).toInt ≤ 0 := (by decide); have q2362 : ¬ v2342.toInt = (0 : Int32).toInt := fun q => hc2346 (Int32.toInt_inj.mp q); have q2363 := hc2356; rw [Int64.lt_iff_toInt_lt] at q2363; have B2364 : (-9223372036854775808 : Int) ≤ v2011.toInt ∧ v2011.toInt ≤ 9223372036854775807 := ⟨(rng64 v2011).1, Int.le_of_lt_add_one (rng64 v2011).2⟩; have B2365 : (-1 : Int) ≤ (-1 : Int64).toInt ∧ (-1 : Int64).toInt ≤ -1 := (by decide); have q2366 : ¬ v2011.toInt = (-1 : Int64).toInt := fun q => hq2357 (Int64.toInt_inj.mp q); omega)) hc) (fun _ => ?_)
     refine k_iconst X2341 hx 408 (D at_407) (z := (1 : Int32)) rfl ?_
     refine k_goto X2341 hx 412 (D at_408) ?_
     exact k_retN X2341 hx (t := .boolean) hret (by simp) (D at_412) hlk (by first | exact hce2341 | exact Nat.le_trans (Nat.le_refl _) hce2341) (by first | exact hsl2341 | exact Nat.le_trans (Nat.le_refl _) hsl2341) (z' := (1 : Int32)) rfl ⟨rfl, N2341⟩
    ·
     refine k_lload X2341 hx 391 (D at_389) rfl ?_
     refine k_goto X2341 hx 397 (D at_391) ?_
     refine k_lstore X2341 hx 399 (D at_397) (Ls' := #[iv i0, iv i1, iv i2, jv i3, s_, rv b1, iv (1 : Int32), iv (4 : Int32), iv (5 : Int32), iv v1959, jv v2008, s_, jv v2011, s_, iv v2342, jv v2343, s_, jv v2343, s_]) rfl ?_
     refine k_lload X2341 hx 401 (D at_399) rfl ?_
     refine k_lload X2341 hx 403 (D at_401) rfl ?_
     refine k_lcif_ne X2341 hx 407 411 404 (D at_403) (D at_404) (fun hc => absurd (Classical.byContradiction (fun hq2367 => by have B2368 : (0 : Int) ≤ v2008.toInt ∧ v2008.toInt ≤ 9223372036854775807 := ⟨kL_ge hP2009 (by decide), Int.le_of_lt_add_one (rng64 v2008).2⟩; have B2369 : (0 : Int) ≤ v2343.toInt ∧ v2343.toInt ≤ 9999 := ⟨kL_ge hP2345.1.1 (by decide), kL_le hP2345.1.2 (by decide)⟩; have B2370 : (-2147483648 : Int) ≤ v2342.toInt ∧ v2342.toInt ≤ 2147483647 := ⟨(rng32 v2342).1, Int.le_of_lt_add_one (rng32 v2342).2⟩; have B2371 : (0 : Int) ≤ (0 : Int32).toInt ∧ (0 : Int32).toInt ≤ 0 := (by decide); have q2372 : ¬ v2342.toInt = (0 : Int32).toInt := fun q => hc2346 (Int32.toInt_inj.mp q); have q2373 := hc2356; rw [Int64.lt_iff_toInt_lt] at q2373; have B2374 : (-9223372036854775808 : Int) ≤ v2011.toInt ∧ v2011.toInt ≤ 9223372036854775807 := ⟨(rng64 v2011).1, Int.le_of_lt_add_one (rng64 v2011).2⟩; have q2375 : ¬ v2011.toInt = v2343.toInt := fun q => hq2367 (Int64.toInt_inj.mp q); omega)) hc) (fun _ => ?_)
     refine k_iconst X2341 hx 408 (D at_407) (z := (1 : Int32)) rfl ?_
     refine k_goto X2341 hx 412 (D at_408) ?_
     exact k_retN X2341 hx (t := .boolean) hret (by simp) (D at_412) hlk (by first | exact hce2341 | exact Nat.le_trans (Nat.le_refl _) hce2341) (by first | exact hsl2341 | exact Nat.le_trans (Nat.le_refl _) hsl2341) (z' := (1 : Int32)) rfl ⟨rfl, N2341⟩
set_option maxRecDepth 65536 in
set_option maxHeartbeats 40000000 in
theorem comes_1 {Post : Tables → Env → Array Value → State → Outcome → State → Prop} (hpost : ∀ tb e args s v u, (limb_1_1.after args s (.returned v) u = true ∧ limb_1_2.after args s (.returned v) u = true ∧ True) → FrameEnd s (.returned v) u (Jvm.fieldLocs frame_1_writes args s ++ Jvm.arrayLocs frame_1_arrays args s ++ Jvm.staticLocs frame_1_statics s) 16 128 → Post tb e args s (.returned v) u) :
    ArmFor flags0 classFile x code maxLocals ret World_1 tables_1 room_1 Calls_1 rest_1 Pre_1 Post := by
  intro l hfl _ _ p e ha hc hk s m args below hf hA hF happ hP
  obtain ⟨hcalls, hrest, hpre⟩ := hP
  obtain ⟨-, -, -, hnamed, -, -, -, hat⟩ := (Spec.applies_iff hf).mp happ
  obtain ⟨hg, hn⟩ := and_e (Cond.before_iff.mp (show (Jvm.Cond.and given_1 narrow_1).before args s = true from hpre))
  obtain ⟨g2376, g2377⟩ := and_e hg
  obtain ⟨g2378, g2379⟩ := and_e g2377
  obtain ⟨g2380, g2381⟩ := and_e g2379
  obtain ⟨g2382, g2383⟩ := and_e g2381
  obtain ⟨w0, w1, w2, w3, rfl⟩ : ∃ w0 w1 w2 w3 : Value, args = #[w0, w1, w2, w3] := by
    have hs : args.size = 4 := by simpa [Cond.value, given_1] using g2376
    obtain ⟨L⟩ := args
    match L, hs with
    | [w0, w1, w2, w3], _ => exact ⟨w0, w1, w2, w3, rfl⟩
  have hw := fun d (hd : d ∈ tables_1) => atoms_spec (ws := Jvm.Cond.code x code maxLocals ret :: tables_1) hat d (List.mem_cons_of_mem _ hd)
  obtain ⟨i0, ei0⟩ := is_v g2378
  obtain rfl : w0 = (.int i0) := Option.some.inj ei0
  obtain ⟨i1, ei1⟩ := is_v g2380
  obtain rfl : w1 = (.int i1) := Option.some.inj ei1
  obtain ⟨i2, ei2⟩ := is_v g2382
  obtain rfl : w2 = (.int i2) := Option.some.inj ei2
  obtain ⟨i3, ei3⟩ := isL_v g2383
  obtain rfl : w3 = (.long i3) := Option.some.inj ei3
  obtain ⟨n, o, h1, h2, h3, _, L, rfl, ⟨rfl, N⟩, hq⟩ := rm0 l s _ hw tables_1 i0 i1 i2 i3 s.heap s.heap.size (Nat.le_refl _) p e ha hc hk s m _ below hf ((Spec.applies_iff_loose hf).mp happ).1 ⟨rfl, State.Warmed39.refl s, rfl⟩ trivial
  refine ⟨n, _, h1, h2, h3, hpost _ _ _ _ _ _ ⟨Cond.after_iff.mpr rfl, Cond.after_iff.mpr (eq_i res_at (Term.int_eval (1)) rfl), trivial⟩ ⟨hq.1, hq.2.1, (hq.2.2.sift fun y hy => Or.inr (N y hy)).mono (by decide) (by decide)⟩⟩
theorem main_1_1 : Claimed_1_1 := comes_1 fun _ _ _ _ _ _ h hF => ⟨h.1, hF⟩
theorem main_1_2 : Claimed_1_2 := comes_1 fun _ _ _ _ _ _ h hF => ⟨h.2.1, hF⟩
end Jvm.Pilot.@@N@@
namespace Jvm.Pilot.@@N@@
open Jvm Jvm.ClassFile Sem Op Lib Jvm.Free Jvm.Stand Jvm.Pilot.@@N@@.Jvm.D
/-! MADE BY PROGRAM (witnessworld.py) out of the Statement's table words and the real class files: 10 classes; the members and pool entries that the words name. The judged class is class 1, her method 1. -/
namespace start1
open Jvm.ClassFile
def u (s : String) : CpInfo := .utf8 (stringToUtf16 s)
/-- a pool by its gaps: so many unusable entries, then the entry; so many at the end -/
def gap : Nat → List CpInfo → List CpInfo
  | 0, r => r
  | n + 1, r => .unusable :: gap n r
def poolList (es : List (Nat × CpInfo)) (last : Nat) : List CpInfo := es.foldr (fun e r => gap e.1 (e.2 :: r)) (gap last [])
def pool (es : List (Nat × CpInfo)) (last : Nat) : Array CpInfo := ⟨poolList es last⟩
def fileOf (pool : Array CpInfo) (this : Nat) (attrs : Array Attribute := #[]) (ms : Array MethodInfo := #[]) (fl : Nat := 33) (sup : Nat := 0) (ifs : Array Nat := #[]) (fds : Array FieldInfo := #[]) : ClassFile where
  minorVersion := 0
  majorVersion := 65
  constantPool := pool
  accessFlags := fl
  thisClass := this
  superClass := sup
  interfaces := ifs
  fields := fds
  methods := ms
  attributes := attrs
def plain (name : String) (sup : Option ClassId) : Class where
  name := name
  kind := .ordinary
  loader := none
  accessFlags := 33
  super := sup
  interfaces := #[]
  cf := none
  fields := #[]
  methods := #[]
  instanceTypes := #[]
  staticTypes := #[]
  resolved := #[]
  callSites := []
  init := .initialized
  statics := none
  mirror := none

def pool0 : Array CpInfo := pool [(5, u "<init>"), (0, u "()V"), (1, .class_ 10), (1, u "java/lang/Object")] 113

def k0m0 : Method := { name := "<init>", desc := "()V", sig := { parameters := [], returnType := none }, accessFlags := 1, code := none }
/-- java/lang/Object -/
def k0 : Class := { plain "java/lang/Object" none with
  accessFlags := 33
  interfaces := #[]
  cf := some (fileOf pool0 8 #[] #[{ accessFlags := 1, nameIndex := 5, descriptorIndex := 6, attributes := #[] }] 33 0 #[] #[])
  fields := #[]
  methods := #[k0m0]
  instanceTypes := #[]
  staticTypes := #[]
  resolved := Array.replicate 124 none
  statics := none }

def pool1 : Array CpInfo := pool [(2, .class_ 4), (1, u "java/lang/Object"), (0, u "<init>"), (0, u "()V"), (0, .methodref 8 9), (0, .class_ 10), (0, .nameAndType 11 12), (0, u "com/example/knotcut/knotcut/core/InputFieldsWholeNumberPinLaw"), (0, u "pick"), (0, u "(IIII)B"), (2, .long 9223372036854775807), (1, .long 16383), (1, .long 127), (1, .long 15), (1, .methodref 24 25), (0, .class_ 26), (0, .nameAndType 27 28), (0, u "com/example/knotcut/knotcut/core/InputFields"), (0, u "wholeNumber"), (0, u "([BIIJ)J"), (0, .methodref 8 30), (0, .nameAndType 31 32), (0, u "digit"), (0, u "(B)I"), (0, .long 10), (1, .methodref 36 37), (0, .class_ 38), (0, .nameAndType 39 40), (0, u "java/lang/Math"), (0, u "max"), (0, u "(II)I"), (0, .long 18446744073709551615), (3, u "law"), (0, u "(IIIJ)Z")] 5

def k1m0 : Method := { name := "<init>", desc := "()V", sig := { parameters := [], returnType := none }, accessFlags := 2, code := none }
def k1c1 : Code := { maxStack := 6, maxLocals := 19, code := code, exceptionTable := #[], attributes := #[] }
def k1m1 : Method := { name := "law", desc := "(IIIJ)Z", sig := { parameters := [.int, .int, .int, .long], returnType := some .boolean }, accessFlags := 9, code := some k1c1 }
def k1c2 : Code := { maxStack := 4, maxLocals := 4, code := method_3_code, exceptionTable := #[], attributes := #[] }
def k1m2 : Method := { name := "pick", desc := "(IIII)B", sig := { parameters := [.int, .int, .int, .int], returnType := some .byte }, accessFlags := 10, code := some k1c2 }
def k1c3 : Code := { maxStack := 2, maxLocals := 2, code := method_4_code, exceptionTable := #[], attributes := #[] }
def k1m3 : Method := { name := "digit", desc := "(B)I", sig := { parameters := [.byte], returnType := some .int }, accessFlags := 10, code := some k1c3 }
/-- com/example/knotcut/knotcut/core/InputFieldsWholeNumberPinLaw -/
def k1 : Class := { plain "com/example/knotcut/knotcut/core/InputFieldsWholeNumberPinLaw" (some 0) with
  accessFlags := 49
  interfaces := #[]
  cf := some (fileOf pool1 8 #[] #[{ accessFlags := 2, nameIndex := 5, descriptorIndex := 6, attributes := #[] }, { accessFlags := 9, nameIndex := 45, descriptorIndex := 46, attributes := #[] }, { accessFlags := 10, nameIndex := 11, descriptorIndex := 12, attributes := #[] }, { accessFlags := 10, nameIndex := 31, descriptorIndex := 32, attributes := #[] }] 49 2 #[] #[])
  fields := #[]
  methods := #[k1m0, k1m1, k1m2, k1m3]
  instanceTypes := #[]
  staticTypes := #[]
  resolved := Array.replicate 52 none
  statics := none }

def pool2 : Array CpInfo := pool [(2, .class_ 4), (1, u "java/lang/Object"), (0, u "<init>"), (0, u "()V"), (44, .class_ 53), (1, u "com/example/knotcut/knotcut/core/InputFields"), (0, u "wholeNumber"), (0, u "([BIIJ)J"), (0, .long 18446744073709551615), (1, .long 10)] 26

def k2m0 : Method := { name := "<init>", desc := "()V", sig := { parameters := [], returnType := none }, accessFlags := 2, code := none }
def k2c1 : Code := { maxStack := 6, maxLocals := 10, code := prog_44_method_6_code, exceptionTable := #[], attributes := #[] }
def k2m1 : Method := { name := "wholeNumber", desc := "([BIIJ)J", sig := { parameters := [(.array .byte), .int, .int, .long], returnType := some .long }, accessFlags := 8, code := some k2c1 }
/-- com/example/knotcut/knotcut/core/InputFields -/
def k2 : Class := { plain "com/example/knotcut/knotcut/core/InputFields" (some 0) with
  accessFlags := 49
  interfaces := #[]
  cf := some (fileOf pool2 51 #[] #[{ accessFlags := 2, nameIndex := 5, descriptorIndex := 6, attributes := #[] }, { accessFlags := 8, nameIndex := 54, descriptorIndex := 55, attributes := #[] }] 49 2 #[] #[])
  fields := #[]
  methods := #[k2m0, k2m1]
  instanceTypes := #[]
  staticTypes := #[]
  resolved := Array.replicate 85 none
  statics := none }

def pool3 : Array CpInfo := pool [(1, .class_ 2), (0, u "java/lang/Math"), (1, .class_ 6), (1, u "java/lang/Object"), (0, u "<init>"), (0, u "()V"), (89, .class_ 100), (1, u "java/lang/Math$RandomNumberGeneratorHolder"), (71, u "negativeZeroFloatBits"), (0, u "J"), (2, u "negativeZeroDoubleBits"), (21, u "max"), (46, u "$assertionsDisabled"), (0, u "Z"), (88, u "(II)I"), (2, u "twoToTheDoubleScaleDown"), (0, u "D"), (4, u "twoToTheDoubleScaleUp"), (9, u "E"), (3, u "PI"), (2, u "TAU"), (2, u "DEGREES_TO_RADIANS"), (0, u "RADIANS_TO_DEGREES")] 94

def k3m0 : Method := { name := "<init>", desc := "()V", sig := { parameters := [], returnType := none }, accessFlags := 2, code := none }
def k3c1 : Code := { maxStack := 2, maxLocals := 2, code := jdk_29_method_65_code, exceptionTable := #[], attributes := #[] }
def k3m1 : Method := { name := "max", desc := "(II)I", sig := { parameters := [.int, .int], returnType := some .int }, accessFlags := 9, code := some k3c1 }
/-- java/lang/Math -/
def k3 : Class := { plain "java/lang/Math" (some 0) with
  accessFlags := 49
  interfaces := #[]
  cf := some (fileOf pool3 1 #[.nestMembers #[98]] #[{ accessFlags := 2, nameIndex := 7, descriptorIndex := 8, attributes := #[] }, { accessFlags := 9, nameIndex := 198, descriptorIndex := 335, attributes := #[] }] 49 4 #[] #[{ accessFlags := 25, nameIndex := 354, descriptorIndex := 339, attributes := #[] }, { accessFlags := 25, nameIndex := 358, descriptorIndex := 339, attributes := #[] }, { accessFlags := 25, nameIndex := 361, descriptorIndex := 339, attributes := #[] }, { accessFlags := 26, nameIndex := 364, descriptorIndex := 339, attributes := #[] }, { accessFlags := 26, nameIndex := 365, descriptorIndex := 339, attributes := #[] }, { accessFlags := 26, nameIndex := 172, descriptorIndex := 173, attributes := #[] }, { accessFlags := 26, nameIndex := 176, descriptorIndex := 173, attributes := #[] }, { accessFlags := 8, nameIndex := 344, descriptorIndex := 339, attributes := #[] }, { accessFlags := 8, nameIndex := 338, descriptorIndex := 339, attributes := #[] }, { accessFlags := 4120, nameIndex := 245, descriptorIndex := 246, attributes := #[] }])
  fields := #[{ name := "E", type := .double, accessFlags := 25, slot := 0, constantValue := 0 }, { name := "PI", type := .double, accessFlags := 25, slot := 1, constantValue := 0 }, { name := "TAU", type := .double, accessFlags := 25, slot := 2, constantValue := 0 }, { name := "DEGREES_TO_RADIANS", type := .double, accessFlags := 26, slot := 3, constantValue := 0 }, { name := "RADIANS_TO_DEGREES", type := .double, accessFlags := 26, slot := 4, constantValue := 0 }, { name := "negativeZeroFloatBits", type := .long, accessFlags := 26, slot := 5, constantValue := 0 }, { name := "negativeZeroDoubleBits", type := .long, accessFlags := 26, slot := 6, constantValue := 0 }, { name := "twoToTheDoubleScaleUp", type := .double, accessFlags := 8, slot := 7, constantValue := 0 }, { name := "twoToTheDoubleScaleDown", type := .double, accessFlags := 8, slot := 8, constantValue := 0 }, { name := "$assertionsDisabled", type := .boolean, accessFlags := 4120, slot := 9, constantValue := 0 }]
  methods := #[k3m0, k3m1]
  instanceTypes := #[]
  staticTypes := #[.double, .double, .double, .double, .double, .long, .long, .double, .double, .boolean]
  resolved := Array.replicate 460 none
  statics := none }

def pool4 : Array CpInfo := pool [(1, u "java/lang/Cloneable"), (0, .class_ 1), (0, u "java/lang/Object"), (0, .class_ 3)] 3

/-- java/lang/Cloneable -/
def k4 : Class := { plain "java/lang/Cloneable" (some 0) with
  accessFlags := 1537
  interfaces := #[]
  cf := some (fileOf pool4 2 #[] #[] 1537 4 #[] #[])
  fields := #[]
  methods := #[]
  instanceTypes := #[]
  staticTypes := #[]
  resolved := Array.replicate 8 none
  statics := none }

def pool5 : Array CpInfo := pool [(1, u "java/io/Serializable"), (0, .class_ 1), (0, u "java/lang/Object"), (0, .class_ 3)] 3

/-- java/io/Serializable -/
def k5 : Class := { plain "java/io/Serializable" (some 0) with
  accessFlags := 1537
  interfaces := #[]
  cf := some (fileOf pool5 2 #[] #[] 1537 4 #[] #[])
  fields := #[]
  methods := #[]
  instanceTypes := #[]
  staticTypes := #[]
  resolved := Array.replicate 8 none
  statics := none }

/-- the primitive byte -/
def k6 : Class := { plain "byte" none with kind := .primitive 'B', accessFlags := 0x411 }
/-- [B -/
def k7 : Class := { plain "[B" (some 0) with kind := .array 6 .byte, interfaces := #[4, 5], accessFlags := 1041 }

/-- the primitive int -/
def k8 : Class := { plain "int" none with kind := .primitive 'I', accessFlags := 0x411 }
/-- [I -/
def k9 : Class := { plain "[I" (some 0) with kind := .array 8 .int, interfaces := #[4, 5], accessFlags := 1041 }

def heap : Heap := #[]
def classes : Array Class := #[k0, k1, k2, k3, k4, k5, k6, k7, k8, k9]
def interned : List (Array UInt16 × Addr) := []
def slotsUsed : Nat := 0
def theMethod : MethodId := ⟨1, 1⟩
def args0 : Array Value := #[.int 5, .int 7, .int 1, .long 3]
def aboutOver (below : List Frame) : State where
  vm := { classes := classes, interned := interned.toArray }
  heap := heap
  slotsUsed := slotsUsed
  threads := #[{ frames := .invoking theMethod args0 :: below }]
def below0 : List Frame := [.native { method := ⟨0, 0⟩, args := #[] }]
def about1 : State := aboutOver below0
def p0 : Program := .bare "" "" ""
def e0 : Env := launch0.env 0 0 0
theorem w_frames : about1.frames = Frame.invoking theMethod args0 :: below0 := rfl
set_option maxRecDepth 65536 in
theorem w_args : argsFit about1.vm theMethod args0 = true := by decide +kernel
set_option maxRecDepth 65536 in
theorem w_heap : heapFits about1 = true := by decide +kernel
set_option maxRecDepth 65536 in
theorem w_runnable : about1.curStatus? = some .runnable := by decide +kernel
set_option maxRecDepth 65536 in
theorem w_alone : about1.alone = true := by decide +kernel
set_option maxRecDepth 65536 in
theorem w_named : about1.methodNamed? x = some theMethod := by decide +kernel
set_option maxRecDepth 65536 in
theorem w_hears : about1.hears theMethod below0 = true := by decide +kernel
set_option maxRecDepth 65536 in
theorem w_ripe : about1.ripe theMethod args0 below0 = true := by decide +kernel
theorem w_running : about1.status = .running := rfl
set_option maxRecDepth 65536 in
theorem w_room : about1.hasRoom e0.platform room_1 = true :=
  launch0.hasRoom_least _ room_1 (by decide +kernel) (by decide +kernel) (by decide +kernel) (by decide +kernel) (by decide +kernel) (by decide +kernel)
theorem allAtoms_all (ts : List Jvm.Cond) (a : Array Jvm.Value) (st : Jvm.State) : (allAtoms ts).before a st = ts.all (fun c => c.before a st) := by
  induction ts with
  | nil => rfl
  | cons c t ih =>
    show (Jvm.Cond.and c (allAtoms t)).before a st = _
    rw [Jvm.Cond.before_and, ih, List.all_cons]
def words1 : List Jvm.Cond := Jvm.Cond.code x code maxLocals ret :: tables_1
/-- a 'code' word, met by the world's own term for the bytes: nothing is compared byte by byte -/
theorem code_word {y : MethodName} {bytes : ByteArray} {mx : Nat} {rt : Option FieldType} {a : Array Value} {s : State} {m : MethodId} {meth : Method} {c : Code} (h1 : s.methodNamed? y = some m) (h2 : s.vm.method? m = some meth) (h3 : meth.code = some c) (h4 : c.code = bytes)
    (h5 : (c.maxLocals == mx && c.exceptionTable.isEmpty && decide (c.maxStack ≤ mostOperands) && decide (meth.sig.returnType = rt) && !meth.locks && decide (parseMethodDescriptor y.desc = some meth.sig)) = true) : (Jvm.Cond.code y bytes mx rt).before a s = true := by
  simp only [Bool.and_eq_true, beq_iff_eq, Bool.not_eq_true', decide_eq_true_eq] at h5
  obtain ⟨⟨⟨⟨⟨g1, g2⟩, g3⟩, g4⟩, g5⟩, g6⟩ := h5
  simp [Cond.before, Cond.holds, Cond.value, h1, h2, h3, h4, g1, g2, g3, g4, g5, g6]
def isCode : Jvm.Cond → Bool
  | .code _ _ _ _ => true
  | _ => false
theorem all_split {L : List Jvm.Cond} {P : Jvm.Cond → Bool} (h1 : L.all (fun c => isCode c || P c) = true) (h2 : ∀ c ∈ L.filter isCode, P c = true) : L.all P = true := by
  refine List.all_eq_true.mpr fun c hc => ?_
  have h := List.all_eq_true.mp h1 c hc
  rcases Bool.eq_false_or_eq_true (isCode c) with hi | hi
  · exact h2 c (List.mem_filter.mpr ⟨hc, hi⟩)
  · simpa [hi] using h
set_option maxRecDepth 65536 in
theorem w_c0 : (Jvm.Cond.code x code maxLocals ret).before args0 about1 = true := code_word (m := ⟨1, 1⟩) (meth := k1m1) (c := k1c1) (by decide +kernel) rfl rfl rfl (by decide +kernel)
set_option maxRecDepth 65536 in
theorem w_c1 : (Jvm.Cond.code ({ cls := "com/example/knotcut/knotcut/core/InputFieldsWholeNumberPinLaw", name := "pick", desc := "(IIII)B" } : Jvm.MethodName) method_3_code (4 : Nat) (Option.some Jvm.ClassFile.FieldType.byte)).before args0 about1 = true := code_word (m := ⟨1, 2⟩) (meth := k1m2) (c := k1c2) (by decide +kernel) rfl rfl rfl (by decide +kernel)
set_option maxRecDepth 65536 in
theorem w_c2 : (Jvm.Cond.code ({ cls := "com/example/knotcut/knotcut/core/InputFields", name := "wholeNumber", desc := "([BIIJ)J" } : Jvm.MethodName) prog_44_method_6_code (10 : Nat) (Option.some Jvm.ClassFile.FieldType.long)).before args0 about1 = true := code_word (m := ⟨2, 1⟩) (meth := k2m1) (c := k2c1) (by decide +kernel) rfl rfl rfl (by decide +kernel)
set_option maxRecDepth 65536 in
theorem w_c3 : (Jvm.Cond.code ({ cls := "com/example/knotcut/knotcut/core/InputFieldsWholeNumberPinLaw", name := "digit", desc := "(B)I" } : Jvm.MethodName) method_4_code (2 : Nat) (Option.some Jvm.ClassFile.FieldType.int)).before args0 about1 = true := code_word (m := ⟨1, 3⟩) (meth := k1m3) (c := k1c3) (by decide +kernel) rfl rfl rfl (by decide +kernel)
set_option maxRecDepth 65536 in
theorem w_c4 : (Jvm.Cond.code ({ cls := "java/lang/Math", name := "max", desc := "(II)I" } : Jvm.MethodName) jdk_29_method_65_code (2 : Nat) (Option.some Jvm.ClassFile.FieldType.int)).before args0 about1 = true := code_word (m := ⟨3, 1⟩) (meth := k3m1) (c := k3c1) (by decide +kernel) rfl rfl rfl (by decide +kernel)
def codes1 : List Jvm.Cond := [Jvm.Cond.code x code maxLocals ret, Jvm.Cond.code ({ cls := "com/example/knotcut/knotcut/core/InputFieldsWholeNumberPinLaw", name := "pick", desc := "(IIII)B" } : Jvm.MethodName) method_3_code (4 : Nat) (Option.some Jvm.ClassFile.FieldType.byte), Jvm.Cond.code ({ cls := "com/example/knotcut/knotcut/core/InputFields", name := "wholeNumber", desc := "([BIIJ)J" } : Jvm.MethodName) prog_44_method_6_code (10 : Nat) (Option.some Jvm.ClassFile.FieldType.long), Jvm.Cond.code ({ cls := "com/example/knotcut/knotcut/core/InputFieldsWholeNumberPinLaw", name := "digit", desc := "(B)I" } : Jvm.MethodName) method_4_code (2 : Nat) (Option.some Jvm.ClassFile.FieldType.int), Jvm.Cond.code ({ cls := "java/lang/Math", name := "max", desc := "(II)I" } : Jvm.MethodName) jdk_29_method_65_code (2 : Nat) (Option.some Jvm.ClassFile.FieldType.int)]
set_option maxRecDepth 65536 in
theorem codes_eq : words1.filter isCode = codes1 := rfl
theorem w_codes : ∀ c ∈ words1.filter isCode, c.before args0 about1 = true := by
  rw [codes_eq]
  intro c hc
  simp only [codes1, List.mem_cons, List.not_mem_nil, or_false] at hc
  rcases hc with rfl | rfl | rfl | rfl | rfl
  · exact w_c0
  · exact w_c1
  · exact w_c2
  · exact w_c3
  · exact w_c4
set_option maxRecDepth 65536 in
theorem w_t1 : (words1.take 24).all (fun c => isCode c || c.before args0 about1) = true := by decide +kernel
set_option maxRecDepth 65536 in
theorem w_t2 : (words1.drop 24).all (fun c => isCode c || c.before args0 about1) = true := by decide +kernel
theorem w_tables : (allAtoms (Jvm.Cond.code x code maxLocals ret :: tables_1)).before args0 about1 = true := by
  rw [allAtoms_all]
  show words1.all (fun c => c.before args0 about1) = true
  refine all_split ?_ w_codes
  rw [← List.take_append_drop 24 words1, List.all_append, w_t1, w_t2]
  rfl
set_option maxRecDepth 65536 in
theorem w_case : (Jvm.Cond.and given_1 narrow_1).before args0 about1 = true := by decide +kernel
theorem w_applies : (headSpec (Jvm.Cond.code x code maxLocals ret :: tables_1) room_1).applies x e0.platform about1 = true :=
  (Spec.applies_iff w_frames).mpr ⟨w_running, w_runnable, w_alone, w_named, w_hears, w_ripe, w_room, w_tables⟩
theorem atStart : AtStart classFile x code maxLocals ret World_1 tables_1 room_1 Calls_1 rest_1 Pre_1 launch0 p0 e0 about1 theMethod args0 below0 :=
  ⟨lists_1, trivial, launch0.admits_env _ _ _, launch0.least_env, fairChoices_fair.cas, fairChoices_fair.clock, w_frames, w_args, w_heap, w_applies, trivial, trivial, w_case⟩
end start1
theorem witness_1 : WitnessClaimed_1 := ⟨start1.p0, start1.e0, start1.about1, start1.theMethod, start1.args0, start1.below0, start1.atStart⟩
end Jvm.Pilot.@@N@@
